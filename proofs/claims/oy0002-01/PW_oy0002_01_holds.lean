import PyProof.Rows.All
import Wide.All
import OpenK.AllK
import Wide.FinOn
import PySem.Challenge.RW_oy0002_01
set_option Elab.async false

section
open PySem PySem.W PyProof.Rows
namespace Mine
set_option maxRecDepth 100000 in
set_option maxHeartbeats 8000000 in
open_top hd for PySem.Challenge.rw_oy0002_01
end Mine
end

section
namespace Mine

abbrev Txt := List Nat
abbrev Wd := List Nat × Option (List Nat)

def sp (c : Nat) : Bool := PySem.Unicode.isSpace c
def tokC (c : Nat) : Bool := !(c == 61 || sp c || c == 59 || c == 44)
def valC (c : Nat) : Bool := !(sp c || c == 59 || c == 44)
def junkC (c : Nat) : Bool := c == 61 || sp c || c == 59

theorem sp_32 : sp 32 = true := by decide +kernel
theorem sp_10 : sp 10 = true := by decide +kernel
theorem sp_9 : sp 9 = true := by decide +kernel
theorem sp_61 : sp 61 = false := by decide +kernel
theorem sp_59 : sp 59 = false := by decide +kernel
theorem sp_44 : sp 44 = false := by decide +kernel
theorem sp_34 : sp 34 = false := by decide +kernel
theorem sp_92 : sp 92 = false := by decide +kernel
theorem sp_97 : sp 97 = false := by decide +kernel
theorem sp_98 : sp 98 = false := by decide +kernel

/-- behind white signs, an '=', and white signs again -/
def eqRe (t : Txt) : Option Txt :=
  match t.dropWhile sp with
  | 61 :: u => some (u.dropWhile sp)
  | _ => none

def qscan : Txt → Option (Txt × Txt)
  | [] => none
  | c :: r =>
    if c = 34 then some ([], r)
    else if c = 92 then
      match r with
      | [] => none
      | d :: r' => if d = 10 then none else (qscan r').map fun x => (92 :: d :: x.1, x.2)
    else (qscan r).map fun x => (c :: x.1, x.2)

def qRe (t : Txt) : Option (Txt × Txt) :=
  match eqRe t with
  | some (34 :: u) => qscan u
  | _ => none

def vRe (t : Txt) : Option (Txt × Txt) :=
  match eqRe t with
  | some u => some (u.takeWhile valC, u.dropWhile valC)
  | none => none

def unesc : Txt → Txt
  | [] => []
  | [c] => [c]
  | c :: d :: r => if c = 92 ∧ d ≠ 10 then d :: unesc r else c :: unesc (d :: r)

def tokRe (t : Txt) : Option (Txt × Txt) :=
  if (t.dropWhile sp).takeWhile tokC = [] then none
  else some ((t.dropWhile sp).takeWhile tokC, (t.dropWhile sp).dropWhile tokC)

inductive Stp where
  | word (w : Wd) (r : Txt)
  | comma (r : Txt)
  | junk (r : Txt)

def stpWord (k t : Txt) : Stp :=
  match qRe t with
  | some (v, t2) => .word (k, some (unesc v)) t2
  | none =>
    match vRe t with
    | some (v, t2) => .word (k, some v) t2
    | none => .word (k, none) t

def stp (t : Txt) : Stp :=
  match tokRe t with
  | some (k, t1) => stpWord k t1
  | none =>
    match t.dropWhile sp with
    | 44 :: u => .comma u
    | _ => .junk (t.dropWhile junkC)

def evs : Nat → Txt → List (Option Wd)
  | 0, _ => []
  | _ + 1, [] => []
  | n + 1, c :: t =>
    match stp (c :: t) with
    | .word w r => some w :: evs n r
    | .comma r => none :: evs n r
    | .junk r => evs n r

def ev (t : Txt) : List (Option Wd) := evs t.length t

def grp : List (Option Wd) → List Wd × List (List Wd)
  | [] => ([], [])
  | some w :: es => (w :: (grp es).1, (grp es).2)
  | none :: es => ([], (grp es).1 :: (grp es).2)

def ne (r : List Wd) : Bool := !r.isEmpty
def rows (l : List (List Wd)) : List (List Wd) := l.filter ne

/-- what the reader makes of the text t when the pairs p stand already -/
def fin (p : List Wd) (t : Txt) : List (List Wd) := rows ((p ++ (grp (ev t)).1) :: (grp (ev t)).2)
def parse (t : Txt) : List (List Wd) := fin [] t

/-! ### cutting -/
theorem span_eq {p : Nat → Bool} (t : Txt) : t = t.takeWhile p ++ t.dropWhile p := (List.takeWhile_append_dropWhile).symm
theorem tw_all {p : Nat → Bool} : ∀ (t : Txt), ∀ c ∈ t.takeWhile p, p c = true := by
  intro t
  induction t with
  | nil => intro c hc; cases hc
  | cons a t ih =>
    intro c hc
    rw [List.takeWhile_cons] at hc
    split at hc
    · rcases List.mem_cons.mp hc with rfl | hc
      · assumption
      · exact ih c hc
    · cases hc
theorem dw_head {p : Nat → Bool} : ∀ (t : Txt) {c : Nat} {r : Txt}, t.dropWhile p = c :: r → p c = false := by
  intro t
  induction t with
  | nil => intro c r h; cases h
  | cons a t ih =>
    intro c r h
    rw [List.dropWhile_cons] at h
    split at h
    · exact ih h
    · injection h with h1 h2; subst h1; simp_all
theorem tw_nil {p : Nat → Bool} {t : Txt} (h : t.takeWhile p = []) : t = [] ∨ ∃ c r, t = c :: r ∧ p c = false := by
  cases t with
  | nil => exact .inl rfl
  | cons a t =>
    refine .inr ⟨a, t, rfl, ?_⟩
    rw [List.takeWhile_cons] at h
    split at h
    · cases h
    · simp_all
theorem dw_cons_neg {p : Nat → Bool} {c : Nat} {t : Txt} (h : p c = false) : (c :: t).dropWhile p = c :: t := by
  rw [List.dropWhile_cons]; simp [h]
theorem dw_cons_pos {p : Nat → Bool} {c : Nat} {t : Txt} (h : p c = true) : (c :: t).dropWhile p = t.dropWhile p := by
  rw [List.dropWhile_cons]; simp [h]
theorem dw_app {p : Nat → Bool} : ∀ {a : Txt} (b : Txt), (∀ c ∈ a, p c = true) → (a ++ b).dropWhile p = b.dropWhile p := by
  intro a
  induction a with
  | nil => intros; rfl
  | cons x a ih =>
    intro b h
    rw [List.cons_append, dw_cons_pos (h x (List.mem_cons_self ..))]
    exact ih b fun c hc => h c (List.mem_cons_of_mem _ hc)
theorem tw_app {p : Nat → Bool} : ∀ {a : Txt} (b : Txt), (∀ c ∈ a, p c = true) → (a ++ b).takeWhile p = a ++ b.takeWhile p := by
  intro a
  induction a with
  | nil => intros; rfl
  | cons x a ih =>
    intro b h
    rw [List.cons_append, List.takeWhile_cons, if_pos (h x (List.mem_cons_self ..)), ih b fun c hc => h c (List.mem_cons_of_mem _ hc), List.cons_append]

/-! ### what a step takes away -/
inductive QB : Txt → Prop
  | nil : QB []
  | esc {c : Nat} {q : Txt} : c ≠ 10 → QB q → QB (92 :: c :: q)
  | ch {c : Nat} {q : Txt} : c ≠ 34 → c ≠ 92 → QB q → QB (c :: q)

theorem qscan_eq : ∀ (n : Nat) (t : Txt), t.length ≤ n → ∀ q r, qscan t = some (q, r) → t = q ++ 34 :: r ∧ QB q := by
  intro n
  induction n with
  | zero =>
    intro t ht q r h
    have : t = [] := List.eq_nil_of_length_eq_zero (by lia)
    subst this
    simp [qscan] at h
  | succ n ih =>
    intro t ht q r h
    cases t with
    | nil => simp [qscan] at h
    | cons c t =>
      rw [qscan.eq_def] at h
      dsimp only at h
      split at h
      · rename_i hc
        cases h
        subst hc
        exact ⟨rfl, .nil⟩
      · rename_i hc
        split at h
        · rename_i hc2
          subst hc2
          cases t with
          | nil => simp at h
          | cons d t =>
            dsimp only at h
            split at h
            · cases h
            · rename_i hd
              rw [Option.map_eq_some_iff] at h
              obtain ⟨⟨q', r'⟩, h1, h2⟩ := h
              cases h2
              have := ih t (by simp at ht; lia) q' r' h1
              exact ⟨by rw [this.1]; rfl, .esc hd this.2⟩
        · rename_i hc2
          rw [Option.map_eq_some_iff] at h
          obtain ⟨⟨q', r'⟩, h1, h2⟩ := h
          cases h2
          have := ih t (by simp at ht; lia) q' r' h1
          exact ⟨by rw [this.1]; rfl, .ch hc hc2 this.2⟩

theorem eqRe_some {t u : Txt} (h : eqRe t = some u) : ∃ a b, t = a ++ 61 :: (b ++ u) ∧ (∀ c r, u = c :: r → sp c = false) := by
  unfold eqRe at h
  split at h
  · rename_i v hv
    cases h
    refine ⟨t.takeWhile sp, v.takeWhile sp, ?_, ?_⟩
    · rw [← span_eq v, ← hv]; exact span_eq t
    · intro c r hc; exact dw_head v hc
  · cases h
theorem eqRe_none {t : Txt} (h : eqRe t = none) : ∀ r, t ≠ 61 :: r := by
  intro r hr
  subst hr
  unfold eqRe at h
  rw [dw_cons_neg sp_61] at h
  simp at h

theorem tokRe_some {t k r : Txt} (h : tokRe t = some (k, r)) : ∃ a, t = a ++ (k ++ r) ∧ (∀ c ∈ a, sp c = true) ∧ k ≠ [] ∧ (∀ c ∈ k, tokC c = true) ∧ (∀ c r', r = c :: r' → tokC c = false) := by
  unfold tokRe at h
  split at h
  · cases h
  · rename_i hk
    cases h
    refine ⟨t.takeWhile sp, ?_, tw_all t, hk, tw_all _, fun c r' hc => dw_head _ hc⟩
    rw [← span_eq (t.dropWhile sp)]; exact span_eq t
theorem tokRe_none {t : Txt} (h : tokRe t = none) : t.dropWhile sp = [] ∨ ∃ c r, t.dropWhile sp = c :: r ∧ tokC c = false := by
  unfold tokRe at h
  split at h
  · exact tw_nil (by assumption)
  · cases h

/-- the ends behind a word -/
def sep1 (r : Txt) : Prop := r = [] ∨ ∃ c r', r = c :: r' ∧ (sp c = true ∨ c = 59 ∨ c = 44)
def sep2 (r : Txt) : Prop := r = [] ∨ ∃ c r', r = c :: r' ∧ (c = 59 ∨ c = 44)

inductive Val : Option Txt → Txt → Txt → Prop
  | no {r : Txt} : sep1 r → Val none [] r
  | bare {v a b r : Txt} : (∀ c ∈ v, valC c = true) → sep1 r → (v = [] → sep2 r) → Val (some v) (a ++ 61 :: (b ++ v)) r
  | quot {q a b r : Txt} : QB q → Val (some (unesc q)) (a ++ 61 :: (b ++ 34 :: (q ++ [34]))) r

theorem valC_false {c : Nat} (h : valC c = false) : sp c = true ∨ c = 59 ∨ c = 44 := by
  cases hs : sp c with
  | true => exact .inl rfl
  | false =>
    by_cases h1 : c = 59
    · exact .inr (.inl h1)
    · by_cases h2 : c = 44
      · exact .inr (.inr h2)
      · simp [valC, hs, h1, h2] at h
theorem tokC_false {c : Nat} (h : tokC c = false) : c = 61 ∨ sp c = true ∨ c = 59 ∨ c = 44 := by
  by_cases h0 : c = 61
  · exact .inl h0
  · cases hs : sp c with
    | true => exact .inr (.inl rfl)
    | false =>
      by_cases h1 : c = 59
      · exact .inr (.inr (.inl h1))
      · by_cases h2 : c = 44
        · exact .inr (.inr (.inr h2))
        · simp [tokC, hs, h0, h1, h2] at h

theorem stpWord_word {k t : Txt} (ht : ∀ c r', t = c :: r' → tokC c = false) : ∃ o vp r, stpWord k t = .word (k, o) r ∧ t = vp ++ r ∧ Val o vp r := by
  unfold stpWord
  cases hq : qRe t with
  | some x =>
    obtain ⟨v, t2⟩ := x
    unfold qRe at hq
    split at hq
    · rename_i u hu
      obtain ⟨a, b, e1, _⟩ := eqRe_some hu
      obtain ⟨e2, e3⟩ := qscan_eq _ u (Nat.le_refl _) v t2 hq
      refine ⟨some (unesc v), a ++ 61 :: (b ++ 34 :: (v ++ [34])), t2, rfl, ?_, .quot e3⟩
      rw [e1, e2]
      simp
    · cases hq
  | none =>
    dsimp only
    cases hv : vRe t with
    | some x =>
      obtain ⟨v, t2⟩ := x
      unfold vRe at hv
      split at hv
      · rename_i u hu
        cases hv
        obtain ⟨a, b, e1, e2⟩ := eqRe_some hu
        refine ⟨some (u.takeWhile valC), a ++ 61 :: (b ++ u.takeWhile valC), u.dropWhile valC, rfl, ?_, .bare (tw_all u) ?_ ?_⟩
        · rw [e1]
          conv => lhs; rw [span_eq (p := valC) u]
          simp
        · cases hd : u.dropWhile valC with
          | nil => exact .inl rfl
          | cons c r => exact .inr ⟨c, r, rfl, valC_false (dw_head u hd)⟩
        · intro hn
          rcases tw_nil hn with rfl | ⟨c, r, rfl, hc⟩
          · exact .inl rfl
          · rw [dw_cons_neg hc]
            refine .inr ⟨c, r, rfl, ?_⟩
            rcases valC_false hc with h | h
            · rw [e2 c r rfl] at h; cases h
            · exact h
      · cases hv
    | none =>
      refine ⟨none, [], t, rfl, rfl, .no ?_⟩
      have he : eqRe t = none := by
        unfold vRe at hv
        split at hv
        · cases hv
        · assumption
      cases t with
      | nil => exact .inl rfl
      | cons c r =>
        refine .inr ⟨c, r, rfl, ?_⟩
        rcases tokC_false (ht c r rfl) with h | h
        · subst h; exact absurd rfl (eqRe_none he r)
        · exact h

inductive Took (t : Txt) : Stp → Prop
  | word {a k vp r : Txt} {o : Option Txt} : t = a ++ (k ++ (vp ++ r)) → (∀ c ∈ a, sp c = true) → k ≠ [] → (∀ c ∈ k, tokC c = true) → Val o vp r → Took t (.word (k, o) r)
  | comma {a r : Txt} : t = a ++ 44 :: r → (∀ c ∈ a, sp c = true) → Took t (.comma r)
  | junk {a r : Txt} : t = a ++ r → a ≠ [] → (∀ c ∈ a, junkC c = true) → (∀ c r', r = c :: r' → junkC c = false) → Took t (.junk r)

theorem took {t : Txt} (ht : t ≠ []) : Took t (stp t) := by
  unfold stp
  cases hk : tokRe t with
  | some x =>
    obtain ⟨k, t1⟩ := x
    obtain ⟨a, e1, e2, e3, e4, e5⟩ := tokRe_some hk
    obtain ⟨o, vp, r, h1, h2, h3⟩ := stpWord_word (k := k) e5
    dsimp only
    rw [h1]
    exact .word (by rw [e1, h2]) e2 e3 e4 h3
  | none =>
    dsimp only
    split
    · rename_i u hu
      exact .comma (by rw [← hu]; exact span_eq t) (tw_all t)
    · rename_i hx
      refine .junk (span_eq t) ?_ (tw_all t) (fun c r' hc => dw_head _ hc)
      intro hn
      rcases tw_nil hn with rfl | ⟨c, r, rfl, hc⟩
      · exact ht rfl
      · have hs : sp c = false := by
          cases h : sp c with
          | false => rfl
          | true => simp [junkC, h] at hc
        rcases tokRe_none hk with h | ⟨c', r', h1, h2⟩
        · rw [dw_cons_neg hs] at h; cases h
        · rw [dw_cons_neg hs] at h1 hx
          cases h1
          rcases tokC_false h2 with h | h | h | h
          · subst h; simp [junkC] at hc
          · rw [hs] at h; cases h
          · subst h; simp [junkC] at hc
          · subst h; exact hx _ rfl

def Stp.rest : Stp → Txt
  | .word _ r => r
  | .comma r => r
  | .junk r => r
theorem stp_lt {t : Txt} (ht : t ≠ []) : (stp t).rest.length < t.length := by
  have h := took ht
  generalize stp t = x at h
  cases h with
  | @word a k vp r o e _ hk _ _ =>
    have : k.length ≠ 0 := fun h => hk (List.eq_nil_of_length_eq_zero h)
    subst e
    simp [Stp.rest]; lia
  | comma e _ => subst e; simp [Stp.rest]; lia
  | @junk a r e ha _ _ =>
    have : a.length ≠ 0 := fun h => ha (List.eq_nil_of_length_eq_zero h)
    subst e
    simp [Stp.rest]; lia

theorem evs_fuel : ∀ (n m : Nat) (t : Txt), t.length ≤ n → t.length ≤ m → evs n t = evs m t := by
  intro n
  induction n with
  | zero =>
    intro m t h _
    have : t = [] := List.eq_nil_of_length_eq_zero (by lia)
    subst this
    cases m <;> rfl
  | succ n ih =>
    intro m t h1 h2
    cases t with
    | nil => cases m <;> rfl
    | cons c t =>
      cases m with
      | zero => simp at h2
      | succ m =>
        have hl := stp_lt (t := c :: t) (by simp)
        simp only [evs]
        cases hs : stp (c :: t) with
        | word w r => rw [hs] at hl; simp [Stp.rest] at hl h1 h2; simp only; rw [ih m r (by lia) (by lia)]
        | comma r => rw [hs] at hl; simp [Stp.rest] at hl h1 h2; simp only; rw [ih m r (by lia) (by lia)]
        | junk r => rw [hs] at hl; simp [Stp.rest] at hl h1 h2; simp only; rw [ih m r (by lia) (by lia)]

theorem ev_nil : ev [] = [] := rfl
theorem ev_cons {t : Txt} (ht : t ≠ []) : ev t = match stp t with | .word w r => some w :: ev r | .comma r => none :: ev r | .junk r => ev r := by
  cases t with
  | nil => exact absurd rfl ht
  | cons c t =>
    have hl := stp_lt ht
    show evs (t.length + 1) (c :: t) = _
    simp only [evs]
    cases hs : stp (c :: t) with
    | word w r => rw [hs] at hl; simp [Stp.rest] at hl; simp only [ev]; rw [evs_fuel t.length r.length r (by lia) (by lia)]
    | comma r => rw [hs] at hl; simp [Stp.rest] at hl; simp only [ev]; rw [evs_fuel t.length r.length r (by lia) (by lia)]
    | junk r => rw [hs] at hl; simp [Stp.rest] at hl; simp only [ev]; rw [evs_fuel t.length r.length r (by lia) (by lia)]

theorem fin_nil (p : List Wd) : fin p [] = rows [p] := by simp [fin, ev_nil, grp]
theorem fin_word {p : List Wd} {t r : Txt} {w : Wd} (ht : t ≠ []) (h : stp t = .word w r) : fin p t = fin (p ++ [w]) r := by
  simp only [fin, ev_cons ht, h, grp, List.append_assoc, List.singleton_append]
theorem fin_comma {p : List Wd} {t r : Txt} (ht : t ≠ []) (h : stp t = .comma r) : fin p t = rows [p] ++ fin [] r := by
  simp only [fin, ev_cons ht, h, grp, List.append_nil, List.nil_append, rows]
  rw [← List.filter_append]; rfl
theorem fin_junk {p : List Wd} {t r : Txt} (ht : t ≠ []) (h : stp t = .junk r) : fin p t = fin p r := by
  simp only [fin, ev_cons ht, h]
end Mine
end

section
namespace Mine

def plainV (v : Txt) : Bool := v.all fun c => !(c == 32 || c == 10 || c == 59 || c == 44)
def escV : Txt → Txt
  | [] => []
  | c :: r => if c = 34 ∨ c = 92 then 92 :: c :: escV r else c :: escV r
def encV : Option Txt → Txt
  | none => []
  | some v => if plainV v then 61 :: v else 61 :: 34 :: (escV v ++ [34])
def gapOf (g : Nat) : Option Txt → Txt
  | none => [g]
  | some v => if plainV v then (if v = [] then [59] else [g]) else []

/-- a row with every gap the sign g, behind the gap gap -/
def rowT (g : Nat) (gap : Txt) : List Wd → Txt
  | [] => []
  | w :: ws => gap ++ (w.1 ++ (encV w.2 ++ rowT g (gapOf g w.2) ws))
def restT (g : Nat) : List (List Wd) → Txt
  | [] => []
  | r :: rs => 44 :: (rowT g [] r ++ restT g rs)
def Lr (gap : Txt) (cur : List Wd) (rest : List (List Wd)) : Txt := rowT 9 gap cur ++ restT 9 rest
def Ll : List (List Wd) → Txt
  | [] => []
  | r :: rs => Lr [] r rs

theorem Lr_nil_nil (g : Txt) : Lr g [] [] = [] := rfl
theorem Lr_nil_cons (g : Txt) (r : List Wd) (rs : List (List Wd)) : Lr g [] (r :: rs) = 44 :: Lr [] r rs := rfl
theorem Lr_cons (g : Txt) (w : Wd) (ws : List Wd) (rs : List (List Wd)) : Lr g (w :: ws) rs = g ++ (w.1 ++ (encV w.2 ++ Lr (gapOf 9 w.2) ws rs)) := by
  simp [Lr, rowT]
theorem Lr_gap (g : Txt) (w : Wd) (ws : List Wd) (rs : List (List Wd)) : Lr g (w :: ws) rs = g ++ Lr [] (w :: ws) rs := by
  simp [Lr, rowT]

/-- a sign of the text against one of the loose text -/
def m1 (two one : Nat) : Prop := one = two ∨ (two = 9 ∧ (one = 59 ∨ one = 32 ∨ one = 10))
inductive mt : Txt → Txt → Prop
  | nil : mt [] []
  | cons {a b : Nat} {l t : Txt} : m1 a b → mt l t → mt (a :: l) (b :: t)
theorem mt.len {l t : Txt} (h : mt l t) : l.length = t.length := by
  induction h with
  | nil => rfl
  | cons _ _ ih => simp [ih]
theorem mt.app {l t l' t' : Txt} (h : mt l t) (h' : mt l' t') : mt (l ++ l') (t ++ t') := by
  induction h with
  | nil => exact h'
  | cons a _ ih => exact .cons a ih
theorem mt.refl : ∀ (l : Txt), mt l l
  | [] => .nil
  | _ :: l => .cons (.inl rfl) (mt.refl l)

/-! ### no shorter text -/
def Pend (g t : Txt) : Prop := g = [] ∨ (g = [9] ∧ sep1 t) ∨ (g = [59] ∧ sep2 t)

theorem Pend.len {g t : Txt} (h : Pend g t) : g.length ≤ 1 := by
  rcases h with rfl | ⟨rfl, _⟩ | ⟨rfl, _⟩ <;> simp

theorem QB.esc_le {q : Txt} (h : QB q) : (unesc q).length ≤ q.length ∧ (escV (unesc q)).length ≤ q.length ∧ ((escV (unesc q)).length = q.length → escV (unesc q) = q) := by
  induction h with
  | nil => simp [unesc, escV]
  | @esc c q hc _ ih =>
    have e : unesc (92 :: c :: q) = c :: unesc q := by rw [unesc]; simp [hc]
    rw [e, escV]
    obtain ⟨i1, i2, i3⟩ := ih
    split
    · refine ⟨by simp; lia, by simp; lia, fun h => ?_⟩
      simp at h
      rw [i3 h]
    · refine ⟨by simp; lia, by simp; lia, fun h => ?_⟩
      simp at h
      lia
  | @ch c q h1 h2 _ ih =>
    have e : unesc (c :: q) = c :: unesc q := by
      cases q with
      | nil => simp [unesc]
      | cons d q => rw [unesc]; simp [h2]
    obtain ⟨i1, i2, i3⟩ := ih
    rw [e, escV, if_neg (fun h => h.elim h1 h2)]
    refine ⟨by simp; lia, by simp; lia, fun h => ?_⟩
    simp at h
    rw [i3 h]

theorem plain_of_valC {v : Txt} (h : ∀ c ∈ v, valC c = true) : plainV v = true := by
  unfold plainV
  rw [List.all_eq_true]
  intro c hc
  have := h c hc
  cases hx : !(c == 32 || c == 10 || c == 59 || c == 44) with
  | true => rfl
  | false =>
    simp at hx
    by_cases h1 : c = 32
    · subst h1; simp [valC, sp_32] at this
    · by_cases h2 : c = 10
      · subst h2; simp [valC, sp_10] at this
      · by_cases h3 : c = 59
        · subst h3; simp [valC] at this
        · have := hx h1 h2 h3; subst this; simp [valC] at this

def okT (t : Txt) : Prop := ∀ c ∈ t, sp c = true → c = 32 ∨ c = 10

theorem Lr_gap_le {g : Txt} (hg : g.length ≤ 1) (cur : List Wd) (rs : List (List Wd)) : (Lr g cur rs).length ≤ 1 + (Lr [] cur rs).length := by
  cases cur with
  | nil => cases rs <;> simp [Lr, rowT]
  | cons w ws => rw [Lr_gap]; simp; lia
theorem gapOf_len (g : Nat) (o : Option Txt) : (gapOf g o).length ≤ 1 := by
  cases o with
  | none => simp [gapOf]
  | some v => simp only [gapOf]; split <;> (try split) <;> simp

structure Bound (L t : Txt) : Prop where
  le : L.length ≤ t.length
  eq : L.length = t.length → mt L t

theorem Bound.of_lt {L t : Txt} (h : L.length < t.length) : Bound L t := ⟨by lia, fun e => by lia⟩

theorem len1 {a : Txt} (h : a.length = 1) : ∃ c, a = [c] := by
  cases a with
  | nil => simp at h
  | cons c a =>
    cases a with
    | nil => exact ⟨c, rfl⟩
    | cons _ _ => simp at h
theorem len0 {a : Txt} (h : a.length = 0) : a = [] := List.eq_nil_of_length_eq_zero h

/-- the word's part: its value in the text, and what follows -/
theorem val_bound {o : Option Txt} {vp r : Txt} (hv : Val o vp r) {cur : List Wd} {rs : List (List Wd)}
    (ih : ∀ g, Pend g r → Bound (Lr g cur rs) r) : Bound (encV o ++ Lr (gapOf 9 o) cur rs) (vp ++ r) := by
  cases hv with
  | no hs =>
    have := ih [9] (.inr (.inl ⟨rfl, hs⟩))
    exact ⟨by simpa [encV, gapOf] using this.le, fun e => by simpa [encV, gapOf] using this.eq (by simpa [encV, gapOf] using e)⟩
  | @bare v a b r hv hs hs2 =>
    have hp := plain_of_valC hv
    have hg : Pend (gapOf 9 (some v)) r := by
      simp only [gapOf, hp, if_true]
      split
      · exact .inr (.inr ⟨rfl, hs2 (by assumption)⟩)
      · exact .inr (.inl ⟨rfl, hs⟩)
    have B := ih _ hg
    have hL : encV (some v) = 61 :: v := by simp [encV, hp]
    rw [hL]
    have hle := B.le
    refine ⟨by simp; lia, fun e => ?_⟩
    simp at e
    have ha : a = [] := len0 (by lia)
    have hb : b = [] := len0 (by lia)
    subst ha hb
    have := B.eq (by simp at e; lia)
    simpa using ((mt.refl (61 :: v)).app this)
  | @quot q a b r hq =>
    obtain ⟨q1, q2, q3⟩ := hq.esc_le
    have B := ih [] (.inl rfl)
    have hle := B.le
    by_cases hp : plainV (unesc q) = true
    · have hL : encV (some (unesc q)) = 61 :: unesc q := by simp [encV, hp]
      have hgl := Lr_gap_le (gapOf_len 9 (some (unesc q))) cur rs
      apply Bound.of_lt
      rw [hL]
      simp
      lia
    · have hp' : plainV (unesc q) = false := by simpa using hp
      have hL : encV (some (unesc q)) = 61 :: 34 :: (escV (unesc q) ++ [34]) := by simp [encV, hp']
      have hG : gapOf 9 (some (unesc q)) = [] := by simp [gapOf, hp']
      rw [hL, hG]
      refine ⟨by simp; lia, fun e => ?_⟩
      simp at e
      have ha : a = [] := len0 (by lia)
      have hb : b = [] := len0 (by lia)
      subst ha hb
      simp at e
      have h1 := q3 (by lia)
      have h2 := B.eq (by lia)
      rw [h1]
      simpa using ((mt.refl (61 :: 34 :: q)).app (mt.cons (a := 34) (b := 34) (.inl rfl) h2))

theorem not_tokC_of_sep1 {c : Nat} (h : sp c = true ∨ c = 59 ∨ c = 44) : tokC c = false := by
  rcases h with h | h | h
  · simp [tokC, h]
  · subst h; simp [tokC]
  · subst h; simp [tokC]

theorem word_bound {t a k vp r : Txt} {o : Option Txt} (e : t = a ++ (k ++ (vp ++ r))) (ha : ∀ c ∈ a, sp c = true) (hk : k ≠ []) (hkc : ∀ c ∈ k, tokC c = true) (hv : Val o vp r)
    (hok : okT t) {cur : List Wd} {rs : List (List Wd)} (ih : ∀ g, Pend g r → Bound (Lr g cur rs) r) {g : Txt} (hg : Pend g t) : Bound (Lr g ((k, o) :: cur) rs) t := by
  have V := val_bound hv ih
  have hle := V.le
  rw [Lr_cons]
  subst e
  simp only [List.length_append] at hle
  have key : g.length ≤ a.length ∧ (g.length = a.length → mt g a) := by
    rcases hg with rfl | ⟨rfl, hs⟩ | ⟨rfl, hs⟩
    · exact ⟨by simp, fun h => by have : a = [] := len0 (by simpa using h.symm); subst this; exact .nil⟩
    · cases a with
      | nil =>
        exfalso
        cases k with
        | nil => exact hk rfl
        | cons c k =>
          rcases hs with h | ⟨c', r', h1, h2⟩
          · simp at h
          · simp at h1
            obtain ⟨rfl, _⟩ := h1
            have := not_tokC_of_sep1 h2
            rw [hkc c (List.mem_cons_self ..)] at this
            cases this
      | cons x a =>
        refine ⟨by simp, fun h => ?_⟩
        simp only [List.length_cons, List.length_nil] at h
        have : a = [] := len0 (by lia)
        subst this
        refine .cons (.inr ⟨rfl, ?_⟩) .nil
        rcases hok x (by simp) (ha x (by simp)) with h | h
        · exact .inr (.inl h)
        · exact .inr (.inr h)
    · exfalso
      cases a with
      | nil =>
        cases k with
        | nil => exact hk rfl
        | cons c k =>
          rcases hs with h | ⟨c', r', h1, h2⟩
          · simp at h
          · simp at h1
            obtain ⟨rfl, _⟩ := h1
            have := not_tokC_of_sep1 (.inr h2)
            rw [hkc c (List.mem_cons_self ..)] at this
            cases this
      | cons x a =>
        rcases hs with h | ⟨c', r', h1, h2⟩
        · simp at h
        · simp at h1
          obtain ⟨rfl, _⟩ := h1
          have := ha x (by simp)
          rcases h2 with h | h
          · subst h; rw [sp_59] at this; cases this
          · subst h; rw [sp_44] at this; cases this
  refine ⟨by simp; lia, fun e => ?_⟩
  simp at e
  exact (key.2 (by lia)).app ((mt.refl k).app (V.eq (by simp; lia)))

theorem rows_cons_nil (G : List (List Wd)) : rows ([] :: G) = rows G := by simp [rows, ne]
theorem rows_cons {c : List Wd} (hc : c ≠ []) (G : List (List Wd)) : rows (c :: G) = c :: rows G := by
  cases c with
  | nil => exact absurd rfl hc
  | cons _ _ => simp [rows, ne]

theorem lower : ∀ (n : Nat) (t : Txt), t.length ≤ n → okT t →
    (∀ g, Pend g t → Bound (Lr g (grp (ev t)).1 (rows (grp (ev t)).2)) t) ∧ Bound (Ll (rows ((grp (ev t)).1 :: (grp (ev t)).2))) t := by
  intro n
  induction n with
  | zero =>
    intro t ht _
    have : t = [] := len0 (by lia)
    subst this
    refine ⟨fun g _ => ?_, ?_⟩
    · simp [ev_nil, grp, rows, Lr_nil_nil]; exact ⟨Nat.le_refl _, fun _ => .nil⟩
    · simp [ev_nil, grp, rows, ne, Ll]; exact ⟨Nat.le_refl _, fun _ => .nil⟩
  | succ n ih =>
    intro t ht hok
    by_cases hn : t = []
    · subst hn
      refine ⟨fun g _ => ?_, ?_⟩
      · simp [ev_nil, grp, rows, Lr_nil_nil]; exact ⟨Nat.le_refl _, fun _ => .nil⟩
      · simp [ev_nil, grp, rows, ne, Ll]; exact ⟨Nat.le_refl _, fun _ => .nil⟩
    · have T := took hn
      have hl := stp_lt hn
      rw [ev_cons hn]
      cases hs : stp t with
      | word w r =>
        rw [hs] at T hl
        simp only [Stp.rest] at hl
        cases T with
        | @word a k vp r o e ha hk hkc hv =>
          have hok' : okT r := fun c hc => hok c (by rw [e]; simp [hc])
          have I := ih r (by lia) hok'
          have P := fun g (hg : Pend g t) => word_bound e ha hk hkc hv hok I.1 hg
          refine ⟨fun g hg => by simpa [grp] using P g hg, ?_⟩
          have := P [] (.inl rfl)
          simp only [grp]
          rw [rows_cons (by simp)]
          exact this
      | comma r =>
        rw [hs] at T hl
        simp only [Stp.rest] at hl
        cases T with
        | @comma a r e ha =>
          have hok' : okT r := fun c hc => hok c (by rw [e]; simp [hc])
          have I := (ih r (by lia) hok').2
          have hle := I.le
          have hlen : t.length = a.length + 1 + r.length := by rw [e]; simp; lia
          refine ⟨fun g hg => ?_, ?_⟩
          · simp only [grp]
            generalize hX : rows ((grp (ev r)).1 :: (grp (ev r)).2) = X at I hle ⊢
            cases X with
            | nil => rw [Lr_nil_nil]; exact .of_lt (by simp; lia)
            | cons x X =>
              rw [Lr_nil_cons]
              change Bound (Lr [] x X) r at I
              change (Lr [] x X).length ≤ r.length at hle
              refine ⟨by simp; lia, fun h => ?_⟩
              simp at h
              have : a = [] := len0 (by lia)
              subst this
              rw [e]
              exact .cons (.inl rfl) (I.eq (by simp at hlen; lia))
          · simp only [grp]
            rw [rows_cons_nil]
            exact .of_lt (by lia)
      | junk r =>
        rw [hs] at T hl
        simp only [Stp.rest] at hl
        cases T with
        | @junk a r e ha hj hr =>
          have hok' : okT r := fun c hc => hok c (by rw [e]; simp [hc])
          have I := ih r (by lia) hok'
          have hlen : t.length = a.length + r.length := by rw [e]; simp
          have hal : a.length ≠ 0 := fun h => ha (len0 h)
          refine ⟨fun g hg => ?_, .of_lt (by have := I.2.le; simp only; lia)⟩
          have B := I.1 [] (.inl rfl)
          have hle := B.le
          simp only
          generalize hX : rows (grp (ev r)).2 = X at B hle ⊢
          generalize hC : (grp (ev r)).1 = C at B hle ⊢
          cases C with
          | nil =>
            have : Lr g [] X = Lr [] [] X := rfl
            rw [this]
            exact .of_lt (by lia)
          | cons w C =>
            rw [Lr_gap]
            have hgl := hg.len
            refine ⟨by simp; lia, fun h => ?_⟩
            simp at h
            have h1 : a.length = 1 := by lia
            obtain ⟨c, rfl⟩ := len1 h1
            have hm := B.eq (by simp at hlen; lia)
            rw [e]
            refine mt.app ?_ hm
            have hjc := hj c (by simp)
            rcases hg with rfl | ⟨rfl, hs'⟩ | ⟨rfl, hs'⟩
            · simp at h; simp at hlen; lia
            · refine .cons (.inr ⟨rfl, ?_⟩) .nil
              rcases hs' with h | ⟨c', r', q1, q2⟩
              · rw [e] at h; simp at h
              · rw [e] at q1
                simp at q1
                obtain ⟨rfl, _⟩ := q1
                rcases q2 with q | q | q
                · rcases hok c (by rw [e]; simp) q with z | z
                  · exact .inr (.inl z)
                  · exact .inr (.inr z)
                · exact .inl q
                · subst q; simp [junkC, sp_44] at hjc
            · refine .cons (.inl ?_) .nil
              rcases hs' with h | ⟨c', r', q1, q2⟩
              · rw [e] at h; simp at h
              · rw [e] at q1
                simp at q1
                obtain ⟨rfl, _⟩ := q1
                rcases q2 with q | q
                · exact q
                · subst q; simp [junkC, sp_44] at hjc

/-- no text that says so is shorter, and one as short matches -/
theorem parse_lower {t : Txt} (hok : okT t) : Bound (Ll (parse t)) t := by
  have := (lower t.length t (Nat.le_refl _) hok).2
  simpa [parse, fin] using this
end Mine
end

section
namespace Mine

/-! ### the reader on written texts -/
theorem eqRe_is {t u : Txt} (h : t.dropWhile sp = 61 :: u) : eqRe t = some (u.dropWhile sp) := by
  unfold eqRe
  rw [h]
  rfl
theorem eqRe_no {t : Txt} (h : ∀ u, t.dropWhile sp ≠ 61 :: u) : eqRe t = none := by
  unfold eqRe
  split
  · rename_i u hu; exact absurd hu (h u)
  · rfl
/-- the text begins with a sign of a key -/
def hk (u : Txt) : Prop := ∃ c r, u = c :: r ∧ tokC c = true
/-- the text does not begin with a sign of a key -/
def nk (u : Txt) : Prop := ∀ c r, u = c :: r → tokC c = false

theorem sp_of_tokC {c : Nat} (h : tokC c = true) : sp c = false := by
  cases hs : sp c with
  | false => rfl
  | true => simp [tokC, hs] at h
theorem junk_of_tokC {c : Nat} (h : tokC c = true) : junkC c = false := by
  cases hs : junkC c with
  | false => rfl
  | true =>
    simp [junkC] at hs
    simp [tokC] at h
    rcases hs with (h1 | h1) | h1
    · exact absurd h1 h.1.1.1
    · rw [h.1.1.2] at h1; cases h1
    · exact absurd h1 h.1.2

theorem hk.ne {u : Txt} (h : hk u) : u ≠ [] := by obtain ⟨c, r, rfl, _⟩ := h; simp
theorem hk.dw {u : Txt} (h : hk u) : u.dropWhile sp = u := by
  obtain ⟨c, r, rfl, hc⟩ := h
  exact dw_cons_neg (sp_of_tokC hc)
theorem hk.dj {u : Txt} (h : hk u) : u.dropWhile junkC = u := by
  obtain ⟨c, r, rfl, hc⟩ := h
  exact dw_cons_neg (junk_of_tokC hc)
theorem hk.app {k : Txt} (hk0 : k ≠ []) (hkc : ∀ c ∈ k, tokC c = true) (X : Txt) : hk (k ++ X) := by
  cases k with
  | nil => exact absurd rfl hk0
  | cons c k => exact ⟨c, k ++ X, rfl, hkc c (List.mem_cons_self ..)⟩
theorem hk.no_eq {u : Txt} (h : hk u) : eqRe u = none := by
  have e := h.dw
  obtain ⟨c, r, rfl, hc⟩ := h
  unfold eqRe
  rw [e]
  split
  · rename_i u' hu; cases hu; simp [tokC] at hc
  · rfl

theorem nk_tw {X : Txt} (h : nk X) : X.takeWhile tokC = [] ∧ X.dropWhile tokC = X := by
  cases X with
  | nil => exact ⟨rfl, rfl⟩
  | cons c r => exact ⟨by rw [List.takeWhile_cons]; simp [h c r rfl], dw_cons_neg (h c r rfl)⟩

theorem tokRe_key {k X : Txt} (hk0 : k ≠ []) (hkc : ∀ c ∈ k, tokC c = true) (hX : nk X) : tokRe (k ++ X) = some (k, X) := by
  unfold tokRe
  rw [(hk.app hk0 hkc X).dw, tw_app X hkc, dw_app X hkc, (nk_tw hX).1, (nk_tw hX).2, List.append_nil, if_neg hk0]
theorem stp_key {k X : Txt} (hk0 : k ≠ []) (hkc : ∀ c ∈ k, tokC c = true) (hX : nk X) : stp (k ++ X) = stpWord k X := by
  unfold stp
  rw [tokRe_key hk0 hkc hX]

theorem tokRe_sp {c : Nat} {u : Txt} (hc : sp c = true) : tokRe (c :: u) = tokRe u := by
  unfold tokRe
  rw [dw_cons_pos hc]
theorem fin_sp {c : Nat} {u : Txt} (hc : sp c = true) (hu : hk u) (p : List Wd) : fin p (c :: u) = fin p u := by
  have e : stp (c :: u) = stp u := by
    unfold stp
    rw [tokRe_sp hc]
    have : tokRe u ≠ none := by
      obtain ⟨d, r, rfl, hd⟩ := hu
      unfold tokRe
      rw [dw_cons_neg (sp_of_tokC hd), List.takeWhile_cons, if_pos hd]
      simp
    cases h : tokRe u with
    | none => exact absurd h this
    | some x => rfl
  simp only [fin, ev_cons (t := c :: u) (by simp), ev_cons hu.ne, e]
theorem tokRe_no {u v : Txt} (h : u.dropWhile sp = v) (hv : nk v) : tokRe u = none := by
  unfold tokRe
  rw [h, (nk_tw hv).1, if_pos rfl]
theorem fin_junkOf {u v : Txt} (hu : u ≠ []) (h : tokRe u = none) (hc : ∀ r, u.dropWhile sp ≠ 44 :: r) (hv : u.dropWhile junkC = v) (p : List Wd) : fin p u = fin p v := by
  refine fin_junk hu ?_
  unfold stp
  rw [h]
  dsimp only
  split
  · rename_i x hx; exact absurd hx (hc _)
  · rw [hv]
theorem nk_cons {c : Nat} {r : Txt} (h : tokC c = false) : nk (c :: r) := by intro c' r' e; cases e; exact h
theorem nk_nil : nk [] := by intro c r e; cases e
theorem tokC_59 : tokC 59 = false := by decide +kernel
theorem tokC_44 : tokC 44 = false := by decide +kernel
theorem tokC_61 : tokC 61 = false := by decide +kernel
theorem junkC_59 : junkC 59 = true := by decide +kernel
theorem junkC_61 : junkC 61 = true := by decide +kernel
theorem junkC_44 : junkC 44 = false := by decide +kernel
theorem junkC_32 : junkC 32 = true := by decide +kernel
theorem junkC_10 : junkC 10 = true := by decide +kernel
theorem fin_semi {u v : Txt} (hv : u.dropWhile junkC = v) (p : List Wd) : fin p (59 :: u) = fin p v := by
  refine fin_junkOf (by simp) (tokRe_no (dw_cons_neg sp_59) (nk_cons tokC_59)) ?_ (by rw [dw_cons_pos junkC_59, hv]) p
  intro r hr
  rw [dw_cons_neg sp_59] at hr
  cases hr
theorem fin_44 (u : Txt) (p : List Wd) : fin p (44 :: u) = rows [p] ++ fin [] u := by
  refine fin_comma (by simp) ?_
  unfold stp
  rw [tokRe_no (dw_cons_neg sp_44) (nk_cons tokC_44)]
  dsimp only
  rw [dw_cons_neg sp_44]
  rfl
theorem fin_sp44 {c : Nat} (hc : sp c = true) (u : Txt) (p : List Wd) : fin p (c :: 44 :: u) = rows [p] ++ fin [] u := by
  refine fin_comma (by simp) ?_
  have e : (c :: 44 :: u).dropWhile sp = 44 :: u := by rw [dw_cons_pos hc, dw_cons_neg sp_44]
  unfold stp
  rw [tokRe_no e (nk_cons tokC_44)]
  dsimp only
  rw [e]
  rfl

/-! ### a word -/
theorem word_none {k X : Txt} (h : eqRe X = none) : stpWord k X = .word (k, none) X := by
  unfold stpWord qRe vRe
  rw [h]
theorem qscan_QB {q : Txt} (h : QB q) (r : Txt) : qscan (q ++ 34 :: r) = some (q, r) := by
  induction h with
  | nil => simp [qscan.eq_def]
  | @esc c q hc _ ih =>
    rw [List.cons_append, List.cons_append, qscan.eq_def]
    simp [ih, hc]
  | @ch c q h1 h2 _ ih =>
    rw [List.cons_append, qscan.eq_def]
    simp [ih, h1, h2]
theorem word_quot {k X q r : Txt} (hX : eqRe X = some (34 :: (q ++ 34 :: r))) (hq : QB q) : stpWord k X = .word (k, some (unesc q)) r := by
  have h1 : qRe X = some (q, r) := by
    unfold qRe
    rw [hX]
    exact qscan_QB hq r
  unfold stpWord
  rw [h1]
theorem word_bare {k v r : Txt} (hv : ∀ c ∈ v, valC c = true) (hh : v.head? ≠ some 34) (hr : sep1 r) (hr2 : v = [] → sep2 r) : stpWord k (61 :: (v ++ r)) = .word (k, some v) r := by
  have hd : (v ++ r).dropWhile sp = v ++ r := by
    cases v with
    | nil =>
      rcases hr2 rfl with rfl | ⟨c, r', rfl, h⟩
      · rfl
      · refine dw_cons_neg ?_
        rcases h with h | h <;> subst h
        · exact sp_59
        · exact sp_44
    | cons c v =>
      refine dw_cons_neg ?_
      have := hv c (List.mem_cons_self ..)
      cases hs : sp c with
      | false => rfl
      | true => simp [valC, hs] at this
  have he : eqRe (61 :: (v ++ r)) = some (v ++ r) := by
    rw [eqRe_is (dw_cons_neg sp_61), hd]
  have hq : qRe (61 :: (v ++ r)) = none := by
    unfold qRe
    rw [he]
    split
    · rename_i u hu
      exfalso
      cases v with
      | nil =>
        rcases hr2 rfl with rfl | ⟨c, r', rfl, h⟩
        · cases hu
        · simp at hu; lia
      | cons c v => simp at hu hh; exact hh hu.1
    · rfl
  unfold stpWord
  rw [hq]
  unfold vRe
  rw [he]
  dsimp only
  have hnv : r.takeWhile valC = [] ∧ r.dropWhile valC = r := by
    rcases hr with rfl | ⟨c, r', rfl, h⟩
    · exact ⟨rfl, rfl⟩
    · have hc : valC c = false := by
        rcases h with h | h | h
        · simp [valC, h]
        · subst h; simp [valC]
        · subst h; simp [valC]
      exact ⟨by rw [List.takeWhile_cons]; simp [hc], dw_cons_neg hc⟩
  rw [tw_app r hv, dw_app r hv, hnv.1, hnv.2, List.append_nil]

theorem unesc_ch {c : Nat} (h : c ≠ 92) (X : Txt) : unesc (c :: X) = c :: unesc X := by
  cases X with
  | nil => simp [unesc]
  | cons d X => rw [unesc]; simp [h]
theorem unesc_esc {c : Nat} (h : c ≠ 10) (X : Txt) : unesc (92 :: c :: X) = c :: unesc X := by
  rw [unesc]; simp [h]
theorem escV_QB : ∀ (v : Txt), QB (escV v) ∧ unesc (escV v) = v
  | [] => ⟨.nil, rfl⟩
  | c :: v => by
    obtain ⟨h1, h2⟩ := escV_QB v
    rw [escV]
    split
    · rename_i h
      have h10 : c ≠ 10 := by lia
      exact ⟨.esc h10 h1, by rw [unesc_esc h10, h2]⟩
    · rename_i h
      have h34 : c ≠ 34 := fun e => h (.inl e)
      have h92 : c ≠ 92 := fun e => h (.inr e)
      exact ⟨.ch h34 h92 h1, by rw [unesc_ch h92, h2]⟩
/-- every sign but a line feed behind a backslash -/
def esc2 : Txt → Txt
  | [] => []
  | c :: r => if c = 10 then c :: esc2 r else 92 :: c :: esc2 r
theorem esc2_QB : ∀ (v : Txt), QB (esc2 v) ∧ unesc (esc2 v) = v
  | [] => ⟨.nil, rfl⟩
  | c :: v => by
    obtain ⟨h1, h2⟩ := esc2_QB v
    rw [esc2]
    split
    · rename_i h
      subst h
      exact ⟨.ch (by decide) (by decide) h1, by rw [unesc_ch (by decide), h2]⟩
    · rename_i h
      exact ⟨.esc h h1, by rw [unesc_esc h, h2]⟩

/-! ### the shortest text, read -/
structure Vw (w : Wd) : Prop where
  ne : w.1 ≠ []
  tok : ∀ c ∈ w.1, tokC c = true
  val : ∀ v, w.2 = some v → v.head? ≠ some 34 ∧ okT v

theorem mt.split : ∀ {a b t : Txt}, mt (a ++ b) t → ∃ t1 t2, t = t1 ++ t2 ∧ mt a t1 ∧ mt b t2
  | [], b, t, h => ⟨[], t, rfl, .nil, h⟩
  | x :: a, b, _, h => by
    cases h with
    | @cons _ y _ t h1 h2 =>
      obtain ⟨t1, t2, rfl, h3, h4⟩ := mt.split h2
      exact ⟨y :: t1, t2, rfl, .cons h1 h3, h4⟩
theorem mt.same : ∀ {a t : Txt}, mt a t → (∀ c ∈ a, c ≠ 9) → t = a
  | [], _, h, _ => by cases h; rfl
  | x :: a, _, h, hn => by
    cases h with
    | @cons _ y _ t h1 h2 =>
      rw [mt.same h2 fun c hc => hn c (List.mem_cons_of_mem _ hc)]
      rcases h1 with h1 | h1
      · rw [h1]
      · exact absurd h1.1 (hn x (List.mem_cons_self ..))

theorem tok_ne9 {k : Txt} (h : ∀ c ∈ k, tokC c = true) : ∀ c ∈ k, c ≠ 9 := by
  intro c hc e
  subst e
  have := h 9 hc
  simp [tokC, sp_9] at this
theorem ok_ne9 {v : Txt} (h : okT v) : ∀ c ∈ v, c ≠ 9 := by
  intro c hc e
  subst e
  have := h 9 hc sp_9
  lia
theorem escV_mem : ∀ {v : Txt} {c : Nat}, c ∈ escV v → c = 92 ∨ c ∈ v
  | [], c, h => by simp [escV] at h
  | d :: v, c, h => by
    rw [escV] at h
    split at h
    · rcases List.mem_cons.mp h with h | h
      · exact .inl h
      · rcases List.mem_cons.mp h with h | h
        · exact .inr (by simp [h])
        · rcases escV_mem h with h | h
          · exact .inl h
          · exact .inr (List.mem_cons_of_mem _ h)
    · rcases List.mem_cons.mp h with h | h
      · exact .inr (by simp [h])
      · rcases escV_mem h with h | h
        · exact .inl h
        · exact .inr (List.mem_cons_of_mem _ h)
theorem enc_ne9 {o : Option Txt} (h : ∀ v, o = some v → okT v) : ∀ c ∈ encV o, c ≠ 9 := by
  cases o with
  | none => intro c hc; cases hc
  | some v =>
    have hv := ok_ne9 (h v rfl)
    intro c hc
    simp only [encV] at hc
    split at hc
    · rcases List.mem_cons.mp hc with h | h
      · lia
      · exact hv c h
    · simp at hc
      rcases hc with h | h | h | h
      · lia
      · lia
      · rcases escV_mem h with h | h
        · lia
        · exact hv c h
      · lia

theorem valC_of_plain {v : Txt} (hp : plainV v = true) (hok : okT v) : ∀ c ∈ v, valC c = true := by
  intro c hc
  unfold plainV at hp
  have := List.all_eq_true.mp hp c hc
  simp at this
  cases hs : sp c with
  | true => rcases hok c hc hs with h | h <;> lia
  | false => simp [valC, hs, this]

/-- how a text that matches begins -/
theorem start9 {ws : List Wd} {rest : List (List Wd)} {t : Txt} (hw : ∀ w ∈ ws, Vw w) (h : mt (Lr [9] ws rest) t) : sep1 t ∧ eqRe t = none := by
  cases ws with
  | nil =>
    cases rest with
    | nil => rw [Lr_nil_nil] at h; cases h; exact ⟨.inl rfl, rfl⟩
    | cons r rs =>
      rw [Lr_nil_cons] at h
      cases h with
      | @cons _ y _ t h1 h2 =>
        have : y = 44 := by rcases h1 with h1 | h1 <;> lia
        subst this
        refine ⟨.inr ⟨44, t, rfl, .inr (.inr rfl)⟩, eqRe_no fun u hu => ?_⟩
        rw [dw_cons_neg sp_44] at hu
        cases hu
  | cons w ws =>
    have V := hw w (List.mem_cons_self ..)
    rw [Lr_cons] at h
    cases h with
    | @cons _ y _ t h1 h2 =>
      have h2 : mt (w.1 ++ (encV w.2 ++ Lr (gapOf 9 w.2) ws rest)) t := h2
      obtain ⟨t1, t2, rfl, h3, h4⟩ := mt.split h2
      have e1 := mt.same h3 (tok_ne9 V.tok)
      subst e1
      have hk1 := hk.app V.ne V.tok t2
      have hy : sp y = true ∨ y = 59 := by
        rcases h1 with h1 | ⟨_, h1 | h1 | h1⟩
        · subst h1; exact .inl sp_9
        · exact .inr h1
        · subst h1; exact .inl sp_32
        · subst h1; exact .inl sp_10
      refine ⟨.inr ⟨y, _, rfl, hy.imp id .inl⟩, ?_⟩
      rcases hy with hy | hy
      · have := hk1.no_eq
        unfold eqRe at this ⊢
        rw [dw_cons_pos hy]; exact this
      · subst hy
        refine eqRe_no fun u hu => ?_
        rw [dw_cons_neg sp_59] at hu
        cases hu
theorem start59 {ws : List Wd} {rest : List (List Wd)} {t : Txt} (h : mt (Lr [59] ws rest) t) : sep2 t := by
  cases ws with
  | nil =>
    cases rest with
    | nil => rw [Lr_nil_nil] at h; cases h; exact .inl rfl
    | cons r rs =>
      rw [Lr_nil_cons] at h
      cases h with
      | @cons _ y _ t h1 h2 =>
        have : y = 44 := by rcases h1 with h1 | h1 <;> lia
        subst this
        exact .inr ⟨44, t, rfl, .inr rfl⟩
  | cons w ws =>
    rw [Lr_cons] at h
    cases h with
    | @cons _ y _ t h1 h2 =>
      have : y = 59 := by rcases h1 with h1 | h1 <;> lia
      subst this
      exact .inr ⟨59, t, rfl, .inl rfl⟩
theorem sep2.one {t : Txt} (h : sep2 t) : sep1 t := by
  rcases h with h | ⟨c, r, h, h'⟩
  · exact .inl h
  · exact .inr ⟨c, r, h, .inr h'⟩
theorem sep1.nk {t : Txt} (h : sep1 t) : nk t := by
  rcases h with rfl | ⟨c, r, rfl, h'⟩
  · exact nk_nil
  · exact nk_cons (not_tokC_of_sep1 h')

theorem fwd_word {w : Wd} {ws : List Wd} {rest : List (List Wd)} {t : Txt} (V : Vw w) (hw : ∀ w ∈ ws, Vw w) (h : mt (Lr (gapOf 9 w.2) ws rest) t) : stp (w.1 ++ (encV w.2 ++ t)) = .word w t := by
  obtain ⟨k, o⟩ := w
  have Vn : k ≠ [] := V.ne
  have Vt : ∀ c ∈ k, tokC c = true := V.tok
  have Vv : ∀ v, o = some v → v.head? ≠ some 34 ∧ okT v := V.val
  clear V
  show stp (k ++ (encV o ++ t)) = .word (k, o) t
  cases o with
  | none =>
    obtain ⟨s1, s2⟩ := start9 hw h
    show stp (k ++ t) = _
    rw [stp_key Vn Vt s1.nk, word_none s2]
  | some v =>
    obtain ⟨v1, v2⟩ := Vv v rfl
    simp only [encV]
    simp only [gapOf] at h
    split
    · rename_i hp
      rw [if_pos hp] at h
      have hs : sep1 t ∧ (v = [] → sep2 t) := by
        split at h
        · have := start59 h; exact ⟨this.one, fun _ => this⟩
        · exact ⟨(start9 hw h).1, fun e => by contradiction⟩
      rw [List.cons_append, stp_key Vn Vt (nk_cons tokC_61), word_bare (valC_of_plain hp v2) v1 hs.1 hs.2]
    · rename_i hp
      have e : (61 :: 34 :: (escV v ++ [34]) ++ t : Txt) = 61 :: 34 :: (escV v ++ 34 :: t) := by simp
      rw [e, stp_key Vn Vt (nk_cons tokC_61), word_quot (q := escV v) (r := t) ?_ (escV_QB v).1, (escV_QB v).2]
      rw [eqRe_is (dw_cons_neg sp_61), dw_cons_neg sp_34]

theorem fwd : ∀ (rest : List (List Wd)) (cur : List Wd) (g t : Txt) (p : List Wd), (g = [] ∨ g = [9] ∨ g = [59]) → mt (Lr g cur rest) t → (∀ w ∈ cur, Vw w) → (∀ r ∈ rest, r ≠ [] ∧ ∀ w ∈ r, Vw w) → p ++ cur ≠ [] → fin p t = (p ++ cur) :: rest := by
  intro rest
  induction rest with
  | nil =>
    intro cur
    induction cur with
    | nil =>
      intro g t p _ h _ _ hp
      rw [Lr_nil_nil] at h
      cases h
      rw [fin_nil, rows_cons (by simpa using hp), List.append_nil]
      rfl
    | cons w ws ih =>
      intro g t p hg h hw hr hp
      rw [Lr_cons] at h
      obtain ⟨t1, t2, rfl, h1, h2⟩ := mt.split h
      obtain ⟨t3, t4, rfl, h3, h4⟩ := mt.split h2
      obtain ⟨t5, t6, rfl, h5, h6⟩ := mt.split h4
      have V := hw w (List.mem_cons_self ..)
      have hw' : ∀ w ∈ ws, Vw w := fun x hx => hw x (List.mem_cons_of_mem _ hx)
      have e3 := mt.same h3 (tok_ne9 V.tok)
      have e5 := mt.same h5 (enc_ne9 fun v hv => (V.val v hv).2)
      subst e3 e5
      have hk1 := hk.app V.ne V.tok (encV w.2 ++ t6)
      have S := fwd_word V hw' h6
      have e : fin p (t1 ++ (w.1 ++ (encV w.2 ++ t6))) = fin p (w.1 ++ (encV w.2 ++ t6)) := by
        rcases hg with rfl | rfl | rfl
        · cases h1; rfl
        · cases h1 with
          | @cons _ y _ t m h' =>
            cases h'
            rcases m with m | ⟨_, m | m | m⟩
            · subst m; exact fin_sp sp_9 hk1 p
            · subst m; exact fin_semi hk1.dj p
            · subst m; exact fin_sp sp_32 hk1 p
            · subst m; exact fin_sp sp_10 hk1 p
        · cases h1 with
          | @cons _ y _ t m h' =>
            cases h'
            have : y = 59 := by rcases m with m | m <;> lia
            subst this
            exact fin_semi hk1.dj p
      have hg' : gapOf 9 w.2 = [] ∨ gapOf 9 w.2 = [9] ∨ gapOf 9 w.2 = [59] := by
        cases w.2 with
        | none => exact .inr (.inl rfl)
        | some v => simp only [gapOf]; split <;> (try split) <;> simp
      rw [e, fin_word hk1.ne S, ih (gapOf 9 w.2) t6 (p ++ [w]) hg' h6 hw' hr (by simp)]
      simp
  | cons r rs ihr =>
    intro cur
    induction cur with
    | nil =>
      intro g t p _ h _ hr hp
      rw [Lr_nil_cons] at h
      cases h with
      | @cons _ y _ t h1 h2 =>
        have : y = 44 := by rcases h1 with h1 | h1 <;> lia
        subst this
        have R := hr r (List.mem_cons_self ..)
        rw [fin_44, ihr r [] t [] (.inl rfl) h2 R.2 (fun x hx => hr x (List.mem_cons_of_mem _ hx)) (by simpa using R.1), rows_cons (by simpa using hp)]
        simp [rows]
    | cons w ws ih =>
      intro g t p hg h hw hr hp
      rw [Lr_cons] at h
      obtain ⟨t1, t2, rfl, h1, h2⟩ := mt.split h
      obtain ⟨t3, t4, rfl, h3, h4⟩ := mt.split h2
      obtain ⟨t5, t6, rfl, h5, h6⟩ := mt.split h4
      have V := hw w (List.mem_cons_self ..)
      have hw' : ∀ w ∈ ws, Vw w := fun x hx => hw x (List.mem_cons_of_mem _ hx)
      have e3 := mt.same h3 (tok_ne9 V.tok)
      have e5 := mt.same h5 (enc_ne9 fun v hv => (V.val v hv).2)
      subst e3 e5
      have hk1 := hk.app V.ne V.tok (encV w.2 ++ t6)
      have S := fwd_word V hw' h6
      have e : fin p (t1 ++ (w.1 ++ (encV w.2 ++ t6))) = fin p (w.1 ++ (encV w.2 ++ t6)) := by
        rcases hg with rfl | rfl | rfl
        · cases h1; rfl
        · cases h1 with
          | @cons _ y _ t m h' =>
            cases h'
            rcases m with m | ⟨_, m | m | m⟩
            · subst m; exact fin_sp sp_9 hk1 p
            · subst m; exact fin_semi hk1.dj p
            · subst m; exact fin_sp sp_32 hk1 p
            · subst m; exact fin_sp sp_10 hk1 p
        · cases h1 with
          | @cons _ y _ t m h' =>
            cases h'
            have : y = 59 := by rcases m with m | m <;> lia
            subst this
            exact fin_semi hk1.dj p
      have hg' : gapOf 9 w.2 = [] ∨ gapOf 9 w.2 = [9] ∨ gapOf 9 w.2 = [59] := by
        cases w.2 with
        | none => exact .inr (.inl rfl)
        | some v => simp only [gapOf]; split <;> (try split) <;> simp
      rw [e, fin_word hk1.ne S, ih (gapOf 9 w.2) t6 (p ++ [w]) hg' h6 hw' hr (by simp)]
      simp

/-- lists that the law draws -/
def Vl (l : List (List Wd)) : Prop := ∀ r ∈ l, r ≠ [] ∧ ∀ w ∈ r, Vw w

theorem parse_fwd {l : List (List Wd)} (hl : Vl l) {t : Txt} (h : mt (Ll l) t) : parse t = l := by
  cases l with
  | nil => cases h; rfl
  | cons r rs =>
    have R := hl r (List.mem_cons_self ..)
    exact (fwd rs r [] t [] (.inl rfl) h R.2 (fun x hx => hl x (List.mem_cons_of_mem _ hx)) (by simpa using R.1))

/-- the law's own word of the rivals -/
theorem parse_iff {l : List (List Wd)} (hl : Vl l) {t : Txt} (hok : okT t) (hlen : t.length ≤ (Ll l).length) : parse t = l ↔ mt (Ll l) t := by
  constructor
  · intro e
    have B := parse_lower hok
    rw [e] at B
    exact B.eq (by have := B.le; lia)
  · exact parse_fwd hl
end Mine
end

section
namespace Mine

/-! ### the texts as the law writes them -/
def joinT (sep : Txt) : List Txt → Txt
  | [] => []
  | [x] => x
  | x :: y :: r => x ++ (sep ++ joinT sep (y :: r))

def rowS (gs : Nat → Nat) : Nat → Txt → List Wd → Txt
  | _, _, [] => []
  | n, gap, w :: ws => gap ++ (w.1 ++ (encV w.2 ++ rowS gs (n + 1) (gapOf (gs n) w.2) ws))
def rowsS (gs : Nat → Nat) : Nat → List (List Wd) → List Txt
  | _, [] => []
  | n, r :: rs => rowS gs n [] r :: rowsS gs (n + r.length) rs
def shS (gs : Nat → Nat) (l : List (List Wd)) : Txt := joinT [44] (rowsS gs 0 l)
def words (l : List (List Wd)) : Nat := (l.map (·.length)).sum

theorem mt_gapOf {g : Nat} (h : m1 9 g) (o : Option Txt) : mt (gapOf 9 o) (gapOf g o) := by
  cases o with
  | none => exact .cons h .nil
  | some v =>
    simp only [gapOf]
    split
    · split
      · exact mt.refl _
      · exact .cons h .nil
    · exact .nil
theorem mt_rowS {gs : Nat → Nat} : ∀ (ws : List Wd) (n : Nat) (gap gap' : Txt), (∀ i, i < n + ws.length → m1 9 (gs i)) → mt gap gap' → mt (rowT 9 gap ws) (rowS gs n gap' ws)
  | [], _, _, _, _, _ => .nil
  | w :: ws, n, gap, gap', hg, h => by
    rw [rowT, rowS]
    refine h.app ((mt.refl _).app ((mt.refl _).app (mt_rowS ws (n + 1) _ _ (fun i hi => hg i (by simp; lia)) (mt_gapOf (hg n (by simp)) _))))
theorem mt_restS {gs : Nat → Nat} : ∀ (rs : List (List Wd)) (r : List Wd) (n : Nat), (∀ i, i < n + r.length + words rs → m1 9 (gs i)) → mt (rowT 9 [] r ++ restT 9 rs) (joinT [44] (rowsS gs n (r :: rs)))
  | [], r, n, hg => by
    simp only [restT, rowsS, joinT, List.append_nil]
    exact mt_rowS r n [] [] (fun i hi => hg i (by simp [words]; lia)) .nil
  | r' :: rs, r, n, hg => by
    simp only [restT, rowsS, joinT]
    refine (mt_rowS r n [] [] (fun i hi => hg i (by lia)) .nil).app (.cons (.inl rfl) ?_)
    have := mt_restS rs r' (n + r.length) (fun i hi => hg i (by simp [words] at hi ⊢; lia))
    simp only [rowsS] at this
    exact this
theorem mt_shS {gs : Nat → Nat} {l : List (List Wd)} (hg : ∀ i, i < words l → m1 9 (gs i)) : mt (Ll l) (shS gs l) := by
  cases l with
  | nil => exact .nil
  | cons r rs => exact mt_restS rs r 0 (fun i hi => hg i (by simp [words] at hi ⊢; lia))

theorem rowS9 {gs : Nat → Nat} : ∀ (ws : List Wd) (n : Nat) (gap : Txt), (∀ i, i < n + ws.length → gs i = 9) → rowS gs n gap ws = rowT 9 gap ws
  | [], _, _, _ => rfl
  | w :: ws, n, gap, hg => by
    rw [rowT, rowS, hg n (by simp), rowS9 ws (n + 1) _ (fun i hi => hg i (by simp; lia))]
theorem restS9 {gs : Nat → Nat} : ∀ (rs : List (List Wd)) (r : List Wd) (n : Nat), (∀ i, i < n + r.length + words rs → gs i = 9) → joinT [44] (rowsS gs n (r :: rs)) = rowT 9 [] r ++ restT 9 rs
  | [], r, n, hg => by
    simp only [restT, rowsS, joinT, List.append_nil]
    exact rowS9 r n [] (fun i hi => hg i (by simp [words]; lia))
  | r' :: rs, r, n, hg => by
    have := restS9 rs r' (n + r.length) (fun i hi => hg i (by simp [words] at hi ⊢; lia))
    simp only [rowsS] at this
    simp only [restT, rowsS, joinT]
    rw [this, rowS9 r n [] (fun i hi => hg i (by lia))]
    rfl
theorem shS9 {gs : Nat → Nat} {l : List (List Wd)} (hg : ∀ i, i < words l → gs i = 9) : shS gs l = Ll l := by
  cases l with
  | nil => rfl
  | cons r rs => exact restS9 rs r 0 (fun i hi => hg i (by simp [words] at hi ⊢; lia))

/-! ### the long dresses -/
def dwW (e : Txt) (w : Wd) : Txt :=
  match w.2 with
  | none => w.1
  | some v => w.1 ++ (e ++ (34 :: (esc2 v ++ [34])))
def dRow (e rsep : Txt) (r : List Wd) : Txt := joinT rsep (r.map (dwW e))
def dTxt (pre e rsep sep : Txt) (l : List (List Wd)) : Txt := pre ++ joinT sep (l.map (dRow e rsep))

structure Dress (e rsep sep : Txt) : Prop where
  eNk : ∀ X, nk (e ++ X)
  eEq : ∀ X, eqRe (e ++ 34 :: X) = some (34 :: X)
  rNk : ∀ X, nk (rsep ++ X)
  rEq : ∀ u, hk u → eqRe (rsep ++ u) = none
  rFin : ∀ u, hk u → ∀ p, fin p (rsep ++ u) = fin p u
  sNk : ∀ X, nk (sep ++ X)
  sEq : ∀ u, eqRe (sep ++ u) = none
  sFin : ∀ u p, fin p (sep ++ u) = rows [p] ++ fin [] u

/-- what stands behind a word -/
def dTail (e rsep sep : Txt) (cur : List Wd) (rest : List (List Wd)) : Txt :=
  cur.flatMap (fun w => rsep ++ dwW e w) ++ rest.flatMap (fun r => sep ++ dRow e rsep r)

theorem joinT_cons (sep x : Txt) (xs : List Txt) : joinT sep (x :: xs) = x ++ xs.flatMap (fun y => sep ++ y) := by
  induction xs generalizing x with
  | nil => simp [joinT]
  | cons y ys ih => rw [joinT, ih, List.flatMap_cons, List.append_assoc]
theorem dRow_cons (e rsep : Txt) (w : Wd) (ws : List Wd) : dRow e rsep (w :: ws) = dwW e w ++ ws.flatMap (fun w => rsep ++ dwW e w) := by
  rw [dRow, List.map_cons, joinT_cons, List.flatMap_map]

theorem dwW_hk {e : Txt} {w : Wd} (V : Vw w) (X : Txt) : hk (dwW e w ++ X) := by
  obtain ⟨k, o⟩ := w
  cases o with
  | none => exact hk.app V.ne V.tok X
  | some v =>
    have := hk.app V.ne V.tok ((e ++ (34 :: (esc2 v ++ [34]))) ++ X)
    simpa [dwW] using this

theorem dTail_nk {e rsep sep : Txt} (D : Dress e rsep sep) {cur : List Wd} {rest : List (List Wd)} (hc : ∀ w ∈ cur, Vw w) : nk (dTail e rsep sep cur rest) ∧ eqRe (dTail e rsep sep cur rest) = none := by
  cases cur with
  | cons w ws =>
    have V := hc w (List.mem_cons_self ..)
    have e1 : dTail e rsep sep (w :: ws) rest = rsep ++ (dwW e w ++ dTail e rsep sep ws rest) := by simp [dTail]
    rw [e1]
    exact ⟨D.rNk _, D.rEq _ (dwW_hk V _)⟩
  | nil =>
    cases rest with
    | nil => exact ⟨nk_nil, rfl⟩
    | cons r rs =>
      have e1 : dTail e rsep sep [] (r :: rs) = sep ++ (dRow e rsep r ++ dTail e rsep sep [] rs) := by simp [dTail]
      rw [e1]
      exact ⟨D.sNk _, D.sEq _⟩

theorem stp_dwW {e rsep sep : Txt} (D : Dress e rsep sep) {w : Wd} (V : Vw w) {T : Txt} (hT : nk T ∧ eqRe T = none) : stp (dwW e w ++ T) = .word w T := by
  obtain ⟨k, o⟩ := w
  have Vn : k ≠ [] := V.ne
  have Vt : ∀ c ∈ k, tokC c = true := V.tok
  cases o with
  | none =>
    show stp (k ++ T) = _
    rw [stp_key Vn Vt hT.1, word_none hT.2]
  | some v =>
    have e1 : dwW e (k, some v) ++ T = k ++ (e ++ 34 :: (esc2 v ++ 34 :: T)) := by simp [dwW]
    rw [e1, stp_key Vn Vt (D.eNk _), word_quot (D.eEq _) (esc2_QB v).1, (esc2_QB v).2]

theorem fin_dTail {e rsep sep : Txt} (D : Dress e rsep sep) : ∀ (rest : List (List Wd)) (cur : List Wd) (p : List Wd), (∀ w ∈ cur, Vw w) → (∀ r ∈ rest, r ≠ [] ∧ ∀ w ∈ r, Vw w) → p ≠ [] → fin p (dTail e rsep sep cur rest) = (p ++ cur) :: rest := by
  intro rest
  induction rest with
  | nil =>
    intro cur
    induction cur with
    | nil =>
      intro p _ _ hp
      show fin p [] = _
      rw [fin_nil, rows_cons hp, List.append_nil]
      rfl
    | cons w ws ih =>
      intro p hc hr hp
      have V := hc w (List.mem_cons_self ..)
      have hc' : ∀ w ∈ ws, Vw w := fun x hx => hc x (List.mem_cons_of_mem _ hx)
      have e1 : dTail e rsep sep (w :: ws) [] = rsep ++ (dwW e w ++ dTail e rsep sep ws []) := by simp [dTail]
      rw [e1, D.rFin _ (dwW_hk V _), fin_word (dwW_hk V _).ne (stp_dwW D V (dTail_nk D hc')), ih (p ++ [w]) hc' hr (by simp)]
      simp
  | cons r rs ihr =>
    intro cur
    induction cur with
    | nil =>
      intro p _ hr hp
      have R := hr r (List.mem_cons_self ..)
      have hr' : ∀ x ∈ rs, x ≠ [] ∧ ∀ w ∈ x, Vw w := fun x hx => hr x (List.mem_cons_of_mem _ hx)
      have e1 : dTail e rsep sep [] (r :: rs) = sep ++ (dRow e rsep r ++ dTail e rsep sep [] rs) := by simp [dTail]
      rw [e1, D.sFin, rows_cons hp]
      cases r with
      | nil => exact absurd rfl R.1
      | cons w ws =>
        have V := R.2 w (List.mem_cons_self ..)
        have hc' : ∀ w ∈ ws, Vw w := fun x hx => R.2 x (List.mem_cons_of_mem _ hx)
        have e2 : dRow e rsep (w :: ws) ++ dTail e rsep sep [] rs = dwW e w ++ dTail e rsep sep ws rs := by
          rw [dRow_cons]; simp [dTail]
        rw [e2, fin_word (dwW_hk V _).ne (stp_dwW D V (dTail_nk D hc')), ihr ws ([] ++ [w]) hc' hr' (by simp)]
        simp [rows]
    | cons w ws ih =>
      intro p hc hr hp
      have V := hc w (List.mem_cons_self ..)
      have hc' : ∀ w ∈ ws, Vw w := fun x hx => hc x (List.mem_cons_of_mem _ hx)
      have e1 : dTail e rsep sep (w :: ws) (r :: rs) = rsep ++ (dwW e w ++ dTail e rsep sep ws (r :: rs)) := by simp [dTail]
      rw [e1, D.rFin _ (dwW_hk V _), fin_word (dwW_hk V _).ne (stp_dwW D V (dTail_nk D hc')), ih (p ++ [w]) hc' hr (by simp)]
      simp

theorem fin_dress {e rsep sep : Txt} (D : Dress e rsep sep) {l : List (List Wd)} (hl : Vl l) : fin [] (joinT sep (l.map (dRow e rsep))) = l ∧ (l ≠ [] → hk (joinT sep (l.map (dRow e rsep)))) := by
  cases l with
  | nil => exact ⟨rfl, fun h => absurd rfl h⟩
  | cons r rs =>
    have R := hl r (List.mem_cons_self ..)
    have hr' : ∀ x ∈ rs, x ≠ [] ∧ ∀ w ∈ x, Vw w := fun x hx => hl x (List.mem_cons_of_mem _ hx)
    cases r with
    | nil => exact absurd rfl R.1
    | cons w ws =>
      have V := R.2 w (List.mem_cons_self ..)
      have hc' : ∀ w ∈ ws, Vw w := fun x hx => R.2 x (List.mem_cons_of_mem _ hx)
      have e2 : joinT sep (((w :: ws) :: rs).map (dRow e rsep)) = dwW e w ++ dTail e rsep sep ws rs := by
        rw [List.map_cons, joinT_cons, dRow_cons, List.flatMap_map]; simp [dTail]
      rw [e2]
      refine ⟨?_, fun _ => dwW_hk V _⟩
      rw [fin_word (dwW_hk V _).ne (stp_dwW D V (dTail_nk D hc')), fin_dTail D rs ws ([] ++ [w]) hc' hr' (by simp)]
      simp

theorem dwj {c : Nat} {t u : Txt} (h : junkC c = true) (e : t.dropWhile junkC = u) : (c :: t).dropWhile junkC = u := by rw [dw_cons_pos h, e]

theorem e0_ok : (∀ X, nk ([32, 61, 32] ++ X)) ∧ (∀ X, eqRe ([32, 61, 32] ++ 34 :: X) = some (34 :: X)) :=
  ⟨fun X => nk_cons (by decide +kernel), fun X => by
    show eqRe (32 :: 61 :: 32 :: 34 :: X) = _
    rw [eqRe_is (u := 32 :: 34 :: X) (by rw [dw_cons_pos sp_32, dw_cons_neg sp_61]), dw_cons_pos sp_32, dw_cons_neg sp_34]⟩
theorem e1_ok : (∀ X, nk ([61, 10] ++ X)) ∧ (∀ X, eqRe ([61, 10] ++ 34 :: X) = some (34 :: X)) :=
  ⟨fun X => nk_cons (by decide +kernel), fun X => by
    show eqRe (61 :: 10 :: 34 :: X) = _
    rw [eqRe_is (u := 10 :: 34 :: X) (dw_cons_neg sp_61), dw_cons_pos sp_10, dw_cons_neg sp_34]⟩
theorem r0_ok : (∀ X, nk ([10, 59, 61, 32] ++ X)) ∧ (∀ u, hk u → eqRe ([10, 59, 61, 32] ++ u) = none) ∧ (∀ u, hk u → ∀ p, fin p ([10, 59, 61, 32] ++ u) = fin p u) := by
  refine ⟨fun X => nk_cons (by decide +kernel), fun u _ => eqRe_no fun v hv => ?_, fun u hu p => ?_⟩
  · have hv : (10 :: 59 :: 61 :: 32 :: u : Txt).dropWhile sp = 61 :: v := hv
    rw [dw_cons_pos sp_10, dw_cons_neg sp_59] at hv
    cases hv
  · have e : (10 :: 59 :: 61 :: 32 :: u : Txt).dropWhile sp = 59 :: 61 :: 32 :: u := by rw [dw_cons_pos sp_10, dw_cons_neg sp_59]
    refine fin_junkOf (u := 10 :: 59 :: 61 :: 32 :: u) (by simp) (tokRe_no e (nk_cons tokC_59)) ?_ ?_ p
    · intro r hr
      rw [e] at hr
      cases hr
    · exact dwj junkC_10 (dwj junkC_59 (dwj junkC_61 (dwj junkC_32 hu.dj)))
theorem r1_ok : (∀ X, nk ([32] ++ X)) ∧ (∀ u, hk u → eqRe ([32] ++ u) = none) ∧ (∀ u, hk u → ∀ p, fin p ([32] ++ u) = fin p u) := by
  refine ⟨fun X => nk_cons (by decide +kernel), fun u hu => ?_, fun u hu p => fin_sp sp_32 hu p⟩
  have := hu.no_eq
  unfold eqRe at this ⊢
  show (match (32 :: u : Txt).dropWhile sp with | 61 :: u => some (u.dropWhile sp) | _ => none) = none
  rw [dw_cons_pos sp_32]
  exact this
theorem r2_ok : (∀ X, nk ([59, 59] ++ X)) ∧ (∀ u, hk u → eqRe ([59, 59] ++ u) = none) ∧ (∀ u, hk u → ∀ p, fin p ([59, 59] ++ u) = fin p u) := by
  refine ⟨fun X => nk_cons (by decide +kernel), fun u _ => eqRe_no fun v hv => ?_, fun u hu p => fin_semi (u := 59 :: u) (dwj junkC_59 hu.dj) p⟩
  have hv : (59 :: 59 :: u : Txt).dropWhile sp = 61 :: v := hv
  rw [dw_cons_neg sp_59] at hv
  cases hv
theorem s0_ok : (∀ X, nk ([44] ++ X)) ∧ (∀ u, eqRe ([44] ++ u) = none) ∧ (∀ u p, fin p ([44] ++ u) = rows [p] ++ fin [] u) := by
  refine ⟨fun X => nk_cons (by decide +kernel), fun u => eqRe_no fun v hv => ?_, fun u p => fin_44 u p⟩
  have hv : (44 :: u : Txt).dropWhile sp = 61 :: v := hv
  rw [dw_cons_neg sp_44] at hv
  cases hv
theorem s1_ok : (∀ X, nk ([32, 44, 59, 44] ++ X)) ∧ (∀ u, eqRe ([32, 44, 59, 44] ++ u) = none) ∧ (∀ u p, fin p ([32, 44, 59, 44] ++ u) = rows [p] ++ fin [] u) := by
  refine ⟨fun X => nk_cons (by decide +kernel), fun u => eqRe_no fun v hv => ?_, fun u p => ?_⟩
  · have hv : (32 :: 44 :: 59 :: 44 :: u : Txt).dropWhile sp = 61 :: v := hv
    rw [dw_cons_pos sp_32, dw_cons_neg sp_44] at hv
    cases hv
  · show fin p (32 :: 44 :: 59 :: 44 :: u) = _
    rw [fin_sp44 sp_32, fin_semi (u := 44 :: u) (v := 44 :: u) (dw_cons_neg junkC_44), fin_44]
    rfl

def eW (b : Bool) : Txt := if b then [61, 10] else [32, 61, 32]
def preW (b : Bool) : Txt := if b then [] else [32, 59, 61]
def sepW (b : Bool) : Txt := if b then [32, 44, 59, 44] else [44]
def rsepW (k : Nat) : Txt := if k = 0 then [10, 59, 61, 32] else if k = 1 then [32] else [59, 59]
theorem dress_ok (b : Bool) (k : Nat) : Dress (eW b) (rsepW k) (sepW b) := by
  have hr : (∀ X, nk (rsepW k ++ X)) ∧ (∀ u, hk u → eqRe (rsepW k ++ u) = none) ∧ (∀ u, hk u → ∀ p, fin p (rsepW k ++ u) = fin p u) := by
    unfold rsepW
    split
    · exact r0_ok
    · split
      · exact r1_ok
      · exact r2_ok
  cases b with
  | false => exact ⟨e0_ok.1, e0_ok.2, hr.1, hr.2.1, hr.2.2, s0_ok.1, s0_ok.2.1, s0_ok.2.2⟩
  | true => exact ⟨e1_ok.1, e1_ok.2, hr.1, hr.2.1, hr.2.2, s1_ok.1, s1_ok.2.1, s1_ok.2.2⟩

theorem parse_dress (b : Bool) (k : Nat) {l : List (List Wd)} (hl : Vl l) : parse (dTxt (preW b) (eW b) (rsepW k) (sepW b) l) = l := by
  obtain ⟨h1, h2⟩ := fin_dress (dress_ok b k) hl
  unfold parse dTxt
  cases b with
  | true => exact h1
  | false =>
    show fin [] (32 :: 59 :: 61 :: joinT (sepW false) (l.map (dRow (eW false) (rsepW k)))) = l
    have hJ : (joinT (sepW false) (l.map (dRow (eW false) (rsepW k)))).dropWhile junkC = joinT (sepW false) (l.map (dRow (eW false) (rsepW k))) := by
      by_cases hn : l = []
      · subst hn; rfl
      · exact (h2 hn).dj
    generalize joinT (sepW false) (l.map (dRow (eW false) (rsepW k))) = J at h1 hJ
    have e : (32 :: 59 :: 61 :: J : Txt).dropWhile sp = 59 :: 61 :: J := by rw [dw_cons_pos sp_32, dw_cons_neg sp_59]
    rw [← h1]
    refine (fin_junkOf (by simp) (tokRe_no e (nk_cons tokC_59)) ?_ (dwj junkC_32 (dwj junkC_59 (dwj junkC_61 hJ))) []).trans (by rw [h1])
    intro r hr
    rw [e] at hr
    cases hr

/-! ### the signs -/
def AL (c : Nat) : Prop := c = 97 ∨ c = 98 ∨ c = 61 ∨ c = 34 ∨ c = 92 ∨ c = 32 ∨ c = 59 ∨ c = 44 ∨ c = 10
def ALt (t : Txt) : Prop := ∀ c ∈ t, AL c
theorem ALt.ok {t : Txt} (h : ALt t) : okT t := by
  intro c hc hs
  rcases h c hc with h | h | h | h | h | h | h | h | h <;> subst h
  · rw [sp_97] at hs; cases hs
  · rw [sp_98] at hs; cases hs
  · rw [sp_61] at hs; cases hs
  · rw [sp_34] at hs; cases hs
  · rw [sp_92] at hs; cases hs
  · exact .inl rfl
  · rw [sp_59] at hs; cases hs
  · rw [sp_44] at hs; cases hs
  · exact .inr rfl
theorem ALt.app {a b : Txt} (ha : ALt a) (hb : ALt b) : ALt (a ++ b) := fun c hc => (List.mem_append.mp hc).elim (ha c) (hb c)
theorem ALt.cons {a : Nat} {b : Txt} (ha : AL a) (hb : ALt b) : ALt (a :: b) := fun c hc => by
  rcases List.mem_cons.mp hc with rfl | h
  · exact ha
  · exact hb c h
theorem ALt.nil : ALt [] := fun c hc => by cases hc
def ALw (w : Wd) : Prop := ALt w.1 ∧ ∀ v, w.2 = some v → ALt v
theorem ALt_escV {v : Txt} (h : ALt v) : ALt (escV v) := by
  intro c hc
  rcases escV_mem hc with rfl | h'
  · simp [AL]
  · exact h c h'
theorem ALt_encV {o : Option Txt} (h : ∀ v, o = some v → ALt v) : ALt (encV o) := by
  cases o with
  | none => exact .nil
  | some v =>
    simp only [encV]
    split
    · exact .cons (by simp [AL]) (h v rfl)
    · exact .cons (by simp [AL]) (.cons (by simp [AL]) ((ALt_escV (h v rfl)).app (.cons (by simp [AL]) .nil)))
theorem ALt_gapOf {g : Nat} (h : AL g) (o : Option Txt) : ALt (gapOf g o) := by
  cases o with
  | none => exact .cons h .nil
  | some v =>
    simp only [gapOf]
    split
    · split
      · exact .cons (by simp [AL]) .nil
      · exact .cons h .nil
    · exact .nil
theorem ALt_rowS {gs : Nat → Nat} : ∀ (ws : List Wd) (n : Nat) (gap : Txt), (∀ i, i < n + ws.length → AL (gs i)) → ALt gap → (∀ w ∈ ws, ALw w) → ALt (rowS gs n gap ws)
  | [], _, _, _, _, _ => .nil
  | w :: ws, n, gap, hg, h, hw => by
    rw [rowS]
    have W := hw w (List.mem_cons_self ..)
    exact h.app (W.1.app ((ALt_encV W.2).app (ALt_rowS ws (n + 1) _ (fun i hi => hg i (by simp; lia)) (ALt_gapOf (hg n (by simp)) _) fun x hx => hw x (List.mem_cons_of_mem _ hx))))
theorem ALt_joinT {sep : Txt} (hs : ALt sep) : ∀ (l : List Txt), (∀ x ∈ l, ALt x) → ALt (joinT sep l)
  | [], _ => .nil
  | [x], h => h x (List.mem_cons_self ..)
  | x :: y :: r, h => by
    rw [joinT]
    exact (h x (List.mem_cons_self ..)).app (hs.app (ALt_joinT hs (y :: r) fun z hz => h z (List.mem_cons_of_mem _ hz)))
theorem ALt_rowsS {gs : Nat → Nat} : ∀ (l : List (List Wd)) (n : Nat), (∀ i, i < n + words l → AL (gs i)) → (∀ r ∈ l, ∀ w ∈ r, ALw w) → ∀ x ∈ rowsS gs n l, ALt x
  | [], _, _, _ => fun x hx => by cases hx
  | r :: rs, n, hg, hw => by
    intro x hx
    rw [rowsS] at hx
    rcases List.mem_cons.mp hx with rfl | hx
    · exact ALt_rowS r n [] (fun i hi => hg i (by simp [words]; lia)) .nil (hw r (List.mem_cons_self ..))
    · exact ALt_rowsS rs (n + r.length) (fun i hi => hg i (by simp [words] at hi ⊢; lia)) (fun y hy => hw y (List.mem_cons_of_mem _ hy)) x hx
theorem ALt_shS {gs : Nat → Nat} {l : List (List Wd)} (hg : ∀ i, i < words l → AL (gs i)) (hw : ∀ r ∈ l, ∀ w ∈ r, ALw w) : ALt (shS gs l) :=
  ALt_joinT (.cons (by simp [AL]) .nil) _ (ALt_rowsS l 0 (fun i hi => hg i (by lia)) hw)

/-! ### the law's comparison, sign by sign -/
def okPair (one two : Nat) : Bool := one == two || (two == 9 && (one == 59 || one == 32 || one == 10))
theorem okPair_iff {one two : Nat} : okPair one two = true ↔ m1 two one := by
  simp [okPair, m1]
  constructor
  · rintro (h | ⟨h1, h2⟩)
    · exact .inl h
    · exact .inr ⟨h1, by rcases h2 with (h | h) | h <;> simp [h]⟩
  · rintro (h | ⟨h1, h2⟩)
    · exact .inl h
    · exact .inr ⟨h1, by rcases h2 with h | h | h <;> simp [h]⟩
theorem mt_zip : ∀ (l t : Txt), mt l t ↔ t.length = l.length ∧ (t.zip l).all (fun x => okPair x.1 x.2) = true
  | [], [] => ⟨fun _ => ⟨rfl, rfl⟩, fun _ => .nil⟩
  | [], _ :: _ => ⟨fun h => (by cases h), fun h => (by simp at h)⟩
  | _ :: _, [] => ⟨fun h => (by cases h), fun h => (by simp at h)⟩
  | a :: l, b :: t => by
    constructor
    · intro h
      cases h with
      | cons h1 h2 =>
        obtain ⟨i1, i2⟩ := (mt_zip l t).mp h2
        refine ⟨by simp [i1], ?_⟩
        rw [List.zip_cons_cons, List.all_cons, Bool.and_eq_true]
        exact ⟨okPair_iff.mpr h1, i2⟩
    · intro ⟨h1, h2⟩
      rw [List.zip_cons_cons, List.all_cons, Bool.and_eq_true] at h2
      exact .cons (okPair_iff.mp h2.1) ((mt_zip l t).mpr ⟨by simpa using h1, h2.2⟩)
end Mine
end

section
set_option autoImplicit false
namespace Mine

/-! ### signs within the range -/
def Sm (t : Txt) : Prop := ∀ c ∈ t, c < 1114112
def SmW (w : Wd) : Prop := Sm w.1 ∧ ∀ v, w.2 = some v → Sm v
theorem Sm.app {a b : Txt} (h : Sm (a ++ b)) : Sm a ∧ Sm b := ⟨fun c hc => h c (List.mem_append_left _ hc), fun c hc => h c (List.mem_append_right _ hc)⟩
theorem unesc_mem : ∀ (n : Nat) (t : Txt), t.length ≤ n → ∀ c ∈ unesc t, c ∈ t
  | 0, t, h, c, hc => by
    have : t = [] := List.eq_nil_of_length_eq_zero (by lia)
    subst this; exact hc
  | n + 1, [], _, c, hc => hc
  | n + 1, [a], _, c, hc => hc
  | n + 1, a :: b :: r, h, c, hc => by
    rw [unesc] at hc
    simp only [List.length_cons] at h
    split at hc
    · rcases List.mem_cons.mp hc with rfl | hc
      · exact .tail _ (.head _)
      · exact .tail _ (.tail _ (unesc_mem n r (by lia) c hc))
    · rcases List.mem_cons.mp hc with rfl | hc
      · exact .head _
      · exact .tail _ (unesc_mem n (b :: r) (by simp only [List.length_cons]; lia) c hc)
theorem Val.small {o : Option Txt} {vp r : Txt} (h : Val o vp r) (hs : Sm vp) : ∀ v, o = some v → Sm v := by
  intro v hv c hc
  cases h with
  | no _ => cases hv
  | bare _ _ _ =>
    cases hv
    exact hs c (by simp [hc])
  | quot _ =>
    cases hv
    exact hs c (by have := unesc_mem _ _ (Nat.le_refl _) c hc; simp [this])
theorem ev_small : ∀ (n : Nat) (t : Txt), t.length ≤ n → Sm t → ∀ w, some w ∈ ev t → SmW w
  | 0, t, h, _, w, hw => by
    have : t = [] := List.eq_nil_of_length_eq_zero (by lia)
    subst this; rw [ev_nil] at hw; cases hw
  | n + 1, t, h, hs, w, hw => by
    by_cases ht : t = []
    · subst ht; rw [ev_nil] at hw; cases hw
    have hlt := stp_lt ht
    have hk := took ht
    rw [ev_cons ht] at hw
    generalize stp t = x at hw hlt hk
    cases hk with
    | @word a k vp r o e _ _ _ hv =>
      have hr : Sm r := by rw [e] at hs; exact hs.app.2.app.2.app.2
      simp only [Stp.rest] at hlt
      rcases List.mem_cons.mp hw with e2 | hw
      · cases e2
        rw [e] at hs
        exact ⟨hs.app.2.app.1, hv.small hs.app.2.app.2.app.1⟩
      · exact ev_small n r (by lia) hr w hw
    | @comma a r e _ =>
      have hr : Sm r := by
        rw [e] at hs
        exact fun c hc => hs.app.2 c (.tail _ hc)
      simp only [Stp.rest] at hlt
      rcases List.mem_cons.mp hw with e2 | hw
      · cases e2
      · exact ev_small n r (by lia) hr w hw
    | @junk a r e _ _ _ =>
      have hr : Sm r := by rw [e] at hs; exact hs.app.2
      simp only [Stp.rest] at hlt
      exact ev_small n r (by lia) hr w hw
theorem grp_mem : ∀ (es : List (Option Wd)), (∀ w ∈ (grp es).1, some w ∈ es) ∧ ∀ r ∈ (grp es).2, ∀ w ∈ r, some w ∈ es
  | [] => ⟨fun w hw => by simp [grp] at hw, fun r hr => by simp [grp] at hr⟩
  | some w :: es => by
    obtain ⟨h1, h2⟩ := grp_mem es
    refine ⟨fun x hx => ?_, fun r hr x hx => .tail _ (h2 r hr x hx)⟩
    rcases List.mem_cons.mp hx with rfl | hx
    · exact .head _
    · exact .tail _ (h1 x hx)
  | none :: es => by
    obtain ⟨h1, h2⟩ := grp_mem es
    refine ⟨fun x hx => by simp [grp] at hx, fun r hr x hx => ?_⟩
    rcases List.mem_cons.mp hr with rfl | hr
    · exact .tail _ (h1 x hx)
    · exact .tail _ (h2 r hr x hx)
theorem parse_small {t : Txt} (h : Sm t) : ∀ r ∈ parse t, ∀ w ∈ r, SmW w := by
  intro r hr w hw
  unfold parse fin rows at hr
  obtain ⟨hr, _⟩ := List.mem_filter.mp hr
  obtain ⟨h1, h2⟩ := grp_mem (ev t)
  rcases List.mem_cons.mp hr with rfl | hr
  · exact ev_small _ t (Nat.le_refl _) h w (h1 w (by simpa using hw))
  · exact ev_small _ t (Nat.le_refl _) h w (h2 r hr w hw)
end Mine
end

section
set_option linter.unusedSimpArgs false
set_option linter.unusedVariables false
namespace Mine
open PySem PySem.Sre

def stepN : Nat → M → M
  | 0, m => m
  | n + 1, m => stepN n m.step
theorem stepN_add : ∀ (a b : Nat) (m : M), stepN (a + b) m = stepN b (stepN a m)
  | 0, b, m => by rw [Nat.zero_add]; rfl
  | a + 1, b, m => by
    rw [show a + 1 + b = (a + b) + 1 by lia]
    exact stepN_add a b m.step

/-- m' is reached from m in at most b steps, whatever has been seen -/
def Go (b : Nat) (m m' : M) : Prop := ∀ sn, ∃ n sn', n ≤ b ∧ stepN n { m with seen := sn } = { m' with seen := sn' }
theorem Go.refl (m : M) : Go 0 m m := fun sn => ⟨0, sn, Nat.le_refl _, rfl⟩
theorem Go.trans {a b : Nat} {m m' m'' : M} (h : Go a m m') (h' : Go b m' m'') : Go (a + b) m m'' := fun sn => by
  obtain ⟨n, s1, l1, e1⟩ := h sn
  obtain ⟨k, s2, l2, e2⟩ := h' s1
  exact ⟨n + k, s2, by lia, by rw [stepN_add, e1, e2]⟩
theorem Go.mono {a b : Nat} {m m' : M} (h : Go a m m') (hab : a ≤ b) : Go b m m' := fun sn => by
  obtain ⟨n, s1, l1, e1⟩ := h sn
  exact ⟨n, s1, by lia, e1⟩
theorem Go.one {m m' : M} (h : ∀ sn, ∃ sn', M.step { m with seen := sn } = { m' with seen := sn' }) : Go 1 m m' := fun sn => by
  obtain ⟨s1, e⟩ := h sn
  exact ⟨1, s1, Nat.le_refl _, e⟩

theorem op_ANY : ops[(2 : Nat)]? = some .ANY := rfl
theorem op_AT : ops[(6 : Nat)]? = some .AT := rfl
theorem op_LIT : ops[(16 : Nat)]? = some .LITERAL := rfl
theorem op_MARK : ops[(17 : Nat)]? = some .MARK := rfl
theorem op_R1 : ops[(24 : Nat)]? = some .REPEAT_ONE := rfl
theorem op_REP : ops[(23 : Nat)]? = some .REPEAT := rfl
theorem op_MAXU : ops[(18 : Nat)]? = some .MAX_UNTIL := rfl
theorem op_SUC : ops[(1 : Nat)]? = some .SUCCESS := rfl
theorem op_IN : ops[(13 : Nat)]? = some .IN := rfl

/-- it stands at the word k -/
structure At (m : M) (k : Nat) : Prop where
  out : m.outcome = none
  ans : m.answer = none
  pc : m.pc < m.code.size
  op : m.code.getD m.pc 0 = k

theorem isAt_0 (m : M) : m.isAt 0 = .ok (m.pos == 0) := rfl
theorem step_at {m : M} (h : At m 6) (h1 : m.code.getD (m.pc + 1) 0 = 0) : Go 1 m (if m.pos = 0 then { m with pc := m.pc + 2 } else { m with answer := some false }) := Go.one fun sn => by
  obtain ⟨ho, ha, hp, hk⟩ := h
  refine ⟨(sn.add 6).add 43, ?_⟩
  unfold M.step M.exec
  simp only [ho, ha, hp, M.word, hk, h1, op_AT, Option.isSome_none, Bool.false_eq_true, if_false, if_true, Nat.add_zero, isAt_0, M.say]
  by_cases hz : m.pos = 0 <;> simp [hz, ho]

theorem step_lit {m : M} (h : At m 16) {c : Nat} (h1 : m.code.getD (m.pc + 1) 0 = c) : Go 1 m (if m.pos < m.lim ∧ m.text.getD m.pos 0 = c then { m with pc := m.pc + 2, pos := m.pos + 1 } else { m with answer := some false }) := Go.one fun sn => by
  obtain ⟨ho, ha, hp, hk⟩ := h
  refine ⟨sn.add 16, ?_⟩
  unfold M.step M.exec
  simp only [ho, ha, hp, M.word, hk, h1, op_LIT, Option.isSome_none, Bool.false_eq_true, if_false, if_true, Nat.add_zero, M.say, accepts, itemWidth]
  by_cases hz : m.pos < m.lim
  · rw [if_neg (by lia)]
    by_cases hc : m.text.getD m.pos 0 = c
    · simp [hz, hc]
    · have : (m.text.getD m.pos 0 == c) = false := by simpa using hc
      simp only [this, hz, hc, true_and, if_false]
  · rw [if_pos (by lia)]
    simp [hz]
theorem step_any {m : M} (h : At m 2) : Go 1 m (if m.pos < m.lim ∧ m.text.getD m.pos 0 ≠ 10 then { m with pc := m.pc + 1, pos := m.pos + 1 } else { m with answer := some false }) := Go.one fun sn => by
  obtain ⟨ho, ha, hp, hk⟩ := h
  refine ⟨sn.add 2, ?_⟩
  unfold M.step M.exec
  simp only [ho, ha, hp, M.word, hk, op_ANY, Option.isSome_none, Bool.false_eq_true, if_false, if_true, Nat.add_zero, M.say, accepts, itemWidth]
  by_cases hz : m.pos < m.lim
  · rw [if_neg (by lia)]
    by_cases hc : m.text.getD m.pos 0 = 10
    · simp [hz, hc]
    · have : (m.text.getD m.pos 0 != 10) = true := by simpa using hc
      simp only [this, hz, hc, true_and, if_true, ne_eq, not_false_eq_true]
  · rw [if_pos (by lia)]
    simp [hz]
theorem step_mark0 {m : M} (h : At m 17) (h1 : m.code.getD (m.pc + 1) 0 = 0) (hl : m.lastmark = -1) : Go 1 m { m with marks := m.marks.setIfInBounds 0 (some m.pos), lastmark := 0, pc := m.pc + 2 } := Go.one fun sn => by
  obtain ⟨ho, ha, hp, hk⟩ := h
  refine ⟨sn.add 17, ?_⟩
  unfold M.step M.exec
  simp only [ho, ha, hp, M.word, hk, h1, op_MARK, Option.isSome_none, Bool.false_eq_true, if_false, if_true, Nat.add_zero, M.mark, hl]
  rfl
theorem step_mark1 {m : M} (h : At m 17) (h1 : m.code.getD (m.pc + 1) 0 = 1) (hl : m.lastmark = 0) : Go 1 m { m with marks := m.marks.setIfInBounds 1 (some m.pos), lastmark := 1, lastindex := 1, pc := m.pc + 2 } := Go.one fun sn => by
  obtain ⟨ho, ha, hp, hk⟩ := h
  refine ⟨sn.add 17, ?_⟩
  unfold M.step M.exec
  simp only [ho, ha, hp, M.word, hk, h1, op_MARK, Option.isSome_none, Bool.false_eq_true, if_false, if_true, Nat.add_zero, M.mark, hl]
  rfl
theorem step_suc {m : M} (h : At m 1) (hw : m.wholeText = false) (hm : m.mustAdvance = true → m.pos ≠ m.start) : Go 1 m { m with handed := m.pos, answer := some true } := Go.one fun sn => by
  obtain ⟨ho, ha, hp, hk⟩ := h
  refine ⟨sn.add 1, ?_⟩
  unfold M.step M.exec
  have : (m.mustAdvance && m.pos == m.start) = false := by
    cases hma : m.mustAdvance with
    | false => rfl
    | true => simpa using hm hma
  simp only [ho, ha, hp, M.word, hk, op_SUC, Option.isSome_none, Bool.false_eq_true, if_false, if_true, Nat.add_zero, M.say, hw, Bool.false_and, Bool.false_or, this, Bool.and_false]

/-! ### a run of one item -/
/-- the item at i takes the signs that P says -/
def Takes (code : Array Nat) (i : Nat) (P : Nat → Bool) : Prop := ∀ c sn, ∃ sn', accepts code i c sn = .ok (P c, sn')
/-- the number of signs from p on, n at most, that P says -/
def cnt (text : Array Nat) (P : Nat → Bool) : Nat → Nat → Nat
  | 0, _ => 0
  | n + 1, p => if P (text.getD p 0) then cnt text P n (p + 1) + 1 else 0
theorem run_is {code text : Array Nat} {i : Nat} {P : Nat → Bool} (T : Takes code i P) : ∀ (n p found : Nat) (sn : Seen), ∃ sn', PySem.Sre.run code text i n p found sn = .ok (found + cnt text P n p, sn')
  | 0, p, found, sn => ⟨sn, rfl⟩
  | n + 1, p, found, sn => by
    obtain ⟨s1, e1⟩ := T (text.getD p 0) sn
    obtain ⟨s2, e2⟩ := run_is T n (p + 1) (found + 1) s1
    cases hP : P (text.getD p 0) with
    | true =>
      refine ⟨s2, ?_⟩
      simp only [PySem.Sre.run, e1, hP, cnt]
      show (if true = true then PySem.Sre.run code text i n (p + 1) (found + 1) s1 else pure (found, s1)) = _
      rw [if_pos rfl, e2, if_pos trivial]
      rw [show found + 1 + cnt text P n (p + 1) = found + (cnt text P n (p + 1) + 1) by lia]
    | false =>
      refine ⟨s1, ?_⟩
      simp only [PySem.Sre.run, e1, hP, cnt]
      rfl

/-- the state behind a run of n signs -/
def M.past (m : M) (n skip : Nat) : M :=
  { m with pos := m.pos + n, frames := { wait := .giveBack, pc := m.pc, pos := m.pos + n, outermost := m.outermost, count := n, kept := m.keep m.inner.isSome } :: m.frames, weight := m.weight + 1 + (m.keep m.inner.isSome).marks.size, pc := m.pc + 1 + skip, handed := m.pos + n }
theorem step_r1 {m : M} (h : At m 24) {P : Nat → Bool} {skip least : Nat} (h1 : m.code.getD (m.pc + 1) 0 = skip) (h2 : m.code.getD (m.pc + 2) 0 = least) (h3 : m.code.getD (m.pc + 3) 0 = 4294967295)
    (T : Takes m.code (m.pc + 4) P) (hle : m.pos ≤ m.lim) (hlim : m.lim < 4294967295) (hw : m.weight + 1 + (m.keep m.inner.isSome).marks.size ≤ 16777216) :
    Go 1 m (if cnt m.text P (m.lim - m.pos) m.pos < least then { m with answer := some false } else M.past m (cnt m.text P (m.lim - m.pos) m.pos) skip) := Go.one fun sn => by
  obtain ⟨ho, ha, hp, hk⟩ := h
  have hroom : ((m.lim : Int) - m.pos).toNat = m.lim - m.pos := by lia
  have hmin : min 4294967295 (m.lim - m.pos) = m.lim - m.pos := by lia
  by_cases hl : (least : Int) > (m.lim : Int) - m.pos
  · have hc : cnt m.text P (m.lim - m.pos) m.pos < least := by
      have : ∀ (n p : Nat), cnt m.text P n p ≤ n := by
        intro n
        induction n with
        | zero => intro p; exact Nat.le_refl _
        | succ n ih => intro p; simp only [cnt]; split; have := ih (p + 1); lia; lia
      have := this (m.lim - m.pos) m.pos
      lia
    refine ⟨sn.add 24, ?_⟩
    rw [if_pos hc]
    unfold M.step M.exec
    simp only [ho, ha, hp, M.word, hk, h1, h2, h3, op_R1, Option.isSome_none, Bool.false_eq_true, if_false, if_true, Nat.add_zero, M.say, hl]
  · obtain ⟨s1, e1⟩ := run_is (text := m.text) T (m.lim - m.pos) m.pos 0 ((sn.add 24).add (m.code.getD (m.pc + 4) 0))
    refine ⟨s1, ?_⟩
    unfold M.step M.exec
    simp only [ho, ha, hp, M.word, hk, h1, h2, h3, op_R1, Option.isSome_none, Bool.false_eq_true, if_false, if_true, Nat.add_zero, M.say, hl, hroom, hmin, e1, Nat.zero_add]
    by_cases hc : cnt m.text P (m.lim - m.pos) m.pos < least
    · simp only [hc, if_true]
    · simp only [hc, if_false, M.afterRun, M.attempt, M.word, h1]
      rw [if_neg (by simp only [M.keep] at hw ⊢; lia)]
      simp only [M.past, ha, ho, M.frame, M.keep]

/-! ### failing -/
structure FailTo (m m' : M) : Prop where
  ans : m'.answer = some false
  frames : m'.frames = m.frames
  weight : m'.weight = m.weight
  code : m'.code = m.code
  text : m'.text = m.text
  lim : m'.lim = m.lim
  last : m'.lastStart = m.lastStart
  whole : m'.wholeText = m.wholeText
  must : m'.mustAdvance = m.mustAdvance
  inner : m'.inner = m.inner
  loops : m'.loops = m.loops
  out : m'.outcome = m.outcome
  marks : m'.marks.size = m.marks.size
def Fails (b : Nat) (m : M) : Prop := ∃ m', Go b m m' ∧ FailTo m m'
theorem Fails.mono {a b : Nat} {m : M} (h : Fails a m) (hab : a ≤ b) : Fails b m := let ⟨m', g, f⟩ := h; ⟨m', g.mono hab, f⟩
/-- the parts that a failing run leaves as they were -/
structure Same (m m' : M) : Prop where
  frames : m'.frames = m.frames
  weight : m'.weight = m.weight
  code : m'.code = m.code
  text : m'.text = m.text
  lim : m'.lim = m.lim
  last : m'.lastStart = m.lastStart
  whole : m'.wholeText = m.wholeText
  must : m'.mustAdvance = m.mustAdvance
  inner : m'.inner = m.inner
  loops : m'.loops = m.loops
  out : m'.outcome = m.outcome
  marks : m'.marks.size = m.marks.size
theorem Fails.step {a b : Nat} {m m' : M} (g : Go a m m') (s : Same m m') (h : Fails b m') : Fails (a + b) m := by
  obtain ⟨m'', g', f⟩ := h
  exact ⟨m'', g.trans g', ⟨f.ans, f.frames.trans s.frames, f.weight.trans s.weight, f.code.trans s.code, f.text.trans s.text, f.lim.trans s.lim, f.last.trans s.last, f.whole.trans s.whole, f.must.trans s.must,
    f.inner.trans s.inner, f.loops.trans s.loops, f.out.trans s.out, f.marks.trans s.marks⟩⟩
theorem Fails.now {m : M} {a : Nat} (g : Go a m { m with answer := some false }) : Fails a m := ⟨_, g, ⟨rfl, rfl, rfl, rfl, rfl, rfl, rfl, rfl, rfl, rfl, rfl, rfl, rfl⟩⟩

theorem size_put {m : M} {k : PySem.Sre.Kept} (hk : k.whole = true → k.marks.size ≤ m.marks.size) : (m.putBack k).marks.size = m.marks.size := by
  simp only [M.putBack]
  split
  · rename_i h
    have := hk h
    simp
    lia
  · rfl

/-- giving back, one sign after the other -/
theorem giveBack_fails {m : M} {skip least N c : Nat} {B S : Nat → Nat} (hS0 : B 0 + 1 ≤ S 0) (hS : ∀ n, S n + B (n + 1) + 1 ≤ S (n + 1)) (ho : m.outcome = none) (h1 : m.code.getD (m.pc + 1) 0 = skip) (h2 : m.code.getD (m.pc + 2) 0 = least)
    {kept : PySem.Sre.Kept} (hkm : kept.whole = true → kept.marks.size ≤ N) (hw : m.weight + 1 + kept.marks.size ≤ 16777216)
    (hf : ∀ (n : Nat) (m' : M), Same m { m' with frames := m.frames, weight := m.weight } → m'.frames = { wait := .giveBack, pc := m.pc, pos := m.pos + n, outermost := m.outermost, count := n, kept := kept } :: m.frames → m'.weight = m.weight + 1 + kept.marks.size →
      m'.answer = none → m'.pc = m.pc + 1 + skip → m'.pos = m.pos + n → m'.lastmark = kept.lastmark → m'.lastindex = kept.lastindex → m'.outermost = m.outermost → least ≤ n → n ≤ c → Fails (B n) m') (hN : m.marks.size = N) :
    ∀ (n : Nat) (m' : M), Same m { m' with frames := m.frames, weight := m.weight } → m'.frames = { wait := .giveBack, pc := m.pc, pos := m.pos + n, outermost := m.outermost, count := n, kept := kept } :: m.frames → m'.weight = m.weight + 1 + kept.marks.size →
      m'.answer = none → m'.pc = m.pc + 1 + skip → m'.pos = m.pos + n → m'.lastmark = kept.lastmark → m'.lastindex = kept.lastindex → m'.outermost = m.outermost → least ≤ n → n ≤ c →
      ∃ m'', Go (S n) m' m'' ∧ FailTo m m'' := by
  intro n
  induction n with
  | zero =>
    intro m' Sm hfr hwt hans hpc hpos hlm hli hou hle hcn
    obtain ⟨m1, g1, f1⟩ := hf 0 m' Sm hfr hwt hans hpc hpos hlm hli hou hle hcn
    have e : Go 1 m1 ({ m1.putBack kept with answer := some false, frames := m.frames, weight := m.weight, pc := m.pc, pos := m.pos, outermost := m.outermost }) := Go.one fun sn => by
      refine ⟨sn, ?_⟩
      have ho1 : m1.outcome = none := f1.out.trans (Sm.out.trans ho)
      have hc1 : m1.code = m.code := f1.code.trans Sm.code
      unfold M.step
      simp only [ho1, Option.isSome_none, Bool.false_eq_true, if_false, f1.ans, f1.frames.trans hfr, M.resume]
      rw [if_pos (by lia)]
      simp only [M.say, M.putBack, f1.weight.trans hwt, ho1]
      congr 1
      lia
    refine ⟨_, (g1.trans e).mono (by lia), ?_⟩
    exact ⟨rfl, rfl, rfl, f1.code.trans Sm.code, f1.text.trans Sm.text, f1.lim.trans Sm.lim, f1.last.trans Sm.last, f1.whole.trans Sm.whole, f1.must.trans Sm.must, f1.inner.trans Sm.inner, f1.loops.trans Sm.loops, f1.out.trans Sm.out,
      (size_put (by intro h; have := hkm h; have h3 : m1.marks.size = m.marks.size := f1.marks.trans Sm.marks; lia)).trans (f1.marks.trans Sm.marks)⟩
  | succ n ih =>
    intro m' Sm hfr hwt hans hpc hpos hlm hli hou hle hcn
    obtain ⟨m1, g1, f1⟩ := hf (n + 1) m' Sm hfr hwt hans hpc hpos hlm hli hou hle hcn
    have ho1 : m1.outcome = none := f1.out.trans (Sm.out.trans ho)
    have hc1 : m1.code = m.code := f1.code.trans Sm.code
    have hmk : (m1.putBack kept).marks.size = m.marks.size := (size_put (by intro h; have := hkm h; have h3 : m1.marks.size = m.marks.size := f1.marks.trans Sm.marks; lia)).trans (f1.marks.trans Sm.marks)
    by_cases hl : n < least
    · have e : Go 1 m1 ({ m1.putBack kept with answer := some false, frames := m.frames, weight := m.weight, pc := m.pc, pos := m.pos + (n + 1), outermost := m.outermost }) := Go.one fun sn => by
        refine ⟨sn, ?_⟩
        unfold M.step
        simp only [ho1, Option.isSome_none, Bool.false_eq_true, if_false, f1.ans, f1.frames.trans hfr, M.resume, M.word, hc1, h2]
        rw [if_pos (by lia)]
        simp only [M.say, M.putBack, f1.weight.trans hwt, hc1, ho1]
        congr 1
        lia
      refine ⟨_, (g1.trans e).mono (by have := hS n; lia), ?_⟩
      exact ⟨rfl, rfl, rfl, f1.code.trans Sm.code, f1.text.trans Sm.text, f1.lim.trans Sm.lim, f1.last.trans Sm.last, f1.whole.trans Sm.whole, f1.must.trans Sm.must, f1.inner.trans Sm.inner, f1.loops.trans Sm.loops, f1.out.trans Sm.out, hmk⟩
    · have e : Go 1 m1 ({ m1.putBack kept with answer := none, frames := { wait := .giveBack, pc := m.pc, pos := m.pos + n, outermost := m.outermost, count := n, kept := kept } :: m.frames, weight := m.weight + 1 + kept.marks.size, pc := m.pc + 1 + skip, pos := m.pos + n, handed := m.pos + n, outermost := m.outermost }) := Go.one fun sn => by
        refine ⟨sn, ?_⟩
        unfold M.step
        simp only [ho1, Option.isSome_none, Bool.false_eq_true, if_false, f1.ans, f1.frames.trans hfr, M.resume, M.word, hc1, h2]
        rw [if_neg (by lia)]
        have hwe : m1.weight - (1 + kept.marks.size) = m.weight := by rw [f1.weight.trans hwt]; lia
        simp only [M.afterRun, M.attempt, M.putBack, M.frame, M.word, hc1, h1, hwe]
        rw [if_neg (by lia)]
        have hn1 : m.pos + (n + 1) - 1 = m.pos + n := by lia
        have hn2 : ((n + 1 : Nat) : Int) - 1 = (n : Int) := by lia
        simp only [hn1, hn2, ho1]
      obtain ⟨m2, g2, f2⟩ := ih ({ m1.putBack kept with answer := none, frames := { wait := .giveBack, pc := m.pc, pos := m.pos + n, outermost := m.outermost, count := n, kept := kept } :: m.frames, weight := m.weight + 1 + kept.marks.size, pc := m.pc + 1 + skip, pos := m.pos + n, handed := m.pos + n, outermost := m.outermost }) (by
        refine ⟨rfl, rfl, f1.code.trans Sm.code, f1.text.trans Sm.text, f1.lim.trans Sm.lim, f1.last.trans Sm.last, f1.whole.trans Sm.whole, f1.must.trans Sm.must, f1.inner.trans Sm.inner, f1.loops.trans Sm.loops, f1.out.trans Sm.out, hmk⟩) rfl rfl rfl rfl rfl rfl rfl rfl (by lia) (by lia)
      exact ⟨m2, ((g1.trans e).trans g2).mono (by have := hS n; lia), f2⟩

theorem cnt_le (text : Array Nat) (P : Nat → Bool) : ∀ (n p : Nat), cnt text P n p ≤ n
  | 0, p => Nat.le_refl _
  | n + 1, p => by simp only [cnt]; split; have := cnt_le text P n (p + 1); lia; lia

/-- the state from which a run's rest goes on: n signs taken -/
structure Past (m : M) (n skip : Nat) (m' : M) : Prop where
  same : Same m { m' with frames := m.frames, weight := m.weight }
  frames : m'.frames = { wait := .giveBack, pc := m.pc, pos := m.pos + n, outermost := m.outermost, count := n, kept := m.keep m.inner.isSome } :: m.frames
  weight : m'.weight = m.weight + 1 + (m.keep m.inner.isSome).marks.size
  ans : m'.answer = none
  pc : m'.pc = m.pc + 1 + skip
  pos : m'.pos = m.pos + n
  lm : m'.lastmark = m.lastmark
  li : m'.lastindex = m.lastindex
  outer : m'.outermost = m.outermost

theorem past_past {m : M} (n skip : Nat) (ha : m.answer = none) : Past m n skip (M.past m n skip) :=
  ⟨⟨rfl, rfl, rfl, rfl, rfl, rfl, rfl, rfl, rfl, rfl, rfl, rfl⟩, rfl, rfl, ha, rfl, rfl, rfl, rfl, rfl⟩

theorem r1_fails {m : M} (h : At m 24) {P : Nat → Bool} {skip least : Nat} {B S : Nat → Nat} (hS0 : B 0 + 1 ≤ S 0) (hS : ∀ n, S n + B (n + 1) + 1 ≤ S (n + 1)) (h1 : m.code.getD (m.pc + 1) 0 = skip) (h2 : m.code.getD (m.pc + 2) 0 = least) (h3 : m.code.getD (m.pc + 3) 0 = 4294967295)
    (T : Takes m.code (m.pc + 4) P) (hle : m.pos ≤ m.lim) (hlim : m.lim < 4294967295) (hw : m.weight + 1 + (m.keep m.inner.isSome).marks.size ≤ 16777216)
    (hf : ∀ n m', Past m n skip m' → least ≤ n → n ≤ cnt m.text P (m.lim - m.pos) m.pos → Fails (B n) m') : Fails (1 + S (cnt m.text P (m.lim - m.pos) m.pos)) m := by
  have g := step_r1 h h1 h2 h3 T hle hlim hw
  by_cases hc : cnt m.text P (m.lim - m.pos) m.pos < least
  · rw [if_pos hc] at g
    exact (Fails.now g).mono (by lia)
  · rw [if_neg hc] at g
    have hkm : (m.keep m.inner.isSome).whole = true → (m.keep m.inner.isSome).marks.size ≤ m.marks.size := by
      intro hwh
      simp only [M.keep]
      split
      · simp; lia
      · simp
    obtain ⟨m2, g2, f2⟩ := giveBack_fails (c := cnt m.text P (m.lim - m.pos) m.pos) hS0 hS h.out h1 h2 hkm hw
      (fun n m' Sm hfr hwt hans hpc hpos hlm hli hou hln hnc => hf n m' ⟨Sm, hfr, hwt, hans, hpc, hpos, hlm, hli, hou⟩ hln hnc) rfl
      (cnt m.text P (m.lim - m.pos) m.pos) (M.past m (cnt m.text P (m.lim - m.pos) m.pos) skip) ⟨rfl, rfl, rfl, rfl, rfl, rfl, rfl, rfl, rfl, rfl, rfl, rfl⟩ rfl rfl h.ans rfl rfl rfl rfl rfl (by lia) (Nat.le_refl _)
    exact ⟨m2, (g.trans g2).mono (Nat.le_refl _), f2⟩

/-! ### the search -/
structure Try (code text : Array Nat) (lim last pc0 k : Nat) (s : Nat) (m : M) : Prop where
  code : m.code = code
  text : m.text = text
  lim : m.lim = lim
  last : m.lastStart = last
  whole : m.wholeText = false
  out : m.outcome = none
  ans : m.answer = none
  pc : m.pc = pc0
  pos : m.pos = s
  start : m.start = s
  lm : m.lastmark = -1
  li : m.lastindex = -1
  inner : m.inner = none
  loops : m.loops = #[]
  marks : m.marks.size = k
  frames : m.frames = [{ wait := .nextStart, pc := pc0, pos := s, outermost := m.outermost }]
  weight : m.weight = 1

theorem no_first {m : M} (h : m.code.getD 2 0 ≠ 4) : m.hasFirstSet = false := by
  simp only [M.hasFirstSet]
  have : (m.code.getD 2 0 == 4) = false := by simpa using h
  rw [this, Bool.and_false]

theorem try_next {code text : Array Nat} {lim last pc0 k s b : Nat} {m : M} (h2 : code.getD 2 0 ≠ 4) (T : Try code text lim last pc0 k s m) (hf : Fails b m) (hs : s < last) :
    ∃ m', Go (b + 1) m m' ∧ Try code text lim last pc0 k (s + 1) m' ∧ m'.mustAdvance = false := by
  obtain ⟨m1, g1, f1⟩ := hf
  have hc1 : m1.code = code := f1.code.trans T.code
  have hl1 : m1.lastStart = last := f1.last.trans T.last
  have hw1 : m1.weight = 1 := f1.weight.trans T.weight
  have ho1 : m1.outcome = none := f1.out.trans T.out
  refine ⟨{ m1 with answer := none, mustAdvance := false, start := s + 1, pos := s + 1, lastmark := -1, lastindex := -1, frames := [{ wait := .nextStart, pc := pc0, pos := s + 1, outermost := false }], weight := 1, pc := pc0, handed := s + 1, outermost := false }, g1.trans (Go.one fun sn => ⟨sn, ?_⟩), ?_, rfl⟩
  · unfold M.step
    simp only [ho1, Option.isSome_none, Bool.false_eq_true, if_false, f1.ans, f1.frames.trans T.frames, M.resume]
    rw [if_pos (by simp only [hl1]; exact hs)]
    unfold M.attemptFrom
    rw [no_first (by simp only [hc1]; exact h2)]
    simp only [Bool.not_false, if_true, M.attemptAt, M.attempt, hw1]
    rfl
  · exact ⟨hc1, f1.text.trans T.text, f1.lim.trans T.lim, hl1, f1.whole.trans T.whole, ho1, rfl, rfl, rfl, rfl, rfl, rfl, f1.inner.trans T.inner, f1.loops.trans T.loops, f1.marks.trans T.marks, rfl, rfl⟩
theorem try_end {code text : Array Nat} {lim last pc0 k s b : Nat} {m : M} (T : Try code text lim last pc0 k s m) (hf : Fails b m) (hs : last ≤ s) :
    ∃ m', Go (b + 2) m m' ∧ m'.outcome = some .failed := by
  obtain ⟨m1, g1, f1⟩ := hf
  have hl1 : m1.lastStart = last := f1.last.trans T.last
  have ho1 : m1.outcome = none := f1.out.trans T.out
  have e1 : Go 1 m1 { m1 with answer := some false, frames := [], weight := m1.weight - 1, pc := pc0, pos := s, outermost := m.outermost } := Go.one fun sn => ⟨sn, by
    unfold M.step
    simp only [ho1, Option.isSome_none, Bool.false_eq_true, if_false, f1.ans, f1.frames.trans T.frames, M.resume]
    rw [if_neg (by simp only [hl1]; lia)]
    simp only [M.say, ho1]
    rfl⟩
  have e2 : Go 1 { m1 with answer := some false, frames := [], weight := m1.weight - 1, pc := pc0, pos := s, outermost := m.outermost } { m1 with answer := some false, frames := [], weight := m1.weight - 1, pc := pc0, pos := s, outermost := m.outermost, outcome := some .failed } := Go.one fun sn => ⟨sn, by
    unfold M.step
    simp only [ho1, Option.isSome_none, Bool.false_eq_true, if_false]⟩
  exact ⟨_, (g1.trans (e1.trans e2)).mono (by lia), rfl⟩

theorem search_to {code text : Array Nat} {lim last pc0 k b : Nat} (h2 : code.getD 2 0 ≠ 4) (t : Nat) (ht : t ≤ last) :
    ∀ (d s : Nat) (m : M), t - s = d → s ≤ t → (∀ s' m', s ≤ s' → s' < t → Try code text lim last pc0 k s' m' → Fails b m') → Try code text lim last pc0 k s m →
      ∃ m', Go (d * (b + 1)) m m' ∧ Try code text lim last pc0 k t m' ∧ (m'.mustAdvance = false ∨ (s = t ∧ m' = m)) := by
  intro d
  induction d with
  | zero =>
    intro s m hd hs _ T
    have : s = t := by lia
    subst this
    exact ⟨m, (Go.refl m).mono (by lia), T, .inr ⟨rfl, rfl⟩⟩
  | succ d ih =>
    intro s m hd hs hf T
    obtain ⟨m1, g1, T1, hm⟩ := try_next h2 T (hf s m (Nat.le_refl _) (by lia) T) (by lia)
    obtain ⟨m2, g2, T2, hm2⟩ := ih (s + 1) m1 (by lia) (by lia) (fun s' m' h h' => hf s' m' (by lia) h') T1
    refine ⟨m2, (g1.trans g2).mono (by rw [Nat.add_mul, Nat.one_mul]; lia), T2, .inl ?_⟩
    rcases hm2 with h | ⟨_, h⟩
    · exact h
    · rw [h]; exact hm
theorem search_failed {code text : Array Nat} {lim last pc0 k b s : Nat} {m : M} (h2 : code.getD 2 0 ≠ 4) (hs : s ≤ last) (hf : ∀ s' m', s ≤ s' → s' ≤ last → Try code text lim last pc0 k s' m' → Fails b m') (T : Try code text lim last pc0 k s m) :
    ∃ m', Go ((last - s + 1) * (b + 2)) m m' ∧ m'.outcome = some .failed := by
  obtain ⟨m1, g1, T1, _⟩ := search_to h2 last (Nat.le_refl _) (last - s) s m rfl hs (fun s' m' h h' => hf s' m' h (by lia)) T
  obtain ⟨m2, g2, ho⟩ := try_end T1 (hf last m1 hs (Nat.le_refl _) T1) (Nat.le_refl _)
  refine ⟨m2, (g1.trans g2).mono ?_, ho⟩
  have : (last - s) * (b + 1) ≤ (last - s) * (b + 2) := Nat.mul_le_mul_left _ (by lia)
  have : (last - s + 1) * (b + 2) = (last - s) * (b + 2) + (b + 2) := by rw [Nat.add_mul, Nat.one_mul]
  lia

/-! ### a match: the frames fall -/
def Frame.easy (f : Sre.Frame) : Prop := f.wait = .giveBack ∨ f.wait = .nextStart ∨ f.wait = .maxTail ∨ f.wait = .maxMore ∨ f.wait = .closeLoop
structure Hit (m : M) (start e : Nat) (marks : Array (Option Nat)) (lm li : Int) : Prop where
  start : m.start = start
  handed : m.handed = e
  marks : m.marks = marks
  lm : m.lastmark = lm
  li : m.lastindex = li
theorem unwind {start e : Nat} {marks : Array (Option Nat)} {lm li : Int} : ∀ (F : List Sre.Frame) (m : M), m.frames = F → (∀ f ∈ F, Frame.easy f) → m.answer = some true → m.outcome = none → Hit m start e marks lm li →
    ∃ m', Go (F.length + 1) m m' ∧ m'.outcome = some .matched ∧ Hit m' start e marks lm li
  | [], m, hF, _, ha, ho, H => ⟨{ m with outcome := some .matched }, Go.one fun sn => ⟨sn, by
      unfold M.step
      simp only [ho, Option.isSome_none, Bool.false_eq_true, if_false, ha, hF, if_true]⟩, rfl, ⟨H.start, H.handed, H.marks, H.lm, H.li⟩⟩
  | f :: F, m, hF, hE, ha, ho, H => by
    have hf := hE f (List.mem_cons_self ..)
    have step : ∃ m1, Go 1 m m1 ∧ m1.frames = F ∧ m1.answer = some true ∧ m1.outcome = none ∧ Hit m1 start e marks lm li := by
      rcases hf with h | h | h | h | h
      · refine ⟨{ m with frames := F, weight := m.weight - (1 + f.kept.marks.size), pc := f.pc, pos := f.pos, outermost := f.outermost }, Go.one fun sn => ⟨sn, ?_⟩, rfl, ha, ho, ⟨H.start, H.handed, H.marks, H.lm, H.li⟩⟩
        unfold M.step
        simp only [ho, Option.isSome_none, Bool.false_eq_true, if_false, ha, hF, M.resume, h, if_true, M.say]
      · refine ⟨{ m with frames := F, weight := m.weight - (1 + f.kept.marks.size), pc := f.pc, pos := f.pos, outermost := f.outermost }, Go.one fun sn => ⟨sn, ?_⟩, rfl, ha, ho, ⟨H.start, H.handed, H.marks, H.lm, H.li⟩⟩
        unfold M.step
        simp only [ho, Option.isSome_none, Bool.false_eq_true, if_false, ha, hF, M.resume, h, if_true, M.say]
      · refine ⟨{ m with frames := F, weight := m.weight - (1 + f.kept.marks.size), pc := f.pc, pos := f.pos, outermost := f.outermost, inner := some f.loop }, Go.one fun sn => ⟨sn, ?_⟩, rfl, ha, ho, ⟨H.start, H.handed, H.marks, H.lm, H.li⟩⟩
        unfold M.step
        simp only [ho, Option.isSome_none, Bool.false_eq_true, if_false, ha, hF, M.resume, h, if_true, M.say]
      · refine ⟨{ m with frames := F, weight := m.weight - (1 + f.kept.marks.size), pc := f.pc, pos := f.pos, outermost := f.outermost, loops := m.loops.modify f.loop fun l => { l with began := f.began } }, Go.one fun sn => ⟨sn, ?_⟩, rfl, ha, ho, ⟨H.start, H.handed, H.marks, H.lm, H.li⟩⟩
        unfold M.step
        simp only [ho, Option.isSome_none, Bool.false_eq_true, if_false, ha, hF, M.resume, h, if_true, M.say, M.setLoop]
      · refine ⟨{ m with frames := F, weight := m.weight - (1 + f.kept.marks.size), pc := f.pc, pos := f.pos, outermost := f.outermost, inner := (m.loopAt f.loop).outer, loops := m.loops.pop }, Go.one fun sn => ⟨sn, ?_⟩, rfl, ha, ho, ⟨H.start, H.handed, H.marks, H.lm, H.li⟩⟩
        unfold M.step
        simp only [ho, Option.isSome_none, Bool.false_eq_true, if_false, ha, hF, M.resume, h, if_true, M.say, M.loopAt]
    obtain ⟨m1, g1, h1, h2, h3, H1⟩ := step
    obtain ⟨m2, g2, h4, H2⟩ := unwind F m1 h1 (fun f' hf' => hE f' (List.mem_cons_of_mem _ hf')) h2 h3 H1
    exact ⟨m2, (g1.trans g2).mono (by simp; lia), h4, H2⟩
end Mine
end

section
set_option linter.unusedSimpArgs false
set_option linter.unusedVariables false
namespace Mine
open PySem PySem.Sre

/-! ### how a search begins -/
def M0 (code text : Array Nat) (groups pos lim : Nat) (must : Bool) : M :=
  { code, text, lim, start := pos, pc := (header code).2, pos, handed := pos, marks := Array.replicate (2 * groups) none, mustAdvance := must,
    seen := if (header code).2 == 0 then {} else ({} : Seen).add 14 }
theorem forSearch_eq (code text : Array Nat) (groups pos lim : Nat) (must : Bool) : forSearch code text groups pos lim must =
    (if pos > lim || lim - pos < (header code).1 then (M0 code text groups pos lim must).say false
     else { M0 code text groups pos lim must with lastStart := if (header code).1 > 1 && !((header code).2 != 0 && code.getD 2 0 &&& 5 != 0) then max pos (lim - ((header code).1 - 1)) else lim }.attemptFrom pos true) := rfl

theorem forSearch_try {code text : Array Nat} {groups pos lim pc0 last : Nat} {must : Bool} (h2 : code.getD 2 0 ≠ 4) (hb : pos ≤ lim ∧ (header code).1 ≤ lim - pos) (hp : (header code).2 = pc0)
    (hlast : (if (header code).1 > 1 && !((header code).2 != 0 && code.getD 2 0 &&& 5 != 0) then max pos (lim - ((header code).1 - 1)) else lim) = last) :
    Try code text lim last pc0 (2 * groups) pos (forSearch code text groups pos lim must) ∧ (forSearch code text groups pos lim must).mustAdvance = must := by
  rw [forSearch_eq, if_neg (by simp; omega), hlast]
  unfold M.attemptFrom
  rw [no_first (by exact h2)]
  have e : ({ M0 code text groups pos lim must with lastStart := last } : M).attemptAt pos true =
      { M0 code text groups pos lim must with lastStart := last, lastmark := -1, lastindex := -1, frames := [{ wait := .nextStart, pc := (header code).2, pos := pos, outermost := true }], weight := 1, handed := pos, outermost := true } := rfl
  simp only [Bool.not_false, if_true, e]
  exact ⟨⟨rfl, rfl, rfl, rfl, rfl, rfl, rfl, hp, rfl, rfl, rfl, rfl, rfl, rfl, by simp [M0], by rw [← hp], rfl⟩, rfl⟩
theorem forSearch_short {code text : Array Nat} {groups pos lim : Nat} {must : Bool} (hb : lim - pos < (header code).1) : ∃ m', Go 1 (forSearch code text groups pos lim must) m' ∧ m'.outcome = some .failed := by
  rw [forSearch_eq, if_pos (by simp [hb])]
  exact ⟨{ (M0 code text groups pos lim must).say false with outcome := some .failed }, Go.one fun sn => ⟨sn, rfl⟩, rfl⟩

/-! ### counting signs -/
theorem cnt_tw {text : Array Nat} {P : Nat → Bool} : ∀ (d p : Nat), text.size - p = d → p ≤ text.size → cnt text P d p = ((text.toList.drop p).takeWhile P).length
  | 0, p, hd, hp => by
    have : p = text.size := by omega
    subst this
    have : text.toList.drop text.size = [] := by simp
    rw [this]; rfl
  | d + 1, p, hd, hp => by
    have hlt : p < text.toList.length := by simp; omega
    rw [List.drop_eq_getElem_cons hlt, List.takeWhile_cons]
    have e : text.getD p 0 = text.toList[p] := by
      have : p < text.size := by omega
      simp [Array.getD, this]
    simp only [cnt, e]
    split
    · rw [List.length_cons, cnt_tw d (p + 1) (by omega) (by omega)]
    · rfl
theorem getD_toList {text : Array Nat} {p : Nat} : text.getD p 0 = text.toList.getD p 0 := by simp [Array.getD_eq_getD_getElem?, List.getD_eq_getElem?_getD]

/-! ### the items -/
theorem cat12 (c : Nat) : category 12 c = .ok (sp c) := by
  show (Except.ok (Unicode.isSpace c)).map (· != (12 % 2 == 1)) = _
  simp [Except.map, sp]
theorem op_CAT : ops[(8 : Nat)]? = some .CATEGORY := rfl
theorem op_FAIL : ops[(0 : Nat)]? = some .FAILURE := rfl
theorem op_NEG : ops[(21 : Nat)]? = some .NEGATE := rfl
theorem op_CHS : ops[(9 : Nat)]? = some .CHARSET := rfl

section
variable {code : Array Nat} {c : Nat}
theorem in_fail {fuel i : Nat} {yes : Bool} (sn : Seen) (h : code.getD i 0 = 0) : ∃ sn', inSet code c (fuel + 1) i yes sn = .ok (!yes, sn') := by
  refine ⟨sn.add 0, ?_⟩
  simp only [inSet, Nat.add_zero, h, op_FAIL]
theorem in_neg {fuel i : Nat} {yes r : Bool} (sn : Seen) (h : code.getD i 0 = 21) (k : ∀ sn, ∃ sn', inSet code c fuel (i + 1) (!yes) sn = .ok (r, sn')) : ∃ sn', inSet code c (fuel + 1) i yes sn = .ok (r, sn') := by
  obtain ⟨s1, e1⟩ := k (sn.add 21)
  refine ⟨s1, ?_⟩
  simp only [inSet, Nat.add_zero, h, op_NEG, e1]
theorem in_lit {fuel i x : Nat} {yes r : Bool} (sn : Seen) (h : code.getD i 0 = 16) (h1 : code.getD (i + 1) 0 = x) (k : ∀ sn, ∃ sn', inSet code c fuel (i + 2) yes sn = .ok (r, sn')) : ∃ sn', inSet code c (fuel + 1) i yes sn = .ok (if c == x then yes else r, sn') := by
  obtain ⟨s1, e1⟩ := k (sn.add 16)
  by_cases hc : (c == x) = true
  · exact ⟨sn.add 16, by simp only [inSet, Nat.add_zero, h, h1, op_LIT, hc, if_true]⟩
  · exact ⟨s1, by simp only [inSet, Nat.add_zero, h, h1, op_LIT, hc, if_false, e1, Bool.false_eq_true]⟩
theorem in_cat {fuel i : Nat} {yes r : Bool} (sn : Seen) (h : code.getD i 0 = 8) (h1 : code.getD (i + 1) 0 = 12) (k : ∀ sn, ∃ sn', inSet code c fuel (i + 2) yes sn = .ok (r, sn')) : ∃ sn', inSet code c (fuel + 1) i yes sn = .ok (if sp c then yes else r, sn') := by
  obtain ⟨s1, e1⟩ := k ((sn.add 8).add (55 + 12))
  cases hs : sp c with
  | true =>
    refine ⟨(sn.add 8).add (55 + 12), ?_⟩
    simp only [inSet, Nat.add_zero, h, h1, op_CAT, cat12, hs]
    rfl
  | false =>
    refine ⟨s1, ?_⟩
    simp only [inSet, Nat.add_zero, h, h1, op_CAT, cat12, hs]
    exact e1
theorem in_chs {fuel i : Nat} {yes r b : Bool} (sn : Seen) (h : code.getD i 0 = 9) (hb : (decide (c < 256) && (code.getD (i + (1 + c / 32)) 0).testBit (c % 32)) = b) (k : ∀ sn, ∃ sn', inSet code c fuel (i + 9) yes sn = .ok (r, sn')) : ∃ sn', inSet code c (fuel + 1) i yes sn = .ok (if b then yes else r, sn') := by
  obtain ⟨s1, e1⟩ := k (sn.add 9)
  cases b with
  | true => exact ⟨sn.add 9, by simp only [inSet, Nat.add_zero, h, op_CHS, hb, if_true]⟩
  | false => exact ⟨s1, by simp only [inSet, Nat.add_zero, h, op_CHS, hb, e1, if_false, Bool.false_eq_true]⟩
theorem takes_in {i : Nat} {P : Nat → Bool} (h : code.getD i 0 = 13) (k : ∀ c sn, ∃ sn', inSet code c code.size (i + 2) true sn = .ok (P c, sn')) : Takes code i P := fun c sn => by
  obtain ⟨s1, e1⟩ := k c sn
  refine ⟨s1, ?_⟩
  simp only [accepts, h, op_IN, e1]
/-- a class of white signs -/
theorem takes_sp {i : Nat} (hs : ∃ n, code.size = n + 2) (h : code.getD i 0 = 13) (h2 : code.getD (i + 2) 0 = 8) (h3 : code.getD (i + 3) 0 = 12) (h4 : code.getD (i + 4) 0 = 0) : Takes code i sp := by
  obtain ⟨n, hn⟩ := hs
  refine takes_in h fun c sn => ?_
  rw [hn]
  obtain ⟨s1, e1⟩ := in_cat (c := c) (yes := true) (fuel := n + 1) sn h2 h3 (fun sn => in_fail (fuel := n) sn h4)
  refine ⟨s1, e1.trans ?_⟩
  cases sp c <;> rfl
end

/-! ### the five codes -/
def cJunk : Array Nat := #[14, 4, 0, 0, 4294967295, 6, 0, 24, 13, 0, 4294967295, 13, 8, 16, 61, 8, 12, 16, 59, 0, 1, 1]
def cTok : Array Nat := #[14, 4, 0, 1, 4294967295, 6, 0, 24, 9, 0, 4294967295, 13, 4, 8, 12, 0, 1, 17, 0, 24, 19, 1, 4294967295, 13, 14, 21, 9, 0, 671092736, 0, 0, 0, 0, 0, 0, 8, 12, 0, 1, 17, 1, 1]
def cQuo : Array Nat := #[14, 4, 0, 3, 4294967295, 6, 0, 24, 9, 0, 4294967295, 13, 4, 8, 12, 0, 1, 16, 61, 24, 9, 0, 4294967295, 13, 4, 8, 12, 0, 1, 16, 34, 17, 0, 24, 12, 0, 4294967295, 13, 7, 21, 16, 34, 16, 92, 0, 1, 23, 19, 0, 4294967295, 16, 92, 2, 24, 12, 0, 4294967295, 13, 7, 21, 16, 34, 16, 92, 0, 1, 18, 17, 1, 16, 34, 1]
def cVal : Array Nat := #[14, 4, 0, 1, 4294967295, 6, 0, 24, 9, 0, 4294967295, 13, 4, 8, 12, 0, 1, 16, 61, 24, 9, 0, 4294967295, 13, 4, 8, 12, 0, 1, 17, 0, 24, 14, 0, 4294967295, 13, 9, 21, 8, 12, 16, 59, 16, 44, 0, 1, 17, 1, 1]
def cEsc : Array Nat := #[14, 8, 1, 2, 2, 1, 1, 92, 0, 16, 92, 17, 0, 2, 17, 1, 1]

def qC (c : Nat) : Bool := !(c == 34 || c == 92)

theorem junk_set : Takes cJunk 11 junkC := by
  refine takes_in rfl fun c sn => ?_
  obtain ⟨s1, e1⟩ := in_lit (code := cJunk) (c := c) (i := 13) (yes := true) (fuel := 21) sn rfl rfl (fun sn => in_cat (fuel := 20) sn rfl rfl (fun sn => in_lit (fuel := 19) sn rfl rfl (fun sn => in_fail (fuel := 18) sn rfl)))
  refine ⟨s1, e1.trans ?_⟩
  have : (if (c == 61) = true then true else if sp c = true then true else if (c == 59) = true then true else !true) = junkC c := by
    unfold junkC; cases (c == 61) <;> cases sp c <;> cases (c == 59) <;> rfl
  exact congrArg (fun b => Except.ok (b, s1)) this
theorem tok_sp : Takes cTok 11 sp := takes_sp ⟨40, rfl⟩ rfl rfl rfl rfl
theorem tok_bits : ∀ c, c < 256 → ((cTok.getD (26 + (1 + c / 32)) 0).testBit (c % 32)) = (c == 61 || c == 59 || c == 44) := by decide +kernel
theorem tok_set : Takes cTok 23 tokC := by
  refine takes_in rfl fun c sn => ?_
  have hb : (decide (c < 256) && (cTok.getD (26 + (1 + c / 32)) 0).testBit (c % 32)) = (c == 61 || c == 59 || c == 44) := by
    by_cases h : c < 256
    · rw [tok_bits c h]; simp [h]
    · have h1 : (c == 61) = false := by simp; omega
      have h2 : (c == 59) = false := by simp; omega
      have h3 : (c == 44) = false := by simp; omega
      simp [h, h1, h2, h3]
  obtain ⟨s1, e1⟩ := in_neg (code := cTok) (c := c) (i := 25) (yes := true) (fuel := 41) sn rfl (fun sn => in_chs (fuel := 40) (yes := false) sn rfl hb (fun sn => in_cat (fuel := 39) sn rfl rfl (fun sn => in_fail (fuel := 38) sn rfl)))
  refine ⟨s1, e1.trans ?_⟩
  have : (if (c == 61 || c == 59 || c == 44) = true then false else if sp c = true then false else !false) = tokC c := by
    unfold tokC; cases (c == 61) <;> cases sp c <;> cases (c == 59) <;> cases (c == 44) <;> rfl
  exact congrArg (fun b => Except.ok (b, s1)) this
theorem val_sp1 : Takes cVal 11 sp := takes_sp ⟨47, rfl⟩ rfl rfl rfl rfl
theorem val_sp2 : Takes cVal 23 sp := takes_sp ⟨47, rfl⟩ rfl rfl rfl rfl
theorem val_set : Takes cVal 35 valC := by
  refine takes_in rfl fun c sn => ?_
  obtain ⟨s1, e1⟩ := in_neg (code := cVal) (c := c) (i := 37) (yes := true) (fuel := 48) sn rfl (fun sn => in_cat (fuel := 47) (yes := false) sn rfl rfl (fun sn => in_lit (fuel := 46) sn rfl rfl (fun sn => in_lit (fuel := 45) sn rfl rfl (fun sn => in_fail (fuel := 44) sn rfl))))
  refine ⟨s1, e1.trans ?_⟩
  have : (if sp c = true then false else if (c == 59) = true then false else if (c == 44) = true then false else !false) = valC c := by
    unfold valC; cases sp c <;> cases (c == 59) <;> cases (c == 44) <;> rfl
  exact congrArg (fun b => Except.ok (b, s1)) this
theorem quo_sp1 : Takes cQuo 11 sp := takes_sp ⟨70, rfl⟩ rfl rfl rfl rfl
theorem quo_sp2 : Takes cQuo 23 sp := takes_sp ⟨70, rfl⟩ rfl rfl rfl rfl
theorem quo_set1 : Takes cQuo 37 qC := by
  refine takes_in rfl fun c sn => ?_
  obtain ⟨s1, e1⟩ := in_neg (code := cQuo) (c := c) (i := 39) (yes := true) (fuel := 71) sn rfl (fun sn => in_lit (fuel := 70) (yes := false) sn rfl rfl (fun sn => in_lit (fuel := 69) sn rfl rfl (fun sn => in_fail (fuel := 68) sn rfl)))
  refine ⟨s1, e1.trans ?_⟩
  have : (if (c == 34) = true then false else if (c == 92) = true then false else !false) = qC c := by
    unfold qC; cases (c == 34) <;> cases (c == 92) <;> rfl
  exact congrArg (fun b => Except.ok (b, s1)) this
theorem quo_set2 : Takes cQuo 57 qC := by
  refine takes_in rfl fun c sn => ?_
  obtain ⟨s1, e1⟩ := in_neg (code := cQuo) (c := c) (i := 59) (yes := true) (fuel := 71) sn rfl (fun sn => in_lit (fuel := 70) (yes := false) sn rfl rfl (fun sn => in_lit (fuel := 69) sn rfl rfl (fun sn => in_fail (fuel := 68) sn rfl)))
  refine ⟨s1, e1.trans ?_⟩
  have : (if (c == 34) = true then false else if (c == 92) = true then false else !false) = qC c := by
    unfold qC; cases (c == 34) <;> cases (c == 92) <;> rfl
  exact congrArg (fun b => Except.ok (b, s1)) this
end Mine
end

section
set_option linter.unusedSimpArgs false
set_option linter.unusedVariables false
namespace Mine
open PySem PySem.Sre

def Hits (b : Nat) (m : M) (start e : Nat) (marks : Array (Option Nat)) (lm li : Int) : Prop := ∃ m', Go b m m' ∧ m'.outcome = some .matched ∧ Hit m' start e marks lm li
def Misses (b : Nat) (m : M) : Prop := ∃ m', Go b m m' ∧ m'.outcome = some .failed

theorem Hits.of_go {a b : Nat} {m m1 : M} {start e : Nat} {marks : Array (Option Nat)} {lm li : Int} (g : Go a m m1) (h : Hits b m1 start e marks lm li) : Hits (a + b) m start e marks lm li :=
  let ⟨m', g', r⟩ := h; ⟨m', g.trans g', r⟩
theorem Hits.mono {a b : Nat} {m : M} {start e : Nat} {marks : Array (Option Nat)} {lm li : Int} (h : Hits a m start e marks lm li) (hab : a ≤ b) : Hits b m start e marks lm li :=
  let ⟨m', g', r⟩ := h; ⟨m', g'.mono hab, r⟩
theorem Misses.mono {a b : Nat} {m : M} (h : Misses a m) (hab : a ≤ b) : Misses b m := let ⟨m', g', r⟩ := h; ⟨m', g'.mono hab, r⟩

/-- the anchor fails behind the start -/
theorem anchor_fails {code text : Array Nat} {lim last k s : Nat} {m : M} (T : Try code text lim last 5 k s m) (h5 : code.getD 5 0 = 6) (h6 : code.getD 6 0 = 0) (hz : 5 < code.size) (hs : s ≠ 0) : Fails 1 m := by
  have A : At m 6 := ⟨T.out, T.ans, by rw [T.pc, T.code]; exact hz, by rw [T.pc, T.code]; exact h5⟩
  have g := step_at A (by rw [T.pc, T.code]; exact h6)
  rw [if_neg (by rw [T.pos]; exact hs)] at g
  exact Fails.now g
/-- an anchored search that fails at the start fails -/
theorem anchored_miss {code text : Array Nat} {groups lim last : Nat} {b : Nat} (h2 : code.getD 2 0 ≠ 4) (h5 : code.getD 5 0 = 6) (h6 : code.getD 6 0 = 0) (hz : 5 < code.size) (hb : (header code).1 ≤ lim) (hp : (header code).2 = 5)
    (hlast : (if (header code).1 > 1 && !((header code).2 != 0 && code.getD 2 0 &&& 5 != 0) then max 0 (lim - ((header code).1 - 1)) else lim) = last) (hll : last ≤ lim) {must : Bool}
    (hf : ∀ m, Try code text lim last 5 (2 * groups) 0 m → Fails b m) (hb1 : 1 ≤ b) : Misses ((lim + 1) * (b + 2)) (forSearch code text groups 0 lim must) := by
  obtain ⟨T, _⟩ := forSearch_try (text := text) (groups := groups) (must := must) h2 ⟨Nat.zero_le _, by lia⟩ hp hlast
  obtain ⟨m', g, ho⟩ := search_failed h2 (Nat.zero_le _) (b := b) (fun s' m' _ _ T' => by
    by_cases h : s' = 0
    · subst h; exact hf m' T'
    · exact (anchor_fails T' h5 h6 hz h).mono hb1) T
  refine ⟨m', g.mono (Nat.mul_le_mul_right _ (by lia)), ho⟩

theorem two_marks {mk : Array (Option Nat)} (h : mk.size = 2) (a b : Nat) : (mk.setIfInBounds 0 (some a)).setIfInBounds 1 (some b) = #[some a, some b] := by
  obtain ⟨l⟩ := mk
  match l, h with
  | [x, y], _ => rfl

theorem keep_none {m : M} (h : m.inner = none) : (m.keep m.inner.isSome).marks = #[] := by
  simp [M.keep, h]

/-! ### the key -/
theorem drop_tw {p : Nat → Bool} (t : Txt) : t.drop (t.takeWhile p).length = t.dropWhile p := by
  conv => lhs; arg 2; rw [span_eq (p := p) t]
  rw [List.drop_left]

theorem past_inner {m : M} (h : m.inner = none) (n skip : Nat) : (M.past m n skip).weight = m.weight + 1 := by
  simp [M.past, M.keep, h]

/-- a state on the way to a match -/
structure Pt (cd tx : Array Nat) (st : Nat) (m : M) (p q : Nat) (mk : Array (Option Nat)) (l i : Int) (fr : List Sre.Frame) (wt : Nat) (inn : Option Nat) (lps : Array Loop) : Prop where
  code : m.code = cd
  text : m.text = tx
  lim : m.lim = tx.size
  start : m.start = st
  whole : m.wholeText = false
  must : m.mustAdvance = true → st < q
  out : m.outcome = none
  ans : m.answer = none
  pc : m.pc = p
  pos : m.pos = q
  marks : m.marks = mk
  lm : m.lastmark = l
  li : m.lastindex = i
  frames : m.frames = fr
  weight : m.weight = wt
  inner : m.inner = inn
  loops : m.loops = lps

section
variable {code text : Array Nat} {start : Nat} {m : M} {pc pos : Nat} {mk : Array (Option Nat)} {lm li : Int} {fr : List Sre.Frame} {wt : Nat} {inner : Option Nat} {loops : Array Loop}
theorem Pt.at (p : Pt code text start m pc pos mk lm li fr wt inner loops) {k : Nat} (hz : pc < code.size) (hk : code.getD pc 0 = k) : At m k :=
  ⟨p.out, p.ans, by rw [p.pc, p.code]; exact hz, by rw [p.pc, p.code]; exact hk⟩
theorem Pt.anchor (p : Pt code text start m pc 0 mk lm li fr wt inner loops) (hz : pc < code.size) (hk : code.getD pc 0 = 6) (h1 : code.getD (pc + 1) 0 = 0) : ∃ m', Go 1 m m' ∧ Pt code text start m' (pc + 2) 0 mk lm li fr wt inner loops := by
  have g := step_at (p.at hz hk) (by rw [p.pc, p.code]; exact h1)
  rw [if_pos p.pos] at g
  exact ⟨_, g, ⟨p.code, p.text, p.lim, p.start, p.whole, p.must, p.out, p.ans, by show m.pc + 2 = _; rw [p.pc], p.pos, p.marks, p.lm, p.li, p.frames, p.weight, p.inner, p.loops⟩⟩
theorem Pt.lit (p : Pt code text start m pc pos mk lm li fr wt inner loops) {c : Nat} (hz : pc < code.size) (hk : code.getD pc 0 = 16) (h1 : code.getD (pc + 1) 0 = c) (hlt : pos < text.size) (hc : text.getD pos 0 = c) :
    ∃ m', Go 1 m m' ∧ Pt code text start m' (pc + 2) (pos + 1) mk lm li fr wt inner loops := by
  have g := step_lit (p.at hz hk) (c := c) (by rw [p.pc, p.code]; exact h1)
  rw [if_pos ⟨by rw [p.pos, p.lim]; exact hlt, by rw [p.pos, p.text]; exact hc⟩] at g
  exact ⟨_, g, ⟨p.code, p.text, p.lim, p.start, p.whole, fun h => Nat.lt_succ_of_lt (p.must h), p.out, p.ans, by show m.pc + 2 = _; rw [p.pc], by show m.pos + 1 = _; rw [p.pos], p.marks, p.lm, p.li, p.frames, p.weight, p.inner, p.loops⟩⟩
theorem Pt.any (p : Pt code text start m pc pos mk lm li fr wt inner loops) (hz : pc < code.size) (hk : code.getD pc 0 = 2) (hlt : pos < text.size) (hc : text.getD pos 0 ≠ 10) :
    ∃ m', Go 1 m m' ∧ Pt code text start m' (pc + 1) (pos + 1) mk lm li fr wt inner loops := by
  have g := step_any (p.at hz hk)
  rw [if_pos ⟨by rw [p.pos, p.lim]; exact hlt, by rw [p.pos, p.text]; exact hc⟩] at g
  exact ⟨_, g, ⟨p.code, p.text, p.lim, p.start, p.whole, fun h => Nat.lt_succ_of_lt (p.must h), p.out, p.ans, by show m.pc + 1 = _; rw [p.pc], by show m.pos + 1 = _; rw [p.pos], p.marks, p.lm, p.li, p.frames, p.weight, p.inner, p.loops⟩⟩
theorem Pt.mark0 (p : Pt code text start m pc pos mk (-1) li fr wt inner loops) (hz : pc < code.size) (hk : code.getD pc 0 = 17) (h1 : code.getD (pc + 1) 0 = 0) :
    ∃ m', Go 1 m m' ∧ Pt code text start m' (pc + 2) pos (mk.setIfInBounds 0 (some pos)) 0 li fr wt inner loops := by
  have g := step_mark0 (p.at hz hk) (by rw [p.pc, p.code]; exact h1) p.lm
  exact ⟨_, g, ⟨p.code, p.text, p.lim, p.start, p.whole, p.must, p.out, p.ans, by show m.pc + 2 = _; rw [p.pc], p.pos, by show m.marks.setIfInBounds 0 (some m.pos) = _; rw [p.marks, p.pos], rfl, p.li, p.frames, p.weight, p.inner, p.loops⟩⟩
theorem Pt.mark1 (p : Pt code text start m pc pos mk 0 li fr wt inner loops) (hz : pc < code.size) (hk : code.getD pc 0 = 17) (h1 : code.getD (pc + 1) 0 = 1) :
    ∃ m', Go 1 m m' ∧ Pt code text start m' (pc + 2) pos (mk.setIfInBounds 1 (some pos)) 1 1 fr wt inner loops := by
  have g := step_mark1 (p.at hz hk) (by rw [p.pc, p.code]; exact h1) p.lm
  exact ⟨_, g, ⟨p.code, p.text, p.lim, p.start, p.whole, p.must, p.out, p.ans, by show m.pc + 2 = _; rw [p.pc], p.pos, by show m.marks.setIfInBounds 1 (some m.pos) = _; rw [p.marks, p.pos], rfl, rfl, p.frames, p.weight, p.inner, p.loops⟩⟩
/-- the weight of the marks that are kept -/
def kw (mk : Array (Option Nat)) (lm : Int) (inner : Option Nat) : Nat := (if inner.isSome then mk.extract 0 (lm + 1).toNat else #[]).size
theorem kw_le (mk : Array (Option Nat)) (lm : Int) (inner : Option Nat) : kw mk lm inner ≤ mk.size := by
  unfold kw
  split
  · simp; lia
  · simp
theorem Pt.run (p : Pt code text start m pc pos mk lm li fr wt inner loops) {P : Nat → Bool} {skip least n : Nat} (hz : pc < code.size) (hk : code.getD pc 0 = 24) (h1 : code.getD (pc + 1) 0 = skip) (h2 : code.getD (pc + 2) 0 = least) (h3 : code.getD (pc + 3) 0 = 4294967295)
    (T : Takes code (pc + 4) P) (hle : pos ≤ text.size) (hlim : text.size < 1000000) (hw : wt + 1 + kw mk lm inner ≤ 16777216) (hn : ((text.toList.drop pos).takeWhile P).length = n) (hl : least ≤ n) :
    ∃ m' f, Go 1 m m' ∧ Frame.easy f ∧ Pt code text start m' (pc + 1 + skip) (pos + n) mk lm li (f :: fr) (wt + 1 + kw mk lm inner) inner loops := by
  have e : (m.keep m.inner.isSome).marks.size = kw mk lm inner := by
    simp only [M.keep, kw, p.inner, p.marks, p.lm]
  have g := step_r1 (p.at hz hk) (P := P) (skip := skip) (least := least) (by rw [p.pc, p.code]; exact h1) (by rw [p.pc, p.code]; exact h2) (by rw [p.pc, p.code]; exact h3) (by rw [p.pc, p.code]; exact T)
    (by rw [p.pos, p.lim]; exact hle) (by rw [p.lim]; lia) (by rw [e, p.weight]; exact hw)
  have hc : cnt m.text P (m.lim - m.pos) m.pos = n := by rw [p.text, p.lim, p.pos, cnt_tw _ _ rfl hle, hn]
  rw [hc, if_neg (by lia)] at g
  refine ⟨_, { wait := .giveBack, pc := m.pc, pos := m.pos + n, outermost := m.outermost, count := n, kept := m.keep m.inner.isSome }, g, .inl rfl, ⟨p.code, p.text, p.lim, p.start, p.whole, fun h => Nat.lt_of_lt_of_le (p.must h) (by lia), p.out, p.ans, by show m.pc + 1 + skip = _; rw [p.pc], by show m.pos + n = _; rw [p.pos], p.marks, p.lm, p.li, by show _ :: m.frames = _; rw [p.frames], ?_, p.inner, p.loops⟩⟩
  show m.weight + 1 + (m.keep m.inner.isSome).marks.size = _
  rw [e, p.weight]
theorem Pt.suc (p : Pt code text start m pc pos mk lm li fr wt inner loops) (hz : pc < code.size) (hk : code.getD pc 0 = 1) (hE : ∀ f ∈ fr, Frame.easy f) : Hits (fr.length + 2) m start pos mk lm li := by
  have g := step_suc (p.at hz hk) p.whole (by intro h; rw [p.pos, p.start]; have := p.must h; lia)
  obtain ⟨m7, g7, ho7, H7⟩ := unwind (start := start) (e := pos) (marks := mk) (lm := lm) (li := li) fr { m with handed := m.pos, answer := some true } p.frames hE rfl p.out ⟨p.start, p.pos, p.marks, p.lm, p.li⟩
  exact ⟨m7, (g.trans g7).mono (by lia), ho7, H7⟩
end
theorem Try.pt {code text : Array Nat} {last pc0 k s : Nat} {m : M} (T : Try code text text.size last pc0 k s m) (hm : m.mustAdvance = false) : ∃ f, Frame.easy f ∧ Pt code text s m pc0 s m.marks (-1) (-1) [f] 1 none #[] :=
  ⟨{ wait := .nextStart, pc := pc0, pos := s, outermost := m.outermost }, .inr (.inl rfl), ⟨T.code, T.text, T.lim, T.start, T.whole, fun h => (by rw [hm] at h; cases h), T.out, T.ans, T.pc, T.pos, rfl, T.lm, T.li, T.frames, T.weight, T.inner, T.loops⟩⟩

theorem tw_le (p : Nat → Bool) (t : Txt) : (t.takeWhile p).length ≤ t.length := by
  have := congrArg List.length (span_eq (p := p) t)
  rw [List.length_append] at this
  lia
theorem kw_none (mk : Array (Option Nat)) (lm : Int) : kw mk lm none = 0 := rfl

theorem tok_hit {text : Array Nat} (hz : text.size < 1000000) {k r : Txt} (hk : tokRe text.toList = some (k, r)) :
    Hits 20 (forSearch cTok text 1 0 text.size false) 0 ((text.toList.takeWhile sp).length + k.length) #[some (text.toList.takeWhile sp).length, some ((text.toList.takeWhile sp).length + k.length)] 1 1 := by
  obtain ⟨a, e1, e2, e3, e4, e5⟩ := tokRe_some hk
  have hkk : (text.toList.dropWhile sp).takeWhile tokC = k := by
    unfold tokRe at hk
    split at hk
    · cases hk
    · cases hk; rfl
  have hkl : k.length ≠ 0 := fun h => e3 (List.eq_nil_of_length_eq_zero h)
  have hsz : 1 ≤ text.size := by
    have := congrArg List.length e1
    simp at this
    lia
  obtain ⟨T, hm⟩ := forSearch_try (code := cTok) (text := text) (groups := 1) (must := false) (pos := 0) (lim := text.size) (pc0 := 5) (last := text.size) (by decide) ⟨Nat.zero_le _, hsz⟩ rfl rfl
  generalize forSearch cTok text 1 0 text.size false = m at T hm
  obtain ⟨f0, hf0, P0⟩ := T.pt hm
  have hmk : m.marks.size = 2 := T.marks
  generalize hn1 : (text.toList.takeWhile sp).length = n1
  have hn1le : n1 ≤ text.size := by have := tw_le sp text.toList; rw [hn1] at this; simpa using this
  obtain ⟨m1, g1, P1⟩ := P0.anchor (by decide) rfl rfl
  obtain ⟨m2, f2, g2, hf2, P2⟩ := P1.run (by decide) rfl rfl rfl rfl tok_sp (Nat.zero_le _) hz (by simp [kw_none]) (by rw [List.drop_zero, hn1]) (Nat.zero_le _)
  rw [Nat.zero_add] at P2
  obtain ⟨m3, g3, P3⟩ := P2.mark0 (by decide) rfl rfl
  obtain ⟨m4, f4, g4, hf4, P4⟩ := P3.run (least := 1) (by decide) rfl rfl rfl rfl tok_set hn1le hz (by simp [kw_none]) (by rw [← hn1, drop_tw, hkk]) (by lia)
  obtain ⟨m5, g5, P5⟩ := P4.mark1 (by decide) rfl rfl
  have H := P5.suc (by decide) rfl (by intro f hf; simp at hf; rcases hf with rfl | rfl | rfl <;> assumption)
  rw [two_marks hmk] at H
  exact (Hits.of_go (g1.trans (g2.trans (g3.trans (g4.trans g5)))) H).mono (by simp)
end Mine
end

section
set_option linter.unusedSimpArgs false
set_option linter.unusedVariables false
namespace Mine
open PySem PySem.Sre

/-! ### states on the way to a failure -/
structure Qt (cd tx : Array Nat) (m : M) (p q k : Nat) (l : Int) (inn : Option Nat) (lps : Array Loop) (w : Nat) : Prop where
  code : m.code = cd
  text : m.text = tx
  lim : m.lim = tx.size
  out : m.outcome = none
  ans : m.answer = none
  pc : m.pc = p
  pos : m.pos = q
  marks : m.marks.size = k
  lm : m.lastmark = l
  inner : m.inner = inn
  loops : m.loops = lps
  weight : m.weight = w

def kwn (k : Nat) (lm : Int) (inner : Option Nat) : Nat := if inner.isSome then min (lm + 1).toNat k else 0

section
variable {code text : Array Nat} {m : M} {pc pos k w b : Nat} {lm : Int} {inner : Option Nat} {loops : Array Loop}
theorem Qt.at (p : Qt code text m pc pos k lm inner loops w) {o : Nat} (hz : pc < code.size) (hk : code.getD pc 0 = o) : At m o :=
  ⟨p.out, p.ans, by rw [p.pc, p.code]; exact hz, by rw [p.pc, p.code]; exact hk⟩
theorem Qt.anchor (p : Qt code text m pc 0 k lm inner loops w) (hz : pc < code.size) (hk : code.getD pc 0 = 6) (h1 : code.getD (pc + 1) 0 = 0) (h : ∀ m', Qt code text m' (pc + 2) 0 k lm inner loops w → Fails b m') : Fails (1 + b) m := by
  have g := step_at (p.at hz hk) (by rw [p.pc, p.code]; exact h1)
  rw [if_pos p.pos] at g
  exact Fails.step g ⟨rfl, rfl, rfl, rfl, rfl, rfl, rfl, rfl, rfl, rfl, rfl, rfl⟩ (h _ ⟨p.code, p.text, p.lim, p.out, p.ans, by show m.pc + 2 = _; rw [p.pc], p.pos, p.marks, p.lm, p.inner, p.loops, p.weight⟩)
theorem Qt.lit_no (p : Qt code text m pc pos k lm inner loops w) {c : Nat} (hz : pc < code.size) (hk : code.getD pc 0 = 16) (h1 : code.getD (pc + 1) 0 = c) (hn : ¬ (pos < text.size ∧ text.getD pos 0 = c)) : Fails 1 m := by
  have g := step_lit (p.at hz hk) (c := c) (by rw [p.pc, p.code]; exact h1)
  rw [if_neg (by rw [p.pos, p.lim, p.text]; exact hn)] at g
  exact Fails.now g
theorem Qt.lit (p : Qt code text m pc pos k lm inner loops w) {c : Nat} (hz : pc < code.size) (hk : code.getD pc 0 = 16) (h1 : code.getD (pc + 1) 0 = c) (h : pos < text.size → text.getD pos 0 = c → ∀ m', Qt code text m' (pc + 2) (pos + 1) k lm inner loops w → Fails b m') : Fails (1 + b) m := by
  by_cases hn : pos < text.size ∧ text.getD pos 0 = c
  · have g := step_lit (p.at hz hk) (c := c) (by rw [p.pc, p.code]; exact h1)
    rw [if_pos (by rw [p.pos, p.lim, p.text]; exact hn)] at g
    exact Fails.step g ⟨rfl, rfl, rfl, rfl, rfl, rfl, rfl, rfl, rfl, rfl, rfl, rfl⟩ (h hn.1 hn.2 _ ⟨p.code, p.text, p.lim, p.out, p.ans, by show m.pc + 2 = _; rw [p.pc], by show m.pos + 1 = _; rw [p.pos], p.marks, p.lm, p.inner, p.loops, p.weight⟩)
  · exact (p.lit_no hz hk h1 hn).mono (by lia)
theorem Qt.any (p : Qt code text m pc pos k lm inner loops w) (hz : pc < code.size) (hk : code.getD pc 0 = 2) (h : pos < text.size → text.getD pos 0 ≠ 10 → ∀ m', Qt code text m' (pc + 1) (pos + 1) k lm inner loops w → Fails b m') : Fails (1 + b) m := by
  have g := step_any (p.at hz hk)
  by_cases hn : pos < text.size ∧ text.getD pos 0 ≠ 10
  · rw [if_pos (by rw [p.pos, p.lim, p.text]; exact hn)] at g
    exact Fails.step g ⟨rfl, rfl, rfl, rfl, rfl, rfl, rfl, rfl, rfl, rfl, rfl, rfl⟩ (h hn.1 hn.2 _ ⟨p.code, p.text, p.lim, p.out, p.ans, by show m.pc + 1 = _; rw [p.pc], by show m.pos + 1 = _; rw [p.pos], p.marks, p.lm, p.inner, p.loops, p.weight⟩)
  · rw [if_neg (by rw [p.pos, p.lim, p.text]; exact hn)] at g
    exact (Fails.now g).mono (by lia)
theorem Qt.mark0 (p : Qt code text m pc pos k (-1) inner loops w) (hz : pc < code.size) (hk : code.getD pc 0 = 17) (h1 : code.getD (pc + 1) 0 = 0) (h : ∀ m', Qt code text m' (pc + 2) pos k 0 inner loops w → Fails b m') : Fails (1 + b) m := by
  have g := step_mark0 (p.at hz hk) (by rw [p.pc, p.code]; exact h1) p.lm
  exact Fails.step g ⟨rfl, rfl, rfl, rfl, rfl, rfl, rfl, rfl, rfl, rfl, rfl, by show (m.marks.setIfInBounds 0 _).size = _; simp⟩ (h _ ⟨p.code, p.text, p.lim, p.out, p.ans, by show m.pc + 2 = _; rw [p.pc], p.pos, by show (m.marks.setIfInBounds 0 _).size = _; simp [p.marks], rfl, p.inner, p.loops, p.weight⟩)
theorem Qt.mark1 (p : Qt code text m pc pos k 0 inner loops w) (hz : pc < code.size) (hk : code.getD pc 0 = 17) (h1 : code.getD (pc + 1) 0 = 1) (h : ∀ m', Qt code text m' (pc + 2) pos k 1 inner loops w → Fails b m') : Fails (1 + b) m := by
  have g := step_mark1 (p.at hz hk) (by rw [p.pc, p.code]; exact h1) p.lm
  exact Fails.step g ⟨rfl, rfl, rfl, rfl, rfl, rfl, rfl, rfl, rfl, rfl, rfl, by show (m.marks.setIfInBounds 1 _).size = _; simp⟩ (h _ ⟨p.code, p.text, p.lim, p.out, p.ans, by show m.pc + 2 = _; rw [p.pc], p.pos, by show (m.marks.setIfInBounds 1 _).size = _; simp [p.marks], rfl, p.inner, p.loops, p.weight⟩)
theorem Qt.run (p : Qt code text m pc pos k lm inner loops w) {P : Nat → Bool} {skip least : Nat} {B S : Nat → Nat} (hS0 : B 0 + 1 ≤ S 0) (hS : ∀ n, S n + B (n + 1) + 1 ≤ S (n + 1)) (hz : pc < code.size) (hk : code.getD pc 0 = 24) (h1 : code.getD (pc + 1) 0 = skip) (h2 : code.getD (pc + 2) 0 = least) (h3 : code.getD (pc + 3) 0 = 4294967295)
    (T : Takes code (pc + 4) P) (hle : pos ≤ text.size) (hlim : text.size < 1000000) (hw : w + 1 + kwn k lm inner ≤ 16777216)
    (h : ∀ n m', least ≤ n → n ≤ ((text.toList.drop pos).takeWhile P).length → Qt code text m' (pc + 1 + skip) (pos + n) k lm inner loops (w + 1 + kwn k lm inner) → Fails (B n) m') : Fails (1 + S ((text.toList.drop pos).takeWhile P).length) m := by
  have e : (m.keep m.inner.isSome).marks.size = kwn k lm inner := by
    simp only [M.keep, kwn, p.inner, p.lm]
    cases inner with
    | none => rfl
    | some i => simp [p.marks]
  have hc : cnt m.text P (m.lim - m.pos) m.pos = ((text.toList.drop pos).takeWhile P).length := by rw [p.text, p.lim, p.pos, cnt_tw _ _ rfl hle]
  rw [← hc]
  refine r1_fails (p.at hz hk) (P := P) (skip := skip) (least := least) hS0 hS (by rw [p.pc, p.code]; exact h1) (by rw [p.pc, p.code]; exact h2) (by rw [p.pc, p.code]; exact h3) (by rw [p.pc, p.code]; exact T)
    (by rw [p.pos, p.lim]; exact hle) (by rw [p.lim]; lia) (by rw [e, p.weight]; exact hw) fun n m' q hln hnc => ?_
  rw [hc] at hnc
  exact h n m' hln hnc ⟨q.same.code.trans p.code, q.same.text.trans p.text, q.same.lim.trans p.lim, q.same.out.trans p.out, q.ans, by rw [q.pc, p.pc], by rw [q.pos, p.pos], q.same.marks.trans p.marks, q.lm.trans p.lm, q.same.inner.trans p.inner, q.same.loops.trans p.loops, by rw [q.weight, e, p.weight]⟩
end
theorem Try.qt {code text : Array Nat} {last pc0 k s : Nat} {m : M} (T : Try code text text.size last pc0 k s m) : Qt code text m pc0 s k (-1) none #[] 1 :=
  ⟨T.code, T.text, T.lim, T.out, T.ans, T.pc, T.pos, T.marks, T.lm, T.inner, T.loops, T.weight⟩

/-- every way fails within b -/
theorem sumS (b : Nat) : b + 1 ≤ (0 + 1) * (b + 1) ∧ ∀ n, (n + 1) * (b + 1) + b + 1 ≤ (n + 1 + 1) * (b + 1) := by
  refine ⟨by lia, fun n => ?_⟩
  rw [Nat.add_mul (n + 1) 1 (b + 1)]
  lia

theorem drop_sub {P : Nat → Bool} {t : Txt} {n : Nat} (h : n ≤ (t.takeWhile P).length) : t.drop n = (t.takeWhile P).drop n ++ t.dropWhile P := by
  conv => lhs; arg 2; rw [span_eq (p := P) t]
  rw [List.drop_append_of_le_length h]
theorem tw_zero {P Q : Nat → Bool} {t : Txt} {n : Nat} (hPQ : ∀ c, P c = true → Q c = false) (h : n ≤ (t.takeWhile P).length) (h0 : (t.dropWhile P).takeWhile Q = []) : (t.drop n).takeWhile Q = [] := by
  rw [drop_sub h]
  cases hd : (t.takeWhile P).drop n with
  | nil => exact h0
  | cons c r =>
    have : c ∈ t.takeWhile P := List.mem_of_mem_drop (by rw [hd]; exact List.mem_cons_self ..)
    have := hPQ c (tw_all t c this)
    rw [List.cons_append, List.takeWhile_cons, if_neg (by simp [this])]

theorem sp_not_tok (c : Nat) (h : sp c = true) : tokC c = false := by simp [tokC, h]

theorem tok_miss {text : Array Nat} (hz : text.size < 1000000) (hk : tokRe text.toList = none) : Misses ((text.size + 1) * (10 * text.size + 100)) (forSearch cTok text 1 0 text.size false) := by
  by_cases hs : 1 ≤ text.size
  · have h0 : (text.toList.dropWhile sp).takeWhile tokC = [] := by
      unfold tokRe at hk
      split at hk
      · assumption
      · cases hk
    refine (anchored_miss (b := 3 + (text.size + 1) * 5) (by decide) rfl rfl (by decide) hs rfl rfl (Nat.le_refl _) (fun m T => ?_) (by lia)).mono ?_
    · refine (T.qt.anchor (b := 1 + (((text.toList.drop 0).takeWhile sp).length + 1) * (4 + 1)) (by decide) rfl rfl fun m1 q1 => ?_).mono ?_
      · refine q1.run (B := fun _ => 4) (S := fun n => (n + 1) * (4 + 1)) (sumS 4).1 (sumS 4).2 (by decide) rfl rfl rfl rfl tok_sp (Nat.zero_le _) hz (by simp [kwn]) fun n m2 _ hn q2 => ?_
        rw [Nat.zero_add] at q2
        have hn' : n ≤ (text.toList.takeWhile sp).length := hn
        have hle : n ≤ text.size := by have := tw_le sp text.toList; simp at this; lia
        have hc := tw_zero (t := text.toList) sp_not_tok hn' h0
        refine (q2.mark0 (b := 2) (by decide) rfl rfl fun m3 q3 => ?_).mono (by lia)
        refine (q3.run (least := 1) (B := fun _ => 0) (S := fun n => (n + 1) * (0 + 1)) (sumS 0).1 (sumS 0).2 (by decide) rfl rfl rfl rfl tok_set hle hz (by simp [kwn]) fun n' m4 hl hn'' _ => ?_).mono ?_
        · rw [hc] at hn''; simp at hn''; lia
        · rw [hc]; simp
      · have := tw_le sp (text.toList.drop 0)
        have h' : ((text.toList.drop 0).takeWhile sp).length + 1 ≤ text.size + 1 := by simp at this ⊢; lia
        have := Nat.mul_le_mul_right 5 h'
        lia
    · exact Nat.mul_le_mul_left _ (by lia)
  · obtain ⟨m', g, ho⟩ := forSearch_short (code := cTok) (text := text) (groups := 1) (pos := 0) (lim := text.size) (must := false) (by show text.size - 0 < 1; lia)
    exact ⟨m', g.mono (by have h0 : text.size = 0 := (by lia); rw [h0]; decide), ho⟩

/-! ### a value without marks -/
theorem getD_of_drop {text : Array Nat} {p c : Nat} {r : Txt} (h : text.toList.drop p = c :: r) : p < text.size ∧ text.getD p 0 = c := by
  have hlt : p < text.toList.length := by
    have := congrArg List.length h
    simp at this
    simp
    lia
  rw [List.drop_eq_getElem_cons hlt] at h
  injection h with h1 h2
  have hl : p < text.size := by simpa using hlt
  refine ⟨hl, ?_⟩
  rw [← h1]
  simp [Array.getD, hl]
theorem drop_of_getD {text : Array Nat} {p : Nat} (h : p < text.size) : text.toList.drop p = text.getD p 0 :: text.toList.drop (p + 1) := by
  have hlt : p < text.toList.length := by simpa using h
  rw [List.drop_eq_getElem_cons hlt]
  simp [Array.getD, h]

/-- the places of an '=' and of what stands behind it -/
theorem eq_places {t u : Txt} (h : eqRe t = some u) : ∃ v, t.dropWhile sp = 61 :: v ∧ u = v.dropWhile sp ∧ t.drop (t.takeWhile sp).length = 61 :: v ∧ t.drop ((t.takeWhile sp).length + 1) = v ∧ t.drop ((t.takeWhile sp).length + 1 + (v.takeWhile sp).length) = u := by
  unfold eqRe at h
  split at h
  · rename_i v hv
    cases h
    have e1 := drop_tw (p := sp) t
    rw [hv] at e1
    have e2 : t.drop ((t.takeWhile sp).length + 1) = v := by rw [← List.drop_drop, e1]; rfl
    refine ⟨v, hv, rfl, e1, e2, ?_⟩
    rw [← List.drop_drop, e2, drop_tw]
  · cases h

/-- where the value begins -/
def vAt (t : Txt) : Nat := (t.takeWhile sp).length + 1 + ((t.drop ((t.takeWhile sp).length + 1)).takeWhile sp).length

theorem val_hit {text : Array Nat} (hz : text.size < 1000000) {v r : Txt} (hv : vRe text.toList = some (v, r)) :
    Hits 20 (forSearch cVal text 1 0 text.size false) 0 (vAt text.toList + v.length) #[some (vAt text.toList), some (vAt text.toList + v.length)] 1 1 ∧ text.toList.drop (vAt text.toList + v.length) = r ∧ (text.toList.drop (vAt text.toList)).takeWhile valC = v := by
  unfold vRe at hv
  split at hv
  · rename_i u hu
    cases hv
    obtain ⟨x, e1, e2, e3, e4, e5⟩ := eq_places hu
    generalize hn1 : (text.toList.takeWhile sp).length = n1 at e3 e4 e5
    have hV : vAt text.toList = n1 + 1 + (x.takeWhile sp).length := by unfold vAt; rw [hn1, e4]
    rw [hV]
    generalize hn2 : (x.takeWhile sp).length = n2 at e5
    obtain ⟨l1, l2⟩ := getD_of_drop e3
    have l3 : n1 + 1 + n2 ≤ text.size := by
      have h1 := congrArg List.length e4
      have h2 := tw_le sp x
      rw [hn2] at h2
      simp at h1
      lia
    refine ⟨?_, by rw [← List.drop_drop, e5, drop_tw], by rw [e5]⟩
    obtain ⟨T, hm⟩ := forSearch_try (code := cVal) (text := text) (groups := 1) (must := false) (pos := 0) (lim := text.size) (pc0 := 5) (last := text.size) (by decide) ⟨Nat.zero_le _, by show 1 ≤ _; lia⟩ rfl rfl
    generalize forSearch cVal text 1 0 text.size false = m at T hm
    obtain ⟨f0, hf0, P0⟩ := T.pt hm
    have hmk : m.marks.size = 2 := T.marks
    obtain ⟨m1, g1, P1⟩ := P0.anchor (by decide) rfl rfl
    obtain ⟨m2, f2, g2, hf2, P2⟩ := P1.run (by decide) rfl rfl rfl rfl val_sp1 (Nat.zero_le _) hz (by simp [kw_none]) (by rw [List.drop_zero, hn1]) (Nat.zero_le _)
    rw [Nat.zero_add] at P2
    obtain ⟨m3, g3, P3⟩ := P2.lit (by decide) rfl rfl l1 l2
    obtain ⟨m4, f4, g4, hf4, P4⟩ := P3.run (by decide) rfl rfl rfl rfl val_sp2 l1 hz (by simp [kw_none]) (by rw [e4, hn2]) (Nat.zero_le _)
    obtain ⟨m5, g5, P5⟩ := P4.mark0 (by decide) rfl rfl
    obtain ⟨m6, f6, g6, hf6, P6⟩ := P5.run (by decide) rfl rfl rfl rfl val_set l3 hz (by simp [kw_none]) (by rw [e5]) (Nat.zero_le _)
    obtain ⟨m7, g7, P7⟩ := P6.mark1 (by decide) rfl rfl
    have H := P7.suc (by decide) rfl (by intro f hf; simp at hf; rcases hf with rfl | rfl | rfl | rfl <;> assumption)
    rw [two_marks hmk] at H
    exact (Hits.of_go (g1.trans (g2.trans (g3.trans (g4.trans (g5.trans (g6.trans g7)))))) H).mono (by simp)
  · cases hv

/-- behind fewer white signs than there are stands no '=' -/
theorem no_eq_at {text : Array Nat} (h : ∀ v, text.toList.dropWhile sp ≠ 61 :: v) {n : Nat} (hn : n ≤ (text.toList.takeWhile sp).length) : ¬ (n < text.size ∧ text.getD n 0 = 61) := by
  intro ⟨h1, h2⟩
  have e := drop_of_getD h1
  rw [h2, drop_sub hn] at e
  cases hd : (text.toList.takeWhile sp).drop n with
  | nil => rw [hd] at e; exact h _ e
  | cons c r =>
    rw [hd] at e
    injection e with e1 _
    have : c ∈ text.toList.takeWhile sp := List.mem_of_mem_drop (by rw [hd]; exact List.mem_cons_self ..)
    have := tw_all _ c this
    rw [e1, sp_61] at this
    cases this
theorem eq_none {t : Txt} (h : eqRe t = none) : ∀ v, t.dropWhile sp ≠ 61 :: v := by
  intro v hv
  unfold eqRe at h
  rw [hv] at h
  simp at h

theorem val_miss {text : Array Nat} (hz : text.size < 1000000) (hv : vRe text.toList = none) : Misses ((text.size + 1) * (10 * text.size + 100)) (forSearch cVal text 1 0 text.size false) := by
  have he : eqRe text.toList = none := by
    unfold vRe at hv
    split at hv
    · cases hv
    · assumption
  by_cases hs : 1 ≤ text.size
  · refine (anchored_miss (b := 3 + (text.size + 1) * 2) (by decide) rfl rfl (by decide) hs rfl rfl (Nat.le_refl _) (fun m T => ?_) (by lia)).mono ?_
    · refine (T.qt.anchor (b := 1 + (((text.toList.drop 0).takeWhile sp).length + 1) * (1 + 1)) (by decide) rfl rfl fun m1 q1 => ?_).mono ?_
      · refine q1.run (B := fun _ => 1) (S := fun n => (n + 1) * (1 + 1)) (sumS 1).1 (sumS 1).2 (by decide) rfl rfl rfl rfl val_sp1 (Nat.zero_le _) hz (by simp [kwn]) fun n m2 _ hn q2 => ?_
        rw [Nat.zero_add] at q2
        exact q2.lit_no (by decide) rfl rfl (no_eq_at (eq_none he) hn)
      · have := tw_le sp (text.toList.drop 0)
        have h' : ((text.toList.drop 0).takeWhile sp).length + 1 ≤ text.size + 1 := by simp at this ⊢; lia
        have := Nat.mul_le_mul_right 2 h'
        lia
    · exact Nat.mul_le_mul_left _ (by lia)
  · obtain ⟨m', g, ho⟩ := forSearch_short (code := cVal) (text := text) (groups := 1) (pos := 0) (lim := text.size) (must := false) (by show text.size - 0 < 1; lia)
    exact ⟨m', g.mono (by have h0 : text.size = 0 := (by lia); rw [h0]; decide), ho⟩

/-! ### the junk ahead -/
theorem junk_hit {text : Array Nat} (hz : text.size < 1000000) : Hits 20 (forSearch cJunk text 0 0 text.size false) 0 (text.toList.takeWhile junkC).length #[] (-1) (-1) := by
  obtain ⟨T, hm⟩ := forSearch_try (code := cJunk) (text := text) (groups := 0) (must := false) (pos := 0) (lim := text.size) (pc0 := 5) (last := text.size) (by decide) ⟨Nat.zero_le _, Nat.zero_le _⟩ rfl rfl
  generalize forSearch cJunk text 0 0 text.size false = m at T hm
  obtain ⟨f0, hf0, P0⟩ := T.pt hm
  have hmk : m.marks = #[] := Array.eq_empty_of_size_eq_zero T.marks
  rw [hmk] at P0
  obtain ⟨m1, g1, P1⟩ := P0.anchor (by decide) rfl rfl
  obtain ⟨m2, f2, g2, hf2, P2⟩ := P1.run (by decide) rfl rfl rfl rfl junk_set (Nat.zero_le _) hz (by simp [kw_none]) (by rw [List.drop_zero]) (Nat.zero_le _)
  rw [Nat.zero_add] at P2
  have H := P2.suc (by decide) rfl (by intro f hf; simp at hf; rcases hf with rfl | rfl <;> assumption)
  exact (Hits.of_go (g1.trans g2) H).mono (by simp)
theorem junk_over {text : Array Nat} (hz : text.size < 1000000) {s : Nat} (h0 : s ≠ 0) (hs : s ≤ text.size) {must : Bool} : Misses ((text.size + 1) * 10) (forSearch cJunk text 0 s text.size must) := by
  obtain ⟨T, hm⟩ := forSearch_try (code := cJunk) (text := text) (groups := 0) (must := must) (pos := s) (lim := text.size) (pc0 := 5) (last := text.size) (by decide) ⟨hs, Nat.zero_le _⟩ rfl rfl
  obtain ⟨m', g, ho⟩ := search_failed (by decide) hs (b := 1) (fun s' m' h h' T' => anchor_fails T' rfl rfl (by decide) (by lia)) T
  refine ⟨m', g.mono ?_, ho⟩
  have : (text.size - s + 1) * (1 + 2) ≤ (text.size + 1) * 10 := Nat.mul_le_mul (by lia) (by lia)
  exact this
end Mine
end

section
set_option linter.unusedSimpArgs false
set_option linter.unusedVariables false
namespace Mine
open PySem PySem.Sre

/-! ### the escapes -/
def nextEsc : Txt → Option (Txt × Nat × Txt)
  | [] => none
  | [_] => none
  | c :: d :: r => if c = 92 ∧ d ≠ 10 then some ([], d, r) else (nextEsc (d :: r)).map fun x => (c :: x.1, x.2)
theorem unesc_next : ∀ (t : Txt), unesc t = match nextEsc t with | none => t | some x => x.1 ++ x.2.1 :: unesc x.2.2
  | [] => rfl
  | [c] => by simp [unesc, nextEsc]
  | c :: d :: r => by
    rw [unesc, nextEsc]
    split
    · rfl
    · rw [unesc_next (d :: r)]
      cases nextEsc (d :: r) with
      | none => rfl
      | some x => rfl
theorem nextEsc_some : ∀ (t : Txt) {x : Txt × Nat × Txt}, nextEsc t = some x → t = x.1 ++ 92 :: x.2.1 :: x.2.2 ∧ x.2.1 ≠ 10 ∧ ∀ i, i < x.1.length → ¬ (t[i]? = some 92 ∧ ∃ d, t[i + 1]? = some d ∧ d ≠ 10)
  | [], x, h => by simp [nextEsc] at h
  | [c], x, h => by simp [nextEsc] at h
  | c :: d :: r, x, h => by
    rw [nextEsc] at h
    split at h
    · rename_i hc
      cases h
      refine ⟨by simp [hc.1], hc.2, fun i hi => by simp at hi⟩
    · rename_i hc
      rw [Option.map_eq_some_iff] at h
      obtain ⟨y, h1, h2⟩ := h
      subst h2
      obtain ⟨i1, i2, i3⟩ := nextEsc_some (d :: r) h1
      refine ⟨by rw [i1]; rfl, i2, fun i hi => ?_⟩
      cases i with
      | zero =>
        intro ⟨h3, d', h4, h5⟩
        simp at h3 h4
        subst h3 h4
        exact hc ⟨rfl, h5⟩
      | succ i =>
        have := i3 i (by simp at hi; lia)
        simpa using this
theorem nextEsc_none : ∀ (t : Txt), nextEsc t = none → ∀ i, ¬ (t[i]? = some 92 ∧ ∃ d, t[i + 1]? = some d ∧ d ≠ 10)
  | [], _, i => by simp
  | [c], _, i => by
    intro ⟨h3, d', h4, h5⟩
    simp at h4
  | c :: d :: r, h, i => by
    rw [nextEsc] at h
    split at h
    · cases h
    · rename_i hc
      rw [Option.map_eq_none_iff] at h
      cases i with
      | zero =>
        intro ⟨h3, d', h4, h5⟩
        simp at h3 h4
        subst h3 h4
        exact hc ⟨rfl, h5⟩
      | succ i =>
        have := nextEsc_none (d :: r) h i
        simpa using this

theorem get_of_getD {text : Array Nat} {p : Nat} (h : p < text.size) : text.toList[p]? = some (text.getD p 0) := by
  simp [Array.getD, h]
/-- a start at which no escape stands fails -/
theorem esc_fails {text : Array Nat} {last s : Nat} {m : M} (T : Try cEsc text text.size last 9 2 s m) (h : ¬ (text.toList[s]? = some 92 ∧ ∃ d, text.toList[s + 1]? = some d ∧ d ≠ 10)) : Fails 4 m := by
  refine (T.qt.lit (b := 2) (by decide) rfl rfl fun h1 h2 m1 q1 => ?_).mono (by lia)
  refine q1.mark0 (b := 1) (by decide) rfl rfl fun m2 q2 => ?_
  refine (q2.any (b := 0) (by decide) rfl fun h3 h4 => ?_).mono (by lia)
  exfalso
  exact h ⟨by rw [get_of_getD h1, h2]; rfl, _, get_of_getD h3, h4⟩

theorem esc_hit {text : Array Nat} (hz : text.size < 1000000) {s d : Nat} {pre r : Txt} (hn : nextEsc (text.toList.drop s) = some (pre, d, r)) :
    Hits (5 * text.size + 20) (forSearch cEsc text 1 s text.size false) (s + pre.length) (s + pre.length + 2) #[some (s + pre.length + 1), some (s + pre.length + 2)] 1 1 ∧ text.toList.drop (s + pre.length + 2) = r ∧ text.toList.drop s = pre ++ 92 :: d :: r ∧ s + pre.length + 2 ≤ text.size := by
  obtain ⟨e1, e2, e3⟩ := nextEsc_some _ hn
  dsimp only at e1 e2 e3
  have hlen : text.size - s = pre.length + 2 + r.length := by
    have := congrArg List.length e1
    simp at this
    lia
  have hx : text.toList.drop (s + pre.length) = 92 :: d :: r := by rw [← List.drop_drop, e1, List.drop_left]
  have hx1 : text.toList.drop (s + pre.length + 1) = d :: r := by rw [← List.drop_drop, hx]; rfl
  have hx2 : text.toList.drop (s + pre.length + 2) = r := by rw [← List.drop_drop, hx]; rfl
  obtain ⟨l1, l2⟩ := getD_of_drop hx
  obtain ⟨l3, l4⟩ := getD_of_drop hx1
  refine ⟨?_, hx2, e1, by lia⟩
  obtain ⟨T, hm⟩ := forSearch_try (code := cEsc) (text := text) (groups := 1) (must := false) (pos := s) (lim := text.size) (pc0 := 9) (last := text.size) (by decide) ⟨by lia, by show 2 ≤ _; lia⟩ rfl rfl
  generalize forSearch cEsc text 1 s text.size false = m at T hm
  obtain ⟨m1, g1, T1, hm1⟩ := search_to (b := 4) (by decide) (s + pre.length) (by lia) pre.length s m (by lia) (by lia) (fun s' m' h h' T' => esc_fails T' (by
    have := e3 (s' - s) (by lia)
    rw [List.getElem?_drop, List.getElem?_drop] at this
    rw [show s + (s' - s) = s' by lia, show s + (s' - s + 1) = s' + 1 by lia] at this
    exact this)) T
  have hm1' : m1.mustAdvance = false := by
    rcases hm1 with h | ⟨_, h⟩
    · exact h
    · rw [h]; exact hm
  obtain ⟨f0, hf0, P0⟩ := T1.pt hm1'
  have hmk : m1.marks.size = 2 := T1.marks
  obtain ⟨m2, g2, P2⟩ := P0.lit (by decide) rfl rfl l1 l2
  obtain ⟨m3, g3, P3⟩ := P2.mark0 (by decide) rfl rfl
  obtain ⟨m4, g4, P4⟩ := P3.any (by decide) rfl l3 (by rw [l4]; exact e2)
  obtain ⟨m5, g5, P5⟩ := P4.mark1 (by decide) rfl rfl
  have H := P5.suc (by decide) rfl (by intro f hf; simp at hf; subst hf; exact hf0)
  rw [two_marks hmk] at H
  exact (Hits.of_go (g1.trans (g2.trans (g3.trans (g4.trans g5)))) H).mono (by simp; lia)
theorem esc_miss {text : Array Nat} (hz : text.size < 1000000) {s : Nat} (hs : s ≤ text.size) (hn : nextEsc (text.toList.drop s) = none) : Misses ((text.size + 1) * 10) (forSearch cEsc text 1 s text.size false) := by
  by_cases h2 : 2 ≤ text.size - s
  · obtain ⟨T, hm⟩ := forSearch_try (code := cEsc) (text := text) (groups := 1) (must := false) (pos := s) (lim := text.size) (pc0 := 9) (last := text.size) (by decide) ⟨by lia, by show 2 ≤ _; lia⟩ rfl rfl
    obtain ⟨m', g, ho⟩ := search_failed (by decide) hs (b := 4) (fun s' m' h h' T' => esc_fails T' (by
      have := nextEsc_none _ hn (s' - s)
      rw [List.getElem?_drop, List.getElem?_drop] at this
      rw [show s + (s' - s) = s' by lia, show s + (s' - s + 1) = s' + 1 by lia] at this
      exact this)) T
    refine ⟨m', g.mono ?_, ho⟩
    have : (text.size - s + 1) * (4 + 2) ≤ (text.size + 1) * 10 := Nat.mul_le_mul (by lia) (by lia)
    exact this
  · obtain ⟨m', g, ho⟩ := forSearch_short (code := cEsc) (text := text) (groups := 1) (pos := s) (lim := text.size) (must := false) (by show text.size - s < 2; lia)
    exact ⟨m', g.mono (by lia), ho⟩

/-! ### the loop of the value in marks -/
abbrev lp (n : Int) (bg : Option Nat) : Array Loop := #[{ pc := 46, count := n, began := bg, outer := none }]

theorem q46 : cQuo.getD 46 0 = 23 := rfl
theorem q66 : cQuo.getD 66 0 = 18 := rfl

section
variable {text : Array Nat} {m : M} {q k w b : Nat} {n : Int} {bg : Option Nat}
theorem step_rep {m : M} (h : At m 23) (hpc : m.pc = 46) (hc : m.code = cQuo) (hl : m.loops = #[]) (hi : m.inner = none) (hw : m.weight + 1 ≤ 16777216) :
    Go 1 m { m with loops := lp (-1) none, inner := some 0, frames := { wait := .closeLoop, pc := 46, pos := m.pos, outermost := m.outermost, loop := 0 } :: m.frames, weight := m.weight + 1, pc := 66, handed := m.pos } := Go.one fun sn => by
  obtain ⟨ho, ha, hp, hk⟩ := h
  refine ⟨sn.add 23, ?_⟩
  unfold M.step M.exec
  have h47 : cQuo.getD 47 0 = 19 := rfl
  have hp' : 46 < cQuo.size := by decide
  simp only [ho, ha, hpc, hc, hl, hi, hp', M.word, q46, op_REP, Option.isSome_none, Bool.false_eq_true, if_false, if_true, Nat.add_zero, M.attempt, M.frame, h47]
  rw [if_neg (by simp; lia)]
  rfl
theorem step_more {m : M} (h : At m 18) (hpc : m.pc = 66) (hc : m.code = cQuo) (hl : m.loops = lp n bg) (hi : m.inner = some 0) (hbg : bg ≠ some m.pos) (hn : -1 ≤ n) (hw : m.weight + 1 + (m.keep true).marks.size ≤ 16777216) :
    Go 1 m { m with loops := lp (n + 1) (some m.pos), frames := { wait := .maxMore, pc := 67, pos := m.pos, outermost := m.outermost, loop := 0, count := n + 1, kept := m.keep true, began := bg } :: m.frames, weight := m.weight + 1 + (m.keep true).marks.size, pc := 50, handed := m.pos } := Go.one fun sn => by
  obtain ⟨ho, ha, hp, hk⟩ := h
  refine ⟨sn.add 18, ?_⟩
  unfold M.step M.exec
  have h48 : cQuo.getD 48 0 = 0 := rfl
  have h49 : cQuo.getD 49 0 = 4294967295 := rfl
  have hp' : 66 < cQuo.size := by decide
  have hb : (bg != some m.pos) = true := by simpa using hbg
  simp only [ho, ha, hpc, hc, hp', M.word, q66, op_MAXU, Option.isSome_none, Bool.false_eq_true, if_false, if_true, Nat.add_zero, M.until_, hi, M.loopAt, hl]
  have e0 : (lp n bg).getD 0 { pc := 0, outer := none } = { pc := 46, count := n, began := bg, outer := none } := rfl
  simp only [e0, h48, h49, maxRepeat]
  rw [if_neg (by simp; lia)]
  simp only [Bool.not_true, Bool.false_eq_true, if_false, beq_self_eq_true, Bool.or_true, Bool.true_and, hb, if_true, M.round, M.loopAt, hl, e0, M.setLoop, M.attempt, M.frame]
  have e1 : (lp n bg).modify 0 (fun l => { l with count := n + 1, began := some m.pos }) = lp (n + 1) (some m.pos) := rfl
  rw [if_neg (by simp only [M.keep] at hw ⊢; lia)]
  simp only [e1, M.keep, hi, ha, ho]

/-- the loop's round fails: its tail is tried -/
theorem step_tail {m1 : M} (ho : m1.outcome = none) (ha : m1.answer = some false) (hc : m1.code = cQuo) {kept : PySem.Sre.Kept} {pos : Nat} {ou : Bool} {fr : List Sre.Frame} (hfr : m1.frames = { wait := .maxMore, pc := 67, pos := pos, outermost := ou, loop := 0, count := n + 1, kept := kept, began := bg } :: fr)
    (hl : m1.loops = lp (n + 1) (some pos)) (hwt : m1.weight = w + 1 + kept.marks.size) (hw : w + 1 ≤ 16777216) :
    Go 1 m1 { m1.putBack kept with answer := none, frames := { wait := .maxTail, pc := 67, pos := pos, outermost := ou, loop := 0, count := n + 1, kept := { lastmark := kept.lastmark, lastindex := kept.lastindex } } :: fr, weight := w + 1, loops := lp n bg, inner := none, pc := 67, pos := pos, handed := pos, outermost := ou } := Go.one fun sn => by
  refine ⟨sn, ?_⟩
  have hwe : m1.weight - (1 + kept.marks.size) = w := by lia
  unfold M.step
  simp only [ho, Option.isSome_none, Bool.false_eq_true, if_false, ha, hfr, M.resume, hwe, M.setLoop, M.putBack, M.afterLoop, M.attempt, M.frame, M.loopAt, hl, M.keep]
  have e1 : ((lp (n + 1) (some pos)).modify 0 (fun l => { l with began := bg })).modify 0 (fun l => { l with count := n + 1 - 1 }) = lp n bg := by
    show (#[{ pc := 46, count := n + 1 - 1, began := bg, outer := none }] : Array Loop) = _
    rw [Int.add_sub_cancel]
  simp only [e1]
  have e0 : ((lp n bg).getD 0 { pc := 0, outer := none }).outer = none := rfl
  simp only [e0]
  rw [if_neg (by simp; lia)]
  rfl

theorem Qt.until (p : Qt cQuo text m 66 q 2 0 (some 0) (lp n bg) w) (hbg : bg ≠ some q) (hn : -1 ≤ n) (hw : w + 2 ≤ 16777216) {b1 b2 : Nat}
    (h1 : ∀ m', Qt cQuo text m' 50 q 2 0 (some 0) (lp (n + 1) (some q)) (w + 2) → Fails b1 m') (h2 : ∀ m', Qt cQuo text m' 67 q 2 0 none (lp n bg) (w + 1) → Fails b2 m') : Fails (b1 + b2 + 3) m := by
  have hks : (m.keep true).marks.size = 1 := by
    simp only [M.keep, if_true, p.lm]
    simp [p.marks]
  have g1 := step_more (p.at (by decide) q66) p.pc p.code p.loops p.inner (by rw [p.pos]; exact hbg) hn (by rw [hks, p.weight]; exact hw)
  have Q1 : Qt cQuo text { m with loops := lp (n + 1) (some m.pos), frames := { wait := .maxMore, pc := 67, pos := m.pos, outermost := m.outermost, loop := 0, count := n + 1, kept := m.keep true, began := bg } :: m.frames, weight := m.weight + 1 + (m.keep true).marks.size, pc := 50, handed := m.pos } 50 q 2 0 (some 0) (lp (n + 1) (some q)) (w + 2) :=
    ⟨p.code, p.text, p.lim, p.out, p.ans, rfl, p.pos, p.marks, p.lm, p.inner, by show lp (n + 1) (some m.pos) = _; rw [p.pos], by show m.weight + 1 + (m.keep true).marks.size = _; rw [hks, p.weight]⟩
  obtain ⟨m1, g2, f1⟩ := h1 _ Q1
  have c1 : m1.code = cQuo := f1.code.trans p.code
  have g3 := step_tail (m1 := m1) (n := n) (bg := bg) (w := w) (f1.out.trans p.out) f1.ans c1 f1.frames f1.loops (by rw [f1.weight]; show m.weight + 1 + _ = _; rw [p.weight]) (by lia)
  have hms : (m1.putBack (m.keep true)).marks.size = 2 := by
    rw [size_put (by intro _; rw [hks]; have : m1.marks.size = m.marks.size := f1.marks; rw [this, p.marks]; lia)]
    exact f1.marks.trans p.marks
  obtain ⟨m2, g4, f2⟩ := h2 _ (⟨c1, f1.text.trans p.text, f1.lim.trans p.lim, f1.out.trans p.out, rfl, rfl, p.pos, hms, p.lm, rfl, rfl, rfl⟩ : Qt cQuo text { m1.putBack (m.keep true) with answer := none, frames := { wait := .maxTail, pc := 67, pos := m.pos, outermost := m.outermost, loop := 0, count := n + 1, kept := { lastmark := (m.keep true).lastmark, lastindex := (m.keep true).lastindex } } :: m.frames, weight := w + 1, loops := lp n bg, inner := none, pc := 67, pos := m.pos, handed := m.pos, outermost := m.outermost } 67 q 2 0 none (lp n bg) (w + 1))
  have g5 : Go 1 m2 { m2 with answer := some false, frames := m.frames, weight := w, pc := 67, pos := m.pos, outermost := m.outermost, inner := some 0 } := Go.one fun sn => by
    refine ⟨sn, ?_⟩
    have ho2 : m2.outcome = none := f2.out.trans (f1.out.trans p.out)
    unfold M.step
    simp only [ho2, Option.isSome_none, Bool.false_eq_true, if_false, f2.ans, f2.frames, f2.weight, M.resume, M.say]
    congr 1
  refine ⟨_, (g1.trans (g2.trans (g3.trans (g4.trans g5)))).mono (by lia), ?_⟩
  exact ⟨rfl, rfl, p.weight.symm, f2.code.trans f1.code, f2.text.trans f1.text, f2.lim.trans f1.lim, f2.last.trans f1.last, f2.whole.trans f1.whole, f2.must.trans f1.must, p.inner.symm, f2.loops.trans p.loops.symm, f2.out.trans f1.out, f2.marks.trans (hms.trans p.marks.symm)⟩
end

/-! ### the value in marks: no match -/
theorem qC_iff {c : Nat} : qC c = true ↔ c ≠ 34 ∧ c ≠ 92 := by simp [qC]
theorem qscan_ch {c : Nat} (h : qC c = true) (r : Txt) : qscan (c :: r) = (qscan r).map fun x => (c :: x.1, x.2) := by
  obtain ⟨h1, h2⟩ := qC_iff.mp h
  rw [qscan.eq_def]
  simp [h1, h2]
theorem qscan_none_drop : ∀ (n : Nat) (t : Txt), n ≤ (t.takeWhile qC).length → qscan t = none → qscan (t.drop n) = none
  | 0, t, _, h => by simpa using h
  | n + 1, [], _, h => by simpa using h
  | n + 1, c :: t, hn, h => by
    rw [List.takeWhile_cons] at hn
    split at hn
    · rename_i hc
      rw [qscan_ch hc, Option.map_eq_none_iff] at h
      exact qscan_none_drop n t (by simpa using hn) h
    · simp at hn

theorem until_fails {text : Array Nat} (hz : text.size < 1000000) : ∀ (d : Nat) (m : M) (q w : Nat) (n : Int) (bg : Option Nat), text.size - q ≤ d → q ≤ text.size → Qt cQuo text m 66 q 2 0 (some 0) (lp n bg) w → (∀ b, bg = some b → b < q) → -1 ≤ n → w ≤ 4 * q + 20 →
    qscan (text.toList.drop q) = none → Fails (30 * (text.size - q) + 30) m := by
  intro d
  induction d using Nat.strongRecOn with
  | ind d ih =>
    intro m q w n bg hd hq p hbg hn hw hs
    have hb : bg ≠ some q := fun h => by have := hbg q h; lia
    have tail : ∀ m', Qt cQuo text m' 67 q 2 0 none (lp n bg) (w + 1) → Fails 2 m' := fun m' p' => by
      refine (p'.mark1 (b := 1) (by decide) rfl rfl fun m2 p2 => p2.lit_no (by decide) rfl rfl ?_).mono (by lia)
      intro ⟨h1, h2⟩
      have h2 : text.getD q 0 = 34 := h2
      rw [drop_of_getD h1, h2, qscan.eq_def] at hs
      simp at hs
    by_cases hlt : q < text.size ∧ text.getD q 0 = 92
    · obtain ⟨h1, h2⟩ := hlt
      have e := drop_of_getD h1
      rw [h2] at e
      by_cases hlt2 : q + 1 < text.size ∧ text.getD (q + 1) 0 ≠ 10
      · obtain ⟨h3, h4⟩ := hlt2
        rw [drop_of_getD h3] at e
        have hs' : qscan (text.toList.drop (q + 1 + 1)) = none := by
          generalize text.getD (q + 1) 0 = d' at h4 e
          rw [e, qscan.eq_def] at hs
          simpa [h4] using hs
        generalize hN : ((text.toList.drop (q + 2)).takeWhile qC).length = N
        have hNle : N ≤ text.size - (q + 2) := by
          have := tw_le qC (text.toList.drop (q + 2))
          rw [hN] at this
          simpa using this
        refine (p.until hb hn (by lia) (b1 := 3 + (12 * N + 30 * (text.size - (q + 2 + N)) + 31)) (b2 := 2) (fun m1 p1 => ?_) tail).mono (by lia)
        refine (p1.lit (b := 2 + (12 * N + 30 * (text.size - (q + 2 + N)) + 31)) (by decide) rfl rfl fun _ _ m2 p2 => ?_).mono (by lia)
        refine (p2.any (b := 1 + (12 * N + 30 * (text.size - (q + 2 + N)) + 31)) (by decide) rfl fun _ _ m3 p3 => ?_).mono (by lia)
        have R := p3.run (least := 0) (skip := 12) (P := qC) (B := fun i => if i = N then 30 * (text.size - (q + 2 + N)) + 30 else 11) (S := fun i => if i < N then 12 * i + 12 else 12 * i + 30 * (text.size - (q + 2 + N)) + 31)
          (by split <;> (try split) <;> lia) (by intro i; split <;> (try split) <;> (try split) <;> lia) (by decide) rfl rfl rfl rfl quo_set2 (by lia) hz (by simp [kwn]; lia) fun i m4 _ hi p4 => ?_
        · rw [hN] at R
          simpa using R
        · rw [hN] at hi
          have hk1 : kwn 2 0 (some 0) = 1 := rfl
          rw [hk1] at p4
          by_cases hiN : i < N
          · rw [if_neg (by lia)]
            -- a plain sign: both ways fail at once
            have hc : qC (text.getD (q + 1 + 1 + i) 0) = true ∧ q + 1 + 1 + i < text.size := by
              have hl : q + 1 + 1 + i < text.size := by lia
              refine ⟨?_, hl⟩
              have hi' : i < ((text.toList.drop (q + 2)).takeWhile qC).length := by lia
              have e2 := drop_sub (P := qC) (t := text.toList.drop (q + 2)) (n := i) (by lia)
              rw [List.drop_drop, drop_of_getD (by lia)] at e2
              rw [List.drop_eq_getElem_cons hi'] at e2
              injection e2 with e3 _
              have := tw_all (p := qC) (text.toList.drop (q + 2)) _ (List.getElem_mem hi')
              rw [← e3] at this
              exact this
            obtain ⟨hc1, hc2⟩ := qC_iff.mp hc.1
            refine (p4.until (by intro h; injection h with h; lia) (by lia) (by lia) (b1 := 1) (b2 := 2) (fun m5 p5 => p5.lit_no (by decide) rfl rfl (fun h => hc2 h.2)) (fun m5 p5 => ?_)).mono (by lia)
            exact (p5.mark1 (b := 1) (by decide) rfl rfl fun m6 p6 => p6.lit_no (by decide) rfl rfl (fun h => hc1 h.2)).mono (by lia)
          · have : i = N := by lia
            rw [if_pos this]
            subst this
            refine (ih (text.size - (q + 2 + i)) (by lia) m4 (q + 1 + 1 + i) _ _ _ (by lia) (by lia) p4 (by intro b hb'; cases hb'; lia) (by lia) (by lia) ?_).mono (by lia)
            have := qscan_none_drop i (text.toList.drop (q + 1 + 1)) (by rw [hN]; exact Nat.le_refl _) hs'
            rw [List.drop_drop] at this
            exact this
      · refine (p.until hb hn (by lia) (b1 := 2) (b2 := 2) (fun m1 p1 => ?_) tail).mono (by lia)
        refine (p1.lit (b := 1) (by decide) rfl rfl fun _ _ m2 p2 => ?_).mono (by lia)
        exact (p2.any (b := 0) (by decide) rfl fun h3 h4 => absurd ⟨h3, h4⟩ hlt2).mono (by lia)
    · exact (p.until hb hn (by lia) (b1 := 1) (b2 := 2) (fun m1 p1 => p1.lit_no (by decide) rfl rfl hlt) tail).mono (by lia)

theorem rep_fails {text : Array Nat} (hz : text.size < 1000000) {m : M} {q w : Nat} (p : Qt cQuo text m 46 q 2 0 none #[] w) (hq : q ≤ text.size) (hw : w + 1 ≤ 4 * q + 20) (hs : qscan (text.toList.drop q) = none) : Fails (30 * (text.size - q) + 32) m := by
  have g1 := step_rep (p.at (by decide) q46) p.pc p.code p.loops p.inner (by rw [p.weight]; lia)
  obtain ⟨m1, g2, f1⟩ := until_fails hz _ _ q (w + 1) (-1) none (Nat.le_refl _) hq (⟨p.code, p.text, p.lim, p.out, p.ans, rfl, p.pos, p.marks, p.lm, rfl, rfl, by show m.weight + 1 = _; rw [p.weight]⟩ : Qt cQuo text { m with loops := lp (-1) none, inner := some 0, frames := { wait := .closeLoop, pc := 46, pos := m.pos, outermost := m.outermost, loop := 0 } :: m.frames, weight := m.weight + 1, pc := 66, handed := m.pos } 66 q 2 0 (some 0) (lp (-1) none) (w + 1)) (by intro b h; cases h) (by lia) hw hs
  have g3 : Go 1 m1 { m1 with answer := some false, frames := m.frames, weight := m.weight, pc := 46, pos := m.pos, outermost := m.outermost, inner := none, loops := #[] } := Go.one fun sn => by
    refine ⟨sn, ?_⟩
    have ho1 : m1.outcome = none := f1.out.trans p.out
    unfold M.step
    simp only [ho1, Option.isSome_none, Bool.false_eq_true, if_false, f1.ans, f1.frames, f1.weight, f1.loops, M.resume, M.say, M.loopAt]
    congr 1
  refine ⟨_, (g1.trans (g2.trans g3)).mono (by lia), ?_⟩
  exact ⟨rfl, rfl, rfl, f1.code, f1.text, f1.lim, f1.last, f1.whole, f1.must, p.inner.symm, p.loops.symm, f1.out, f1.marks⟩
end Mine
end

section
set_option linter.unusedSimpArgs false
set_option linter.unusedVariables false
namespace Mine
open PySem PySem.Sre

theorem Qt.runU {code text : Array Nat} {m : M} {pc pos k w b : Nat} {lm : Int} {inner : Option Nat} {loops : Array Loop} (p : Qt code text m pc pos k lm inner loops w) {P : Nat → Bool} {skip least : Nat} (hz : pc < code.size) (hk : code.getD pc 0 = 24) (h1 : code.getD (pc + 1) 0 = skip) (h2 : code.getD (pc + 2) 0 = least) (h3 : code.getD (pc + 3) 0 = 4294967295)
    (T : Takes code (pc + 4) P) (hle : pos ≤ text.size) (hlim : text.size < 1000) (hw : w + 1 + kwn k lm inner ≤ 16777216)
    (h : ∀ n m', least ≤ n → n ≤ ((text.toList.drop pos).takeWhile P).length → Qt code text m' (pc + 1 + skip) (pos + n) k lm inner loops (w + 1 + kwn k lm inner) → Fails b m') : Fails (1 + 1000 * (b + 1)) m := by
  refine (p.run (B := fun _ => b) (S := fun n => (n + 1) * (b + 1)) (sumS b).1 (sumS b).2 hz hk h1 h2 h3 T hle (by lia) hw h).mono ?_
  have := tw_le P (text.toList.drop pos)
  have h' : ((text.toList.drop pos).takeWhile P).length + 1 ≤ 1000 := by simp at this; lia
  have := Nat.mul_le_mul_right (b + 1) h'
  lia

/-! ### the value in marks: no match -/
theorem quo_miss {text : Array Nat} (hz : text.size < 1000) (hq : qRe text.toList = none) : Misses (1000 * 30041004003100) (forSearch cQuo text 1 0 text.size false) := by
  by_cases hs : 3 ≤ text.size
  · refine (anchored_miss (b := 30041004003010) (last := max 0 (text.size - (3 - 1))) (by decide) rfl rfl (by decide) hs rfl rfl (by lia) (fun m T => ?_) (by lia)).mono (by
      have : (text.size + 1) * (30041004003010 + 2) ≤ 1000 * (30041004003010 + 2) := Nat.mul_le_mul_right _ (by lia)
      lia)
    refine (T.qt.anchor (b := 1 + 1000 * (30041004002 + 1)) (by decide) rfl rfl fun m1 q1 => ?_).mono (by lia)
    refine q1.runU (by decide) rfl rfl rfl rfl quo_sp1 (Nat.zero_le _) hz (by simp [kwn]) fun n m2 _ hn q2 => ?_
    rw [Nat.zero_add] at q2
    have hn : n ≤ (text.toList.takeWhile sp).length := hn
    refine (q2.lit (b := 1 + 1000 * (30041003 + 1)) (c := 61) (by decide) rfl rfl fun l1 l2 m3 q3 => ?_).mono (by lia)
    -- the '=' stands there: behind all the white signs
    have hv : ∃ v, text.toList.dropWhile sp = 61 :: v := by
      by_cases h : ∃ v, text.toList.dropWhile sp = 61 :: v
      · exact h
      · exact absurd ⟨l1, l2⟩ (no_eq_at (fun v hv => h ⟨v, hv⟩) hn)
    obtain ⟨v, hv⟩ := hv
    have hnn : n = (text.toList.takeWhile sp).length := by
      have e := drop_of_getD l1
      rw [l2, drop_sub hn] at e
      cases hd : (text.toList.takeWhile sp).drop n with
      | nil =>
        have := congrArg List.length hd
        simp at this
        lia
      | cons c r =>
        rw [hd] at e
        injection e with e1 _
        have : c ∈ text.toList.takeWhile sp := List.mem_of_mem_drop (by rw [hd]; exact List.mem_cons_self ..)
        have := tw_all _ c this
        rw [e1, sp_61] at this
        cases this
    have e0 : text.toList.drop n = 61 :: v := by rw [hnn, drop_tw, hv]
    have e1 : text.toList.drop (n + 1) = v := by rw [← List.drop_drop, e0]; rfl
    refine q3.runU (by decide) rfl rfl rfl rfl quo_sp2 l1 hz (by simp [kwn]) fun n' m4 _ hn' q4 => ?_
    rw [e1] at hn'
    have hb : n + 1 + n' ≤ text.size := by
      have h1 := tw_le sp v
      have h2 := congrArg List.length e1
      simp at h2
      lia
    refine (q4.lit (b := 1 + (1 + 1000 * (30040 + 1))) (c := 34) (by decide) rfl rfl fun l3 l4 m5 q5 => ?_).mono (by lia)
    have e2 : text.toList.drop (n + 1 + n') = v.drop n' := by rw [← List.drop_drop, e1]
    have hnn' : n' = (v.takeWhile sp).length := by
      have e := drop_of_getD l3
      rw [l4, e2, drop_sub hn'] at e
      cases hd : (v.takeWhile sp).drop n' with
      | nil =>
        have := congrArg List.length hd
        simp at this
        lia
      | cons c r =>
        rw [hd] at e
        injection e with e1 _
        have : c ∈ v.takeWhile sp := List.mem_of_mem_drop (by rw [hd]; exact List.mem_cons_self ..)
        have := tw_all _ c this
        rw [e1, sp_34] at this
        cases this
    have e3 : text.toList.drop (n + 1 + n') = v.dropWhile sp := by rw [e2, hnn', drop_tw]
    have e4 := drop_of_getD l3
    rw [l4, e3] at e4
    have hqs : qscan (text.toList.drop (n + 1 + n' + 1)) = none := by
      have he : eqRe text.toList = some (34 :: text.toList.drop (n + 1 + n' + 1)) := by
        unfold eqRe
        rw [hv]
        exact congrArg some e4
      unfold qRe at hq
      rw [he] at hq
      exact hq
    refine (q5.mark0 (b := 1 + 1000 * (30040 + 1)) (by decide) rfl rfl fun m6 q6 => ?_)
    refine q6.runU (by decide) rfl rfl rfl rfl quo_set1 l3 hz (by simp [kwn]) fun i m7 _ hi q7 => ?_
    have hi2 := tw_le qC (text.toList.drop (n + 1 + n' + 1))
    have hle : n + 1 + n' + 1 + i ≤ text.size := by simp at hi2; lia
    refine (rep_fails (by lia) q7 hle (by simp [kwn] <;> lia) ?_).mono (by lia)
    have := qscan_none_drop i _ hi hqs
    rw [List.drop_drop] at this
    exact this
  · obtain ⟨m', g, ho⟩ := forSearch_short (code := cQuo) (text := text) (groups := 1) (pos := 0) (lim := text.size) (must := false) (by show text.size - 0 < 3; lia)
    exact ⟨m', g.mono (by lia), ho⟩

/-! ### the value in marks: a match -/
section
variable {text : Array Nat} {start : Nat} {m : M} {q : Nat} {mk : Array (Option Nat)} {li : Int} {fr : List Sre.Frame} {wt : Nat} {n : Int} {bg : Option Nat}
theorem Pt.rep (p : Pt cQuo text start m 46 q mk 0 li fr wt none #[]) (hw : wt + 1 ≤ 16777216) : ∃ m' f, Go 1 m m' ∧ Frame.easy f ∧ Pt cQuo text start m' 66 q mk 0 li (f :: fr) (wt + 1) (some 0) (lp (-1) none) := by
  have g1 := step_rep (p.at (by decide) q46) p.pc p.code p.loops p.inner (by rw [p.weight]; exact hw)
  exact ⟨_, { wait := .closeLoop, pc := 46, pos := m.pos, outermost := m.outermost, loop := 0 }, g1, .inr (.inr (.inr (.inr rfl))), ⟨p.code, p.text, p.lim, p.start, p.whole, p.must, p.out, p.ans, rfl, p.pos, p.marks, p.lm, p.li, by show _ :: m.frames = _; rw [p.frames], by show m.weight + 1 = _; rw [p.weight], rfl, rfl⟩⟩
theorem keep_size (hm : mk.size = 2) (p : Pt cQuo text start m 66 q mk 0 li fr wt (some 0) (lp n bg)) : (m.keep true).marks.size = 1 := by
  simp only [M.keep, if_true, p.lm, p.marks]
  simp [hm]
theorem Pt.more (hm : mk.size = 2) (p : Pt cQuo text start m 66 q mk 0 li fr wt (some 0) (lp n bg)) (hbg : bg ≠ some q) (hn : -1 ≤ n) (hw : wt + 2 ≤ 16777216) : ∃ m' f, Go 1 m m' ∧ Frame.easy f ∧ Pt cQuo text start m' 50 q mk 0 li (f :: fr) (wt + 2) (some 0) (lp (n + 1) (some q)) := by
  have hks := keep_size hm p
  have g1 := step_more (p.at (by decide) q66) p.pc p.code p.loops p.inner (by rw [p.pos]; exact hbg) hn (by rw [hks, p.weight]; exact hw)
  refine ⟨_, { wait := .maxMore, pc := 67, pos := m.pos, outermost := m.outermost, loop := 0, count := n + 1, kept := m.keep true, began := bg }, g1, .inr (.inr (.inr (.inl rfl))), ⟨p.code, p.text, p.lim, p.start, p.whole, p.must, p.out, p.ans, rfl, p.pos, p.marks, p.lm, p.li, by show _ :: m.frames = _; rw [p.frames], by show m.weight + 1 + (m.keep true).marks.size = _; rw [p.weight, hks], p.inner, by show lp (n + 1) (some m.pos) = _; rw [p.pos]⟩⟩
theorem Pt.stop (hm : mk.size = 2) (p : Pt cQuo text start m 66 q mk 0 li fr wt (some 0) (lp n bg)) (hbg : bg ≠ some q) (hn : -1 ≤ n) (hw : wt + 2 ≤ 16777216) (hne : ¬ (q < text.size ∧ text.getD q 0 = 92)) :
    ∃ m' f, Go 3 m m' ∧ Frame.easy f ∧ Pt cQuo text start m' 67 q mk 0 li (f :: fr) (wt + 1) none (lp n bg) := by
  have hks := keep_size hm p
  have g1 := step_more (p.at (by decide) q66) p.pc p.code p.loops p.inner (by rw [p.pos]; exact hbg) hn (by rw [hks, p.weight]; exact hw)
  have g2 := step_lit (m := { m with loops := lp (n + 1) (some m.pos), frames := { wait := .maxMore, pc := 67, pos := m.pos, outermost := m.outermost, loop := 0, count := n + 1, kept := m.keep true, began := bg } :: m.frames, weight := m.weight + 1 + (m.keep true).marks.size, pc := 50, handed := m.pos }) ⟨p.out, p.ans, by show 50 < m.code.size; rw [p.code]; decide, by show m.code.getD 50 0 = 16; rw [p.code]; rfl⟩ (c := 92) (by show m.code.getD 51 0 = 92; rw [p.code]; rfl)
  rw [if_neg (by show ¬ (m.pos < m.lim ∧ m.text.getD m.pos 0 = 92); rw [p.pos, p.lim, p.text]; exact hne)] at g2
  have g3 := step_tail (m1 := { m with loops := lp (n + 1) (some m.pos), frames := { wait := .maxMore, pc := 67, pos := m.pos, outermost := m.outermost, loop := 0, count := n + 1, kept := m.keep true, began := bg } :: m.frames, weight := m.weight + 1 + (m.keep true).marks.size, pc := 50, handed := m.pos, answer := some false }) (n := n) (bg := bg) (w := m.weight) p.out rfl p.code rfl rfl rfl (by rw [p.weight]; lia)
  refine ⟨_, { wait := .maxTail, pc := 67, pos := m.pos, outermost := m.outermost, loop := 0, count := n + 1, kept := { lastmark := (m.keep true).lastmark, lastindex := (m.keep true).lastindex } }, g1.trans (g2.trans g3), .inr (.inr (.inl rfl)), ⟨p.code, p.text, p.lim, p.start, p.whole, p.must, p.out, rfl, rfl, p.pos, ?_, p.lm, p.li, by show _ :: m.frames = _; rw [p.frames], by show m.weight + 1 = _; rw [p.weight], rfl, rfl⟩⟩
  show (if (m.keep true).whole = true then (m.keep true).marks ++ m.marks.extract (m.keep true).marks.size m.marks.size else m.marks) = mk
  rw [hks]
  simp only [M.keep, if_true, p.lm, p.marks]
  obtain ⟨l⟩ := mk
  match l, hm with
  | [x, y], _ => rfl
end

/-- a body in marks: its plain signs, and then nothing or a backslash -/
theorem QB_run : ∀ {x : Txt}, QB x → ∀ r, ∃ a y, x = a ++ y ∧ ((x ++ 34 :: r).takeWhile qC) = a ∧ QB y ∧ (y = [] ∨ ∃ c z, y = 92 :: c :: z ∧ c ≠ 10 ∧ QB z) := by
  intro x h
  induction h with
  | nil => exact fun r => ⟨[], [], rfl, rfl, .nil, .inl rfl⟩
  | @esc c q hc hq _ => exact fun r => ⟨[], 92 :: c :: q, rfl, rfl, .esc hc hq, .inr ⟨c, q, rfl, hc, hq⟩⟩
  | @ch c q h1 h2 _ ih =>
    intro r
    obtain ⟨a, y, e1, e2, e3, e4⟩ := ih r
    refine ⟨c :: a, y, by rw [e1]; rfl, ?_, e3, e4⟩
    rw [List.cons_append, List.takeWhile_cons, if_pos (qC_iff.mpr ⟨h1, h2⟩), e2]

theorem until_hits {text : Array Nat} (hz : text.size < 1000) {start : Nat} : ∀ (d : Nat) (x r : Txt) (m : M) (q : Nat) (mk : Array (Option Nat)) (li : Int) (fr : List Sre.Frame) (wt : Nat) (n : Int) (bg : Option Nat), x.length ≤ d → mk.size = 2 → Pt cQuo text start m 66 q mk 0 li fr wt (some 0) (lp n bg) →
    text.toList.drop q = x ++ 34 :: r → QB x → (x = [] ∨ ∃ c z, x = 92 :: c :: z ∧ c ≠ 10 ∧ QB z) → (∀ b, bg = some b → b < q) → -1 ≤ n → wt ≤ 4 * q + 20 → fr.length ≤ 2 * q + 20 → (∀ f ∈ fr, Frame.easy f) →
    Hits (10 * x.length + 2 * q + 40) m start (q + x.length + 1) (mk.setIfInBounds 1 (some (q + x.length))) 1 1 := by
  intro d
  induction d using Nat.strongRecOn with
  | ind d ih =>
    intro x r m q mk li fr wt n bg hd hmk p ht hx hxs hbg hn hw hfl hE
    have hb : bg ≠ some q := fun h => by have := hbg q h; lia
    have hq : q ≤ text.size := by
      have := congrArg List.length ht
      simp at this
      lia
    rcases hxs with rfl | ⟨c, z, rfl, hc, hzz⟩
    · obtain ⟨l1, l2⟩ := getD_of_drop (show text.toList.drop q = 34 :: r from ht)
      obtain ⟨m1, f1, g1, e1, P1⟩ := p.stop hmk hb hn (by lia) (by intro h; rw [l2] at h; lia)
      obtain ⟨m2, g2, P2⟩ := P1.mark1 (by decide) rfl rfl
      obtain ⟨m3, g3, P3⟩ := P2.lit (c := 34) (by decide) rfl rfl l1 l2
      have H := P3.suc (by decide) rfl (by intro f hf; rcases List.mem_cons.mp hf with rfl | hf; exact e1; exact hE f hf)
      exact (Hits.of_go (g1.trans (g2.trans g3)) H).mono (by simp; lia)
    · obtain ⟨l1, l2⟩ := getD_of_drop (show text.toList.drop q = 92 :: c :: (z ++ 34 :: r) from ht)
      have ht1 : text.toList.drop (q + 1) = c :: (z ++ 34 :: r) := by rw [← List.drop_drop, ht]; rfl
      obtain ⟨l3, l4⟩ := getD_of_drop ht1
      have ht2 : text.toList.drop (q + 1 + 1) = z ++ 34 :: r := by rw [← List.drop_drop, ht1]; rfl
      obtain ⟨a, y, e1, e2, e3, e4⟩ := QB_run hzz r
      have hlen : text.size = q + 2 + z.length + 1 + r.length := by
        have := congrArg List.length ht
        simp at this
        lia
      obtain ⟨m1, f1, g1, h1, P1⟩ := p.more hmk hb hn (by lia)
      obtain ⟨m2, g2, P2⟩ := P1.lit (by decide) rfl rfl l1 l2
      obtain ⟨m3, g3, P3⟩ := P2.any (by decide) rfl l3 (by rw [l4]; exact hc)
      have hkw : kw mk 0 (some 0) = 1 := by simp [kw, hmk]
      obtain ⟨m4, f4, g4, h4, P4⟩ := P3.run (n := a.length) (by decide) rfl rfl rfl rfl quo_set2 (by lia) (by lia) (by rw [hkw]; lia) (by rw [ht2, e2]) (Nat.zero_le _)
      rw [hkw] at P4
      have hzl : z.length = a.length + y.length := by rw [e1]; simp
      have ht4 : text.toList.drop (q + 1 + 1 + a.length) = y ++ 34 :: r := by rw [← List.drop_drop, ht2, e1, List.append_assoc, List.drop_left]
      have H := ih y.length (by simp at hd; lia) y r m4 (q + 1 + 1 + a.length) mk li _ _ _ _ (Nat.le_refl _) hmk P4 ht4 e3 e4 (by intro b hb'; injection hb' with hb'; lia) (by lia) (by lia) (by simp; lia)
        (by intro f hf; rcases List.mem_cons.mp hf with rfl | hf; exact h4; rcases List.mem_cons.mp hf with rfl | hf; exact h1; exact hE f hf)
      have ee : q + 1 + 1 + a.length + y.length = q + (92 :: c :: z).length := by simp; lia
      rw [ee] at H
      exact (Hits.of_go (g1.trans (g2.trans (g3.trans g4))) H).mono (by simp; lia)

theorem quo_hit {text : Array Nat} (hz : text.size < 1000) {v r : Txt} (hq : qRe text.toList = some (v, r)) :
    Hits 20000 (forSearch cQuo text 1 0 text.size false) 0 (vAt text.toList + 1 + v.length + 1) #[some (vAt text.toList + 1), some (vAt text.toList + 1 + v.length)] 1 1 ∧ text.toList.drop (vAt text.toList + 1 + v.length + 1) = r ∧ text.toList.drop (vAt text.toList + 1) = v ++ 34 :: r := by
  unfold qRe at hq
  split at hq
  · rename_i u hu
    obtain ⟨es, hQB⟩ := qscan_eq _ u (Nat.le_refl _) v r hq
    obtain ⟨x, e1, e2, e3, e4, e5⟩ := eq_places hu
    generalize hn1 : (text.toList.takeWhile sp).length = n1 at e3 e4 e5
    have hV : vAt text.toList = n1 + 1 + (x.takeWhile sp).length := by unfold vAt; rw [hn1, e4]
    rw [hV]
    generalize hn2 : (x.takeWhile sp).length = n2 at e5
    obtain ⟨l1, l2⟩ := getD_of_drop e3
    obtain ⟨l3, l4⟩ := getD_of_drop e5
    have e6 : text.toList.drop (n1 + 1 + n2 + 1) = v ++ 34 :: r := by rw [← List.drop_drop, e5, ← es]; rfl
    refine ⟨?_, by rw [show n1 + 1 + n2 + 1 + v.length + 1 = n1 + 1 + n2 + 1 + (v.length + 1) by lia, ← List.drop_drop, e6, ← List.drop_drop, List.drop_left]; rfl, e6⟩
    have hlen : text.size = n1 + 1 + n2 + 1 + v.length + 1 + r.length := by
      have := congrArg List.length e6
      simp at this
      lia
    obtain ⟨T, hm⟩ := forSearch_try (code := cQuo) (text := text) (groups := 1) (must := false) (pos := 0) (lim := text.size) (pc0 := 5) (last := max 0 (text.size - (3 - 1))) (by decide) ⟨Nat.zero_le _, by show 3 ≤ _; lia⟩ rfl rfl
    generalize forSearch cQuo text 1 0 text.size false = m at T hm
    obtain ⟨f0, hf0, P0⟩ := T.pt hm
    have hmk : m.marks.size = 2 := T.marks
    obtain ⟨m1, g1, P1⟩ := P0.anchor (by decide) rfl rfl
    obtain ⟨m2, f2, g2, hf2, P2⟩ := P1.run (by decide) rfl rfl rfl rfl quo_sp1 (Nat.zero_le _) (by lia) (by simp [kw_none]) (by rw [List.drop_zero, hn1]) (Nat.zero_le _)
    rw [Nat.zero_add] at P2
    obtain ⟨m3, g3, P3⟩ := P2.lit (by decide) rfl rfl l1 l2
    obtain ⟨m4, f4, g4, hf4, P4⟩ := P3.run (by decide) rfl rfl rfl rfl quo_sp2 l1 (by lia) (by simp [kw_none]) (by rw [e4, hn2]) (Nat.zero_le _)
    obtain ⟨m5, g5, P5⟩ := P4.lit (by decide) rfl rfl l3 l4
    obtain ⟨m6, g6, P6⟩ := P5.mark0 (by decide) rfl rfl
    obtain ⟨a, y, y1, y2, y3, y4⟩ := QB_run hQB r
    obtain ⟨m7, f7, g7, hf7, P7⟩ := P6.run (n := a.length) (by decide) rfl rfl rfl rfl quo_set1 (by lia) (by lia) (by simp [kw_none]) (by rw [e6, y2]) (Nat.zero_le _)
    obtain ⟨m8, f8, g8, hf8, P8⟩ := P7.rep (by simp [kw_none])
    have hvl : v.length = a.length + y.length := by rw [y1]; simp
    have e7 : text.toList.drop (n1 + 1 + n2 + 1 + a.length) = y ++ 34 :: r := by rw [← List.drop_drop, e6, y1, List.append_assoc, List.drop_left]
    have H := until_hits hz _ y r m8 _ _ _ _ _ _ _ (Nat.le_refl _) (by simp [hmk]) P8 e7 y3 y4 (by intro b hb'; cases hb') (by lia) (by simp [kw_none] <;> lia) (by simp <;> lia)
      (by intro f hf; simp at hf; rcases hf with rfl | rfl | rfl | rfl | rfl <;> assumption)
    have ee : n1 + 1 + n2 + 1 + a.length + y.length = n1 + 1 + n2 + 1 + v.length := by lia
    rw [ee, two_marks hmk] at H
    exact (Hits.of_go (g1.trans (g2.trans (g3.trans (g4.trans (g5.trans (g6.trans (g7.trans g8))))))) H).mono (by lia)
  · cases hq
end Mine
end

section
set_option maxRecDepth 100000
namespace Mine
open PySem PySem.Builtin.Re

theorem slot_search : Slot "re.Pattern" "search" "re.Pattern.search" :=
  .of (owner := "re.Pattern") (n := "search") (by rw [typeLookup_type, builtinLookup_eq_fast]; kernel_rfl) (by decide +kernel) (by decide +kernel) (by decide +kernel)
    (by first | exact .inl (by decide +kernel) | exact .inr (by decide +kernel)) (by rw [isSubtype_type]; kernel_rfl)
theorem slot_sub : Slot "re.Pattern" "sub" "re.Pattern.sub" :=
  .of (owner := "re.Pattern") (n := "sub") (by rw [typeLookup_type, builtinLookup_eq_fast]; kernel_rfl) (by decide +kernel) (by decide +kernel) (by decide +kernel)
    (by first | exact .inl (by decide +kernel) | exact .inr (by decide +kernel)) (by rw [isSubtype_type]; kernel_rfl)
theorem slot_subn : Slot "re.Pattern" "subn" "re.Pattern.subn" :=
  .of (owner := "re.Pattern") (n := "subn") (by rw [typeLookup_type, builtinLookup_eq_fast]; kernel_rfl) (by decide +kernel) (by decide +kernel) (by decide +kernel)
    (by first | exact .inl (by decide +kernel) | exact .inr (by decide +kernel)) (by rw [isSubtype_type]; kernel_rfl)
theorem slot_group : Slot "re.Match" "group" "re.Match.group" :=
  .of (owner := "re.Match") (n := "group") (by rw [typeLookup_type, builtinLookup_eq_fast]; kernel_rfl) (by decide +kernel) (by decide +kernel) (by decide +kernel)
    (by first | exact .inl (by decide +kernel) | exact .inr (by decide +kernel)) (by rw [isSubtype_type]; kernel_rfl)
theorem slot_span : Slot "re.Match" "span" "re.Match.span" :=
  .of (owner := "re.Match") (n := "span") (by rw [typeLookup_type, builtinLookup_eq_fast]; kernel_rfl) (by decide +kernel) (by decide +kernel) (by decide +kernel)
    (by first | exact .inl (by decide +kernel) | exact .inr (by decide +kernel)) (by rw [isSubtype_type]; kernel_rfl)
theorem type_search : typeOf (.builtin "re.Pattern.search") = pure (.type "method_descriptor") := by show builtinType _ = _; rw [builtinType_eq_fast]; kernel_rfl
theorem type_sub : typeOf (.builtin "re.Pattern.sub") = pure (.type "method_descriptor") := by show builtinType _ = _; rw [builtinType_eq_fast]; kernel_rfl
theorem type_subn : typeOf (.builtin "re.Pattern.subn") = pure (.type "method_descriptor") := by show builtinType _ = _; rw [builtinType_eq_fast]; kernel_rfl
theorem type_group : typeOf (.builtin "re.Match.group") = pure (.type "method_descriptor") := by show builtinType _ = _; rw [builtinType_eq_fast]; kernel_rfl
theorem type_span : typeOf (.builtin "re.Match.span") = pure (.type "method_descriptor") := by show builtinType _ = _; rw [builtinType_eq_fast]; kernel_rfl
theorem entry_search : entryFor table "re.Pattern.search" = some Builtin.«re.Pattern.search» := entryFor_of_tree (by kernel_rfl)
theorem entry_sub : entryFor table "re.Pattern.sub" = some Builtin.«re.Pattern.sub» := entryFor_of_tree (by kernel_rfl)
theorem entry_subn : entryFor table "re.Pattern.subn" = some Builtin.«re.Pattern.subn» := entryFor_of_tree (by kernel_rfl)
theorem entry_loop : entryFor table "re.Pattern.sub.loop" = some Builtin.«re.Pattern.sub.loop» := entryFor_of_tree (by kernel_rfl)
theorem entry_group : entryFor table "re.Match.group" = some Builtin.«re.Match.group» := entryFor_of_tree (by kernel_rfl)
theorem entry_span : entryFor table "re.Match.span" = some Builtin.«re.Match.span» := entryFor_of_tree (by kernel_rfl)
theorem plainAttrs_pat : PlainAttrs "re.Pattern" := ⟨⟨"object.__getattribute__", (by rw [typeLookup_type, builtinLookup_eq_fast]; kernel_rfl), by decide +kernel⟩, by rw [typeLookup_type, builtinLookup_eq_fast]; kernel_rfl⟩
theorem plainAttrs_match : PlainAttrs "re.Match" := ⟨⟨"object.__getattribute__", (by rw [typeLookup_type, builtinLookup_eq_fast]; kernel_rfl), by decide +kernel⟩, by rw [typeLookup_type, builtinLookup_eq_fast]; kernel_rfl⟩
theorem args_search (a b : Value) : argsOk "re.Pattern.search" ⟨[a, b], []⟩ := by unfold argsOk; rfl
end Mine
end

section
set_option maxRecDepth 100000
set_option linter.unusedSimpArgs false
set_option linter.unusedVariables false
namespace Mine
open PySem PySem.Builtin.Re PySem.Sre

/-! ### the machine within the model -/
theorem stepN_done {m : M} (h : m.outcome.isSome = true) : ∀ n, stepN n m = m
  | 0 => rfl
  | n + 1 => by
    have : m.step = m := by unfold M.step; rw [if_pos h]
    rw [stepN, this]; exact stepN_done h n
theorem runFor_eq : ∀ (n : Nat) (m : M), m.runFor n = stepN n m
  | 0, _ => rfl
  | n + 1, m => by
    rw [M.runFor]
    split
    · rename_i h; exact (stepN_done h (n + 1)).symm
    · exact runFor_eq n m.step

section
variable {Mo : Model} {A : Around} {E : Value → Shared → Prop} {s : Shared}
theorem wpAny_reDrive {Q : M → Shared → Prop} {mf : M} (ho : mf.outcome.isSome = true) (hQ : Q mf s) : ∀ (turns n : Nat) (m : M), stepN n m = mf → n ≤ 4 * turns → 0 < turns → wpAny Mo A (reDrive turns m) Q E s
  | 0, _, _, _, _, h => absurd h (by omega)
  | turns + 1, n, m, hn, hb, _ => by
    have e : reDrive (turns + 1) m = (if (m.runFor reTurnSteps).outcome.isSome then pure (m.runFor reTurnSteps) else do rule "sre.turn"; reDrive turns (m.runFor reTurnSteps)) := rfl
    rw [e, runFor_eq]
    show wpAny Mo A (if (stepN 4 m).outcome.isSome = true then _ else _) Q E s
    by_cases h4 : (stepN 4 m).outcome.isSome = true
    · rw [if_pos h4]
      have : stepN 4 m = mf := by
        by_cases hle : n ≤ 4
        · rw [show (4 : Nat) = n + (4 - n) by omega, stepN_add, hn, stepN_done ho]
        · rw [← hn, show n = 4 + (n - 4) by omega, stepN_add, stepN_done h4]
      show wpAny Mo A (pure (stepN 4 m)) Q E s
      rw [this]
      exact wpAny_pure hQ
    · rw [if_neg h4]
      have hgt : 4 < n := by
        rcases Nat.lt_or_ge 4 n with h | h
        · exact h
        · exfalso
          apply h4
          rw [show (4 : Nat) = n + (4 - n) by omega, stepN_add, hn, stepN_done ho]
          exact ho
      refine wpAny_bind (wpAny_rule ?_)
      exact wpAny_reDrive ho hQ turns (n - 4) (stepN 4 m) (by rw [← stepN_add, show 4 + (n - 4) = n by omega, hn]) (by omega) (by omega)

theorem wpAny_ruleLoop {β : Type} (f : Nat → PUnit → Sem (ForInStep PUnit)) (l : List Nat) {Q : PUnit → Shared → Prop} (hf : ∀ i u, f i u = pure (.yield ⟨⟩) ∨ ∃ t, f i u = (do rule t; pure (.yield ⟨⟩))) (h : Q ⟨⟩ s) : wpAny Mo A (forIn l ⟨⟩ f) Q E s := by
  refine wpAny_forIn_list f (fun _ _ s' => s' = s) Q (fun x rest b s' e => ?_) (fun b s' e => by subst e; exact h) l ⟨⟩ rfl
  subst e
  rcases hf x b with e | ⟨t, e⟩
  · rw [e]; exact wpAny_pure rfl
  · rw [e]; exact wpAny_bind (wpAny_rule (wpAny_pure rfl))

theorem wpAny_reRun {Q : Option M → Shared → Prop} {m mf : M} {b : Nat} (g : Go b m mf) (hb : b ≤ 2 ^ 64) (ho : mf.outcome.isSome = true)
    (h : ∀ sn, wpAny Mo A (match mf.outcome with | some .matched => pure (some { mf with seen := sn }) | some .failed => pure none | some (.stuck why) => unsupported s!"_sre:{why}" | none => unsupported "internal:sre:no-outcome") Q E s) : wpAny Mo A (reRunToEnd m) Q E s := by
  obtain ⟨n, sn, hn, e⟩ := g m.seen
  unfold reRunToEnd
  refine wpAny_bind (wpAny_reDrive (mf := { mf with seen := sn }) ho ?_ (2 ^ 64) n m e (by omega) (by decide))
  refine wpAny_bind (wpAny_ruleLoop (β := Unit) _ _ (fun i u => ?_) ?_)
  · show ((if _ then _ else _) = _) ∨ _
    by_cases hi : ({ mf with seen := sn } : M).seen.has i = true
    · exact .inr ⟨Sre.names.getD i "", by simp only [hi]; rfl⟩
    · exact .inl (by simp only [hi]; rfl)
  · exact h sn
theorem wpAny_reRun_hit {Q : Option M → Shared → Prop} {m : M} {b start e : Nat} {marks : Array (Option Nat)} {lm li : Int} (H : Hits b m start e marks lm li) (hb : b ≤ 2 ^ 64) (h : ∀ mf, Hit mf start e marks lm li → Q (some mf) s) : wpAny Mo A (reRunToEnd m) Q E s := by
  obtain ⟨mf, g, ho, X⟩ := H
  refine wpAny_reRun g hb (by rw [ho]; rfl) fun sn => ?_
  rw [ho]
  exact wpAny_pure (h _ ⟨X.start, X.handed, X.marks, X.lm, X.li⟩)
theorem wpAny_reRun_miss {Q : Option M → Shared → Prop} {m : M} {b : Nat} (H : Misses b m) (hb : b ≤ 2 ^ 64) (h : Q none s) : wpAny Mo A (reRunToEnd m) Q E s := by
  obtain ⟨mf, g, ho⟩ := H
  refine wpAny_reRun g hb (by rw [ho]; rfl) fun sn => ?_
  rw [ho]
  exact wpAny_pure h
end

/-! ### the pattern's and the match's objects -/
def patObj (pat flags : Value) (groups : Int) (c : Addr) : Obj := { cls := .type "re.Pattern", data := .fields #[pat, flags, .int groups 0, .none, .none, .ref c, .int 0 0] }
def tupObj (vs : List Value) : Obj := { cls := .type "tuple", data := .seq vs.toArray }
/-- the pattern at p runs the code -/
structure IsPat (h : Heap) (p : Addr) (groups : Nat) (code : Array Nat) : Prop where
  ex : ∃ pat flags c vs k, h.get? p = some (patObj pat flags groups c) ∧ h.get? c = some { cls := .type "tuple", data := .seq vs k } ∧ (vs.map reRawOf).map (·.toNat) = code
def matchObj (string pattern : Value) (lim : Nat) (li : Int) (T : Addr) : Obj := { cls := .type "re.Match", data := .fields #[string, pattern, rawInt 0, rawInt lim, rawInt li, .ref T] }

theorem IsPat.type {s : Shared} {p : Addr} {groups : Nat} {code : Array Nat} (h : IsPat s.heap p groups code) : s.TypeIs (.ref p) "re.Pattern" := by
  obtain ⟨pat, flags, c, vs, k, h1, _⟩ := h
  exact ⟨_, h1, rfl⟩

section
variable {Mo : Model} {A : Around} {E : Value → Shared → Prop} {s : Shared}
theorem wpAny_reTarget {id f : String} {p : Addr} {groups : Nat} {code : Array Nat} {x : Str} {t : Tok} {Q : ReTarget → Shared → Prop} (hp : IsPat s.heap p groups code) (hx : x.cps.size < 2 ^ 63)
    (h : Q { pattern := .ref p, string := .str x t, code := code, text := x.cps, kind := 0, groups := groups, pos := 0, lim := x.cps.size } s) : wpAny Mo A (reTarget id f ⟨[.ref p, .str x t], []⟩) Q E s := by
  obtain ⟨pat, flags, c, vs, k, h1, h2, h3⟩ := hp
  unfold reTarget
  dsimp only
  refine wpAny_bind (m := reNamed id f ["string", "pos", "endpos"] 1 [.str x t] []) (Q := _) ?_
  have e : reNamed id f ["string", "pos", "endpos"] 1 [.str x t] [] = pure [some (.str x t), none, none] := rfl
  rw [e]
  refine wpAny_pure ?_
  dsimp only
  refine wpAny_bind (wpAny_pure (wpAny_bind (wpAny_pure (wpAny_bind (wpAny_fieldsOf h1 rfl ?_)))))
  have e2 : reTextOf (.str x t) = pure (x.cps, 0) := rfl
  rw [e2]
  refine wpAny_bind (wpAny_pure ?_)
  dsimp only
  refine wpAny_bind (wpAny_ite_false (by rfl) ?_)
  refine wpAny_pure ?_
  refine wpAny_bind (m := reRawItems (.ref c)) ?_
  unfold reRawItems
  refine wpAny_bind (wpAny_seqItems h2 rfl (wpAny_pure ?_))
  refine wpAny_pure ?_
  have e3 : min (Int.toNat 0) x.cps.size = 0 := by simp
  have e4 : min ((2 ^ 63 - 1 : Int)).toNat x.cps.size = x.cps.size := by
    have : ((2 ^ 63 - 1 : Int)).toNat = 2 ^ 63 - 1 := by decide
    rw [this]; omega
  have e5 : reRawNat (.int (groups : Int) 0) = groups := by simp [reRawNat]
  have h' := h
  rw [← h3] at h'
  show Q { pattern := .ref p, string := .str x t, code := (vs.map reRawOf).map (·.toNat), text := x.cps, kind := 0, groups := reRawNat (.int (groups : Int) 0), pos := min (Int.toNat 0) x.cps.size, lim := min ((2 ^ 63 - 1 : Int)).toNat x.cps.size } s
  rw [e3, e4, e5]
  exact h'
theorem wpAny_reNewMatch1 {pattern string : Value} {lim start e a b : Nat} {m : M} {Q : Value → Shared → Prop} (H : Hit m start e #[some a, some b] 1 1) (hab : a ≤ b)
    (h : Q (.ref (s.heap.objs.size + 1)) { s with heap := (s.heap.push (tupObj [rawInt start, rawInt e, rawInt a, rawInt b])).push (matchObj string pattern lim 1 s.heap.objs.size) }) : wpAny Mo A (reNewMatch pattern string 1 0 lim m) Q E s := by
  unfold reNewMatch
  obtain ⟨h1, h2, h3, h4, h5⟩ := H
  have r1 : List.range 1 = [0] := rfl
  simp only [h1, h2, h3, h4, h5, r1, List.flatMap_cons, List.flatMap_nil, List.append_nil, List.any_cons, List.any_nil, Bool.or_false]
  have c1 : ((2 * 0 + 1 : Nat) : Int) ≤ 1 := by decide
  have g0 : (#[some a, some b] : Array (Option Nat)).getD (2 * 0) none = some a := rfl
  have g1 : (#[some a, some b] : Array (Option Nat)).getD (2 * 0 + 1) none = some b := rfl
  simp only [g0, g1, c1, if_true]
  have hlt : decide (b < a) = false := by simp; omega
  simp only [hlt, Bool.and_false, Bool.false_eq_true, if_false]
  refine wpAny_bind (wpAny_newTuple ?_ (by simp [sizeLine]))
  refine wpAny_newObj_type ?_ (by simp [sizeOk, sizeLine])
  have ez : (s.heap.push (tupObj [rawInt start, rawInt e, rawInt a, rawInt b])).objs.size = s.heap.objs.size + 1 := Heap.size_push ..
  show Q (.ref (s.heap.push (tupObj [rawInt start, rawInt e, rawInt a, rawInt b])).objs.size) _
  rw [ez]
  exact h
end

section
variable {prog : Program} {w : World} {A : Around} {E : Value → Shared → Prop} {s : Shared}
/-- search, one group: a match -/
theorem search_hit {p : Addr} {code : Array Nat} {x : Str} {t : Tok} {b e a c : Nat} {Q : Value → Shared → Prop} (hp : IsPat s.heap p 1 code) (hx : x.cps.size < 1000)
    (H : Hits b (forSearch code x.cps 1 0 x.cps.size false) 0 e #[some a, some c] 1 1) (hb : b ≤ 2 ^ 64) (hac : a ≤ c)
    (h : Q (.ref (s.heap.objs.size + 1)) { s with heap := (s.heap.push (tupObj [rawInt (0 : Nat), rawInt e, rawInt a, rawInt c])).push (matchObj (.str x t) (.ref p) x.cps.size 1 s.heap.objs.size) }) :
    wpAny (model prog w) A (call (.builtin "re.Pattern.search") [.ref p, .str x t]) Q E s := by
  refine wpAny_call_entry slot_search hp.type entry_search ?_ (args_search _ _)
  unfold Builtin.«re.Pattern.search»
  refine wpAny_bind (wpAny_reTarget hp (by omega) ?_)
  unfold reAnswer
  refine wpAny_bind (wpAny_reRun_hit H hb fun mf X => ?_)
  exact wpAny_bind (wpAny_reNewMatch1 X hac (wpAny_pure ⟨_, rfl, h⟩))
theorem search_miss {p : Addr} {code : Array Nat} {x : Str} {t : Tok} {b : Nat} {Q : Value → Shared → Prop} (hp : IsPat s.heap p 1 code) (hx : x.cps.size < 1000)
    (H : Misses b (forSearch code x.cps 1 0 x.cps.size false)) (hb : b ≤ 2 ^ 64) (h : Q .none s) :
    wpAny (model prog w) A (call (.builtin "re.Pattern.search") [.ref p, .str x t]) Q E s := by
  refine wpAny_call_entry slot_search hp.type entry_search ?_ (args_search _ _)
  unfold Builtin.«re.Pattern.search»
  refine wpAny_bind (wpAny_reTarget hp (by omega) ?_)
  unfold reAnswer
  exact wpAny_bind (wpAny_reRun_miss H hb (wpAny_pure ⟨_, rfl, h⟩))
end
end Mine
end

section
set_option maxRecDepth 100000
set_option linter.unusedSimpArgs false
set_option linter.unusedVariables false
namespace Mine
open PySem PySem.Builtin.Re PySem.Sre

/-- a match of the text x: it ends at e, its group goes from a to c -/
structure IsMatch (h : Heap) (m : Addr) (x : Str) (t : Tok) (st e a c : Nat) : Prop where
  ex : ∃ pat lim li T, h.get? m = some (matchObj (.str x t) pat lim li T) ∧ h.get? T = some (tupObj [rawInt st, rawInt e, rawInt a, rawInt c])
theorem IsMatch.type {s : Shared} {m : Addr} {x : Str} {t : Tok} {st e a c : Nat} (h : IsMatch s.heap m x t st e a c) : s.TypeIs (.ref m) "re.Match" := by
  obtain ⟨pat, lim, li, T, h1, _⟩ := h
  exact ⟨_, h1, rfl⟩
theorem IsMatch.keep {h h' : Heap} {m : Addr} {x : Str} {t : Tok} {st e a c : Nat} (H : IsMatch h m x t st e a c) (hk : ∀ b o, h.get? b = some o → h'.get? b = some o) : IsMatch h' m x t st e a c := by
  obtain ⟨pat, lim, li, T, h1, h2⟩ := H
  exact ⟨pat, lim, li, T, hk _ _ h1, hk _ _ h2⟩

theorem args_group (a b : Value) : argsOk "re.Match.group" ⟨[a, b], []⟩ := by unfold argsOk; rfl
theorem args_span (a b : Value) : argsOk "re.Match.span" ⟨[a, b], []⟩ := by unfold argsOk; rfl

section
variable {prog : Program} {w : World} {A : Around} {E : Value → Shared → Prop} {s : Shared}
theorem wpAny_reFound {Mo : Model} {m : Addr} {x : Str} {t : Tok} {st e a c : Nat} {Q : ReFound → Shared → Prop} (H : IsMatch s.heap m x t st e a c)
    (h : ∀ fs, fs.getD 0 .none = .str x t → Q { fields := fs, spans := #[(st : Int), (e : Int), (a : Int), (c : Int)] } s) : wpAny Mo A (reFound (.ref m)) Q E s := by
  obtain ⟨pat, lim, li, T, h1, h2⟩ := H
  unfold reFound
  refine wpAny_bind (wpAny_fieldsOf h1 rfl ?_)
  refine wpAny_bind (m := reRawItems (.ref T)) ?_
  unfold reRawItems
  refine wpAny_bind (wpAny_seqItems h2 rfl (wpAny_pure ?_))
  have e1 : Array.map reRawOf ((some ([rawInt st, rawInt e, rawInt a, rawInt c].toArray)).getD #[]) = #[(st : Int), (e : Int), (a : Int), (c : Int)] := by simp [rawInt, reRawOf]
  have h' := h #[.str x t, pat, rawInt 0, rawInt lim, rawInt li, .ref T] rfl
  rw [← e1] at h'
  exact wpAny_pure h'
theorem group1 {m : Addr} {x : Str} {t u : Tok} {st e a c : Nat} {Q : Value → Shared → Prop} (H : IsMatch s.heap m x t st e a c) (hx : x.cps.size < 1000) (hac : a ≤ c)
    (h : ∀ tk, Q (.str ⟨x.cps.extract a c⟩ tk) { s with toks := s.toks + 1 }) : wpAny (model prog w) A (call (.builtin "re.Match.group") [.ref m, .int 1 u]) Q E s := by
  refine wpAny_call_entry slot_group H.type entry_group ?_ (args_group _ _)
  unfold Builtin.«re.Match.group»
  refine wpAny_bind (wpAny_pure ?_)
  refine wpAny_bind (wpAny_reFound H fun fs hfs => ?_)
  dsimp only
  have e1 : reGroupNumber { fields := fs, spans := #[(st : Int), (e : Int), (a : Int), (c : Int)] } (.int 1 u) = pure 1 := rfl
  rw [e1]
  refine wpAny_bind (wpAny_pure ?_)
  unfold reGroupText
  have g0 : (#[(st : Int), (e : Int), (a : Int), (c : Int)] : Array Int).getD (2 * 1) (-1) = a := rfl
  have g1 : (#[(st : Int), (e : Int), (a : Int), (c : Int)] : Array Int).getD (2 * 1 + 1) (-1) = c := rfl
  simp only [g0, g1, hfs]
  have hn : (decide ((a : Int) < 0) || decide ((c : Int) < 0)) = false := by simp <;> lia
  rw [if_neg (by rw [hn]; exact Bool.false_ne_true)]
  have e2 : reTextOf (.str x t) = pure (x.cps, 0) := rfl
  rw [e2]
  refine wpAny_bind (wpAny_bind (wpAny_pure ?_))
  dsimp only
  unfold reSlice
  refine wpAny_mkStr ?_ ?_
  · exact wpAny_pure ⟨_, rfl, h _⟩
  · show (x.cps.extract (a : Int).toNat (c : Int).toNat).size ≤ _
    simp [sizeLine]
    lia
theorem span0 {m : Addr} {x : Str} {t u : Tok} {st e a c : Nat} {Q : Value → Shared → Prop} (H : IsMatch s.heap m x t st e a c)
    (h : ∀ t1 t2 tk, Q (.ref s.heap.objs.size) { s with heap := s.heap.push (tupObj [.int st t1, .int e t2]), toks := tk }) : wpAny (model prog w) A (call (.builtin "re.Match.span") [.ref m, .int 0 u]) Q E s := by
  refine wpAny_call_entry slot_span H.type entry_span ?_ (args_span _ _)
  unfold Builtin.«re.Match.span» reOneGroup
  refine wpAny_bind (wpAny_bind (wpAny_pure ?_))
  refine wpAny_bind (wpAny_reFound H fun fs hfs => ?_)
  dsimp only
  have e1 : reGroupNumber { fields := fs, spans := #[(st : Int), (e : Int), (a : Int), (c : Int)] } (.int 0 u) = pure 0 := rfl
  rw [e1]
  refine wpAny_bind (wpAny_pure (wpAny_pure ?_))
  dsimp only
  refine wpAny_bind (wpAny_mkInt (wpAny_bind (wpAny_mkInt ?_)))
  refine wpAny_bind (wpAny_newTuple ?_ (by simp [sizeLine]))
  exact wpAny_pure ⟨_, rfl, h _ _ _⟩
end

/-! ### the text of a match -/
theorem slot_ga : Slot "re.Match" "__getattribute__" "object.__getattribute__" :=
  .of (owner := "object") (n := "__getattribute__") (by rw [typeLookup_type, builtinLookup_eq_fast]; kernel_rfl) (by decide +kernel) (by decide +kernel) (by decide +kernel)
    (by first | exact .inl (by decide +kernel) | exact .inr (by decide +kernel)) (by rw [isSubtype_type]; kernel_rfl)
theorem entry_ga : entryFor table "object.__getattribute__" = some Builtin.«object.__getattribute__» := entryFor_of_tree (by kernel_rfl)
theorem typeOf_string : typeOf (.builtin "re.Match.string") = pure (.type "member_descriptor") := by show builtinType _ = _; rw [builtinType_eq_fast]; kernel_rfl
theorem lk_string : typeLookup (.type "re.Match") "string" = pure (some (.builtin "re.Match.string")) := by rw [typeLookup_type, builtinLookup_eq_fast]; kernel_rfl
theorem entry_string : entryFor table "re.Match.string" = some Builtin.«re.Match.string» := entryFor_of_tree (by kernel_rfl)
theorem slot_mb_get : Slot "member_descriptor" "__get__" "member_descriptor.__get__" :=
  .of (owner := "member_descriptor") (n := "__get__") (by rw [typeLookup_type, builtinLookup_eq_fast]; kernel_rfl) (by decide +kernel) (by decide +kernel) (by decide +kernel)
    (by first | exact .inl (by decide +kernel) | exact .inr (by decide +kernel)) (by rw [isSubtype_type]; kernel_rfl)
theorem slot_mb_set : Slot "member_descriptor" "__set__" "member_descriptor.__set__" :=
  .of (owner := "member_descriptor") (n := "__set__") (by rw [typeLookup_type, builtinLookup_eq_fast]; kernel_rfl) (by decide +kernel) (by decide +kernel) (by decide +kernel)
    (by first | exact .inl (by decide +kernel) | exact .inr (by decide +kernel)) (by rw [isSubtype_type]; kernel_rfl)
theorem entry_mb_get : entryFor table "member_descriptor.__get__" = some Builtin.«member_descriptor.__get__» := entryFor_of_tree (by kernel_rfl)
theorem args_mb_get (a b c : Value) : argsOk "member_descriptor.__get__" ⟨[a, b, c], []⟩ := by unfold argsOk; kernel_rfl
theorem args_ga (a b : Value) : argsOk "object.__getattribute__" ⟨[a, b], []⟩ := by unfold argsOk; kernel_rfl
theorem owner_string : (".".intercalate ("re.Match.string".cutAt '.').dropLast) = "re.Match" := by
  have e0 : "re.Match.string".cutAt '.' = ["re", "Match", "string"] := by first | rfl | decide +kernel
  rw [e0]; decide +kernel
theorem sub_match : isSubtype (.type "re.Match") (.type "re.Match") = pure true := by rw [isSubtype_type]; kernel_rfl

section
variable {prog : Program} {w : World} {A : Around} {E : Value → Shared → Prop} {h : Heap} {g : Array GenState} {d : Drawn} {t : Nat} {os : OsState} {m : Addr} {x : Str} {tx : Tok} {st e a c : Nat}
theorem string_get {R : Result → Shared → Prop} (H : IsMatch h m x tx st e a c) (hq : R (.ok (.ret (.str x tx))) ⟨h, g, d, t, os⟩) :
    codeAny (model prog w) A (.call (.builtin "member_descriptor.__get__") ⟨[.builtin "re.Match.string", .ref m, .type "re.Match"], []⟩) R ⟨h, g, d, t, os⟩ := by
  have hT : (⟨h, g, d, t, os⟩ : Shared).TypeIs (.ref m) "re.Match" := H.type
  have hT5 : (⟨h, g, d, t, os⟩ : Shared).TypeIs (.builtin "re.Match.string") "member_descriptor" := typeOf_string
  have f8 : isSubtype (.type "re.Match") (.type (".".intercalate ("re.Match.string".cutAt '.').dropLast)) = pure true := by rw [owner_string]; exact sub_match
  obtain ⟨pat, lim, li, T, h1, _⟩ := H
  refine codeAny_call_builtin slot_mb_get.plain entry_mb_get (slot_mb_get.check _ _ _ _ _ _ _ _ hT5 (args_mb_get _ _ _) ?_)
  repeat (any_goals (first | assumption | wp_step))
  refine ⟨Code.quiet_builtin _ (by decide +kernel), codeAny_builtin entry_string ?_⟩
  unfold Builtin.«re.Match.string»
  repeat (any_goals (first | assumption | with_reducible refine wpAny_field h1 rfl rfl ?_ | wp_step))
theorem string_entry {tk : Tok} {Q : Fin → Shared → Prop} (H : IsMatch h m x tx st e a c) (hq : Q (.done (.ret (.str x tx))) ⟨h, g, d, t, os⟩) :
    wpAny (model prog w) A (Builtin.«object.__getattribute__» ⟨[.ref m, .str "string" tk], []⟩) Q E ⟨h, g, d, t, os⟩ := by
  have hT : (⟨h, g, d, t, os⟩ : Shared).TypeIs (.ref m) "re.Match" := H.type
  have hT5 : (⟨h, g, d, t, os⟩ : Shared).TypeIs (.builtin "re.Match.string") "member_descriptor" := typeOf_string
  have f4 := lk_string
  have f5 := typeOf_string
  have f6 := slot_mb_get.lookup
  have f7 := slot_mb_set.lookup
  repeat (any_goals (first | assumption | wp_step))
  refine string_get H ?_
  repeat (any_goals (first | assumption | wp_step))
theorem string_call {tk : Tok} {R : Result → Shared → Prop} (H : IsMatch h m x tx st e a c) (hq : R (.ok (.ret (.str x tx))) ⟨h, g, d, t, os⟩) :
    codeAny (model prog w) A (.call (.builtin "object.__getattribute__") ⟨[.ref m, .str "string" tk], []⟩) R ⟨h, g, d, t, os⟩ :=
  codeAny_call_builtin slot_ga.plain entry_ga (slot_ga.check _ _ _ _ _ _ _ _ (show (⟨h, g, d, t, os⟩ : Shared).TypeIs (.ref m) "re.Match" from H.type) (args_ga _ _) (string_entry H hq))
theorem string_by {tk : Tok} {fill expr : Bool} {Q : Value → Shared → Prop} (H : IsMatch h m x tx st e a c) (hq : Q (.str x tx) ⟨h, g, d, t, os⟩) : wpAny (model prog w) A (getAttrBy (.ref m) (.str "string" tk) fill expr) Q E ⟨h, g, d, t, os⟩ := by
  have hT : (⟨h, g, d, t, os⟩ : Shared).TypeIs (.ref m) "re.Match" := H.type
  have f2 := slot_ga.lookup
  have f3 := slot_ga.bind (.ref m)
  have hx0 : (expr && onTheHeap (Value.builtin "object.__getattribute__")) = false := by cases expr <;> rfl
  repeat (any_goals (first | assumption | wp_step))
  refine string_call H ?_
  repeat (any_goals (first | assumption | wp_step))
theorem string_attr {expr : Bool} {Q : Value → Shared → Prop} (H : IsMatch h m x tx st e a c) (hq : Q (.str x tx) ⟨h, g, d, t + 1, os⟩) : wpAny (model prog w) A (getAttr (.ref m) "string" expr) Q E ⟨h, g, d, t, os⟩ := by
  unfold getAttr
  repeat (any_goals (first | assumption | with_reducible apply string_by H | wp_step))
end
end Mine
end

section
set_option maxRecDepth 100000
set_option linter.unusedSimpArgs false
set_option linter.unusedVariables false
namespace Mine
open PySem PySem.Builtin.Re PySem.Sre PyProof.Rows

abbrev tl (x : Str) : List Nat := x.cps.toList
def ts (t : List Nat) : Str := ⟨t.toArray⟩
theorem tl_ts (t : List Nat) : tl (ts t) = t := by simp [ts, tl]
theorem ts_tl (x : Str) : ts (tl x) = x := by obtain ⟨a⟩ := x; simp [ts, tl]
theorem tl_app (a b : Str) : tl (a ++ b) = tl a ++ tl b := by
  show (a.cps ++ b.cps).toList = _
  simp
theorem tl_len (x : Str) : (tl x).length = x.length := by simp [tl, Str.length]
theorem ts_len (t : List Nat) : (ts t).length = t.length := by simp [ts, Str.length]
theorem tl_join (sep : Str) : ∀ (ys : List Str), tl (Txt.join sep ys) = joinT (tl sep) (ys.map tl) := by
  intro ys
  unfold Txt.join
  rw [StrLaws.glued_eq_join]
  induction ys with
  | nil => rfl
  | cons a r ih =>
    cases r with
    | nil => rfl
    | cons b r =>
      show tl (a ++ sep ++ Str.join sep (b :: r)) = _
      rw [tl_app, tl_app, ih, List.append_assoc]
      rfl

/-- all that h holds is kept, but at L -/
def KeepBut (L : Addr) (h h' : Heap) : Prop := ∀ b o, b ≠ L → h.get? b = some o → h'.get? b = some o
theorem KeepBut.trans {L : Addr} {h h' h'' : Heap} (a : KeepBut L h h') (b : KeepBut L h' h'') : KeepBut L h h'' := fun x o hx e => b x o hx (a x o hx e)
theorem KeepBut.refl (L : Addr) (h : Heap) : KeepBut L h h := fun _ _ _ e => e
theorem KeepBut.push (L : Addr) (h : Heap) (o : Obj) : KeepBut L h (h.push o) := fun _ _ _ e => Heap.get?_push_of_some _ e
theorem KeepBut.of_keep {L : Addr} {h h' : Heap} (k : ∀ b o, h.get? b = some o → h'.get? b = some o) : KeepBut L h h' := fun b o _ e => k b o e

theorem IsPat.keepBut {h h' : Heap} {p L : Addr} {groups : Nat} {code : Array Nat} {items : Array Value} (H : IsPat h p groups code) (hl : h.IsList L items) (k : KeepBut L h h') : IsPat h' p groups code := by
  obtain ⟨pat, flags, c, vs, n, h1, h2, h3⟩ := H
  obtain ⟨o, ho, hc, _⟩ := hl
  refine ⟨pat, flags, c, vs, n, k _ _ ?_ h1, k _ _ ?_ h2, h3⟩
  · intro e; rw [e, ho] at h1; cases h1; exact absurd (show Value.type "re.Pattern" = Value.type "list" from hc) (by decide)
  · intro e; rw [e, ho] at h2; cases h2; exact absurd (show Value.type "tuple" = Value.type "list" from hc) (by decide)

section
variable {Mo : Model} {A : Around} {E : Value → Shared → Prop} {s : Shared}
theorem wpAny_reWhole {p : Addr} {groups : Nat} {code : Array Nat} {x : Str} {t : Tok} {Q : ReTarget → Shared → Prop} (hp : IsPat s.heap p groups code)
    (h : Q { pattern := .ref p, string := .str x t, code := code, text := x.cps, kind := 0, groups := groups, pos := 0, lim := x.cps.size } s) : wpAny Mo A (reWholeTarget (.ref p) (.str x t)) Q E s := by
  obtain ⟨pat, flags, c, vs, k, h1, h2, h3⟩ := hp
  unfold reWholeTarget
  refine wpAny_bind (wpAny_fieldsOf h1 rfl ?_)
  have e2 : reTextOf (.str x t) = pure (x.cps, 0) := rfl
  rw [e2]
  refine wpAny_bind (wpAny_pure ?_)
  dsimp only
  refine wpAny_bind (wpAny_ite_false (by rfl) ?_)
  refine wpAny_pure ?_
  refine wpAny_bind (m := reRawItems (.ref c)) ?_
  unfold reRawItems
  refine wpAny_bind (wpAny_seqItems h2 rfl (wpAny_pure ?_))
  refine wpAny_pure ?_
  have e5 : reRawNat (.int (groups : Int) 0) = groups := by simp [reRawNat]
  have h' := h
  rw [← h3] at h'
  show Q { pattern := .ref p, string := .str x t, code := (vs.map reRawOf).map (·.toNat), text := x.cps, kind := 0, groups := reRawNat (.int (groups : Int) 0), pos := 0, lim := x.cps.size } s
  rw [e5]
  exact h'
/-- a text put behind a list of texts -/
theorem wpAny_pushStr {L : Addr} {vs : List Value} {v : Value} {Q : Unit → Shared → Prop} (hl : s.heap.IsList L vs.toArray) (hz : vs.length ≤ 10000)
    (h : ∀ h', KeepBut L s.heap h' → h'.IsList L (vs ++ [v]).toArray → Q () { s with heap := h' }) : wpAny Mo A (updateSeq L (·.push v)) Q E s := by
  obtain ⟨o, ho, hc, n, hd⟩ := hl
  refine wpAny_updateSeq ho hd ?_ (by simp [sizeLine]; lia) (by simp [sizeLine]; lia)
  refine h _ (fun b o' hb e => by rw [Heap.get?_update_of_ne _ (Ne.symm hb)]; exact e) ?_
  obtain ⟨c, dct, dt, sl⟩ := o
  simp only at hc hd
  subst hc hd
  refine ⟨_, Heap.get?_update_self _ ho rfl, rfl, ?_⟩
  refine ⟨if ((vs.toArray.push v).size == vs.toArray.size) = true then n else n + 1, ?_⟩
  show Data.seq (vs.toArray.push v) (if ((vs.toArray.push v).size == vs.toArray.size) = true then n else n + 1) = _
  rw [List.push_toArray]
end

theorem StrsAre.snoc {v : Value} {y : Str} {t : Tok} (hv : v = .str y t) {vs : List Value} {ss : List Str} (X : StrsAre vs ss) : StrsAre (vs ++ [v]) (ss ++ [y]) := by
  induction X with
  | nil => subst hv; exact .cons y t .nil
  | cons z u _ ih => exact .cons z u ih

theorem loop_quiet (args : Args) : (Code.builtin "re.Pattern.sub.loop" args).quiet = true := Code.quiet_builtin _ (by decide +kernel)
theorem loop_weight (args : Args) : (Code.builtin "re.Pattern.sub.loop" args).weight = 0 := plainId_weight (by decide +kernel) args
theorem loop_under {A : Around} (args : Args) : A.under (.builtin "re.Pattern.sub.loop" args) = A.in1 := Around.under_plainId (by decide +kernel) args

/-- what the call of the replacement makes of a match -/
def Repl (prog : Program) (w : World) (A : Around) (J : Heap → Prop) (f : Addr) (x : Str) (t : Tok) : Prop :=
  ∀ (s : Shared) (m : Addr) (st e a c : Nat) (E : Value → Shared → Prop) (Q : Value → Shared → Prop), J s.heap → IsMatch s.heap m x t st e a c → a ≤ c → c ≤ x.cps.size →
    (∀ u h' tk, (∀ b o, s.heap.get? b = some o → h'.get? b = some o) → Q (.str ⟨x.cps.extract a c⟩ u) { s with heap := h', toks := tk }) → wpAny (model prog w) A (call (.ref f) [.ref m]) Q E s

section
variable {prog : Program} {w : World} {A : Around} {R : Result → Shared → Prop}
theorem flat_join (ss : List Str) : tl (Txt.join ⟨#[]⟩ ss) = ss.flatMap tl := by
  rw [tl_join]
  show joinT [] (ss.map tl) = _
  cases ss with
  | nil => rfl
  | cons a r =>
    rw [List.map_cons, joinT_cons, List.flatMap_map, List.flatMap_cons]
    simp

theorem sub_loop {p f L : Addr} {x : Str} {t : Tok} {J : Heap → Prop} (hx : x.cps.size < 1000) (hJ : ∀ h h', J h → KeepBut L h h' → J h') (hR : Repl prog w A.in1 J f x t) :
    ∀ (d done : Nat) (n : Int) (s : Shared) (vs : List Value) (ss : List Str), x.cps.size - done ≤ d → done ≤ x.cps.size → IsPat s.heap p 1 cEsc → J s.heap → s.heap.IsList L vs.toArray → StrsAre vs ss → vs.length ≤ 2 * done → (ss.map (·.length)).sum ≤ done →
      (∀ h' tk u, KeepBut L s.heap h' → R (.ok (.ret (.str (ts (ss.flatMap tl ++ unesc ((tl x).drop done))) u))) { s with heap := h', toks := tk }) →
      codeAny (model prog w) A (.builtin "re.Pattern.sub.loop" ⟨[.ref p, .str x t, .ref f, rawInt 1, rawInt 0, rawInt n, rawInt done, rawInt done, .bool false, .ref L, .bool false], []⟩) R s := by
  intro d
  induction d using Nat.strongRecOn with
  | ind d ih =>
    intro done n s vs ss hd hle hp hj hl hss hvl hsum hQ
    refine codeAny_builtin entry_loop ?_
    rw [loop_under]
    unfold Builtin.«re.Pattern.sub.loop»
    dsimp only [rawInt]
    refine wpAny_bind (wpAny_reWhole hp ?_)
    dsimp only
    refine wpAny_bind (wpAny_ite_false (by rfl) ?_)
    have e0 : ((done : Int)).toNat = done := by simp
    rw [e0]
    unfold reNextFound
    dsimp only
    cases hn : nextEsc ((tl x).drop done) with
    | some y =>
      obtain ⟨pre, ch, r⟩ := y
      obtain ⟨H, e1, e2, e3⟩ := esc_hit (text := x.cps) (by lia) hn
      refine wpAny_reRun_hit H (by lia) fun mf X => ?_
      dsimp only
      have hlen : (tl x).length = x.cps.size := by simp [tl]
      have hpre : x.cps.extract done (done + pre.length) = pre.toArray := by
        apply Array.toList_inj.mp
        rw [Array.toList_extract]
        show ((tl x).extract done (done + pre.length)) = pre
        rw [List.extract_eq_take_drop, e2]
        simp
      have hch : x.cps.extract (done + pre.length + 1) (done + pre.length + 2) = #[ch] := by
        apply Array.toList_inj.mp
        rw [Array.toList_extract]
        show ((tl x).extract (done + pre.length + 1) (done + pre.length + 2)) = [ch]
        rw [List.extract_eq_take_drop]
        have : (tl x).drop (done + pre.length + 1) = ch :: r := by
          rw [show done + pre.length + 1 = done + (pre.length + 1) by lia, ← List.drop_drop, e2, ← List.drop_drop, List.drop_left]
          rfl
        rw [this]
        simp
      have hun : unesc ((tl x).drop done) = pre ++ ch :: unesc ((tl x).drop (done + pre.length + 2)) := by
        rw [unesc_next, hn]
        show _ = pre ++ ch :: unesc (x.cps.toList.drop (done + pre.length + 2))
        rw [e1]
      -- behind the text ahead of the escape
      have rest : ∀ (s1 : Shared) (vs1 : List Value) (ss1 : List Str), (∃ h tk, s1 = { s with heap := h, toks := tk }) → KeepBut L s.heap s1.heap → s1.heap.IsList L vs1.toArray → StrsAre vs1 ss1 → vs1.length ≤ vs.length + 1 → ss1.flatMap tl = ss.flatMap tl ++ pre → (ss1.map (·.length)).sum ≤ done + pre.length →
          wpAny (model prog w) A.in1 (do
            let found ← reNewMatch (.ref p) (.str x t) 1 0 x.cps.size mf
            let item ← holding [found] (call (.ref f) [found])
            if (item != Value.none) = true then do
              updateSeq L fun x => x.push item
              again (.builtin "re.Pattern.sub.loop" { pos := [.ref p, .str x t, .ref f, .int 1 0, .int 0 0, .int (n + 1) 0, .int mf.handed 0, .int mf.handed 0, .bool (mf.handed == mf.start), .ref L, .bool false] })
            else again (.builtin "re.Pattern.sub.loop" { pos := [.ref p, .str x t, .ref f, .int 1 0, .int 0 0, .int (n + 1) 0, .int mf.handed 0, .int mf.handed 0, .bool (mf.handed == mf.start), .ref L, .bool false] }))
            (fun fin s' => match fin with | .done f => R (.ok f) s' | .again c' => c'.quiet = true ∧ codeAny (model prog w) A c' R s') (fun e s' => R (.error e) s') s1 := by
        intro s1 vs1 ss1 hs1 k1 l1 st1 vl1 fl1 sum1
        obtain ⟨h1, tk1, rfl⟩ := hs1
        refine wpAny_bind (wpAny_reNewMatch1 X (by lia) ?_)
        generalize hh2 : (h1.push (tupObj [rawInt (done + pre.length : Nat), rawInt (done + pre.length + 2 : Nat), rawInt (done + pre.length + 1 : Nat), rawInt (done + pre.length + 2 : Nat)])).push (matchObj (.str x t) (.ref p) x.cps.size 1 h1.objs.size) = h2
        have kk : ∀ b o, h1.get? b = some o → h2.get? b = some o := fun b o e => by rw [← hh2]; exact Heap.get?_push_of_some _ (Heap.get?_push_of_some _ e)
        have IM : IsMatch h2 (h1.objs.size + 1) x t (done + pre.length) (done + pre.length + 2) (done + pre.length + 1) (done + pre.length + 2) := by
          rw [← hh2]
          refine ⟨.ref p, x.cps.size, 1, h1.objs.size, ?_, Heap.get?_push_of_some _ (Heap.get?_push_size _ rfl)⟩
          have : h1.objs.size + 1 = (h1.push (tupObj [rawInt (done + pre.length : Nat), rawInt (done + pre.length + 2 : Nat), rawInt (done + pre.length + 1 : Nat), rawInt (done + pre.length + 2 : Nat)])).objs.size := (Heap.size_push ..).symm
          rw [this]
          exact Heap.get?_push_size _ rfl
        refine wpAny_bind (wpAny_holding (hR _ _ _ _ _ _ _ _ (hJ _ _ hj (k1.trans (.of_keep kk))) IM (by lia) (by lia) fun u h3 tk3 k3 => ?_))
        have l3 : h3.IsList L vs1.toArray := by obtain ⟨o, ho, r⟩ := l1; exact ⟨o, k3 _ _ (kk _ _ ho), r⟩
        rw [if_pos (by rfl)]
        refine wpAny_bind (wpAny_pushStr l3 (by lia) fun h4 k4 l4 => ?_)
        refine wpAny_pure ⟨loop_quiet _, ?_⟩
        have kAll : KeepBut L s.heap h4 := k1.trans ((KeepBut.of_keep fun b o e => k3 _ _ (kk _ _ e)).trans k4)
        have hms : (mf.handed == mf.start) = false := by rw [X.handed, X.start]; simp
        rw [hms, X.handed]
        have := ih (x.cps.size - (done + pre.length + 2)) (by lia) (done + pre.length + 2) (n + 1) { s with heap := h4, toks := tk3 } (vs1 ++ [.str ⟨x.cps.extract (done + pre.length + 1) (done + pre.length + 2)⟩ u]) (ss1 ++ [⟨x.cps.extract (done + pre.length + 1) (done + pre.length + 2)⟩]) (Nat.le_refl _) e3 (hp.keepBut hl kAll) (hJ _ _ hj kAll) l4 (StrsAre.snoc rfl st1) (by simp; lia)
          (by
            have hl1 : (⟨x.cps.extract (done + pre.length + 1) (done + pre.length + 2)⟩ : Str).length = 1 := by show (x.cps.extract _ _).size = 1; rw [hch]; rfl
            simp only [List.map_append, List.sum_append, List.map_cons, List.map_nil, List.sum_cons, List.sum_nil, hl1]; lia)
          (fun h' tk' u' k' => by
            have := hQ h' tk' u' (kAll.trans k')
            rw [hun] at this
            have e : (ss1 ++ [(⟨x.cps.extract (done + pre.length + 1) (done + pre.length + 2)⟩ : Str)]).flatMap tl ++ unesc ((tl x).drop (done + pre.length + 2)) = ss.flatMap tl ++ (pre ++ ch :: unesc ((tl x).drop (done + pre.length + 2))) := by
              rw [hch, List.flatMap_append, fl1]
              simp [tl]
            rw [e]
            exact this)
        exact this
      by_cases hpl : done < mf.start
      · rw [if_pos hpl]
        unfold reSlice
        refine wpAny_bind (wpAny_mkStr ?_ (by show (x.cps.extract done mf.start).size ≤ _; simp [sizeLine]; lia))
        refine wpAny_bind (wpAny_pushStr (s := { s with toks := s.toks + 1 }) hl (by lia) fun h1 k1 l1 => ?_)
        rw [if_neg (by decide)]
        have es : (⟨x.cps.extract done mf.start⟩ : Str) = ts pre := by rw [X.start, hpre]; rfl
        exact rest { s with heap := h1, toks := s.toks + 1 } _ (ss ++ [ts pre]) ⟨_, _, rfl⟩ k1 l1 (StrsAre.snoc (by rw [es]) hss) (by simp) (by simp [tl_ts]) (by simp only [List.map_append, List.sum_append, List.map_cons, List.map_nil, List.sum_cons, List.sum_nil, ts_len]; lia)
      · rw [if_neg hpl, if_neg (by decide)]
        have hp0 : pre = [] := by rw [X.start] at hpl; exact List.eq_nil_of_length_eq_zero (by lia)
        exact rest s vs ss ⟨_, _, rfl⟩ (KeepBut.refl _ _) hl hss (by lia) (by rw [hp0]; simp) (by lia)
    | none =>
      have H := esc_miss (text := x.cps) (by lia) hle hn
      refine wpAny_reRun_miss H (by
        have : (x.cps.size + 1) * 10 ≤ 1000 * 10 := Nat.mul_le_mul_right _ (by lia)
        lia) ?_
      dsimp only
      have hun : unesc ((tl x).drop done) = (tl x).drop done := by rw [unesc_next, hn]
      rw [hun] at hQ
      have fin : ∀ (s1 : Shared) (vs1 : List Value) (ss1 : List Str), (∃ h tk, s1 = { s with heap := h, toks := tk }) → KeepBut L s.heap s1.heap → s1.heap.IsList L vs1.toArray → StrsAre vs1 ss1 → ss1.flatMap tl = ss.flatMap tl ++ (tl x).drop done → (ss1.map (·.length)).sum ≤ 1000 →
          wpAny (model prog w) A.in1 (do
            let joiner ← reSlice x.cps 0 0 0
            let __do_lift ← seqItems? (.ref L)
            if (__do_lift.getD #[]).isEmpty = true then do
              let text ← pure joiner
              if false = true then do
                let __do_lift ← holding [text] (do let __do_lift ← mkInt n; newTuple [text, __do_lift])
                ret __do_lift
              else ret text
            else do
              let text ← call (.builtin (if (0 == 0) = true then "str.join" else "bytes.join")) [joiner, .ref L]
              if false = true then do
                let __do_lift ← holding [text] (do let __do_lift ← mkInt n; newTuple [text, __do_lift])
                ret __do_lift
              else ret text)
            (fun fin s' => match fin with | .done f => R (.ok f) s' | .again c' => c'.quiet = true ∧ codeAny (model prog w) A c' R s') (fun e s' => R (.error e) s') s1 := by
        intro s1 vs1 ss1 hs1 k1 l1 st1 fl1 sum1
        obtain ⟨h1, tk1, rfl⟩ := hs1
        have ej : (⟨x.cps.extract 0 0⟩ : Str) = ⟨#[]⟩ := by simp
        unfold reSlice
        refine wpAny_bind (wpAny_mkStr ?_ (by rw [ej]; simp [sizeLine, Str.length]))
        rw [ej]
        obtain ⟨o, ho, hc, k, hd⟩ := id l1
        refine wpAny_bind (wpAny_seqItems ho hd ?_)
        cases vs1 with
        | nil =>
          rw [if_pos (by rfl)]
          refine wpAny_bind (wpAny_pure ?_)
          rw [if_neg (by decide)]
          have e0 : ss1 = [] := by cases st1; rfl
          have := hQ h1 (tk1 + 1) tk1 k1
          rw [← fl1, e0] at this
          exact wpAny_pure this
        | cons v vs1 =>
          rw [if_neg (by simp), if_pos (by rfl)]
          refine wpAny_bind (join_list (ys := ss1) l1 (by simpa using st1) (by simp [Str.length]; simp [Str.length] at sum1; lia) fun t' k' => ?_)
          rw [if_neg (by decide)]
          have := hQ h1 k' t' k1
          rw [← fl1, ← flat_join, ts_tl] at this
          exact wpAny_pure this
      by_cases hpl : done < x.cps.size
      · rw [if_pos hpl]
        unfold reSlice
        refine wpAny_bind (wpAny_mkStr ?_ (by show (x.cps.extract done x.cps.size).size ≤ _; simp [sizeLine]; lia))
        refine wpAny_bind (wpAny_pushStr (s := { s with toks := s.toks + 1 }) hl (by lia) fun h1 k1 l1 => ?_)
        have et : (⟨x.cps.extract done x.cps.size⟩ : Str) = ts ((tl x).drop done) := by
          show Str.mk _ = Str.mk _
          congr 1
          apply Array.toList_inj.mp
          rw [Array.toList_extract]
          show ((tl x).extract done x.cps.size) = _
          rw [List.extract_eq_take_drop, List.take_of_length_le (by simp [tl])]
        have := fin { s with heap := h1, toks := s.toks + 1 } _ (ss ++ [ts ((tl x).drop done)]) ⟨_, _, rfl⟩ k1 l1 (StrsAre.snoc (by rw [et]) hss) (by simp [tl_ts]) (by
          simp only [List.map_append, List.sum_append, List.map_cons, List.map_nil, List.sum_cons, List.sum_nil, ts_len, List.length_drop, tl_len]
          simp only [Str.length]
          simp only [Str.length] at hsum
          lia)
        exact this
      · rw [if_neg hpl]
        have hd0 : (tl x).drop done = [] := by
          apply List.drop_eq_nil_of_le
          simp [tl]; lia
        have := fin s vs ss ⟨_, _, rfl⟩ (KeepBut.refl _ _) hl hss (by rw [hd0]; simp) (by lia)
        exact this
end
end Mine
end

section
set_option autoImplicit false
set_option maxRecDepth 100000
set_option linter.unusedSimpArgs false
set_option linter.unusedVariables false
namespace Mine
open PySem PySem.Builtin.Re PySem.Sre PyProof.Rows

theorem args_sub (a b c : Value) : argsOk "re.Pattern.sub" ⟨[a, b, c], []⟩ := by unfold argsOk; rfl
theorem args_subn (a b c : Value) : argsOk "re.Pattern.subn" ⟨[a, b, c], []⟩ := by unfold argsOk; rfl
theorem call_fn_slot : ∃ v, typeLookup (.type "function") "__call__" = pure (some v) := ⟨.builtin "function.__call__", by rw [typeLookup_type, builtinLookup_eq_fast]; kernel_rfl⟩
theorem call_str_slot : typeLookup (.type "str") "__call__" = pure none := by rw [typeLookup_type, builtinLookup_eq_fast]; kernel_rfl
theorem str_not_bytearray : isSubtype (.type "str") (.type "bytearray") = pure false := by rw [isSubtype_type]; kernel_rfl

section
variable {prog : Program} {w : World} {A : Around} {E : Value → Shared → Prop} {s : Shared}
theorem sub_call {p f : Addr} {x : Str} {t : Tok} {Q : Value → Shared → Prop} (hx : x.length < 1000) (hp : IsPat s.heap p 1 cEsc) (hf : s.TypeIs (.ref f) "function")
    (hR : Repl prog w A.in1 (fun h => ∀ b o, s.heap.get? b = some o → h.get? b = some o) f x t)
    (h : ∀ h' tk u, (∀ b o, s.heap.get? b = some o → h'.get? b = some o) → Q (.str (ts (unesc (tl x))) u) { s with heap := h', toks := tk }) :
    wpAny (model prog w) A (call (.builtin "re.Pattern.sub") [.ref p, .ref f, .str x t]) Q E s := by
  refine wpAny_call (codeAny_call_builtin slot_sub.plain entry_sub (slot_sub.check _ _ _ _ _ _ _ _ hp.type (args_sub _ _ _) ?_))
  unfold Builtin.«re.Pattern.sub» reSubstitute
  dsimp only
  refine wpAny_bind (m := reNamed "re.Pattern.sub" "sub" ["repl", "string", "count"] 2 [.ref f, .str x t] []) (Q := _) ?_
  have e : reNamed "re.Pattern.sub" "sub" ["repl", "string", "count"] 2 [.ref f, .str x t] [] = pure [some (.ref f), some (.str x t), none] := rfl
  rw [e]
  refine wpAny_pure ?_
  dsimp only
  obtain ⟨cv, hcv⟩ := call_fn_slot
  refine wpAny_bind (wpAny_pure (wpAny_bind (wpAny_specialOf hf hcv ?_)))
  simp only [Option.isSome_some, if_true]
  refine wpAny_bind (wpAny_pure (wpAny_bind (wpAny_pure ?_)))
  dsimp only
  refine wpAny_bind (wpAny_holding (wpAny_reWhole hp ?_))
  rw [if_pos (by rfl)]
  refine wpAny_bind (m := reNotHeld "re.Pattern.sub" (.str x t)) ?_
  unfold reNotHeld
  refine wpAny_bind (wpAny_isInstance (typeIs_str s x t) str_not_bytearray ?_)
  simp only [Bool.false_eq_true, if_false]
  refine wpAny_pure ?_
  refine wpAny_bind (wpAny_newList ?_)
  refine wpAny_pure ⟨loop_quiet _, ?_⟩
  have hL : ∀ b o, s.heap.get? b = some o → b ≠ s.heap.objs.size := fun b o e => Nat.ne_of_lt (Heap.lt_size e)
  have hp1 : IsPat (s.heap.push { cls := .type "list", data := .seq ([] : List Value).toArray }) p 1 cEsc := by
    obtain ⟨a1, a2, a3, a4, a5, a6, a7, a8⟩ := hp
    exact ⟨a1, a2, a3, a4, a5, Heap.get?_push_of_some _ a6, Heap.get?_push_of_some _ a7, a8⟩
  refine sub_loop (J := fun h => ∀ b o, s.heap.get? b = some o → h.get? b = some o) (L := s.heap.objs.size) hx (fun h₁ h₂ j k b o e => k b o (hL b o e) (j b o e)) hR x.cps.size 0 0
    { s with heap := s.heap.push { cls := .type "list", data := .seq ([] : List Value).toArray } } [] [] (by lia) (Nat.zero_le _) hp1 (fun b o e => Heap.get?_push_of_some _ e)
    ⟨_, Heap.get?_push_size _ rfl, rfl, 0, rfl⟩ .nil (by simp) (by simp) (fun h' tk u k => ?_)
  have := h h' tk u fun b o e => k b o (hL b o e) (Heap.get?_push_of_some _ e)
  simpa using this
theorem lit_quiet (y : Str) (te : Tok) : reLiteralCannotBeTurned (.str y te) = pure () := rfl
/-- the second turn: nothing more is found -/
theorem subn_turn2 {p L : Addr} {x y : Str} {t te : Tok} {j : Nat} {v0 : Value} {R : Result → Shared → Prop} (hx : x.length < 1000) (hp : IsPat s.heap p 0 cJunk) (h0 : j ≠ 0) (hj : j ≤ x.cps.size) (hl : s.heap.IsList L #[v0])
    (hv : ∃ u, v0 = .str ⟨#[]⟩ u)
    (h : ∀ h' tk T u tt, KeepBut L s.heap h' → h'.get? T = some (tupObj [.str (ts ((tl x).drop j)) u, .int 1 tt]) → s.heap.get? T = none → R (.ok (.ret (.ref T))) { s with heap := h', toks := tk }) :
    codeAny (model prog w) A (.builtin "re.Pattern.sub.loop" ⟨[.ref p, .str x t, .str y te, rawInt 0, rawInt 0, rawInt 1, rawInt j, rawInt j, .bool false, .ref L, .bool true], []⟩) R s := by
  refine codeAny_builtin entry_loop ?_
  rw [loop_under]
  unfold Builtin.«re.Pattern.sub.loop»
  dsimp only [rawInt]
  refine wpAny_bind (wpAny_reWhole hp ?_)
  dsimp only
  have hc : (((0:Int) == 0) = true) := rfl
  simp only [hc, if_true]
  refine wpAny_bind (m := reLiteralCannotBeTurned (.str y te)) (wpAny_of_eq (a := ()) rfl ?_)
  have hc2 : ¬ (((0:Int) != 0 && decide ((1:Int) ≥ 0)) = true) := by decide
  rw [if_neg hc2]
  have e0 : ((j : Int)).toNat = j := by simp
  rw [e0]
  unfold reNextFound
  dsimp only
  have hxs : x.cps.size = x.length := rfl
  refine wpAny_bind (wpAny_reRun_miss (junk_over (text := x.cps) (by lia) h0 hj) (by
        have : (x.cps.size + 1) * 10 ≤ 1000 * 10 := Nat.mul_le_mul_right _ (by lia)
        lia) ?_)
  dsimp only
  obtain ⟨u0, rfl⟩ := hv
  have fin : ∀ (s1 : Shared) (v : Value) (vs1 : List Value) (ss1 : List Str), (∃ h tk, s1 = { s with heap := h, toks := tk }) → KeepBut L s.heap s1.heap → s1.heap.IsList L (v :: vs1).toArray → StrsAre (v :: vs1) ss1 → ss1.flatMap tl = (tl x).drop j → (ss1.map (·.length)).sum ≤ 1000 →
      wpAny (model prog w) A.in1 (do
        let joiner ← reSlice x.cps 0 0 0
        let __do_lift ← seqItems? (.ref L)
        if (__do_lift.getD #[]).isEmpty = true then do
          let text ← pure joiner
          let __do_lift ← holding [text] (do let __do_lift ← mkInt 1; newTuple [text, __do_lift])
          ret __do_lift
        else do
          let text ← call (.builtin (if (0 == 0) = true then "str.join" else "bytes.join")) [joiner, .ref L]
          let __do_lift ← holding [text] (do let __do_lift ← mkInt 1; newTuple [text, __do_lift])
          ret __do_lift)
        (fun fin s' => match fin with | .done f => R (.ok f) s' | .again c' => c'.quiet = true ∧ codeAny (model prog w) A c' R s') (fun e s' => R (.error e) s') s1 := by
    intro s1 v vs1 ss1 hs1 k1 l1 st1 fl1 sum1
    obtain ⟨h1, tk1, rfl⟩ := hs1
    have ej : (⟨x.cps.extract 0 0⟩ : Str) = ⟨#[]⟩ := by simp
    unfold reSlice
    refine wpAny_bind (wpAny_mkStr ?_ (by rw [ej]; simp [sizeLine, Str.length]))
    rw [ej]
    obtain ⟨o, ho, hc, k, hd⟩ := id l1
    refine wpAny_bind (wpAny_seqItems ho hd ?_)
    rw [if_neg (by simp), if_pos (by rfl)]
    refine wpAny_bind (join_list (ys := ss1) l1 (by simpa using st1) (by simp [Str.length]; simp [Str.length] at sum1; lia) fun t' k' => ?_)
    refine wpAny_bind (wpAny_holding (wpAny_bind (wpAny_mkInt (wpAny_newTuple ?_ (by simp [sizeLine])))))
    refine wpAny_pure ?_
    have := h (h1.push (tupObj [.str (ts ((tl x).drop j)) t', .int 1 k'])) (k' + 1) h1.objs.size t' k' (k1.trans (KeepBut.push L h1 _)) (Heap.get?_push_size _ rfl) (by
      cases q : s.heap.get? h1.objs.size with
      | none => rfl
      | some o' =>
        exfalso
        by_cases hq : h1.objs.size = L
        · have lt : L < h1.objs.size := Heap.lt_size ho
          rw [hq] at lt; exact Nat.lt_irrefl _ lt
        · exact absurd (Heap.lt_size (k1 _ _ hq q)) (Nat.lt_irrefl _))
    rw [← fl1, ← flat_join, ts_tl] at this
    exact this
  by_cases hpl : j < x.cps.size
  · rw [if_pos hpl]
    unfold reSlice
    refine wpAny_bind (wpAny_mkStr ?_ (by show (x.cps.extract j x.cps.size).size ≤ _; simp [sizeLine]; lia))
    refine wpAny_bind (wpAny_pushStr (s := { s with toks := s.toks + 1 }) (vs := [.str ⟨#[]⟩ u0]) hl (by simp) fun h1 k1 l1 => ?_)
    have et : (⟨x.cps.extract j x.cps.size⟩ : Str) = ts ((tl x).drop j) := by
      show Str.mk _ = Str.mk _
      congr 1
      apply Array.toList_inj.mp
      rw [Array.toList_extract]
      show ((tl x).extract j x.cps.size) = _
      rw [List.extract_eq_take_drop, List.take_of_length_le (by simp [tl])]
    refine fin { s with heap := h1, toks := s.toks + 1 } _ _ [⟨#[]⟩, ts ((tl x).drop j)] ⟨_, _, rfl⟩ k1 l1 (StrsAre.snoc (by rw [et]) (.cons _ _ .nil)) (by simp [tl_ts]) ?_
    · simp only [List.map_cons, List.map_nil, List.sum_cons, List.sum_nil, ts_len, List.length_drop, tl_len]
      show (0 : Nat) + _ ≤ _
      lia
  · rw [if_neg hpl]
    have hd0 : (tl x).drop j = [] := by
      apply List.drop_eq_nil_of_le
      simp [tl]; lia
    exact fin s _ [] [⟨#[]⟩] ⟨_, _, rfl⟩ (KeepBut.refl _ _) hl (.cons _ _ .nil) (by rw [hd0]; rfl) (by simp [Str.length])

/-- the junk ahead struck out, and how often -/
theorem subn_turn1 {p L : Addr} {x y : Str} {t te : Tok} {R : Result → Shared → Prop} (hy : y = ⟨#[]⟩) (hx : x.length < 1000) (hp : IsPat s.heap p 0 cJunk) (hj : (tl x).takeWhile junkC ≠ []) (hl : s.heap.IsList L #[])
    (h : ∀ h' tk T u tt, KeepBut L s.heap h' → h'.get? T = some (tupObj [.str (ts ((tl x).dropWhile junkC)) u, .int 1 tt]) → s.heap.get? T = none → R (.ok (.ret (.ref T))) { s with heap := h', toks := tk }) :
    codeAny (model prog w) A (.builtin "re.Pattern.sub.loop" ⟨[.ref p, .str x t, .str y te, rawInt 0, rawInt 0, rawInt 0, rawInt 0, rawInt 0, .bool false, .ref L, .bool true], []⟩) R s := by
  refine codeAny_builtin entry_loop ?_
  rw [loop_under]
  unfold Builtin.«re.Pattern.sub.loop»
  dsimp only [rawInt]
  refine wpAny_bind (wpAny_reWhole hp ?_)
  dsimp only
  have hc : (((0:Int) == 0) = true) := rfl
  simp only [hc, if_true]
  refine wpAny_bind ?_
  rw [lit_quiet y te]
  refine wpAny_pure ?_
  have hc2 : ¬ (((0:Int) != 0 && decide ((0:Int) ≥ 0)) = true) := by decide
  rw [if_neg hc2]
  have e0 : ((0 : Int)).toNat = 0 := rfl
  rw [e0]
  unfold reNextFound
  dsimp only
  have hxs : x.cps.size = x.length := rfl
  have H := junk_hit (text := x.cps) (by lia)
  have h20 : (20 : Nat) ≤ 2 ^ 64 := by decide
  refine wpAny_bind ?_
  generalize hm : forSearch cJunk x.cps 0 0 x.cps.size false = m0 at H ⊢
  refine wpAny_reRun_hit H h20 fun mf X => ?_
  dsimp only
  rw [X.start, X.handed, if_neg (Nat.lt_irrefl 0)]
  refine wpAny_bind (wpAny_pure ?_)
  have hn : (Value.str y te != Value.none) = true := rfl
  rw [if_pos hn]
  refine wpAny_bind (wpAny_pushStr (vs := []) hl (by simp) fun h1 k1 l1 => ?_)
  refine wpAny_pure ⟨loop_quiet _, ?_⟩
  have hlen : ((tl x).takeWhile junkC).length ≠ 0 := fun q => hj (List.eq_nil_of_length_eq_zero q)
  have hle : ((tl x).takeWhile junkC).length ≤ (tl x).length := (List.takeWhile_sublist _).length_le
  have hb : (((tl x).takeWhile junkC).length == 0) = false := by simpa using hlen
  have hd : (tl x).drop ((tl x).takeWhile junkC).length = (tl x).dropWhile junkC :=
    (congrArg (List.drop ((tl x).takeWhile junkC).length) (span_eq (p := junkC) (tl x))).trans List.drop_left
  have := subn_turn2 (prog := prog) (w := w) (A := A) (s := { s with heap := h1 }) (te := te) (y := y) (t := t) hx (hp.keepBut hl k1) hlen (by have := tl_len x; lia) l1 ⟨te, by rw [hy]⟩ (R := R) fun h' tk T u tt k2 e1 e2 => by
    rw [hd] at e1
    refine h h' tk T u tt (k1.trans k2) e1 ?_
    cases q : s.heap.get? T with
    | none => rfl
    | some o' =>
      exfalso
      by_cases hq : T = L
      · obtain ⟨oL, hoL, _⟩ := l1
        rw [hq, hoL] at e2; cases e2
      · rw [k1 _ _ hq q] at e2; cases e2
  rw [hb]
  exact this

theorem subn_call {p : Addr} {x y : Str} {t te : Tok} {Q : Value → Shared → Prop} (hy : y = ⟨#[]⟩) (hx : x.length < 1000) (hp : IsPat s.heap p 0 cJunk) (hj : (tl x).takeWhile junkC ≠ [])
    (h : ∀ h' tk T u tt, (∀ b o, s.heap.get? b = some o → h'.get? b = some o) → h'.get? T = some (tupObj [.str (ts ((tl x).dropWhile junkC)) u, .int 1 tt]) → s.heap.get? T = none → Q (.ref T) { s with heap := h', toks := tk }) :
    wpAny (model prog w) A (call (.builtin "re.Pattern.subn") [.ref p, .str y te, .str x t]) Q E s := by
  refine wpAny_call (codeAny_call_builtin slot_subn.plain entry_subn (slot_subn.check _ _ _ _ _ _ _ _ hp.type (args_subn _ _ _) ?_))
  unfold Builtin.«re.Pattern.subn» reSubstitute
  dsimp only
  refine wpAny_bind (m := reNamed "re.Pattern.subn" "subn" ["repl", "string", "count"] 2 [.str y te, .str x t] []) (Q := _) ?_
  have e : reNamed "re.Pattern.subn" "subn" ["repl", "string", "count"] 2 [.str y te, .str x t] [] = pure [some (.str y te), some (.str x t), none] := rfl
  rw [e]
  refine wpAny_pure ?_
  dsimp only
  refine wpAny_bind (wpAny_pure (wpAny_bind (wpAny_specialOf (typeIs_str s y te) call_str_slot ?_)))
  simp only [Option.isSome_none, Bool.false_eq_true, if_false]
  have ea : asStr? (.str y te) = pure (some y) := rfl
  rw [ea]
  refine wpAny_bind (wpAny_pure ?_)
  dsimp only
  have hc92 : (!y.cps.contains 92) = true := by rw [hy]; simp
  rw [hc92]
  refine wpAny_bind (wpAny_pure ?_)
  rw [if_pos rfl]
  refine wpAny_bind (wpAny_pure ?_)
  dsimp only
  refine wpAny_bind (wpAny_holding (wpAny_reWhole hp ?_))
  rw [if_neg (by decide)]
  refine wpAny_bind (wpAny_newList ?_)
  refine wpAny_pure ⟨loop_quiet _, ?_⟩
  have hL : ∀ b o, s.heap.get? b = some o → b ≠ s.heap.objs.size := fun b o e => Nat.ne_of_lt (Heap.lt_size e)
  have k1 : ∀ b o, s.heap.get? b = some o → (s.heap.push { cls := .type "list", data := .seq ([] : List Value).toArray }).get? b = some o := fun b o e => Heap.get?_push_of_some _ e
  have hp1 : IsPat (s.heap.push { cls := .type "list", data := .seq ([] : List Value).toArray }) p 0 cJunk := by
    obtain ⟨a1, a2, a3, a4, a5, a6, a7, a8⟩ := hp
    exact ⟨a1, a2, a3, a4, a5, k1 _ _ a6, k1 _ _ a7, a8⟩
  refine subn_turn1 (L := s.heap.objs.size) (s := { s with heap := s.heap.push { cls := .type "list", data := .seq ([] : List Value).toArray } }) hy hx hp1 hj ⟨_, Heap.get?_push_size _ rfl, rfl, 0, rfl⟩ fun h' tk T u tt k e1 e2 => ?_
  refine h h' tk T u tt (fun b o e => k b o (hL b o e) (k1 b o e)) e1 ?_
  cases q : s.heap.get? T with
  | none => rfl
  | some o' => rw [k1 _ _ q] at e2; cases e2
end
end Mine
end

section
set_option autoImplicit false
set_option maxRecDepth 100000
set_option linter.unusedSimpArgs false
set_option linter.unusedVariables false
namespace Mine
open PySem PySem.W PySem.Calls PyProof.Rows

/-! ### the walk's state: a heap g that stays, a frame L that holds m, things mu that may turn -/
structure Wk (g : Heap) (L : Addr) (h : Heap) (m : Str → Option Value) (mu : List (Addr × Obj)) : Prop where
  ns : h.Ns L m
  keep : ∀ b o, g.get? b = some o → h.get? b = some o
  low : g.get? L = none
  mus : ∀ p ∈ mu, h.get? p.1 = some p.2 ∧ p.1 ≠ L ∧ g.get? p.1 = none
  nd : (mu.map (·.1)).Nodup

abbrev Sub (g h : Heap) : Prop := ∀ b o, g.get? b = some o → h.get? b = some o
theorem Sub.trans {a b c : Heap} (x : Sub a b) (y : Sub b c) : Sub a c := fun q o e => y q o (x q o e)
theorem Sub.refl (a : Heap) : Sub a a := fun _ _ e => e

namespace Wk
variable {g h h' : Heap} {L : Addr} {m m' : Str → Option Value} {mu : List (Addr × Obj)}
theorem keeps (W : Wk g L h m mu) (k : Sub h h') : Wk g L h' m mu :=
  ⟨W.ns.keeps k, fun b o e => k b o (W.keep b o e), W.low, fun p hp => ⟨k _ _ (W.mus p hp).1, (W.mus p hp).2⟩, W.nd⟩
theorem set (W : Wk g L h m mu) (hn : h'.Ns L m') (hs : Heap.SameBut L h h') : Wk g L h' m' mu :=
  ⟨hn, fun b o e => (hs.2 b (fun q => by rw [q, W.low] at e; cases e)).trans (W.keep b o e), W.low, fun p hp => ⟨(hs.2 _ (W.mus p hp).2.1).trans (W.mus p hp).1, (W.mus p hp).2⟩, W.nd⟩
theorem push (W : Wk g L h m mu) (o : Obj) : Wk g L (h.push o) m mu := W.keeps fun _ _ e => Heap.get?_push_of_some _ e
/-- all that stands but the frame and what may turn is taken into the heap that stays -/
theorem rebase (W : Wk g L h m mu) : ∃ g', Sub g g' ∧ (∀ b o, b ≠ L → (∀ p ∈ mu, p.1 ≠ b) → h.get? b = some o → g'.get? b = some o) ∧ Wk g' L h m mu := by
  refine ⟨hideAll h (L :: mu.map (·.1)), fun b o e => ?_, fun b o h1 h2 e => ?_, W.ns, fun b o e => of_hideAll _ e, hideAll_none _ (.head _), fun p hp => ⟨(W.mus p hp).1, (W.mus p hp).2.1, hideAll_none _ (.tail _ (List.mem_map_of_mem hp))⟩, W.nd⟩
  · refine hideAll_get _ (W.keep b o e) fun q => ?_
    rcases List.mem_cons.mp q with rfl | q
    · rw [W.low] at e; cases e
    · obtain ⟨p, hp, rfl⟩ := List.mem_map.mp q
      rw [(W.mus p hp).2.2] at e; cases e
  · refine hideAll_get _ e fun q => ?_
    rcases List.mem_cons.mp q with rfl | q
    · exact h1 rfl
    · obtain ⟨p, hp, rfl⟩ := List.mem_map.mp q
      exact h2 p hp rfl
theorem Llt (W : Wk g L h m mu) : L < h.objs.size := W.ns.lt
theorem mult (W : Wk g L h m mu) : ∀ p ∈ mu, p.1 < h.objs.size := fun p hp => Heap.lt_size (W.mus p hp).1
/-- a step that keeps all and makes new things -/
theorem ext (W : Wk g L h m mu) (k : Sub h h') : ∃ g', Sub g g' ∧ (∀ b o, h.get? b = none → h'.get? b = some o → g'.get? b = some o) ∧ Wk g' L h' m mu := by
  obtain ⟨g', h1, h2, W'⟩ := (W.keeps k).rebase
  obtain ⟨oL, _, _, hL, _⟩ := W.ns
  exact ⟨g', h1, fun b o hb e => h2 b o (fun q => by rw [q, hL] at hb; cases hb) (fun p hp q => by rw [← q, (W.mus p hp).1] at hb; cases hb) e, W'⟩
/-- one new thing that stays -/
theorem extPush (W : Wk g L h m mu) (o : Obj) (ho : o.isFreed = false) : ∃ g', Sub g g' ∧ g'.get? h.objs.size = some o ∧ Wk g' L (h.push o) m mu := by
  obtain ⟨g', h1, h2, W'⟩ := W.ext (h' := h.push o) fun _ _ e => Heap.get?_push_of_some _ e
  exact ⟨g', h1, h2 _ _ (Heap.get?_none_of_le (Nat.le_refl _)) (Heap.get?_push_size _ ho), W'⟩
/-- one new thing that may turn -/
theorem pushMu (W : Wk g L h m mu) (o : Obj) (ho : o.isFreed = false) : Wk g L (h.push o) m ((h.objs.size, o) :: mu) := by
  have W' := W.push o
  refine ⟨W'.ns, W'.keep, W'.low, fun p hp => ?_, ?_⟩
  · rcases List.mem_cons.mp hp with rfl | hp
    · refine ⟨Heap.get?_push_size _ ho, Nat.ne_of_gt W.Llt, ?_⟩
      cases q : g.get? h.objs.size with
      | none => rfl
      | some o' => exact absurd (Heap.lt_size (W.keep _ _ q)) (Nat.lt_irrefl _)
    · exact W'.mus p hp
  · refine List.nodup_cons.mpr ⟨fun q => ?_, W.nd⟩
    obtain ⟨p, hp, e⟩ := List.mem_map.mp q
    exact absurd (W.mult p hp) (by rw [e]; exact Nat.lt_irrefl _)
/-- the thing at a turns -/
theorem turn {a : Addr} {o o' : Obj} {pre post : List (Addr × Obj)} (W : Wk g L h m (pre ++ (a, o) :: post)) (hs : Heap.ExtBut a h h') (ho : h'.get? a = some o') : Wk g L h' m (pre ++ (a, o') :: post) := by
  have ha := W.mus (a, o) (List.mem_append_right _ (.head _))
  have hnd := W.nd
  rw [List.map_append, List.map_cons] at hnd
  obtain ⟨_, n2, n3⟩ := List.nodup_append.mp hnd
  obtain ⟨n4, _⟩ := List.nodup_cons.mp n2
  have ne1 : ∀ p ∈ pre, p.1 ≠ a := fun p hp => n3 _ (List.mem_map_of_mem hp) _ (.head _)
  have ne2 : ∀ p ∈ post, p.1 ≠ a := fun p hp e => n4 (by rw [← e]; exact List.mem_map.mpr ⟨p, hp, rfl⟩)
  refine ⟨W.ns.extBut hs ha.2.1.symm, fun b o e => hs b o (fun q => by rw [q, ha.2.2] at e; cases e) (W.keep b o e), W.low, fun p hp => ?_, by rw [List.map_append, List.map_cons]; exact hnd⟩
  rcases List.mem_append.mp hp with hp | hp
  · have z := W.mus p (List.mem_append_left _ hp)
    exact ⟨hs _ _ (ne1 p hp) z.1, z.2⟩
  · rcases List.mem_cons.mp hp with rfl | hp
    · exact ⟨ho, ha.2⟩
    · have z := W.mus p (List.mem_append_right _ (.tail _ hp))
      exact ⟨hs _ _ (ne2 p hp) z.1, z.2⟩
/-- what may turn is let go: it stays from here on -/
theorem settle {a : Addr} {o : Obj} {pre post : List (Addr × Obj)} (W : Wk g L h m (pre ++ (a, o) :: post)) : ∃ g', Sub g g' ∧ g'.get? a = some o ∧ Wk g' L h m (pre ++ post) := by
  have ha := W.mus (a, o) (List.mem_append_right _ (.head _))
  have hnd := W.nd
  rw [List.map_append, List.map_cons] at hnd
  have sub : (pre ++ post).Sublist (pre ++ (a, o) :: post) := List.Sublist.append_left (List.sublist_cons_self _ _) _
  obtain ⟨n1, n2, n3⟩ := List.nodup_append.mp hnd
  obtain ⟨n4, _⟩ := List.nodup_cons.mp n2
  have W1 : Wk g L h m (pre ++ post) := ⟨W.ns, W.keep, W.low, fun p hp => W.mus p (sub.subset hp), List.Sublist.nodup (sub.map _) W.nd⟩
  obtain ⟨g', h1, h2, W'⟩ := W1.rebase
  refine ⟨g', h1, h2 _ _ ha.2.1 (fun p hp => ?_) ha.1, W'⟩
  rcases List.mem_append.mp hp with hp | hp
  · exact n3 _ (List.mem_map_of_mem hp) _ (.head _)
  · exact fun e => n4 (by rw [← e]; exact List.mem_map.mpr ⟨p, hp, rfl⟩)
end Wk

section
variable {M : Model} {A : Around} {E : Value → Shared → Prop} {s : Shared} {env : Env} {g : Heap} {L : Addr} {m : Str → Option Value} {mu : List (Addr × Obj)}
theorem ldn' {x : Str} {v : Value} {Q : Value → Shared → Prop} (W : Wk g env.locals s.heap m mu) (hv : m x = some v) (h : Q v s)
    (hk : env.scope.kind = .function := by rfl) (hl : env.kindOf x = some .local := by rfl) :
    wpAny M A (loadName env x) Q E s := wpAny_loadName_local hk hl W.ns hv h
theorem ld' {x : Str} {pos : Pos} {v : Value} {Q : Value → Shared → Prop} (W : Wk g env.locals s.heap m mu) (hv : m x = some v) (h : Q v s)
    (hk : env.scope.kind = .function := by rfl) (hl : env.kindOf x = some .local := by rfl) (hd : (x == ("__debug__" : Str)) = false := by decide) :
    wpAny M A (eval (.Name x pos) env) Q E s := wpAny_Name (wpAny_loadName_local hk hl W.ns hv h) hd
theorem st' {x : Str} {v : Value} {Q : Unit → Shared → Prop} (W : Wk g env.locals s.heap m mu)
    (h : ∀ h', Wk g env.locals h' (fun y => if y = x then some v else m y) mu → Q () { s with heap := h', toks := s.toks + 1 })
    (hk : env.scope.kind = .function := by rfl) (hl : env.kindOf x = some .local := by rfl) :
    wpAny M A (storeName env x v) Q E s :=
  wpAny_storeName_local hl W.ns (fun h' hn hs => h h' (W.set hn hs)) (by rw [hk]; rfl)
end
end Mine
end

section
set_option autoImplicit false
set_option maxRecDepth 100000
set_option linter.unusedSimpArgs false
set_option linter.unusedVariables false
namespace Mine
open PySem PySem.W PySem.Calls PyProof.Rows

/-- what stands at the top -/
structure Bs (P : Params) (mg mb : Str → Option Value) (g : Heap) : Prop where
  K : (hd.heap_39 P).In g
  gl : g.Ns mainGlobals mg
  b : g.Ns builtinsNs mb
  lim : g.NoLimit
  bi : ∀ x : Str, x ≠ "__name__" → mb x = bootBuiltins x
  fr : ∀ x : Str, x ∈ ["isinstance", "str", "sum", "range", "len", "zip"].map Str.ofString → mg x = none
  bm : ∃ (bm : Addr) (ob : Obj), mg (Str.ofString "__builtins__") = some (.ref bm) ∧ bm ≠ builtinsNs ∧ g.get? bm = some ob ∧ ob.cls = .type "module" ∧ ob.dict = some builtinsNs ∧ ob.data = .plain

theorem Bs.keeps {P : Params} {mg mb : Str → Option Value} {g h : Heap} (B : Bs P mg mb g) (k : Sub g h) : Bs P mg mb h :=
  ⟨fun a o e => k _ _ (B.K a o e), B.gl.keeps k, B.b.keeps k, B.lim.keeps k, B.bi, B.fr, let ⟨bm, ob, h1, h2, h3, h4⟩ := B.bm; ⟨bm, ob, h1, h2, k _ _ h3, h4⟩⟩

/-- the room that is left -/
structure Rm (n : Nat) (A : Around) : Prop where
  hd : A.handled = none
  dp : A.depth + n < 900
  un : A.units + 100 * n < 9000
theorem Rm.deeper {n : Nat} {A : Around} (r : Rm (n + 1) A) (env : Env) : Rm n (A.deeper env) := ⟨r.hd, by have := r.dp; rw [depth_deeper]; lia, by have := r.un; rw [units_deeper]; lia⟩
theorem Rm.in1 {n : Nat} {A : Around} (r : Rm (n + 1) A) : Rm n A.in1 := ⟨r.hd, by have := r.dp; rw [depth_in1]; lia, by have := r.un; rw [units_in1]; lia⟩
theorem Rm.le {n k : Nat} {A : Around} (r : Rm n A) (h : k ≤ n) : Rm k A := ⟨r.hd, by have := r.dp; lia, by have := r.un; lia⟩
theorem Rm.room {n : Nat} {A : Around} (r : Rm n A) : A.depth < recursionLimit := by have := r.dp; have e : recursionLimit = 1000 := rfl; rw [e]; lia
theorem Rm.units {n : Nat} {A : Around} (r : Rm n A) : A.units < cLine := by have := r.un; rw [cLine_is]; lia

theorem hidden {h : Heap} {as : List Addr} : Sub (hideAll h as) h := fun b o e => of_hideAll _ e

theorem call_fn {prog : Program} {w : World} {A : Around} {s : Shared} {E : Value → Shared → Prop} {name : Str} {params : Arguments} {body : List Stmt} {scope : Scope} {pm cd doc : Value} {a : Addr} {vals : List Value} {binds : List (Str × Value)} {Q : Value → Shared → Prop}
    {n : Nat} (hid : List (Addr × Obj)) (hh : ∀ p ∈ hid, s.heap.get? p.1 = some p.2) (hnd : (hid.map (·.1)).Nodup) (hroom : Rm (n + 1) A)
    (ho : s.heap.get? a = some { cls := .type "function", data := .func (docDef name params body scope pm cd doc) }) (hlim : s.heap.NoLimit) (hcd : s.heap.CodeRec cd name)
    (hbind : bindArgs (docDef name params body scope pm cd doc) ⟨vals, []⟩ = pure binds) (hloc : ∀ x ∈ binds, scope.names.lookup x.1 = some .local)
    (h : ∀ A' g h₁ tk, Rm n A' → Sub g s.heap → (∀ b o, (∀ p ∈ hid, p.1 ≠ b) → s.heap.get? b = some o → g.get? b = some o) → Sub s.heap h₁ → Wk g s.heap.objs.size h₁ (fun x => binds.reverse.lookup x) hid →
      wpAny (model prog w) A' (execs body (envOf name scope s.heap.objs.size a cd)) (fun f s' => ∃ v, f = .ret v ∧ Q v s') (fun _ _ => False) { s with heap := h₁, toks := tk })
    (hco : scope.isCoroutine = false := by rfl) (hgen : scope.isGenerator = false := by rfl) (hk : scope.kind = .function := by rfl)
    (hcell : ∀ x ∈ scope.names, x.2 ≠ .cell := by decide) : wpAny (model prog w) A (call (.ref a) vals) Q E s := by
  refine wpAny_call (call_plain_ret hroom.room ho rfl hlim hcd hbind hloc (fun h₁ F => ?_) hco hgen hk hcell)
  refine wpAny_mono (h _ (hideAll s.heap (hid.map (·.1))) h₁ _ (hroom.deeper _) hidden (fun b o hb e => hideAll_get _ e fun q => ?_) F.keep ⟨F.ns, fun b o e => F.keep b o (hidden b o e), ?_, fun p hp => ⟨F.keep _ _ (hh p hp), Nat.ne_of_lt (Heap.lt_size (hh p hp)), hideAll_none _ (List.mem_map_of_mem hp)⟩, hnd⟩) (fun f s' hf => ?_) fun _ _ x => x
  · obtain ⟨p, hp, e⟩ := List.mem_map.mp q
    exact hb p hp e
  · cases q : (hideAll s.heap (hid.map (·.1))).get? s.heap.objs.size with
    | none => rfl
    | some o => exact absurd (Heap.lt_size (hidden _ _ q)) (Nat.lt_irrefl _)
  · obtain ⟨v, rfl, hv⟩ := hf
    exact hv

section
variable {P : Params} {mg mb : Str → Option Value} {g : Heap}
theorem Bs.mgOf (B : Bs P mg mb g) {n : Str} {v : Value} (e : nsIn (hd.heap_39 P) mainGlobals n = some (some v)) : mg n = some v := mg_of B.K B.gl e
end

section
variable {M : Model} {A : Around} {E : Value → Shared → Prop} {s : Shared} {env : Env} {P : Params} {mg mb : Str → Option Value}
theorem ldG {x : Str} {pos : Pos} {v : Value} {Q : Value → Shared → Prop} (B : Bs P mg mb s.heap) (hv : mg x = some v) (h : Q v s) (hG : env.globals = mainGlobals := by rfl)
    (hk : env.scope.kind = .function := by rfl) (hx : env.kindOf x = some .globalImplicit := by rfl) (hd : (x == ("__debug__" : Str)) = false := by decide) : wpAny M A (eval (.Name x pos) env) Q E s :=
  Name_function_global hk hx (loadGlobal_global (by rw [hG]; exact B.gl) hv h) hd
theorem ldB {x : Str} {pos : Pos} {v : Value} {Q : Value → Shared → Prop} (B : Bs P mg mb s.heap) (hf : mg x = none) (hv : bootBuiltins x = some v) (h : Q v s) (hn : x ≠ "__name__" := by decide) (hG : env.globals = mainGlobals := by rfl) (hGb : env.builtins = builtinsNs := by rfl)
    (hk : env.scope.kind = .function := by rfl) (hx : env.kindOf x = some .globalImplicit := by rfl) (hd : (x == ("__debug__" : Str)) = false := by decide) : wpAny M A (eval (.Name x pos) env) Q E s :=
  Name_function_global hk hx (loadGlobal_builtin (by rw [hG]; exact B.gl) hf (by rw [hGb]; exact B.b) ((B.bi x hn).trans hv) h) hd
end

end Mine
end

section
set_option autoImplicit false
set_option maxRecDepth 100000
set_option linter.unusedSimpArgs false
set_option linter.unusedVariables false
namespace Mine
open PySem PySem.W PySem.Calls PyProof.Rows

section
variable {M : Model} {A : Around} {E : Value → Shared → Prop} {s : Shared} {env : Env} {pos : Pos} {id : String} {first : List Value} {Q : Value → Shared → Prop}
theorem callB0 (h : wpAny M A (call (.builtin id) first) Q E s) : wpAny M A (callWith pos (.builtin id) first [] []) Q E s :=
  callWith_builtin (args := []) rfl (PySem.evalArgs_none (by simpa using h))
theorem callB1 {t : Sem Value} (h : wpAny M A t (fun v s₁ => wpAny M A (call (.builtin id) (first ++ [v])) Q E s₁) E s) : wpAny M A (callWith pos (.builtin id) first [(false, t)] []) Q E s :=
  callWith_builtin rfl (evalArgs_plain (spliced_cons (wpAny_mono h (fun v s₁ h₁ => spliced_nil h₁) fun _ _ e => e)))
theorem callB2 {t u : Sem Value} (h : wpAny M A t (fun v s₁ => wpAny M A u (fun v' s₂ => wpAny M A (call (.builtin id) (first ++ [v, v'])) Q E s₂) E s₁) E s) : wpAny M A (callWith pos (.builtin id) first [(false, t), (false, u)] []) Q E s :=
  callWith_builtin rfl (evalArgs_plain (spliced_cons (wpAny_mono h (fun v s₁ h₁ => spliced_cons (wpAny_mono h₁ (fun v' s₂ h₂ => spliced_nil h₂) fun _ _ e => e)) fun _ _ e => e)))
end

section
variable {prog : Program} {w : World} {A : Around} {E : Value → Shared → Prop} {s : Shared} {env : Env} {o : Expr} {name : Str} {apos pos : Pos} {Q : Value → Shared → Prop} {T id : String}
/-- a method of a thing on the heap, without an argument -/
theorem Meth0 (pa : PlainAttrs T) (sl : Slot T name id) (ty : typeOf (.builtin id) = pure (.type "method_descriptor"))
    (h : wpAny (model prog w) A (eval o env) (fun ov s₁ => s₁.TypeIs ov T ∧ (∀ a, ov = .ref a → ∃ ob, s₁.heap.get? a = some ob ∧ ob.dict = none) ∧ wpAny (model prog w) A (call (.builtin id) [ov]) Q E s₁) E s)
    (hbase : attributeBase o name env (eval o env) = eval o env := by rfl) (hline : (apos.endLine == pos.line) = true := by rfl) :
    wpAny (model prog w) A (eval (.Call (.Attribute o name apos) [] [] pos) env) Q E s :=
  Call_method0 hbase hline (wpAny_mono h (fun ov s₁ h₁ => ⟨T, id, pa, sl, ty, h₁.1, h₁.2.1, callB0 h₁.2.2⟩) fun _ _ e => e)
theorem Meth1 {e : Expr} (pa : PlainAttrs T) (sl : Slot T name id) (ty : typeOf (.builtin id) = pure (.type "method_descriptor"))
    (h : wpAny (model prog w) A (eval o env) (fun ov s₁ => s₁.TypeIs ov T ∧ (∀ a, ov = .ref a → ∃ ob, s₁.heap.get? a = some ob ∧ ob.dict = none) ∧ wpAny (model prog w) A (eval e env) (fun v s₂ => wpAny (model prog w) A (call (.builtin id) [ov, v]) Q E s₂) E s₁) E s)
    (hs : starEach [e] env = [(false, eval e env)] := by rfl) (hbase : attributeBase o name env (eval o env) = eval o env := by rfl) (hline : (apos.endLine == pos.line) = true := by rfl) :
    wpAny (model prog w) A (eval (.Call (.Attribute o name apos) [e] [] pos) env) Q E s :=
  Call_method1 hbase hs hline (wpAny_mono h (fun ov s₁ h₁ => ⟨T, id, pa, sl, ty, h₁.1, h₁.2.1, callB1 h₁.2.2⟩) fun _ _ e => e)
theorem Meth2 {e e' : Expr} (pa : PlainAttrs T) (sl : Slot T name id) (ty : typeOf (.builtin id) = pure (.type "method_descriptor"))
    (h : wpAny (model prog w) A (eval o env) (fun ov s₁ => s₁.TypeIs ov T ∧ (∀ a, ov = .ref a → ∃ ob, s₁.heap.get? a = some ob ∧ ob.dict = none) ∧ wpAny (model prog w) A (eval e env) (fun v s₂ => wpAny (model prog w) A (eval e' env) (fun v' s₃ => wpAny (model prog w) A (call (.builtin id) [ov, v, v']) Q E s₃) E s₂) E s₁) E s)
    (hs : starEach [e, e'] env = [(false, eval e env), (false, eval e' env)] := by rfl) (hbase : attributeBase o name env (eval o env) = eval o env := by rfl) (hline : (apos.endLine == pos.line) = true := by rfl) :
    wpAny (model prog w) A (eval (.Call (.Attribute o name apos) [e, e'] [] pos) env) Q E s :=
  Call_method2 hbase hs hline (wpAny_mono h (fun ov s₁ h₁ => ⟨T, id, pa, sl, ty, h₁.1, h₁.2.1, callB2 h₁.2.2⟩) fun _ _ e => e)
end
/-! ### a stretch of a text -/
def cutT (lo : Nat) (hi : Option Nat) (t : List Nat) : List Nat := (match hi with | none => t | some b => t.take b).drop lo
open Builtin Builtin.Str in
theorem idx_nat (lo : Nat) (hi : Option Nat) (len : Nat) : strSliceIndices (some (lo : Int)) (hi.map fun (k : Nat) => (k : Int)) 1 len = (List.range (min (hi.getD len) len - min lo len)).map (fun k => min lo len + k) := by
  have h1 : ¬ ((lo : Int) < 0) := by lia
  have e1 : max (0 : Int) (min (lo : Int) (len : Int)) = (min lo len : Nat) := by lia
  cases hi with
  | none =>
    have e3 := StrLaws.strSliceIndices_plain (a := min lo len) (b := len) (len := len) (by lia) (Nat.le_refl _)
    have e2 : strSliceIndices (some (lo : Int)) none 1 len = strSliceIndices (some ((min lo len : Nat) : Int)) (some (len : Int)) 1 len := by
      have a1 : ¬ (((min lo len : Nat) : Int) < 0) := by lia
      have a2 : ¬ ((len : Int) < 0) := by lia
      have a3 : max (0 : Int) (min ((min lo len : Nat) : Int) (len : Int)) = (min lo len : Nat) := by lia
      have a4 : max (0 : Int) (min (len : Int) (len : Int)) = len := by lia
      simp only [strSliceIndices, h1, a1, a2, if_false, e1, a3, a4, show ((1 : Int) > 0) = True from by simp, if_true]
    show strSliceIndices (some (lo : Int)) none 1 len = _
    rw [e2, e3]
    simp
  | some b =>
    have h2 : ¬ ((b : Int) < 0) := by lia
    have e2 : max (0 : Int) (min (b : Int) (len : Int)) = (min b len : Nat) := by lia
    show strSliceIndices (some (lo : Int)) (some (b : Int)) 1 len = _
    simp only [strSliceIndices, sliceRange, h1, h2, if_false, e1, e2, show ((1 : Int) > 0) = True from by simp, if_true, Option.getD_some]
    by_cases hlt : ((min lo len : Nat) : Int) < (min b len : Nat)
    · have e3 : ((((min b len : Nat) : Int) - (min lo len : Nat) + 1 - 1) / 1).toNat = min b len - min lo len := by
        rw [Int.ediv_one]; lia
      simp only [hlt, if_true, e3]
      refine List.map_congr_left fun k _ => ?_
      lia
    · have : min b len - min lo len = 0 := by lia
      simp [hlt, this]
open Builtin Builtin.Str in
theorem picked_nat (x : Str) (lo : Nat) (hi : Option Nat) : ((strSliceIndices (some (lo : Int)) (hi.map fun (k : Nat) => (k : Int)) 1 x.length).filterMap (x.cps[·]?)) = cutT lo hi (tl x) := by
  rw [idx_nat]
  have hl : x.length = (tl x).length := (tl_len x).symm
  have e := StrLaws.picks (tl x) (min (hi.getD x.length) x.length - min lo x.length) (min lo x.length) (by lia)
  have ef : (fun (i : Nat) => x.cps[i]?) = fun (i : Nat) => (tl x)[i]? := by funext i; simp [tl]
  rw [ef, e, hl]
  unfold cutT
  cases hi with
  | none =>
    simp only [Option.getD_none, Nat.min_self]
    by_cases h : lo ≤ (tl x).length
    · rw [Nat.min_eq_left h, List.take_of_length_le (by simp)]
    · have h' : (tl x).length ≤ lo := by lia
      rw [Nat.min_eq_right h', List.drop_eq_nil_of_le h', Nat.sub_self, List.take_zero]
  | some b =>
    simp only [Option.getD_some]
    by_cases h : lo ≤ (tl x).length
    · rw [Nat.min_eq_left h, List.drop_take]
      by_cases hb : b ≤ (tl x).length
      · rw [Nat.min_eq_left hb]
      · rw [Nat.min_eq_right (by lia), List.take_of_length_le (by rw [List.length_drop]; lia), List.take_of_length_le (by rw [List.length_drop]; lia)]
    · have h' : (tl x).length ≤ lo := by lia
      rw [Nat.min_eq_right h', List.drop_eq_nil_of_le (Nat.le_refl _), List.take_nil, List.drop_eq_nil_of_le (by rw [List.length_take]; lia)]
theorem sliceMade_post {x : Str} {t : Tok} {lo : Option (Nat × Tok)} {hi : Option (Nat × Tok)} {Q : Value → Shared → Prop} {s : Shared} (hx : x.length < 1000)
    (h : ∀ u tk, Q (.str (ts (cutT ((lo.map (·.1)).getD 0) (hi.map (·.1)) (tl x))) u) { s with toks := tk }) : (sliceMade x t (lo.map fun p => ((p.1 : Int), p.2)) (hi.map fun p => ((p.1 : Int), p.2)) none).post Q s := by
  have e : slicePicked x (lo.map fun p => ((p.1 : Int), p.2)) (hi.map fun p => ((p.1 : Int), p.2)) none = Builtin.Str.strSliceIndices (some (((lo.map (·.1)).getD 0 : Nat) : Int)) ((hi.map (·.1)).map fun (k : Nat) => (k : Int)) 1 x.length := by
    unfold slicePicked
    cases lo with
    | none => cases hi <;> exact StrLaws.sliceIdx_none_lo _ _
    | some p => cases hi <;> rfl
  unfold sliceMade
  rw [e]
  split
  · rename_i hw
    have hlen : (Builtin.Str.strSliceIndices (some (((lo.map (·.1)).getD 0 : Nat) : Int)) ((hi.map (·.1)).map fun (k : Nat) => (k : Int)) 1 x.length).length = x.length := by simpa using hw
    have hp := picked_nat x ((lo.map (·.1)).getD 0) (hi.map (·.1))
    have hc : cutT ((lo.map (·.1)).getD 0) (hi.map (·.1)) (tl x) = tl x := by
      rw [idx_nat] at hlen
      simp only [List.length_map, List.length_range] at hlen
      have hl : x.length = (tl x).length := (tl_len x).symm
      generalize (lo.map (·.1)).getD 0 = a at *
      cases hi with
      | none =>
        simp only [Option.map_none, Option.getD_none] at hlen ⊢
        by_cases h0 : x.length = 0
        · have : tl x = [] := List.eq_nil_of_length_eq_zero (by lia)
          rw [this]; simp [cutT]
        · have : a = 0 := by lia
          subst this; rfl
      | some p =>
        simp only [Option.map_some, Option.getD_some] at hlen ⊢
        by_cases h0 : x.length = 0
        · have : tl x = [] := List.eq_nil_of_length_eq_zero (by lia)
          rw [this]; simp [cutT]
        · have : a = 0 := by lia
          subst this
          show ((tl x).take p.1).drop 0 = tl x
          rw [List.drop_zero, List.take_of_length_le (by lia)]
    have := h t s.toks
    rw [hc, ts_tl] at this
    exact this
  · refine ⟨?_, ?_⟩
    · rw [picked_nat]
      show (cutT _ _ (tl x)).toArray.size ≤ _
      have h1 : (cutT ((lo.map (·.1)).getD 0) (hi.map (·.1)) (tl x)).length ≤ (tl x).length := by
        unfold cutT
        cases hi with
        | none => simp
        | some b => simp; lia
      have hl : x.length = (tl x).length := (tl_len x).symm
      simp [sizeLine]
      lia
    · rw [picked_nat]
      exact h _ _
section
variable {prog : Program} {w : World} {A : Around} {E : Value → Shared → Prop} {s : Shared} {env : Env}
theorem subTail {value slice : Expr} {o i : Value} {T id : String} {l : List Value} {Q : Value → Shared → Prop} (hT : s.TypeIs o T)
    (hl : typeLookup (.type T) "__getitem__" = pure (some (.builtin id))) (h : wpAny (model prog w) A (getItem o i) Q E s)
    (hs : subscripted slice false o i = operate l (getItem o i)) :
    wpAny (model prog w) A (subscriptTail value slice o i) Q E s := by
  unfold subscriptTail
  refine wpAny_bind ?_
  rw [getitemInPython_of_ne hT.not_modules]
  refine wpAny_bind (wpAny_specialOf hT hl ?_)
  have fin : wpAny (model prog w) A (subscripted slice false o i) (fun r s₃ => wpAny (model prog w) A (letTemporaryGo value o r >>= fun _ => pure r) Q E s₃) E s := by
    rw [hs]
    exact wpAny_operating (wpAny_mono h (fun r s₃ h₃ => wpAny_bind (wpAny_letTemporaryGo (wpAny_pure h₃))) fun _ _ x => x)
  first
    | exact wpAny_pure (wpAny_bind fin)
    | exact wpAny_bind (wpAny_pure (wpAny_bind fin))
    | exact wpAny_bind fin
/-- a stretch of a text -/
theorem subStr {value : Expr} {lower upper : Option Expr} {p pos : Pos} {Q : Value → Shared → Prop}
    (h : wpAny (model prog w) A (eval value env) (fun o s₁ => wpAny (model prog w) A (evalPart lower env) (fun vl s₂ => wpAny (model prog w) A (evalPart upper env) (fun vu s₃ =>
      ∃ (x : Str) (t : Tok) (lo hi : Option (Nat × Tok)), x.length < 1000 ∧ o = .str x t ∧ vl = partValue (lo.map fun p => ((p.1 : Int), p.2)) ∧ vu = partValue (hi.map fun p => ((p.1 : Int), p.2)) ∧
        ∀ h' u tk, Sub s₃.heap h' → Q (.str (ts (cutT ((lo.map (·.1)).getD 0) (hi.map (·.1)) (tl x))) u) { s₃ with heap := h', toks := tk }) E s₂) E s₁) E s) :
    wpAny (model prog w) A (eval (.Subscript value (.Slice lower upper none p) pos) env) Q E s := by
  refine PyProof.Rows.Subscript_ (wpAny_mono h (fun o s₁ h₁ => wpAny_Slice (wpAny_mono h₁ (fun vl s₂ h₂ => wpAny_mono h₂ (fun vu s₃ h₃ => ?_) fun _ _ e => e) fun _ _ e => e)) fun _ _ e => e)
  obtain ⟨x, t, lo, hi, hx, rfl, rfl, rfl, hQ⟩ := h₃
  rw [evalPart_none]
  refine wpAny_pure (subTail (typeIs_str _ x t) F.slot_str_getitem.lookup (wpAny_getItem_str_slice (st := none) ⟨_, Heap.get?_push_size _ rfl, rfl, rfl⟩ rfl ?_) rfl)
  exact sliceMade_post hx fun u tk => hQ _ _ _ fun _ _ e => Heap.get?_push_of_some _ e
end

section
variable {prog : Program} {w : World} {A : Around} {E : Value → Shared → Prop} {s : Shared} {env : Env} {g : Heap} {m : Str → Option Value} {mu : List (Addr × Obj)}
theorem asg2 {x y : Str} {p1 p2 pos : Pos} {k : Nat} {t : Addr} {v1 v2 : Value} {Q : Unit → Shared → Prop} (W : Wk g env.locals s.heap m mu) (hh : A.handled = none) (ht : s.heap.IsTuple t #[v1, v2])
    (h : ∀ h' tk, Wk g env.locals h' (fun z => if z = y then some v2 else if z = x then some v1 else m z) mu → Q () { s with heap := h', toks := tk })
    (hk : env.scope.kind = .function := by rfl) (hx : env.kindOf x = some .local := by rfl) (hy : env.kindOf y = some .local := by rfl) :
    wpAny (model prog w) A (assign (.Tuple [.Name x p1, .Name y p2] k pos) env (.ref t)) Q E s := by
  refine wpAny_assign_Tuple hh ht rfl rfl fun h₁ k₁ => ?_
  have W1 : Wk g env.locals h₁ m mu := W.keeps fun b o e => k₁ b o (Nat.ne_of_lt (Heap.lt_size e)) e
  show wpAny _ A (assignInOrder [assign (.Name x p1) env, assign (.Name y p2) env] [v1, v2]) _ _ _
  unfold assignInOrder
  refine wpAny_bind (wpAny_holding (assign_Name (st' (s := { s with heap := h₁ }) W1 (fun h₂ W2 => ?_) hk hx)))
  unfold assignInOrder
  refine wpAny_bind (wpAny_holding (assign_Name (st' (s := { s with heap := h₂, toks := s.toks + 1 }) W2 (fun h₃ W3 => ?_) hk hy)))
  unfold assignInOrder
  exact wpAny_pure (h h₃ _ W3)
end
end Mine
end

section
set_option autoImplicit false
set_option maxRecDepth 100000
set_option linter.unusedSimpArgs false
set_option linter.unusedVariables false
namespace Mine
open PySem PySem.W PySem.Calls PyProof.Rows

theorem call_unmatched {prog : Program} {w : World} {A : Around} {s : Shared} {E : Value → Shared → Prop} {Q : Value → Shared → Prop} {P : Params} {mg mb : Str → Option Value} {k : Addr} {x : Str} {t : Tok} {st e a c : Nat}
    (B : Bs P mg mb s.heap) (r : Rm 5 A) (H : IsMatch s.heap k x t st e a c) (hx : x.length < 1000) (hst : st ≤ x.length)
    (hQ : ∀ h' tk u, Sub s.heap h' → Q (.str (ts ((tl x).take st ++ (tl x).drop e)) u) { s with heap := h', toks := tk }) : wpAny (model prog w) A (call (.ref 43) [.ref k]) Q E s := by
  refine call_fn [] (by simp) (by simp) r (B.K 43 _ rfl) B.lim (codeRec_of B.K (by rfl)) (binds := [("match", .ref k)]) (by rfl) (locs (by rfl)) fun A' g h₁ tk r' hs hg hk W => ?_
  refine wpAny_execs_cons ?_
  refine Assign_Tuple ?_
  refine Meth1 plainAttrs_match slot_span type_span ?_
  refine ld' W rfl ?_
  have H1 := H.keep hk
  refine ⟨H1.type (s := { s with heap := h₁, toks := tk }), fun a e => ?_, wpAny_Constant_int (span0 (s := { s with heap := h₁, toks := tk + 1 }) H1 fun t1 t2 tk2 => ?_)⟩
  · cases e
    obtain ⟨pat, lim, li, T, h1, _⟩ := H1
    exact ⟨_, h1, rfl⟩
  refine asg2 (s := { s with heap := _, toks := tk2 }) (W.push _) r'.hd ⟨_, Heap.get?_push_size _ rfl, rfl, 0, rfl⟩ fun h₂ tk3 W2 => ?_
  have k2 : Sub s.heap h₂ := fun b o e => W2.keep b o (hg b o (by simp) e)
  have fin : ∀ (s₁ : Shared) (y : Str) (u : Tok), Q (.str y u) s₁ → ∃ v, Flow.ret (.str y u) = .ret v ∧ Q v s₁ := fun s₁ y u q => ⟨_, rfl, q⟩
  refine wpAny_execs_cons (wpAny_Return_some (wpAny_BinOp ?_))
  refine subStr (Attribute_Name_ (ld' W2 rfl (string_attr (H.keep k2) ?_)))
  refine wpAny_pure (ld' W2 rfl ⟨x, t, none, some (st, t1), hx, rfl, rfl, rfl, fun h₃ u tk4 k3 => ?_⟩)
  have W3 := W2.keeps k3
  refine subStr (Attribute_Name_ (ld' (s := { s with heap := h₃, toks := _ }) W3 rfl (string_attr (H.keep (k2.trans k3)) ?_)))
  refine ld' (s := { s with heap := h₃, toks := _ }) W3 rfl (wpAny_pure ⟨x, t, some (e, t2), none, hx, rfl, rfl, rfl, fun h₄ u2 tk5 k4 => ?_⟩)
  refine PyProof.Rows.add_str (s := { s with heap := h₄, toks := tk5 }) (fun t' tk => ⟨_, rfl, ?_⟩) ?_
  · have := hQ h₄ tk t' (k2.trans (k3.trans k4))
    have e3 : (ts (cutT 0 (some st) (tl x)) ++ ts (cutT e none (tl x)) : Str) = ts ((tl x).take st ++ (tl x).drop e) := by
      rw [← ts_tl (ts (cutT 0 (some st) (tl x)) ++ ts (cutT e none (tl x))), tl_app, tl_ts, tl_ts]
      rfl
    rw [← e3] at this
    exact this
  · rw [ts_len, ts_len]
    have := tl_len x
    simp only [cutT, List.length_drop, List.length_take, Option.map_none, Option.map_some, Option.getD_none, Option.getD_some, sizeLine]
    lia
end Mine
end

section
set_option autoImplicit false
set_option maxRecDepth 100000
set_option linter.unusedSimpArgs false
set_option linter.unusedVariables false
namespace Mine
open PySem PySem.W PySem.Calls PyProof.Rows PySem.Sre

/-! ### the five patterns -/
section
variable {P : Params} {mg mb : Str → Option Value} {g : Heap}
theorem patTok (X : (hd.heap_39 P).In g) : IsPat g 48 1 cTok := ⟨_, _, _, _, _, X 48 _ rfl, X 47 _ rfl, by decide +kernel⟩
theorem patQuo (X : (hd.heap_39 P).In g) : IsPat g 53 1 cQuo := ⟨_, _, _, _, _, X 53 _ rfl, X 52 _ rfl, by decide +kernel⟩
theorem patVal (X : (hd.heap_39 P).In g) : IsPat g 58 1 cVal := ⟨_, _, _, _, _, X 58 _ rfl, X 57 _ rfl, by decide +kernel⟩
theorem patEsc (X : (hd.heap_39 P).In g) : IsPat g 63 1 cEsc := ⟨_, _, _, _, _, X 63 _ rfl, X 62 _ rfl, by decide +kernel⟩
theorem patJunk (X : (hd.heap_39 P).In g) : IsPat g 36 0 cJunk := ⟨_, _, _, _, _, X 36 _ rfl, X 35 _ rfl, by decide +kernel⟩
theorem mgTok (B : Bs P mg mb g) : mg "HEADER_TOKEN_RE" = some (.ref 48) := B.mgOf (by rfl)
theorem mgQuo (B : Bs P mg mb g) : mg "HEADER_QUOTED_VALUE_RE" = some (.ref 53) := B.mgOf (by rfl)
theorem mgVal (B : Bs P mg mb g) : mg "HEADER_VALUE_RE" = some (.ref 58) := B.mgOf (by rfl)
theorem mgEsc (B : Bs P mg mb g) : mg "HEADER_ESCAPE_RE" = some (.ref 63) := B.mgOf (by rfl)
theorem mgJunk (B : Bs P mg mb g) : mg "_twin_re_5" = some (.ref 36) := B.mgOf (by rfl)
theorem mgUnm (B : Bs P mg mb g) : mg "unmatched" = some (.ref 43) := B.mgOf (by rfl)
theorem mgShw (B : Bs P mg mb g) : mg "split_header_words" = some (.ref 70) := B.mgOf (by rfl)
theorem mgLis (B : Bs P mg mb g) : mg "_law_lists" = some (.ref 75) := B.mgOf (by rfl)
theorem mgSho (B : Bs P mg mb g) : mg "_law_shortest" = some (.ref 80) := B.mgOf (by rfl)
theorem mgDre (B : Bs P mg mb g) : mg "_law_dress" = some (.ref 85) := B.mgOf (by rfl)
theorem mgCha (B : Bs P mg mb g) : mg "_law_changed" = some (.ref 90) := B.mgOf (by rfl)
end
theorem IsPat.keep {h h' : Heap} {p : Addr} {groups : Nat} {code : Array Nat} (H : IsPat h p groups code) (k : Sub h h') : IsPat h' p groups code := by
  obtain ⟨pat, flags, c, vs, n, h1, h2, h3⟩ := H
  exact ⟨pat, flags, c, vs, n, k _ _ h1, k _ _ h2, h3⟩

/-! ### truth -/
theorem noBool_match : typeLookup (.type "re.Match") "__bool__" = pure none := by rw [typeLookup_type, builtinLookup_eq_fast]; kernel_rfl
theorem noLen_match : typeLookup (.type "re.Match") "__len__" = pure none := by rw [typeLookup_type, builtinLookup_eq_fast]; kernel_rfl
section
variable {prog : Program} {w : World} {A : Around} {E : Value → Shared → Prop} {s : Shared} {env : Env}
theorem truthy_match {k : Addr} {x : Str} {t : Tok} {st e a c : Nat} {Q : Bool → Shared → Prop} (H : IsMatch s.heap k x t st e a c) (h : Q true s) : wpAny (model prog w) A (truthy (.ref k)) Q E s := by
  unfold truthy
  first
    | refine wpAny_bind (wpAny_callSpecial?_none (name := Str.ofString "__bool__") H.type noBool_match ?_)
    | refine wpAny_bind (wpAny_pure (wpAny_bind (wpAny_callSpecial?_none (name := Str.ofString "__bool__") H.type noBool_match ?_)))
  first
    | refine wpAny_bind (wpAny_specialOf (name := Str.ofString "__len__") H.type noLen_match ?_)
    | refine wpAny_bind (wpAny_pure (wpAny_bind (wpAny_specialOf (name := Str.ofString "__len__") H.type noLen_match ?_)))
  exact wpAny_pure h
theorem truthy_txt {x : Str} {t : Tok} {Q : Bool → Shared → Prop} (hx : x.length < 1000) (h : ∀ tk, Q (!(tl x).isEmpty) { s with toks := tk }) : wpAny (model prog w) A (truthy (.str x t)) Q E s := by
  refine P.truthy_str (by lia) ?_
  have e : ((x.length : Int) != 0) = !(tl x).isEmpty := by
    rw [← tl_len]
    cases tl x with
    | nil => rfl
    | cons a r => simp; lia
  rw [e]
  exact h _
theorem isTrue_Name {x : Str} {pos : Pos} {Q : Bool → Shared → Prop} (h : wpAny (model prog w) A (eval (.Name x pos) env) (fun v s₁ => wpAny (model prog w) A (truthy v) Q E s₁) E s) :
    wpAny (model prog w) A (isTrue (.Name x pos) env (eval (.Name x pos) env)) Q E s := isTrue_plain h

/-! ### calls -/
theorem ev_callF {f : Str} {pf pos : Pos} {args : List Expr} {a : Addr} {o : Obj} {fd : FuncData} {Q : Value → Shared → Prop}
    (hf : ∀ Q', Q' (.ref a) s → wpAny (model prog w) A (eval (.Name f pf) env) Q' E s)
    (h : wpAny (model prog w) A (evalArgs (.ref a) true (backTo pos (starEach args env)) []) (fun x s₁ => (s₁.heap.get? a = some o ∧ o.data = .func fd) ∧ wpAny (model prog w) A (call (.ref a) x.pos x.kw) Q E s₁) E s) :
    wpAny (model prog w) A (eval (.Call (.Name f pf) args [] pos) env) Q E s :=
  wpAny_Call_Name_kw (hf _ (callWith_function h))
theorem ev_callF1 {f : Str} {pf pos : Pos} {e : Expr} {a : Addr} {o : Obj} {fd : FuncData} {Q : Value → Shared → Prop}
    (hf : ∀ Q', Q' (.ref a) s → wpAny (model prog w) A (eval (.Name f pf) env) Q' E s)
    (h : wpAny (model prog w) A (eval e env) (fun v s₁ => (s₁.heap.get? a = some o ∧ o.data = .func fd) ∧ wpAny (model prog w) A (call (.ref a) [v]) Q E s₁) E s)
    (hs : backTo pos (starEach [e] env) = [(false, eval e env)] := by rfl) :
    wpAny (model prog w) A (eval (.Call (.Name f pf) [e] [] pos) env) Q E s := by
  refine ev_callF (o := o) (fd := fd) hf ?_
  rw [hs]
  exact evalArgs_plain (spliced_cons (wpAny_mono h (fun v s₁ h₁ => spliced_nil h₁) fun _ _ e => e))
theorem ev_callF2 {f : Str} {pf pos : Pos} {e e' : Expr} {a : Addr} {o : Obj} {fd : FuncData} {Q : Value → Shared → Prop}
    (hf : ∀ Q', Q' (.ref a) s → wpAny (model prog w) A (eval (.Name f pf) env) Q' E s)
    (h : wpAny (model prog w) A (eval e env) (fun v s₁ => wpAny (model prog w) A (eval e' env) (fun v' s₂ => (s₂.heap.get? a = some o ∧ o.data = .func fd) ∧ wpAny (model prog w) A (call (.ref a) [v, v']) Q E s₂) E s₁) E s)
    (hs : backTo pos (starEach [e, e'] env) = [(false, eval e env), (false, eval e' env)] := by rfl) :
    wpAny (model prog w) A (eval (.Call (.Name f pf) [e, e'] [] pos) env) Q E s := by
  refine ev_callF (o := o) (fd := fd) hf ?_
  rw [hs]
  exact evalArgs_plain (spliced_cons (wpAny_mono h (fun v s₁ h₁ => spliced_cons (wpAny_mono h₁ (fun v' s₂ h₂ => spliced_nil h₂) fun _ _ e => e)) fun _ _ e => e))
end

section
variable {prog : Program} {w : World} {A : Around} {E : Value → Shared → Prop} {s : Shared} {env : Env} {P : Params} {mg mb : Str → Option Value} {g : Heap} {m : Str → Option Value} {mu : List (Addr × Obj)} {x : Str} {t : Tok} {Q : Value → Shared → Prop}
theorem IsMatch.pushed {h : Heap} {e a c lim : Nat} {li : Int} {pat : Value} : IsMatch ((h.push (tupObj [rawInt (0 : Nat), rawInt e, rawInt a, rawInt c])).push (matchObj (.str x t) pat lim li h.objs.size)) (h.objs.size + 1) x t 0 e a c := by
  refine ⟨pat, lim, li, h.objs.size, ?_, Heap.get?_push_of_some _ (Heap.get?_push_size _ rfl)⟩
  have e1 : h.objs.size + 1 = (h.push (tupObj [rawInt (0 : Nat), rawInt e, rawInt a, rawInt c])).objs.size := (Heap.size_push ..).symm
  rw [e1]
  exact Heap.get?_push_size _ rfl
/-- RE.search(text): found -/
theorem ev_search_hit {X T : Str} {pX pT apos pos : Pos} {p : Addr} {code : Array Nat} {e a c b : Nat} (W : Wk g env.locals s.heap m mu) (B : Bs P mg mb g) (hX : mg X = some (.ref p)) (hp : IsPat g p 1 code) (hm : m T = some (.str x t)) (hx : x.length < 1000)
    (H : Hits b (forSearch code x.cps 1 0 x.cps.size false) 0 e #[some a, some c] 1 1) (hb : b ≤ 2 ^ 64) (hac : a ≤ c)
    (h : ∀ g' h' tk k, Sub g g' → Sub s.heap h' → IsMatch g' k x t 0 e a c → Wk g' env.locals h' m mu → Q (.ref k) { s with heap := h', toks := tk })
    (hs : starEach [.Name T pT] env = [(false, eval (.Name T pT) env)] := by rfl) (hbase : attributeBase (.Name X pX) "search" env (eval (.Name X pX) env) = eval (.Name X pX) env := by rfl) (hline : (apos.endLine == pos.line) = true := by rfl)
    (hG : env.globals = mainGlobals := by rfl) (hk : env.scope.kind = .function := by rfl) (hkX : env.kindOf X = some .globalImplicit := by rfl) (hkT : env.kindOf T = some .local := by rfl) (hd : (X == ("__debug__" : Str)) = false := by decide) (hd2 : (T == ("__debug__" : Str)) = false := by decide) :
    wpAny (model prog w) A (eval (.Call (.Attribute (.Name X pX) "search" apos) [.Name T pT] [] pos) env) Q E s := by
  refine Meth1 plainAttrs_pat slot_search type_search (ldG (B.keeps W.keep) hX ?_ hG hk hkX hd) hs hbase hline
  have hp' := hp.keep W.keep
  refine ⟨hp'.type, fun a e => ?_, ld' W hm (search_hit hp' hx H hb hac ?_) hk hkT hd2⟩
  · cases e
    obtain ⟨pat, flags, c, vs, n, h1, h2, h3⟩ := hp'
    exact ⟨_, h1, rfl⟩
  · have k1 : Sub s.heap ((s.heap.push (tupObj [rawInt (0 : Nat), rawInt e, rawInt a, rawInt c])).push (matchObj (.str x t) (.ref p) x.cps.size 1 s.heap.objs.size)) := fun b o q => Heap.get?_push_of_some _ (Heap.get?_push_of_some _ q)
    obtain ⟨g', s1, s2, W'⟩ := W.ext k1
    obtain ⟨pat, lim, li, T0, i1, i2⟩ := IsMatch.pushed (h := s.heap) (x := x) (t := t) (e := e) (a := a) (c := c) (lim := x.cps.size) (li := 1) (pat := .ref p)
    refine h g' _ _ _ s1 k1 ⟨.ref p, x.cps.size, 1, s.heap.objs.size, s2 _ _ (Heap.get?_none_of_le (by lia)) ?_, s2 _ _ (Heap.get?_none_of_le (Nat.le_refl _)) (Heap.get?_push_of_some _ (Heap.get?_push_size _ rfl))⟩ W'
    have e1 : s.heap.objs.size + 1 = (s.heap.push (tupObj [rawInt (0 : Nat), rawInt e, rawInt a, rawInt c])).objs.size := (Heap.size_push ..).symm
    rw [e1]
    exact Heap.get?_push_size _ rfl
theorem ev_search_miss {X T : Str} {pX pT apos pos : Pos} {p : Addr} {code : Array Nat} {b : Nat} (W : Wk g env.locals s.heap m mu) (B : Bs P mg mb g) (hX : mg X = some (.ref p)) (hp : IsPat g p 1 code) (hm : m T = some (.str x t)) (hx : x.length < 1000)
    (H : Misses b (forSearch code x.cps 1 0 x.cps.size false)) (hb : b ≤ 2 ^ 64) (h : Q .none s)
    (hs : starEach [.Name T pT] env = [(false, eval (.Name T pT) env)] := by rfl) (hbase : attributeBase (.Name X pX) "search" env (eval (.Name X pX) env) = eval (.Name X pX) env := by rfl) (hline : (apos.endLine == pos.line) = true := by rfl)
    (hG : env.globals = mainGlobals := by rfl) (hk : env.scope.kind = .function := by rfl) (hkX : env.kindOf X = some .globalImplicit := by rfl) (hkT : env.kindOf T = some .local := by rfl) (hd : (X == ("__debug__" : Str)) = false := by decide) (hd2 : (T == ("__debug__" : Str)) = false := by decide) :
    wpAny (model prog w) A (eval (.Call (.Attribute (.Name X pX) "search" apos) [.Name T pT] [] pos) env) Q E s := by
  refine Meth1 plainAttrs_pat slot_search type_search (ldG (B.keeps W.keep) hX ?_ hG hk hkX hd) hs hbase hline
  have hp' := hp.keep W.keep
  refine ⟨hp'.type, fun a e => ?_, ld' W hm (search_miss hp' hx H hb h) hk hkT hd2⟩
  cases e
  obtain ⟨pat, flags, c, vs, n, h1, h2, h3⟩ := hp'
  exact ⟨_, h1, rfl⟩
/-- m.group(1) -/
theorem ev_group1 {T : Str} {pT pc apos pos : Pos} {kk : Nat} {k : Addr} {st e a c : Nat} (W : Wk g env.locals s.heap m mu) (hm : m T = some (.ref k)) (H : IsMatch g k x t st e a c) (hx : x.length < 1000) (hac : a ≤ c)
    (h : ∀ u tk, Q (.str (ts (((tl x).drop a).take (c - a))) u) { s with toks := tk })
    (hs : starEach [.Constant (.int 1) kk pc] env = [(false, eval (.Constant (.int 1) kk pc) env)] := by rfl) (hbase : attributeBase (.Name T pT) "group" env (eval (.Name T pT) env) = eval (.Name T pT) env := by rfl) (hline : (apos.endLine == pos.line) = true := by rfl)
    (hk : env.scope.kind = .function := by rfl) (hkT : env.kindOf T = some .local := by rfl) (hd2 : (T == ("__debug__" : Str)) = false := by decide) :
    wpAny (model prog w) A (eval (.Call (.Attribute (.Name T pT) "group" apos) [.Constant (.int 1) kk pc] [] pos) env) Q E s := by
  refine Meth1 plainAttrs_match slot_group type_group (ld' W hm ?_ hk hkT hd2) hs hbase hline
  have H' := H.keep W.keep
  refine ⟨H'.type, fun a e => ?_, wpAny_Constant_int (group1 (s := { s with toks := s.toks + 1 }) H' hx hac fun tk => ?_)⟩
  · cases e
    obtain ⟨pat, lim, li, T, h1, _⟩ := H'
    exact ⟨_, h1, rfl⟩
  · have e1 : (⟨x.cps.extract a c⟩ : Str) = ts (((tl x).drop a).take (c - a)) := by
      show Str.mk _ = Str.mk _
      congr 1
      apply Array.toList_inj.mp
      rw [Array.toList_extract, List.extract_eq_take_drop]
    rw [e1]
    exact h _ _
/-- unmatched(m) -/
theorem ev_unm {T : Str} {pf pT pos : Pos} {k : Addr} {e a c : Nat} (W : Wk g env.locals s.heap m mu) (B : Bs P mg mb g) (r : Rm 5 A) (hm : m T = some (.ref k)) (H : IsMatch g k x t 0 e a c) (hx : x.length < 1000)
    (h : ∀ h' tk u, Sub s.heap h' → Wk g env.locals h' m mu → Q (.str (ts ((tl x).drop e)) u) { s with heap := h', toks := tk })
    (hs : backTo pos (starEach [.Name T pT] env) = [(false, eval (.Name T pT) env)] := by rfl)
    (hG : env.globals = mainGlobals := by rfl) (hk : env.scope.kind = .function := by rfl) (hkX : env.kindOf "unmatched" = some .globalImplicit := by rfl) (hkT : env.kindOf T = some .local := by rfl) (hd2 : (T == ("__debug__" : Str)) = false := by decide) :
    wpAny (model prog w) A (eval (.Call (.Name "unmatched" pf) [.Name T pT] [] pos) env) Q E s := by
  have B' := B.keeps W.keep
  refine ev_callF1 (fun Q' q => ldG B' (mgUnm B) q hG hk hkX) (ld' W hm ⟨⟨B'.K 43 _ rfl, rfl⟩, ?_⟩ hk hkT hd2) hs
  refine call_unmatched B' r (H.keep W.keep) hx (Nat.zero_le _) fun h' tk u k' => ?_
  have := h h' tk u k' (W.keeps k')
  rw [List.take_zero, List.nil_append]
  exact this
end
end Mine
end

section
set_option autoImplicit false
set_option maxRecDepth 100000
set_option linter.unusedSimpArgs false
set_option linter.unusedVariables false
namespace Mine
open PySem PySem.W PySem.Calls PyProof.Rows PySem.Sre

/-! ### places in the text -/
def topS (i : Nat) : Stmt := Challenge.pw_oy0002_01.main.body.getD i (.Pass ⟨0, 0, 0, 0⟩)
def bodyOf : Stmt → List Stmt
  | .FunctionDef _ _ b .. => b
  | .For _ _ b _ _ => b
  | .While _ b _ _ => b
  | .If _ b _ _ => b
  | _ => []
def scopeOf : Stmt → Scope
  | .FunctionDef (scope := sc) .. => sc
  | _ => { kind := .function, names := [], isGenerator := false, isCoroutine := false, more := [] }
def nth (l : List Stmt) (i : Nat) : Stmt := l.getD i (.Pass ⟨0, 0, 0, 0⟩)

/-! ### data -/
inductive All2 {α β : Type} (R : α → β → Prop) : List α → List β → Prop
  | nil : All2 R [] []
  | cons {a : α} {b : β} {as : List α} {bs : List β} : R a b → All2 R as bs → All2 R (a :: as) (b :: bs)
namespace All2
variable {α β : Type} {R S : α → β → Prop}
theorem imp (h : ∀ a b, R a b → S a b) {as : List α} {bs : List β} (X : All2 R as bs) : All2 S as bs := by
  induction X with
  | nil => exact .nil
  | cons x _ ih => exact .cons (h _ _ x) ih
theorem append {as : List α} {bs : List β} {as' : List α} {bs' : List β} (X : All2 R as bs) (z : All2 R as' bs') : All2 R (as ++ as') (bs ++ bs') := by
  induction X with
  | nil => exact z
  | cons x _ ih => exact .cons x ih
theorem snoc {a : α} {b : β} (hab : R a b) {as : List α} {bs : List β} (X : All2 R as bs) : All2 R (as ++ [a]) (bs ++ [b]) := X.append (.cons hab .nil)
theorem len {as : List α} {bs : List β} (X : All2 R as bs) : as.length = bs.length := by
  induction X with
  | nil => rfl
  | cons _ _ ih => exact congrArg (· + 1) ih
theorem get {as : List α} {bs : List β} (X : All2 R as bs) : ∀ (i : Nat) (a : α) (b : β), as[i]? = some a → bs[i]? = some b → R a b := by
  induction X with
  | nil => exact fun i a b h _ => nomatch h
  | cons x _ ih =>
    intro i a b h h'
    cases i with
    | zero => cases h; cases h'; exact x
    | succ i => exact ih i a b h h'
end All2

def OptV : Option Txt → Value → Prop
  | none, v => v = .none
  | some x, v => ∃ u, v = .str (ts x) u
abbrev pairObj (vs : Array Value) : Obj := { cls := .type "tuple", data := .seq vs }
def TupD (lo : Nat) (g : Heap) (v : Value) (w : Wd) : Prop := ∃ a n u vv, v = .ref a ∧ lo ≤ a ∧ g.get? a = some { cls := .type "tuple", data := .seq #[.str (ts w.1) u, vv] n } ∧ OptV w.2 vv
def RowD (lo : Nat) (g : Heap) (v : Value) (ws : List Wd) : Prop := ∃ a vs n, v = .ref a ∧ lo ≤ a ∧ g.get? a = some (listOf (List.toArray vs) n) ∧ All2 (TupD lo g) vs ws
def ListsD (lo : Nat) (g : Heap) (v : Value) (l : List (List Wd)) : Prop := ∃ a vs n, v = .ref a ∧ g.get? a = some (listOf (List.toArray vs) n) ∧ All2 (RowD lo g) vs l
theorem TupD.mono {lo lo' : Nat} {g g' : Heap} {v : Value} {w : Wd} (h : TupD lo g v w) (hl : lo' ≤ lo) (k : ∀ b o, lo ≤ b → g.get? b = some o → g'.get? b = some o) : TupD lo' g' v w := by
  obtain ⟨a, n, u, vv, h1, h2, h3, h4⟩ := h
  exact ⟨a, n, u, vv, h1, Nat.le_trans hl h2, k _ _ h2 h3, h4⟩
theorem RowD.mono {lo lo' : Nat} {g g' : Heap} {v : Value} {w : List Wd} (h : RowD lo g v w) (hl : lo' ≤ lo) (k : ∀ b o, lo ≤ b → g.get? b = some o → g'.get? b = some o) : RowD lo' g' v w := by
  obtain ⟨a, vs, n, h1, h2, h3, h4⟩ := h
  exact ⟨a, vs, n, h1, Nat.le_trans hl h2, k _ _ h2 h3, h4.imp fun _ _ x => x.mono hl k⟩
theorem ListsD.mono {lo lo' : Nat} {g g' : Heap} {v : Value} {w : List (List Wd)} (h : ListsD lo g v w) (hl : lo' ≤ lo) (k : ∀ b o, lo ≤ b → g.get? b = some o → g'.get? b = some o) (kv : ∀ a o, v = .ref a → g.get? a = some o → g'.get? a = some o) : ListsD lo' g' v w := by
  obtain ⟨a, vs, n, h1, h3, h4⟩ := h
  exact ⟨a, vs, n, h1, kv _ _ h1 h3, h4.imp fun _ _ x => x.mono hl k⟩
theorem ListsD.keep {lo : Nat} {g g' : Heap} {v : Value} {w : List (List Wd)} (h : ListsD lo g v w) (k : ∀ b o, g.get? b = some o → g'.get? b = some o) : ListsD lo g' v w := h.mono (Nat.le_refl _) (fun b o _ e => k b o e) fun a o _ e => k a o e

/-! ### a pair, a list, a thing put behind a list -/
section
variable {prog : Program} {w : World} {A : Around} {E : Value → Shared → Prop} {s : Shared} {env : Env} {g : Heap} {m : Str → Option Value} {mu pre post : List (Addr × Obj)} {Q : Value → Shared → Prop}
theorem ev_tuple2 {e1 e2 : Expr} {k : Nat} {pos : Pos} (h : wpAny (model prog w) A (eval e1 env) (fun v1 s₁ => wpAny (model prog w) A (eval e2 env) (fun v2 s₂ =>
      Q (.ref s₂.heap.objs.size) { s₂ with heap := s₂.heap.push (pairObj #[v1, v2]) }) E s₁) E s)
    (hs : backTo pos (starEach [e1, e2] env) = [(false, eval e1 env), (false, eval e2 env)] := by rfl) : wpAny (model prog w) A (eval (.Tuple [e1, e2] k pos) env) Q E s := by
  refine Tuple_ ?_
  rw [hs]
  refine spliced_cons (wpAny_mono h (fun v1 s₁ h₁ => spliced_cons (wpAny_mono h₁ (fun v2 s₂ h₂ => spliced_nil ?_) fun _ _ e => e)) fun _ _ e => e)
  exact wpAny_newTuple h₂ (by simp [sizeLine])
theorem ev_listNil {pos : Pos} (h : Q (.ref s.heap.objs.size) { s with heap := s.heap.push (listOf #[] 0) }) : wpAny (model prog w) A (eval (.List [] pos) env) Q E s := by
  refine List_ ?_
  refine spliced_nil ?_
  exact wpAny_newList h
theorem ev_append {T : Str} {pT apos pos : Pos} {e : Expr} {D : Addr} {its : Array Value} {n : Nat} (W : Wk g env.locals s.heap m (pre ++ (D, listOf its n) :: post)) (hm : m T = some (.ref D)) (hz : its.size ≤ 10000)
    (h : wpAny (model prog w) A (eval e env) (fun v s₁ => ∃ g', Wk g' env.locals s₁.heap m (pre ++ (D, listOf its n) :: post) ∧ ∀ h', Wk g' env.locals h' m (pre ++ (D, listOf (its.push v) (n + 1)) :: post) → Q .none { s₁ with heap := h' }) E s)
    (hs : starEach [e] env = [(false, eval e env)] := by rfl) (hbase : attributeBase (.Name T pT) "append" env (eval (.Name T pT) env) = eval (.Name T pT) env := by rfl) (hline : (apos.endLine == pos.line) = true := by rfl)
    (hk : env.scope.kind = .function := by rfl) (hkT : env.kindOf T = some .local := by rfl) (hd2 : (T == ("__debug__" : Str)) = false := by decide) :
    wpAny (model prog w) A (eval (.Call (.Attribute (.Name T pT) "append" apos) [e] [] pos) env) Q E s := by
  have hD := (W.mus (D, listOf its n) (List.mem_append_right _ (.head _))).1
  refine Meth1 F.plainAttrs_list slot_list_append type_list_append (ld' W hm ⟨⟨_, hD, rfl⟩, fun a e => by cases e; exact ⟨_, hD, rfl⟩, ?_⟩ hk hkT hd2) hs hbase hline
  refine wpAny_mono h (fun v s₁ h₁ => ?_) fun _ _ x => x
  obtain ⟨g', W', hq⟩ := h₁
  exact append_at (W'.mus (D, listOf its n) (List.mem_append_right _ (.head _))).1 (fun h' hs' ho' => hq h' (W'.turn hs'.extBut ho')) (by simp [sizeLine]; lia)
end
end Mine
end

section
set_option autoImplicit false
set_option maxRecDepth 100000
set_option linter.unusedSimpArgs false
set_option linter.unusedVariables false
namespace Mine
open PySem PySem.W PySem.Calls PyProof.Rows PySem.Sre

abbrev lamArgs (p : Pos) : Arguments := { posonlyargs := [], args := [{ arg := "_m", annotation := none, pos := p }], vararg := none, kwonlyargs := [], kw_defaults := [], kwarg := none, defaults := [] }
abbrev lamScope : Scope := { kind := .function, names := [("_m", .local)], isGenerator := false, isCoroutine := false, more := [] }
abbrev lamBody (k1 k2 k3 : Nat) (p1 p2 p3 p4 p5 p6 p7 p8 : Pos) : Expr :=
  .BinOp (.Constant (.str "") k1 p1) .Add (.BoolOp .Or [.Call (.Attribute (.Name "_m" p2) "group" p3) [.Constant (.int 1) k2 p4] [] p5, .Constant (.str "") k3 p6] p7) p8

theorem Wk.fresh {h h' : Heap} {m : Str → Option Value} (hn : h'.Ns h.objs.size m) (k : Sub h h') : Wk h h.objs.size h' m [] :=
  ⟨hn, k, Heap.get?_none_of_le (Nat.le_refl _), (fun _ hp => nomatch hp), List.nodup_nil⟩

/-- what the call of the lambda makes of a match -/
theorem lam_repl {prog : Program} {w : World} {A : Around} {g0 : Heap} {f c' : Addr} {q : Str} {pm ctv : Value} {pa p1 p2 p3 p4 p5 p6 p7 p8 : Pos} {k1 k2 k3 : Nat} {x : Str} {t : Tok} {P : Params} {mg mb : Str → Option Value}
    (B : Bs P mg mb g0) (r : Rm 3 A) (hf : g0.get? f = some (kla_obj "<lambda>" q (lamArgs pa) (lamBody k1 k2 k3 p1 p2 p3 p4 p5 p6 p7 p8) lamScope [] pm c' ctv)) (hcd : g0.CodeRec (.ref c') q) (hx : x.length < 1000)
    (hl : (p3.endLine == p5.line) = true) : Repl prog w A (fun h => Sub g0 h) f x t := by
  intro s m st e a c E Q hJ H hac hc hQ
  refine wpAny_call (kla_callFunE (fd := kla_fn "<lambda>" q (lamArgs pa) (lamBody k1 k2 k3 p1 p2 p3 p4 p5 p6 p7 p8) lamScope [] pm (.ref c') ctv) r.room (hJ _ _ hf) rfl rfl rfl rfl (hcd.keeps hJ) ?_)
  refine wpAny_of_eq (a := [(Str.ofString "_m", Value.ref m)]) rfl ?_
  refine wpAny_newFunctionEnv (scope := lamScope) (by decide) (locs (by rfl)) (fun h₁ hns hsb => ⟨((B.keeps hJ).lim).fresh _ hsb, ?_⟩) rfl
  have hk : Sub s.heap h₁ := fun b o q => hsb.extBut b o (Nat.ne_of_lt (Heap.lt_size q)) (Heap.get?_push_of_some _ q)
  refine kla_codeExpr ?_
  have W := Wk.fresh hns hk
  have hxs : x.cps.size = x.length := rfl
  refine wpAny_BinOp (Constant_str (BoolOp_or ?_))
  refine ev_group1 (s := { s with heap := h₁, toks := _ }) W rfl H hx hac (fun u tk => ?_) rfl rfl hl
  have e1 : (⟨x.cps.extract a c⟩ : Str) = ts (((tl x).drop a).take (c - a)) := by
    show Str.mk _ = Str.mk _
    congr 1
    apply Array.toList_inj.mp
    rw [Array.toList_extract, List.extract_eq_take_drop]
  generalize hy : (((tl x).drop a).take (c - a)) = y at e1
  have hyl : y.length < 1000 := by
    rw [← hy, List.length_take, List.length_drop, tl_len]; lia
  rw [e1] at hQ
  refine truthy_txt (s := { s with heap := h₁, toks := tk }) (by rw [ts_len]; exact hyl) fun tk2 => ?_
  rw [tl_ts]
  have ez : (Str.ofString "" ++ ts y : Str) = ts y := by
    rw [← ts_tl (Str.ofString "" ++ ts y), tl_app, tl_ts]; rfl
  cases hb : (!y.isEmpty) with
  | true =>
    rw [if_pos rfl]
    refine PyProof.Rows.add_str (s := { s with heap := h₁, toks := tk2 }) (fun t' tk3 => ?_) (by rw [ts_len]; show 0 + _ ≤ _; simp [sizeLine]; lia)
    rw [ez]
    exact hQ t' h₁ tk3 hk
  | false =>
    rw [if_neg (by decide)]
    have hy0 : y = [] := by cases y with | nil => rfl | cons _ _ => cases hb
    refine BoolOp_one (Constant_str ?_)
    refine PyProof.Rows.add_str (s := { s with heap := h₁, toks := tk2 + 1 }) (fun t' tk3 => ?_) (by decide)
    have := hQ t' h₁ tk3 hk
    rw [hy0] at this
    exact this
end Mine
end

section
set_option autoImplicit false
set_option maxRecDepth 100000
set_option linter.unusedSimpArgs false
set_option linter.unusedVariables false
namespace Mine
open PySem PySem.W PySem.Calls PyProof.Rows PySem.Sre

/-- the table of the code's own: empty, or it holds the lambda's code -/
structure TabOk (pos : Pos) (q : Str) (g : Heap) (ps : Array Value) : Prop where
  tr : TriplesOk ps.toList
  c : codeAmong pos ps.toList = none ∨ ∃ c', codeAmong pos ps.toList = some (.ref c') ∧ g.CodeRec (.ref c') q
theorem TabOk.keeps {pos : Pos} {q : Str} {g g' : Heap} {ps : Array Value} (T : TabOk pos q g ps) (k : Sub g g') : TabOk pos q g' ps :=
  ⟨T.tr, T.c.imp id fun ⟨c', h1, h2⟩ => ⟨c', h1, h2.keeps k⟩⟩
theorem TabOk.empty (pos : Pos) (q : Str) (g : Heap) : TabOk pos q g #[] := ⟨trivial, .inl rfl⟩
theorem triples_snoc (l : List Value) (a b : Int) (t u : Tok) (c : Value) (h : TriplesOk l) : TriplesOk (l ++ [.int a t, .int b u, c]) := by
  fun_induction TriplesOk l with
  | case1 => exact trivial
  | case2 _ _ _ _ _ rest ih => exact ih h
  | case3 => exact h.elim

section
variable {M : Model} {A : Around} {E : Value → Shared → Prop} {s : Shared} {env : Env} {P : Params} {mg mb : Str → Option Value} {g : Heap} {m : Str → Option Value} {pre post : List (Addr × Obj)} {ps : Array Value} {Q : Value → Shared → Prop}
theorem ev_lambda {prm : Arguments} {bod : Expr} {sc : Scope} {lp : Pos} (W : Wk g env.locals s.heap m (pre ++ (65, tabObj ps) :: post)) (B : Bs P mg mb g) (T : TabOk lp (env.qual ++ "<lambda>") g ps)
    (hdef : defaultsOf prm env = ([], [])) (hcl : closureFor sc env = pure []) (hG : env.globals = mainGlobals) (hcode : env.code = .ref 69)
    (h : ∀ g' h' tk f c' pm ctv ps', Sub g g' → g'.get? f = some (kla_obj "<lambda>" (env.qual ++ "<lambda>") prm bod sc [] pm c' ctv) → g'.CodeRec (.ref c') (env.qual ++ "<lambda>") → TabOk lp (env.qual ++ "<lambda>") g' ps' →
      Wk g' env.locals h' m (pre ++ (65, tabObj ps') :: post) → Q (.ref f) { s with heap := h', toks := tk }) :
    wpAny M A (eval (.Lambda prm bod sc lp) env) Q E s := by
  refine kla_eval hdef ?_
  have h65 := W.mus (65, tabObj ps) (List.mem_append_right _ (.head _))
  have B' := B.keeps W.keep
  have C : CodeHd s.heap 69 65 := codeHd_of_K B'.K (by rfl)
  obtain ⟨bm, ob, b1, b2, b3, b4, b5, b6⟩ := B'.bm
  have hgP : mainGlobals ≠ 65 := by decide
  have hbP : bm ≠ 65 := fun q => by rw [q, h65.1] at b3; cases b3; cases b4
  have hbG : bm ≠ mainGlobals := fun q => by
    obtain ⟨o, es, ep, e, hd, _⟩ := B'.gl
    rw [q, e] at b3; cases b3; rw [hd] at b6; cases b6
  have BA : s.heap.BuiltinsAt mg 65 := ⟨bm, ob, b1, b2, hbG, hbP, b3, b4, b5, b6⟩
  rcases T.c with hn | ⟨c', hf, hrec⟩
  · refine kla_makeFunction (mg := mg) (firstLine := lp.line) hcl hG B'.gl hcode C h65.1 T.tr hn hgP BA fun c' ctv h' tk hx hge hlt hrec htb => ?_
    have W1 := W.turn hx htb
    obtain ⟨c2, oc, vs, t2, e2, hoc, hdc, hvc⟩ := hrec
    cases e2
    generalize hfo : kla_obj "<lambda>" (env.qual ++ "<lambda>") prm bod sc [] ((mg "__name__").getD .none) c' ctv = fo
    have hff : fo.isFreed = false := by rw [← hfo]; rfl
    obtain ⟨g', s1, s2, W2⟩ := (W1.push fo).rebase
    have c1 : g'.get? c' = some oc := s2 _ _ (Nat.ne_of_gt (Nat.lt_of_lt_of_le W.Llt hge)) (fun p hp q => by
      have hlt' : p.1 < s.heap.objs.size := by
        rcases List.mem_append.mp hp with hp | hp
        · exact W.mult p (List.mem_append_left _ hp)
        · rcases List.mem_cons.mp hp with rfl | hp
          · exact W.mult (65, tabObj ps) (List.mem_append_right _ (.head _))
          · exact W.mult p (List.mem_append_right _ (.tail _ hp))
      rw [q] at hlt'; exact Nat.lt_irrefl _ (Nat.lt_of_lt_of_le hlt' hge)) (Heap.get?_push_of_some _ hoc)
    have f1 : g'.get? h'.objs.size = some fo := s2 _ _ (Nat.ne_of_gt W1.Llt) (fun p hp q => by
      have := W1.mult p hp
      rw [q] at this; exact Nat.lt_irrefl _ this) (Heap.get?_push_size _ hff)
    rw [← hfo] at f1
    refine h g' _ tk _ c' _ ctv _ s1 f1 ⟨_, oc, vs, t2, rfl, c1, hdc, hvc⟩ ⟨?_, .inr ⟨c', ?_, ⟨_, oc, vs, t2, rfl, c1, hdc, hvc⟩⟩⟩ W2
    · have e3 : (ps ++ #[rawInt lp.line, rawInt lp.col, Value.ref c']).toList = ps.toList ++ [rawInt lp.line, rawInt lp.col, .ref c'] := by simp
      rw [e3]
      exact triples_snoc _ _ _ _ _ _ T.tr
    · have e3 : (ps ++ #[rawInt lp.line, rawInt lp.col, Value.ref c']).toList = ps.toList ++ [rawInt lp.line, rawInt lp.col, .ref c'] := by simp
      rw [e3]
      exact codeAmong_snoc _ T.tr hn
  · refine kla_makeFunctionHit (mg := mg) (firstLine := lp.line) hcl hG B'.gl hcode C h65.1 T.tr hf BA fun ctv h' tk hk hsz => ?_
    have W1 := W.keeps hk
    generalize hfo : ({ cls := .type "function", data := .func (kla_fn "<lambda>" (env.qual ++ "<lambda>") prm bod sc [] ((mg "__name__").getD .none) (.ref c') ctv) } : Obj) = fo
    have hff : fo.isFreed = false := by rw [← hfo]; rfl
    obtain ⟨g', s1, s2, W2⟩ := (W1.push fo).rebase
    have f1 : g'.get? h'.objs.size = some fo := s2 _ _ (Nat.ne_of_gt W1.Llt) (fun p hp q => by
      have := W1.mult p hp
      rw [q] at this; exact Nat.lt_irrefl _ this) (Heap.get?_push_size _ hff)
    rw [← hfo] at f1
    exact h g' _ tk _ c' _ ctv _ s1 f1 (hrec.keeps s1) (T.keeps s1) W2
end
end Mine
end

section
set_option autoImplicit false
set_option maxRecDepth 100000
set_option linter.unusedSimpArgs false
set_option linter.unusedVariables false
namespace Mine
open PySem PySem.W PySem.Calls PyProof.Rows PySem.Sre

theorem strSub_tl (x : Str) (i j : Nat) : tl (Builtin.Str.strSub x i j) = ((tl x).drop i).take (j - i) := StrLaws.strSub_toList x i j
theorem tl_lstrip (x : Str) : tl (Txt.lstrip x) = (tl x).dropWhile sp := by
  show tl (Txt.stripBy Unicode.isSpace true false x) = _
  rw [PyProof.Rows.stripBy_eq, strSub_tl]
  show ((tl x).drop ((tl x).takeWhile sp).length).take (x.length - ((tl x).takeWhile sp).length) = _
  have e : (tl x).drop ((tl x).takeWhile sp).length = (tl x).dropWhile sp :=
    (congrArg (List.drop ((tl x).takeWhile sp).length) (span_eq (p := sp) (tl x))).trans List.drop_left
  rw [← tl_len, ← List.length_drop, List.take_length, e]
theorem rstrip_id {x : Str} (h : ∀ c ∈ tl x, sp c = false) : Txt.rstrip x = x := by
  have e1 : ((tl x).drop 0).reverse.takeWhile sp = [] := by
    rw [List.drop_zero]
    cases hr : (tl x).reverse with
    | nil => rfl
    | cons a r =>
      have ha : sp a = false := h a (List.mem_reverse.mp (by rw [hr]; exact .head _))
      rw [List.takeWhile_cons, ha]
      rfl
  have e2 : tl (Txt.stripBy Unicode.isSpace false true x) = tl x := by
    rw [PyProof.Rows.stripBy_eq, strSub_tl]
    show ((tl x).drop 0).take (x.length - (((tl x).drop 0).reverse.takeWhile sp).length - 0) = _
    rw [e1, List.drop_zero]
    show (tl x).take (x.length - 0 - 0) = _
    rw [← tl_len, Nat.sub_zero, Nat.sub_zero, List.take_length]
  have e3 : ts (tl (Txt.rstrip x)) = ts (tl x) := congrArg ts e2
  rwa [ts_tl, ts_tl] at e3
def head44 (t : Txt) : Bool := match t with | 44 :: _ => true | _ => false
theorem starts44 (x : Str) : Txt.startswith x "," = head44 (tl x) := by
  unfold Txt.startswith
  rw [StrLaws.subAt_eq]
  show (decide (0 + 1 ≤ x.length) && (((tl x).drop 0).take 1 == [44])) = _
  rw [← tl_len]
  cases tl x with
  | nil => rfl
  | cons a r =>
    show (decide (0 + 1 ≤ r.length + 1) && ([a] == [44])) = _
    have : decide (0 + 1 ≤ r.length + 1) = true := by simp
    rw [this, Bool.true_and]
    by_cases h : a = 44
    · subst h; rfl
    · have h1 : ([a] == [44]) = false := by simpa using h
      rw [h1]
      unfold head44
      split
      · rename_i e; injection e with e1 _; exact absurd e1 h
      · rfl

section
variable {prog : Program} {w : World} {A : Around} {E : Value → Shared → Prop} {s : Shared} {env : Env} {Q : Value → Shared → Prop}
theorem ev_lstrip {o : Expr} {apos pos : Pos} (h : wpAny (model prog w) A (eval o env) (fun v s₁ => ∃ x t, v = .str x t ∧ x.length < 1000 ∧ ∀ u tk, Q (.str (ts ((tl x).dropWhile sp)) u) { s₁ with toks := tk }) E s)
    (hbase : attributeBase o "lstrip" env (eval o env) = eval o env := by rfl) (hline : (apos.endLine == pos.line) = true := by rfl) :
    wpAny (model prog w) A (eval (.Call (.Attribute o "lstrip" apos) [] [] pos) env) Q E s := by
  refine Call_method0 hbase hline (wpAny_mono h (fun ov s₁ h₁ => ?_) fun _ _ e => e)
  obtain ⟨x, t, rfl, hx, hq⟩ := h₁
  refine SB.lstrip (fun u tk => ?_) (by simp [sizeLine]; lia)
  have := hq u tk
  rw [← tl_lstrip, ts_tl] at this
  exact this
theorem ev_rstrip {o : Expr} {apos pos : Pos} (h : wpAny (model prog w) A (eval o env) (fun v s₁ => ∃ x t, v = .str x t ∧ x.length < 1000 ∧ (∀ c ∈ tl x, sp c = false) ∧ ∀ u tk, Q (.str x u) { s₁ with toks := tk }) E s)
    (hbase : attributeBase o "rstrip" env (eval o env) = eval o env := by rfl) (hline : (apos.endLine == pos.line) = true := by rfl) :
    wpAny (model prog w) A (eval (.Call (.Attribute o "rstrip" apos) [] [] pos) env) Q E s := by
  refine Call_method0 hbase hline (wpAny_mono h (fun ov s₁ h₁ => ?_) fun _ _ e => e)
  obtain ⟨x, t, rfl, hx, hsp, hq⟩ := h₁
  refine SB.rstrip (fun u tk => ?_) (by simp [sizeLine]; lia)
  rw [rstrip_id hsp]
  exact hq u tk
theorem ev_starts44 {o : Expr} {apos pos pc : Pos} {k : Nat} (h : wpAny (model prog w) A (eval o env) (fun v s₁ => ∃ x t, v = .str x t ∧ ∀ tk, Q (.bool (head44 (tl x))) { s₁ with toks := tk }) E s)
    (hs : starEach [.Constant (.str ",") k pc] env = [(false, eval (.Constant (.str ",") k pc) env)] := by rfl)
    (hbase : attributeBase o "startswith" env (eval o env) = eval o env := by rfl) (hline : (apos.endLine == pos.line) = true := by rfl) :
    wpAny (model prog w) A (eval (.Call (.Attribute o "startswith" apos) [.Constant (.str ",") k pc] [] pos) env) Q E s := by
  refine Call_method1 hbase hs hline (wpAny_mono h (fun ov s₁ h₁ => ?_) fun _ _ e => e)
  obtain ⟨x, t, rfl, hq⟩ := h₁
  refine SB.startswith (Constant_str ⟨_, _, rfl, ?_⟩)
  rw [starts44]
  exact hq _
end
end Mine
end

section
set_option autoImplicit false
set_option maxRecDepth 100000
set_option linter.unusedSimpArgs false
set_option linter.unusedVariables false
namespace Mine
open PySem PySem.W PySem.Calls PyProof.Rows PySem.Sre

def lamPos : Pos := ⟨26, 49, 26, 84⟩
abbrev lamQ : Str := Str.ofString "split_header_words" ++ Str.ofString ".<locals>." ++ Str.ofString "<lambda>"

section
variable {prog : Program} {w : World} {A : Around} {E : Value → Shared → Prop} {s : Shared} {env : Env} {P : Params} {mg mb : Str → Option Value} {g : Heap} {m : Str → Option Value} {pre post : List (Addr × Obj)} {ps : Array Value} {Q : Value → Shared → Prop} {x : Str} {t : Tok}
theorem ev_sub {T : Str} {pX pT apos pos lp pa p1 p2 p3 p4 p5 p6 p7 p8 : Pos} {k1 k2 k3 : Nat} (W : Wk g env.locals s.heap m (pre ++ (65, tabObj ps) :: post)) (B : Bs P mg mb g) (r : Rm 5 A) (Tb : TabOk lp (env.qual ++ "<lambda>") g ps) (hm : m T = some (.str x t)) (hx : x.length < 1000)
    (h : ∀ g' h' tk u ps', Sub g g' → TabOk lp (env.qual ++ "<lambda>") g' ps' → Wk g' env.locals h' m (pre ++ (65, tabObj ps') :: post) → Q (.str (ts (unesc (tl x))) u) { s with heap := h', toks := tk })
    (hcl : closureFor lamScope env = pure [] := by rfl) (hcode : env.code = .ref 69 := by rfl) (hl3 : (p3.endLine == p5.line) = true := by rfl)
    (hs : starEach [.Lambda (lamArgs pa) (lamBody k1 k2 k3 p1 p2 p3 p4 p5 p6 p7 p8) lamScope lp, .Name T pT] env = [(false, eval (.Lambda (lamArgs pa) (lamBody k1 k2 k3 p1 p2 p3 p4 p5 p6 p7 p8) lamScope lp) env), (false, eval (.Name T pT) env)] := by rfl)
    (hbase : attributeBase (.Name "HEADER_ESCAPE_RE" pX) "sub" env (eval (.Name "HEADER_ESCAPE_RE" pX) env) = eval (.Name "HEADER_ESCAPE_RE" pX) env := by rfl) (hline : (apos.endLine == pos.line) = true := by rfl)
    (hG : env.globals = mainGlobals := by rfl) (hk : env.scope.kind = .function := by rfl) (hkX : env.kindOf "HEADER_ESCAPE_RE" = some .globalImplicit := by rfl) (hkT : env.kindOf T = some .local := by rfl) (hd2 : (T == ("__debug__" : Str)) = false := by decide) :
    wpAny (model prog w) A (eval (.Call (.Attribute (.Name "HEADER_ESCAPE_RE" pX) "sub" apos) [.Lambda (lamArgs pa) (lamBody k1 k2 k3 p1 p2 p3 p4 p5 p6 p7 p8) lamScope lp, .Name T pT] [] pos) env) Q E s := by
  have B' := B.keeps W.keep
  have hp := patEsc B'.K
  refine Meth2 plainAttrs_pat slot_sub type_sub (ldG B' (mgEsc B) ?_ hG hk hkX) hs hbase hline
  refine ⟨hp.type, fun a e => ?_, ?_⟩
  · cases e
    obtain ⟨pat, flags, c, vs, n, h1, h2, h3⟩ := hp
    exact ⟨_, h1, rfl⟩
  refine ev_lambda W B Tb rfl hcl hG hcode fun g' h' tk f c' pm ctv ps' s1 hf hrec Tb' W' => ?_
  refine ld' (s := { s with heap := h', toks := tk }) W' hm ?_ hk hkT hd2
  have B2 := B.keeps s1
  refine sub_call (s := { s with heap := h', toks := tk }) hx (patEsc (B2.keeps W'.keep).K) ⟨_, W'.keep _ _ hf, rfl⟩ ?_ fun h2 tk2 u k2 => ?_
  · intro s2 m2 st e a c E2 Q2 hJ H hac hc hQ2
    exact lam_repl (B2.keeps W'.keep) (r.in1.le (by lia) : Rm 3 A.in1) (W'.keep _ _ hf) (hrec.keeps W'.keep) hx hl3 s2 m2 st e a c E2 Q2 hJ H hac hc hQ2
  · exact h g' h2 tk2 u ps' s1 Tb' (W'.keeps k2)
end

theorem evp_int {M : Model} {A : Around} {E : Value → Shared → Prop} {s : Shared} {env : Env} {i : Int} {k : Nat} {pc : Pos} {Q : Value → Shared → Prop} (h : Q (.int i s.toks) { s with toks := s.toks + 1 }) :
    wpAny M A (evalPart (some (.Constant (.int i) k pc)) env) Q E s := wpAny_Constant_int (pos := pc) (k := k) h

/-! ### split_header_words -/
def shwS : Stmt := topS 8
def shwSc : Scope := scopeOf shwS
def shwFor : Stmt := nth (bodyOf shwS) 2
def shwWhile : Stmt := nth (bodyOf shwFor) 2
def shwTurn : List Stmt := bodyOf shwWhile
abbrev shwEnv (L : Addr) : Env := envOf "split_header_words" shwSc L 70 (.ref 69)

structure ShwIn (P : Params) (mg mb : Str → Option Value) (g0 : Heap) (lo : Nat) (L : Addr) (Ra : Addr) (rest : List (Addr × Obj)) (Z : Nat) (p : List Wd) (t : Txt) (R : List (List Wd)) (h : Heap) : Prop where
  ex : ∃ g m Pa pv n rv n' ps u, Wk g L h m ([] ++ (Pa, listOf (List.toArray pv) n) :: (Ra, listOf (List.toArray rv) n') :: (65, tabObj ps) :: rest) ∧ Sub g0 g ∧ Bs P mg mb g ∧ TabOk lamPos lamQ g ps ∧ m "text" = some (.str (ts t) u) ∧ m "pairs" = some (.ref Pa) ∧
    m "result" = some (.ref Ra) ∧ lo ≤ Pa ∧ All2 (TupD lo g) pv p ∧ All2 (RowD lo g) rv R
  size : R.length + p.length + t.length ≤ Z
  small : t.length < 1000

section
variable {prog : Program} {w : World} {A : Around} {E : Value → Shared → Prop} {s : Shared} {P : Params} {mg mb : Str → Option Value} {g0 : Heap} {lo : Nat} {L Ra : Addr} {rest : List (Addr × Obj)} {Z : Nat} {p : List Wd} {t : Txt} {R : List (List Wd)}
def ShwOut (P : Params) (mg mb : Str → Option Value) (g0 : Heap) (lo : Nat) (L Ra : Addr) (rest : List (Addr × Obj)) (Z : Nat) (p : List Wd) (t : Txt) (R : List (List Wd)) (s : Shared) (f : Flow) (s' : Shared) : Prop :=
  f = .next ∧ ∃ h' tk p' t' R', s' = { s with heap := h', toks := tk } ∧ ShwIn P mg mb g0 lo L Ra rest Z p' t' R' h' ∧ t'.length < t.length ∧ R' ++ fin p' t' = R ++ fin p t
theorem dropTw (q : Nat → Bool) (l : Txt) : l.drop (l.takeWhile q).length = l.dropWhile q := (congrArg (List.drop (l.takeWhile q).length) (span_eq (p := q) l)).trans List.drop_left
theorem takeTw (q : Nat → Bool) (l : Txt) : l.take (l.takeWhile q).length = l.takeWhile q := (congrArg (List.take (l.takeWhile q).length) (span_eq (p := q) l)).trans List.take_left
theorem tok_cut {t k t1 : Txt} (h : tokRe t = some (k, t1)) : t.drop ((t.takeWhile sp).length + k.length) = t1 ∧ (t.drop (t.takeWhile sp).length).take k.length = k := by
  unfold tokRe at h
  split at h
  · cases h
  · injection h with h; injection h with h1 h2
    rw [← List.drop_drop, dropTw, ← h1, dropTw, takeTw]
    exact ⟨h2, rfl⟩
def orElseOf : Stmt → List Stmt
  | .If _ _ b _ => b
  | _ => []
def shwIf : Stmt := nth shwTurn 1
def shwApp : Stmt := nth (bodyOf shwIf) 4
/-- pairs.append((name, value)) -/
theorem shw_app {g : Heap} {m : Str → Option Value} {Pa : Addr} {pv : List Value} {n : Nat} {post : List (Addr × Obj)} {k : Txt} {o : Option Txt} {u : Tok} {vv : Value} {Q : Flow → Shared → Prop}
    (W : Wk g L s.heap m ([] ++ (Pa, listOf (List.toArray pv) n) :: post)) (hP : m "pairs" = some (.ref Pa)) (hN : m "name" = some (.str (ts k) u)) (hV : m "value" = some vv) (ho : OptV o vv) (hz : pv.length ≤ 9000) (hlo : lo ≤ s.heap.objs.size)
    (h : ∀ g' h' v, Sub g g' → Wk g' L h' m ([] ++ (Pa, listOf (List.toArray (pv ++ [v])) (n + 1)) :: post) → TupD lo g' v (k, o) → Q .next { s with heap := h' }) :
    wpAny (model prog w) A (exec shwApp (shwEnv L)) Q E s := by
  refine wpAny_Expr (ev_append (env := shwEnv L) W hP (by simp; lia) (ev_tuple2 (ld' W hN (ld' W hV ?_))))
  obtain ⟨g', s1, s2, W'⟩ := W.extPush (pairObj #[.str (ts k) u, vv]) rfl
  refine ⟨g', W', fun h' W2 => ?_⟩
  refine h g' h' (.ref s.heap.objs.size) s1 ?_ ⟨_, 0, u, vv, rfl, hlo, s2, ho⟩
  rw [List.push_toArray] at W2
  exact W2

/-- behind a missed token -/
theorem shw_turn0 (I : ShwIn P mg mb g0 lo L Ra rest Z p t R s.heap) (hZ : Z ≤ 9000) (ht : t ≠ []) (r : Rm 8 A) (hk : tokRe t = none) :
    wpAny (model prog w) A (execs shwTurn (shwEnv L)) (ShwOut P mg mb g0 lo L Ra rest Z p t R s) E s := by
  obtain ⟨⟨g, m, Pa, pv, n, rv, n', ps, u, W, hg0, B, Tb, hmT, hmP, hmR, hlo, hpv, hrv⟩, hsz, hsm⟩ := I
  have hx : (ts t).length < 1000 := by rw [ts_len]; exact hsm
  have hxs : (ts t).cps.size < 1000 := hx
  have e0 : (ts t).cps.toList = t := tl_ts t
  have M1 := tok_miss (text := (ts t).cps) (by lia) (by rw [e0]; exact hk)
  have hb1 : ((ts t).cps.size + 1) * (10 * (ts t).cps.size + 100) ≤ 2 ^ 64 := by
    have : ((ts t).cps.size + 1) * (10 * (ts t).cps.size + 100) ≤ 1000 * 20000 := Nat.mul_le_mul (by lia) (by lia)
    lia
  have hlt := stp_lt ht
  refine wpAny_execs_cons (wpAny_Assign_Name (ev_search_miss (env := shwEnv L) W B (mgTok B) (patTok B.K) hmT hx M1 hb1 (st' W fun h1 W1 => ?_)))
  refine wpAny_execs_cons (wpAny_If (isTrue_Name (ld' (s := { s with heap := h1, toks := _ }) W1 rfl (truthy_none ?_))))
  rw [if_neg (by decide)]
  refine wpAny_execs_cons (wpAny_If (isTrue_plain (ev_starts44 (env := shwEnv L) (ev_lstrip (ld' (s := { s with heap := h1, toks := _ }) W1 hmT ⟨ts t, u, rfl, hx, fun u2 tk2 => ⟨_, u2, rfl, fun tk3 => wpAny_truthy_bool ?_⟩⟩)))))
  rw [tl_ts, tl_ts]
  cases hh : head44 (t.dropWhile sp) with
  | true =>
    obtain ⟨y, hy⟩ : ∃ y, t.dropWhile sp = 44 :: y := by
      cases hd : t.dropWhile sp with
      | nil => rw [hd] at hh; cases hh
      | cons a y =>
        rw [hd] at hh
        unfold head44 at hh
        split at hh
        · rename_i e; injection e with e1 _; exact ⟨y, by rw [e1]⟩
        · cases hh
    have hst : stp t = .comma y := by unfold stp; rw [hk]; dsimp only; rw [hy]; rfl
    rw [hst] at hlt
    have hlt' : y.length < t.length := hlt
    rw [if_pos rfl]
    refine wpAny_execs_cons (wpAny_Assign_Name (subStr (env := shwEnv L) (ev_lstrip (ld' (s := { s with heap := h1, toks := tk3 }) W1 hmT ⟨ts t, u, rfl, hx, fun u4 tk4 => evp_int (wpAny_pure ⟨_, u4, some (1, tk4), none, ?_, rfl, rfl, rfl, fun h5 u5 tk5 k5 => ?_⟩)⟩))))
    · rw [ts_len, tl_ts, hy]
      have := congrArg List.length hy
      have h3 := (List.dropWhile_sublist (p := sp) (l := t)).length_le
      lia
    refine st' (s := { s with heap := h5, toks := tk5 }) (W1.keeps k5) fun h6 W6 => ?_
    rw [tl_ts, tl_ts, hy] at W6
    obtain ⟨g7, s7, q7, W7⟩ := W6.settle
    have hl7 := hpv.len
    have hPl : h6.IsList Pa (List.toArray pv) := ⟨_, W7.keep _ _ q7, rfl, n, rfl⟩
    -- behind the pairs
    have tail : ∀ (g' h' : Heap) (tk' : Nat) (m' : Str → Option Value) (rv' : List Value) (k' : Nat) (R' : List (List Wd)), Sub g7 g' → Wk g' L h' m' ([] ++ (Ra, listOf (List.toArray rv') k') :: (65, tabObj ps) :: rest) → m' "text" = some (.str (ts y) u5) → m' "result" = some (.ref Ra) →
        All2 (RowD lo g') rv' R' → R'.length ≤ R.length + p.length → R' = R ++ rows [p] →
        wpAny (model prog w) A (exec (nth (bodyOf (nth (orElseOf shwIf) 0)) 2) (shwEnv L)) (ShwOut P mg mb g0 lo L Ra rest Z p t R s) E { s with heap := h', toks := tk' } := by
      intro g' h' tk' m' rv' k' R' k1 W' q1 q2 q3 q4 q5
      refine wpAny_Assign_Name (ev_listNil ?_)
      have W2 := W'.pushMu (listOf #[] 0) rfl
      have hlo2 : lo ≤ h'.objs.size := Nat.le_trans hlo (Nat.le_of_lt (Heap.lt_size (W'.keep _ _ (k1 _ _ q7))))
      refine st' (s := { s with heap := h'.push (listOf #[] 0), toks := tk' }) W2 fun h3 W3 => ?_
      have k3 := s7.trans k1
      refine ⟨rfl, h3, tk' + 1, [], y, R', rfl, ⟨⟨g', _, h'.objs.size, [], 0, rv', k', ps, u5, W3, hg0.trans k3, B.keeps k3, Tb.keeps k3, q1, rfl, q2, hlo2, .nil, q3⟩, ?_, by lia⟩, hlt', ?_⟩
      · simp only [List.length_nil]; lia
      · rw [q5, fin_comma ht hst, List.append_assoc]
    have fin : ∀ (f : Flow) (s' : Shared), ShwOut P mg mb g0 lo L Ra rest Z p t R s f s' → f = .next := fun f s' q => q.1
    have hrv7 : All2 (RowD lo g7) rv R := hrv.imp fun a b x => x.mono (Nat.le_refl _) fun b o _ e => s7 b o e
    have hpv7 : All2 (TupD lo g7) pv p := hpv.imp fun a b x => x.mono (Nat.le_refl _) fun b o _ e => s7 b o e
    refine wpAny_execs_cons (wpAny_If (isTrue_Name (ld' (s := { s with heap := h6, toks := _ }) W7 hmP (wpAny_truthy_list hPl (by simp; lia) ?_))))
    by_cases hp0 : p = []
    · have hpv0 : pv = [] := List.eq_nil_of_length_eq_zero (by rw [hl7, hp0]; rfl)
      rw [if_neg (by rw [hpv0]; decide)]
      refine wpAny_execs_nil ?_
      refine wpAny_execs_cons (wpAny_mono (tail g7 h6 _ _ rv n' R (Sub.refl _) W7 rfl hmR hrv7 (by lia) (by rw [hp0]; simp [rows, ne])) (fun f s' q => ?_) fun _ _ q => q)
      obtain ⟨rfl, q⟩ := q
      exact wpAny_execs_nil (wpAny_execs_nil (wpAny_execs_nil ⟨rfl, q⟩))
    · have hpv0 : pv ≠ [] := fun q => hp0 (List.eq_nil_of_length_eq_zero (by rw [← hl7, q]; rfl))
      rw [if_pos (by cases pv with | nil => exact absurd rfl hpv0 | cons _ _ => simp)]
      have hl8 := hrv7.len
      refine wpAny_execs_cons (wpAny_Expr (ev_append (env := shwEnv L) (s := { s with heap := h6, toks := _ }) W7 hmR (by simp; lia) (ld' (s := { s with heap := h6, toks := _ }) W7 hmP ⟨g7, W7, fun h8 W8 => ?_⟩)))
      rw [List.push_toArray] at W8
      refine wpAny_execs_nil ?_
      refine wpAny_execs_cons (wpAny_mono (tail g7 h8 _ _ (rv ++ [Value.ref Pa]) (n' + 1) (R ++ [p]) (Sub.refl _) W8 rfl hmR (hrv7.snoc ⟨Pa, pv, n, rfl, hlo, q7, hpv7⟩) ?_ ?_) (fun f s' q => ?_) fun _ _ q => q)
      · have : p.length ≠ 0 := fun q => hp0 (List.eq_nil_of_length_eq_zero q)
        simp only [List.length_append, List.length_cons, List.length_nil]; lia
      · cases p with
        | nil => exact absurd rfl hp0
        | cons _ _ => simp [rows, ne]
      · obtain ⟨rfl, q⟩ := q
        exact wpAny_execs_nil (wpAny_execs_nil (wpAny_execs_nil ⟨rfl, q⟩))
  | false =>
    have hst : stp t = .junk (t.dropWhile junkC) := by
      unfold stp
      rw [hk]
      dsimp only
      split
      · rename_i y e; rw [e] at hh; cases hh
      · rfl
    rw [hst] at hlt
    have hlt' : (t.dropWhile junkC).length < t.length := hlt
    have hj : (tl (ts t)).takeWhile junkC ≠ [] := fun q => by
      rw [tl_ts] at q
      have := span_eq (p := junkC) t
      rw [q, List.nil_append] at this
      rw [← this] at hlt'
      exact Nat.lt_irrefl _ hlt'
    rw [if_neg (by decide)]
    have hpJ := patJunk (B.keeps W1.keep).K
    refine wpAny_execs_cons (Assign_Tuple (Meth2 plainAttrs_pat slot_subn type_subn (ldG (B.keeps W1.keep) (mgJunk B) ⟨hpJ.type (s := { s with heap := h1, toks := tk3 }), fun a e => ?_, Constant_str (ld' (s := { s with heap := h1, toks := tk3 + 1 }) W1 hmT (subn_call (s := { s with heap := h1, toks := tk3 + 1 }) rfl hx hpJ hj fun h2 tk2' T u4 tt k2 eT fT => ?_))⟩)))
    · cases e
      obtain ⟨pat, flags, c, vs, n, q1, q2, q3⟩ := hpJ
      exact ⟨_, q1, rfl⟩
    rw [tl_ts] at eT
    have W2 := W1.keeps k2
    refine asg2 (env := shwEnv L) (s := { s with heap := h2, toks := tk2' }) W2 r.hd ⟨_, eT, rfl, 0, rfl⟩ fun h3 tk3' W3 => ?_
    refine wpAny_execs_cons (wpAny_Assert_holds (wpAny_isTrue_Compare1 (ld' (s := { s with heap := h3, toks := tk3' }) W3 rfl (wpAny_Constant_int (PyProof.Rows.gt_int (wpAny_truthy_bool ⟨rfl, ?_⟩))))))
    refine wpAny_execs_cons (wpAny_Assign_Name (ld' (s := { s with heap := h3, toks := _ }) W3 rfl (st' (s := { s with heap := h3, toks := _ }) W3 fun h4 W4 => ?_)))
    refine wpAny_execs_nil (wpAny_execs_nil (wpAny_execs_nil ?_))
    refine ⟨rfl, h4, _, p, t.dropWhile junkC, R, rfl, ⟨⟨g, _, Pa, pv, n, rv, n', ps, u4, W4, hg0, B, Tb, rfl, hmP, hmR, hlo, hpv, hrv⟩, by lia, by lia⟩, hlt', ?_⟩
    rw [fin_junk ht hst]
theorem shw_turn (I : ShwIn P mg mb g0 lo L Ra rest Z p t R s.heap) (hZ : Z ≤ 9000) (ht : t ≠ []) (r : Rm 8 A) :
    wpAny (model prog w) A (execs shwTurn (shwEnv L)) (ShwOut P mg mb g0 lo L Ra rest Z p t R s) E s := by
  obtain ⟨⟨g, m, Pa, pv, n, rv, n', ps, u, W, hg0, B, Tb, hmT, hmP, hmR, hlo, hpv, hrv⟩, hsz, hsm⟩ := I
  have hx : (ts t).length < 1000 := by rw [ts_len]; exact hsm
  cases hk : tokRe t with
  | some kt =>
    obtain ⟨k, t1⟩ := kt
    have H := tok_hit (text := (ts t).cps) (by show (ts t).length < _; lia) (k := k) (r := t1) hk
    have e0 : (ts t).cps.toList = t := tl_ts t
    rw [e0] at H
    obtain ⟨c1, c2⟩ := tok_cut hk
    have hlt1 : t1.length ≤ t.length := by rw [← c1, List.length_drop]; lia
    have hx1 : (ts t1).length < 1000 := by rw [ts_len]; lia
    refine wpAny_execs_cons (wpAny_Assign_Name (ev_search_hit (env := shwEnv L) W B (mgTok B) (patTok B.K) hmT hx H (by decide) (by lia) fun g1 h1 tk1 km s1 _ IM W1 => ?_))
    refine st' W1 fun h2 W2 => ?_
    refine wpAny_execs_cons (wpAny_If (isTrue_Name (ld' W2 rfl (truthy_match (IM.keep W2.keep) ?_))))
    rw [if_pos rfl]
    refine wpAny_execs_cons (wpAny_Assign_Name (ev_unm (env := shwEnv L) W2 (B.keeps s1) (r.le (by lia)) rfl IM hx fun h3 tk3 u3 _ W3 => st' W3 fun h4 W4 => ?_))
    rw [tl_ts, c1] at W4
    refine wpAny_execs_cons (wpAny_Assign_Name (ev_group1 (env := shwEnv L) W4 rfl IM hx (by lia) fun u5 tk5 => st' (s := { s with heap := h4, toks := tk5 }) W4 fun h5 W5 => ?_))
    rw [tl_ts, Nat.add_sub_cancel_left, c2] at W5
    have hg1 : Sub g0 g1 := hg0.trans s1
    have B1 := B.keeps s1
    have ltlo : lo ≤ s.heap.objs.size := Nat.le_trans hlo (Nat.le_of_lt (W.mult (Pa, listOf (List.toArray pv) n) (.head _)))
    have tail : ∀ (g' h' : Heap) (tk' : Nat) (m' : Str → Option Value) (ps' : Array Value) (o : Option Txt) (vv : Value) (t' : Txt) (u' : Tok), Sub g1 g' → TabOk lamPos lamQ g' ps' →
        Wk g' L h' m' ([] ++ (Pa, listOf (List.toArray pv) n) :: (Ra, listOf (List.toArray rv) n') :: (65, tabObj ps') :: rest) → m' "name" = some (.str (ts k) u5) → m' "value" = some vv → OptV o vv → m' "text" = some (.str (ts t') u') →
        m' "pairs" = some (.ref Pa) → m' "result" = some (.ref Ra) → stp t = .word (k, o) t' → wpAny (model prog w) A (exec shwApp (shwEnv L)) (ShwOut P mg mb g0 lo L Ra rest Z p t R s) E { s with heap := h', toks := tk' } := by
      intro g' h' tk' m' ps' o vv t' u' k1 T' W' q1 q2 q3 q4 q5 q6 hst
      have hlt := stp_lt ht
      rw [hst] at hlt
      have hlt' : t'.length < t.length := hlt
      have hl := hpv.len
      refine shw_app (lo := lo) (s := { s with heap := h', toks := tk' }) W' q5 q1 q2 q3 (by lia) (Nat.le_of_lt (Nat.lt_of_le_of_lt hlo (W'.mult (Pa, listOf (List.toArray pv) n) (.head _)))) fun g2 h2 v k2 W2 hv => ?_
      have k3 := s1.trans (k1.trans k2)
      refine ⟨rfl, h2, tk', p ++ [(k, o)], t', R, rfl, ⟨⟨g2, m', Pa, pv ++ [v], n + 1, rv, n', ps', u', W2, hg0.trans k3, B.keeps k3, T'.keeps k2, q4, q5, q6, hlo, (hpv.imp fun a b x => x.mono (Nat.le_refl _) fun b o _ e => k3 b o e).snoc hv, hrv.imp fun a b x => x.mono (Nat.le_refl _) fun b o _ e => k3 b o e⟩, ?_, by lia⟩, hlt', ?_⟩
      · simp only [List.length_append, List.length_cons, List.length_nil]; lia
      · rw [fin_word ht hst]
    have fin : ∀ (f : Flow) (s' : Shared), ShwOut P mg mb g0 lo L Ra rest Z p t R s f s' → f = .next := fun f s' q => q.1
    -- the value
    have hst : stp t = stpWord k t1 := by unfold stp; rw [hk]
    have e1 : (ts t1).cps.toList = t1 := tl_ts t1
    have hz1 : (ts t1).cps.size < 1000 := hx1
    cases hq : qRe t1 with
    | some vt =>
      obtain ⟨v, t2⟩ := vt
      have hst2 : stp t = .word (k, some (unesc v)) t2 := by rw [hst]; unfold stpWord; rw [hq]
      obtain ⟨H2, d1, d2⟩ := quo_hit (text := (ts t1).cps) hz1 (v := v) (r := t2) (by rw [e1]; exact hq)
      rw [e1] at H2 d1 d2
      have hvl : v.length < 1000 := by
        have := congrArg List.length d2
        rw [List.length_drop, List.length_append] at this
        rw [ts_len] at hx1; lia
      refine wpAny_execs_cons (wpAny_Assign_Name (ev_search_hit (env := shwEnv L) (s := { s with heap := h5, toks := _ }) W5 B1 (mgQuo B1) (patQuo B1.K) rfl hx1 H2 (by decide) (by lia) fun g6 h6 tk6 km2 s6 _ IM2 W6 => st' (s := { s with heap := h6, toks := tk6 }) W6 fun h7 W7 => ?_))
      refine wpAny_execs_cons (wpAny_If (isTrue_Name (ld' (s := { s with heap := h7, toks := _ }) W7 rfl (truthy_match (IM2.keep W7.keep) ?_))))
      rw [if_pos rfl]
      refine wpAny_execs_cons (wpAny_Assign_Name (ev_unm (env := shwEnv L) (s := { s with heap := h7, toks := _ }) W7 (B1.keeps s6) (r.le (by lia)) rfl IM2 hx1 fun h8 tk8 u8 _ W8 => st' (s := { s with heap := h8, toks := tk8 }) W8 fun h9 W9 => ?_))
      rw [tl_ts, d1] at W9
      refine wpAny_execs_cons (wpAny_Assign_Name (ev_group1 (env := shwEnv L) (s := { s with heap := h9, toks := _ }) W9 rfl IM2 hx1 (by lia) fun u10 tk10 => st' (s := { s with heap := h9, toks := tk10 }) W9 fun h10 W10 => ?_))
      rw [tl_ts, Nat.add_sub_cancel_left, d2, List.take_left] at W10
      have hxv : (ts v).length < 1000 := by rw [ts_len]; exact hvl
      refine wpAny_execs_cons (wpAny_Assign_Name (ev_sub (env := shwEnv L) (s := { s with heap := h10, toks := _ }) (pre := [(Pa, _), (Ra, _)]) W10 (B1.keeps s6) (r.le (by lia)) ((Tb.keeps s1).keeps s6) rfl hxv fun g11 h11 tk11 u11 ps11 s11 T11 W11 => st' (s := { s with heap := h11, toks := tk11 }) W11 fun h12 W12 => ?_))
      rw [tl_ts] at W12
      refine wpAny_execs_nil ?_
      refine wpAny_execs_cons (wpAny_mono (tail g11 h12 (tk11 + 1) _ ps11 (some (unesc v)) _ t2 u8 (s6.trans s11) T11 W12 rfl rfl ⟨u11, rfl⟩ rfl hmP hmR hst2) (fun f s' q => ?_) fun _ _ q => q)
      obtain ⟨rfl, q⟩ := q
      exact wpAny_execs_nil (wpAny_execs_nil ⟨rfl, q⟩)
    | none =>
      have M2 := quo_miss (text := (ts t1).cps) hz1 (by rw [e1]; exact hq)
      refine wpAny_execs_cons (wpAny_Assign_Name (ev_search_miss (env := shwEnv L) (s := { s with heap := h5, toks := _ }) W5 B1 (mgQuo B1) (patQuo B1.K) rfl hx1 M2 (by decide) (st' (s := { s with heap := h5, toks := _ }) W5 fun h7 W7 => ?_)))
      refine wpAny_execs_cons (wpAny_If (isTrue_Name (ld' (s := { s with heap := h7, toks := _ }) W7 rfl (truthy_none ?_))))
      rw [if_neg (by decide)]
      have hz9 : (ts t1).cps.size < 1000000 := by lia
      cases hv : vRe t1 with
      | some vt =>
        obtain ⟨v, t2⟩ := vt
        have hst2 : stp t = .word (k, some v) t2 := by rw [hst]; unfold stpWord; rw [hq]; dsimp only; rw [hv]
        obtain ⟨H2, d1, d2⟩ := val_hit (text := (ts t1).cps) hz9 (v := v) (r := t2) (by rw [e1]; exact hv)
        rw [e1] at H2 d1 d2
        have hvl : v.length < 1000 := by
          rw [← d2]
          have := (List.takeWhile_sublist (p := valC) (l := t1.drop (vAt t1))).length_le
          rw [List.length_drop] at this
          rw [ts_len] at hx1; lia
        have hvsp : ∀ c ∈ v, sp c = false := by
          intro c hc
          rw [← d2] at hc
          have := tw_all (p := valC) _ c hc
          unfold valC at this
          cases hs : sp c with
          | false => rfl
          | true => rw [hs] at this; simp at this
        have d3 : (t1.drop (vAt t1)).take v.length = v := by
          have := takeTw valC (t1.drop (vAt t1))
          rwa [d2] at this
        refine wpAny_execs_cons (wpAny_Assign_Name (ev_search_hit (env := shwEnv L) (s := { s with heap := h7, toks := _ }) W7 B1 (mgVal B1) (patVal B1.K) rfl hx1 H2 (by decide) (by lia) fun g6 h6 tk6 km2 s6 _ IM2 W6 => st' (s := { s with heap := h6, toks := tk6 }) W6 fun h8 W8 => ?_))
        refine wpAny_execs_cons (wpAny_If (isTrue_Name (ld' (s := { s with heap := h8, toks := _ }) W8 rfl (truthy_match (IM2.keep W8.keep) ?_))))
        rw [if_pos rfl]
        refine wpAny_execs_cons (wpAny_Assign_Name (ev_unm (env := shwEnv L) (s := { s with heap := h8, toks := _ }) W8 (B1.keeps s6) (r.le (by lia)) rfl IM2 hx1 fun h9 tk9 u9 _ W9 => st' (s := { s with heap := h9, toks := tk9 }) W9 fun h10 W10 => ?_))
        rw [tl_ts, d1] at W10
        refine wpAny_execs_cons (wpAny_Assign_Name (ev_group1 (env := shwEnv L) (s := { s with heap := h10, toks := _ }) W10 rfl IM2 hx1 (by lia) fun u11 tk11 => st' (s := { s with heap := h10, toks := tk11 }) W10 fun h11 W11 => ?_))
        rw [tl_ts, Nat.add_sub_cancel_left, d3] at W11
        refine wpAny_execs_cons (wpAny_Assign_Name (ev_rstrip (env := shwEnv L) (ld' (s := { s with heap := h11, toks := _ }) W11 rfl ⟨ts v, u11, rfl, by rw [ts_len]; exact hvl, by rw [tl_ts]; exact hvsp, fun u12 tk12 => st' (s := { s with heap := h11, toks := tk12 }) W11 fun h12 W12 => ?_⟩)))
        refine wpAny_execs_nil (wpAny_execs_nil ?_)
        refine wpAny_execs_cons (wpAny_mono (tail g6 h12 (tk12 + 1) _ ps (some v) _ t2 u9 s6 ((Tb.keeps s1).keeps s6) W12 rfl rfl ⟨u12, rfl⟩ rfl hmP hmR hst2) (fun f s' q => ?_) fun _ _ q => q)
        obtain ⟨rfl, q⟩ := q
        exact wpAny_execs_nil (wpAny_execs_nil ⟨rfl, q⟩)
      | none =>
        have hst2 : stp t = .word (k, none) t1 := by rw [hst]; unfold stpWord; rw [hq]; dsimp only; rw [hv]
        have M3 := val_miss (text := (ts t1).cps) hz9 (by rw [e1]; exact hv)
        have hb3 : ((ts t1).cps.size + 1) * (10 * (ts t1).cps.size + 100) ≤ 2 ^ 64 := by
          have : ((ts t1).cps.size + 1) * (10 * (ts t1).cps.size + 100) ≤ 1000 * 20000 := Nat.mul_le_mul (by lia) (by lia)
          lia
        refine wpAny_execs_cons (wpAny_Assign_Name (ev_search_miss (env := shwEnv L) (s := { s with heap := h7, toks := _ }) W7 B1 (mgVal B1) (patVal B1.K) rfl hx1 M3 hb3 (st' (s := { s with heap := h7, toks := _ }) W7 fun h8 W8 => ?_)))
        refine wpAny_execs_cons (wpAny_If (isTrue_Name (ld' (s := { s with heap := h8, toks := _ }) W8 rfl (truthy_none ?_))))
        rw [if_neg (by decide)]
        refine wpAny_execs_cons (wpAny_Assign_Name (wpAny_Constant_none (st' (s := { s with heap := h8, toks := _ }) W8 fun h9 W9 => ?_)))
        refine wpAny_execs_nil (wpAny_execs_nil ?_)
        refine wpAny_execs_cons (wpAny_mono (tail g1 h9 _ _ ps none .none t1 u3 (Sub.refl _) (Tb.keeps s1) W9 rfl rfl rfl rfl hmP hmR hst2) (fun f s' q => ?_) fun _ _ q => q)
        obtain ⟨rfl, q⟩ := q
        exact wpAny_execs_nil (wpAny_execs_nil ⟨rfl, q⟩)
  | none => exact shw_turn0 ⟨⟨g, m, Pa, pv, n, rv, n', ps, u, W, hg0, B, Tb, hmT, hmP, hmR, hlo, hpv, hrv⟩, hsz, hsm⟩ hZ ht r hk
end
end Mine
end

section
set_option autoImplicit false
set_option maxRecDepth 100000
set_option linter.unusedSimpArgs false
set_option linter.unusedVariables false
namespace Mine
open PySem PySem.W PySem.Calls PyProof.Rows PySem.Sre

theorem Wk.drop {g h h' : Heap} {L a : Addr} {m : Str → Option Value} {o : Obj} {pre post : List (Addr × Obj)} (W : Wk g L h m (pre ++ (a, o) :: post)) (hs : Heap.ExtBut a h h') : Wk g L h' m (pre ++ post) := by
  have ha := W.mus (a, o) (List.mem_append_right _ (.head _))
  have hnd := W.nd
  rw [List.map_append, List.map_cons] at hnd
  obtain ⟨_, n2, n3⟩ := List.nodup_append.mp hnd
  obtain ⟨n4, _⟩ := List.nodup_cons.mp n2
  have ne1 : ∀ p ∈ pre, p.1 ≠ a := fun p hp => n3 _ (List.mem_map.mpr ⟨p, hp, rfl⟩) _ (.head _)
  have ne2 : ∀ p ∈ post, p.1 ≠ a := fun p hp e => n4 (by rw [← e]; exact List.mem_map.mpr ⟨p, hp, rfl⟩)
  have sub : (pre ++ post).Sublist (pre ++ (a, o) :: post) := List.Sublist.append_left (List.sublist_cons_self _ _) _
  refine ⟨W.ns.extBut hs ha.2.1.symm, fun b o e => hs b o (fun q => by rw [q, ha.2.2] at e; cases e) (W.keep b o e), W.low, fun p hp => ?_, List.Sublist.nodup (sub.map _) W.nd⟩
  have z := W.mus p (sub.subset hp)
  refine ⟨hs _ _ ?_ z.1, z.2⟩
  rcases List.mem_append.mp hp with hp | hp
  · exact ne1 p hp
  · exact ne2 p hp

structure ItOb (ax : Addr) (i : Nat) (o : Obj) : Prop where
  cls : o.cls = .type "list_iterator"
  data : o.data = .fields #[.ref ax, .int i 0]

section
variable {prog : Program} {w : World} {A : Around} {E : Value → Shared → Prop} {s : Shared} {env : Env}
/-- a for over a list that stays -/
theorem for_list {x : Str} {px pos : Pos} {iter : Expr} {body : List Stmt} {ax : Addr} {items : List Value} {Q : Flow → Shared → Prop} (K : Nat → Addr × Obj → Heap → Prop) (hh : A.handled = none)
    (hiter : wpAny (model prog w) A (eval iter env) (fun v s₁ => v = .ref ax ∧ (∃ h tk, s₁ = { s with heap := h, toks := tk }) ∧ s₁.heap.IsList ax items.toArray ∧ ∀ oI, ItOb ax 0 oI → oI.isFreed = false → K 0 (s₁.heap.objs.size, oI) (s₁.heap.push oI)) E s)
    (hK : ∀ i e h, K i e h → h.get? e.1 = some e.2 ∧ h.IsList ax items.toArray)
    (hturn : ∀ i I oI oI' h h', K i (I, oI) h → Heap.SameBut I h h' → h'.get? I = some oI' → K i (I, oI') h')
    (step : ∀ i v e h tk E', items[i]? = some v → K i e h → wpAny (model prog w) A (storeName env x v) (fun _ s₂ => wpAny (model prog w) A (execs body env) (fun f s₃ => f = .next ∧ ∃ h' tk', s₃ = { s with heap := h', toks := tk' } ∧ K (i + 1) e h') E' s₂) E' { s with heap := h, toks := tk })
    (done : ∀ I oI h h' tk, K items.length (I, oI) h → Heap.ExtBut I h h' → Q .next { s with heap := h', toks := tk })
    (hs : ∀ x, foldedSetIterable iter env x = pure x := by intro _; rfl) :
    wpAny (model prog w) A (exec (.For (.Name x px) iter body [] pos) env) Q E s := by
  refine PySem.wpAny_For (wpAny_mono hiter (fun v s₁ h₁ => ?_) fun _ _ e => e) hs
  obtain ⟨rfl, ⟨h, tk, rfl⟩, hl, h0⟩ := h₁
  refine wpAny_pyIter_list hl ?_
  generalize hoI : ({ cls := .type "list_iterator", data := .fields #[.ref ax, .int 0 0] } : Obj) = oI
  have K0 := h0 oI ⟨by rw [← hoI], by rw [← hoI]; rfl⟩ (by rw [← hoI]; rfl)
  have it0 : ItOb ax 0 oI := ⟨by rw [← hoI], by rw [← hoI]; rfl⟩
  refine codeAny_forLoop (fun n s' => ∃ i oI' h' tk', s' = { s with heap := h', toks := tk' } ∧ K i (h.objs.size, oI') h' ∧ ItOb ax i oI' ∧ i ≤ items.length ∧ n = items.length + 1 - i) ?_ (items.length + 1) ⟨0, oI, _, _, rfl, K0, it0, Nat.zero_le _, rfl⟩
  rintro n s' ⟨i, oI', h', tk', rfl, Ki, iti, hi, rfl⟩
  obtain ⟨gI, gl⟩ := hK _ _ _ Ki
  have hit : h'.IsListIter h.objs.size ax i := ⟨oI', gI, iti.cls, iti.data⟩
  cases hv : items[i]? with
  | none =>
    have hsz : i = items.length := Nat.le_antisymm hi (by simpa using hv)
    refine wpAny_pyNext_list_end (s := { s with heap := h', toks := tk' }) hh hit gl (by simpa using hv) fun h₁ he₁ => wpAny_execs_nil ?_
    exact done h.objs.size oI' h' h₁ tk' (hsz ▸ Ki) he₁
  | some v =>
    have hlt : i < items.length := (List.getElem?_eq_some_iff.mp hv).1
    refine wpAny_pyNext_list_item (s := { s with heap := h', toks := tk' }) hit gl (by simpa using hv) fun h₁ hit₁ hs₁ => ?_
    obtain ⟨o1, ho1, hc1, hd1⟩ := hit₁
    have K1 := hturn i _ oI' o1 h' h₁ Ki hs₁ ho1
    refine PySem.wpAny_assign_Name (wpAny_mono (step i v _ h₁ tk' _ hv K1) (fun _ s₂ h₂ => wpAny_mono h₂ (fun f s₃ h₃ => ?_) fun _ _ e => e) fun _ _ e => e)
    obtain ⟨rfl, h3, tk3, rfl, K3⟩ := h₃
    exact ⟨items.length + 1 - (i + 1), by omega, i + 1, o1, h3, tk3, rfl, K3, ⟨hc1, hd1⟩, hlt, rfl⟩
end

section
variable {prog : Program} {w : World} {A : Around} {E : Value → Shared → Prop} {s : Shared} {P : Params} {mg mb : Str → Option Value} {g0 : Heap} {lo : Nat} {L Ra : Addr} {rest : List (Addr × Obj)} {Z : Nat} {p : List Wd} {t : Txt} {R : List (List Wd)} {Q : Flow → Shared → Prop}
theorem shw_while (I : ShwIn P mg mb g0 lo L Ra rest Z p t R s.heap) (hZ : Z ≤ 9000) (r : Rm 8 A)
    (h : ∀ h' tk p' R', ShwIn P mg mb g0 lo L Ra rest Z p' [] R' h' → R' ++ rows [p'] = R ++ fin p t → Q .next { s with heap := h', toks := tk }) : wpAny (model prog w) A (exec shwWhile (shwEnv L)) Q E s := by
  refine wpAny_While ?_
  refine codeAny_whileLoop (fun n s' => ∃ h' tk p' t' R', s' = { s with heap := h', toks := tk } ∧ ShwIn P mg mb g0 lo L Ra rest Z p' t' R' h' ∧ R' ++ fin p' t' = R ++ fin p t ∧ n = t'.length) ?_ t.length ⟨s.heap, s.toks, p, t, R, rfl, I, rfl, rfl⟩
  rintro n s' ⟨h', tk, p', t', R', rfl, I', e, rfl⟩
  obtain ⟨⟨g, m, Pa, pv, n, rv, n', ps, u, W, hg0, B, Tb, hmT, hmP, hmR, hlo, hpv, hrv⟩, hsz, hsm⟩ := id I'
  refine isTrue_Name (ld' (env := shwEnv L) (s := { s with heap := h', toks := tk }) W hmT (truthy_txt (by rw [ts_len]; exact hsm) fun tk2 => ?_))
  rw [tl_ts]
  cases t' with
  | nil =>
    refine wpAny_execs_nil ?_
    rw [fin_nil] at e
    exact h h' tk2 p' R' I' e
  | cons a t'' =>
    rw [if_pos (by rfl)]
    refine wpAny_mono (shw_turn (s := { s with heap := h', toks := tk2 }) I' hZ (by simp) r) (fun f s₃ q => ?_) fun _ _ q => q
    obtain ⟨rfl, h3, tk3, p3, t3, R3, rfl, I3, hlt, e3⟩ := q
    exact ⟨t3.length, hlt, h3, tk3, p3, t3, R3, rfl, I3, e3.trans e, rfl⟩
end
end Mine
end

section
set_option autoImplicit false
set_option maxRecDepth 100000
set_option linter.unusedSimpArgs false
set_option linter.unusedVariables false
namespace Mine
open PySem PySem.W PySem.Calls PyProof.Rows PySem.Sre

def StrT (v : Value) (t : Txt) : Prop := ∃ u, v = .str (ts t) u
def lens (l : List Txt) : Nat := (l.map List.length).sum
theorem lens_take_le : ∀ (l : List Txt) (i : Nat), lens (l.take i) ≤ lens l
  | [], i => by simp [lens]
  | a :: l, 0 => by simp [lens]
  | a :: l, i + 1 => by
    have := lens_take_le l i
    simp [lens] at this ⊢; lia
theorem lens_succ {l : List Txt} {i : Nat} {t : Txt} (h : l[i]? = some t) : lens (l.take (i + 1)) = lens (l.take i) + t.length := by
  rw [List.take_add_one, h]; simp [lens]

theorem Wk.perm {g h : Heap} {L : Addr} {m : Str → Option Value} {mu mu' : List (Addr × Obj)} (W : Wk g L h m mu) (hp : mu.Perm mu') : Wk g L h m mu' :=
  ⟨W.ns, W.keep, W.low, fun p hm => W.mus p (hp.mem_iff.mpr hm), (hp.map _).nodup_iff.mp W.nd⟩

structure ShwK (P : Params) (mg mb : Str → Option Value) (g0 : Heap) (lo : Nat) (L Ra : Addr) (texts : List Txt) (i : Nat) (e : Addr × Obj) (h : Heap) : Prop where
  ex : ∃ g m rv n' ps R, Wk g L h m ([(Ra, listOf (List.toArray rv) n'), (65, tabObj ps)] ++ e :: []) ∧ Sub g0 g ∧ Bs P mg mb g ∧ TabOk lamPos lamQ g ps ∧ m "result" = some (.ref Ra) ∧ All2 (RowD lo g) rv R ∧ R = (texts.take i).flatMap parse ∧ R.length ≤ lens (texts.take i)

section
variable {prog : Program} {w : World} {A : Around} {E : Value → Shared → Prop} {s : Shared} {P : Params} {mg mb : Str → Option Value} {g0 : Heap} {lo : Nat} {L Ra : Addr} {texts : List Txt}
theorem shw_forTurn {i : Nat} {e : Addr × Obj} {t : Txt} {v : Value} (K : ShwK P mg mb g0 lo L Ra texts i e s.heap) (ht : texts[i]? = some t) (hv : StrT v t) (hs : t.length < 1000) (hZ : lens texts ≤ 9000) (r : Rm 8 A) (hL : lo ≤ L) :
    wpAny (model prog w) A (storeName (shwEnv L) "text" v) (fun _ s₂ => wpAny (model prog w) A (execs (bodyOf shwFor) (shwEnv L)) (fun f s₃ => f = .next ∧ ∃ h' tk', s₃ = { s with heap := h', toks := tk' } ∧ ShwK P mg mb g0 lo L Ra texts (i + 1) e h') E s₂) E s := by
  obtain ⟨g, m, rv, n', ps, R, W, hg0, B, Tb, hmR, hrv, hR, hRl⟩ := K
  obtain ⟨u, rfl⟩ := hv
  have hl1 := lens_succ ht
  have hl2 := lens_take_le texts (i + 1)
  refine st' W fun h1 W1 => ?_
  refine wpAny_execs_cons (wpAny_Assign_Name (ld' (s := { s with heap := h1, toks := _ }) W1 rfl (st' (s := { s with heap := h1, toks := _ }) W1 fun h2 W2 => ?_)))
  refine wpAny_execs_cons (wpAny_Assign_Name (ev_listNil (s := { s with heap := h2, toks := _ }) ?_))
  have hlo2 : lo ≤ h2.objs.size := Nat.le_trans hL (Nat.le_of_lt W2.Llt)
  refine st' (s := { s with heap := h2.push (listOf #[] 0), toks := _ }) (W2.pushMu (listOf #[] 0) rfl) fun h3 W3 => ?_
  have I : ShwIn P mg mb g0 lo L Ra [e] (lens (texts.take (i + 1))) [] t R h3 :=
    ⟨⟨g, _, h2.objs.size, [], 0, rv, n', ps, u, W3, hg0, B, Tb, rfl, rfl, hmR, hlo2, .nil, hrv⟩, by simp only [List.length_nil]; lia, hs⟩
  refine wpAny_execs_cons (shw_while (s := { s with heap := h3, toks := _ }) I (by lia) r fun h4 tk4 p' R' I4 e4 => ?_)
  obtain ⟨⟨g4, m4, Pa, pv, n, rv4, n4, ps4, u4, W4, hg4, B4, Tb4, hmT4, hmP4, hmR4, hlo4, hpv4, hrv4⟩, hsz4, hsm4⟩ := I4
  have hl7 := hpv4.len
  have hl8 := hrv4.len
  simp only [List.length_nil] at hsz4
  have hR' : (texts.take (i + 1)).flatMap parse = R' ++ rows [p'] := by
    rw [List.take_add_one, ht, Option.toList_some, List.flatMap_append, List.flatMap_singleton, ← hR, e4]
    rfl
  obtain ⟨g7, s7, q7, W7⟩ := W4.settle
  have hPl : h4.IsList Pa (List.toArray pv) := ⟨_, W7.keep _ _ q7, rfl, n, rfl⟩
  have hrv7 : All2 (RowD lo g7) rv4 R' := hrv4.imp fun a b x => x.mono (Nat.le_refl _) fun b o _ e => s7 b o e
  have hpv7 : All2 (TupD lo g7) pv p' := hpv4.imp fun a b x => x.mono (Nat.le_refl _) fun b o _ e => s7 b o e
  refine wpAny_execs_cons (wpAny_If (isTrue_Name (ld' (env := shwEnv L) (s := { s with heap := h4, toks := tk4 }) W7 hmP4 (wpAny_truthy_list hPl (by simp; lia) ?_))))
  by_cases hp0 : p' = []
  · have hpv0 : pv = [] := List.eq_nil_of_length_eq_zero (by rw [hl7, hp0]; rfl)
    rw [if_neg (by rw [hpv0]; decide)]
    refine wpAny_execs_nil (wpAny_execs_nil ⟨rfl, h4, _, rfl, ⟨g7, m4, rv4, n4, ps4, R', W7, hg4.trans s7, B4.keeps s7, Tb4.keeps s7, hmR4, hrv7, ?_, by lia⟩⟩)
    rw [hR', hp0]; simp [rows, ne]
  · have hpv0 : pv ≠ [] := fun q => hp0 (List.eq_nil_of_length_eq_zero (by rw [← hl7, q]; rfl))
    rw [if_pos (by cases pv with | nil => exact absurd rfl hpv0 | cons _ _ => simp)]
    refine wpAny_execs_cons (wpAny_Expr (ev_append (env := shwEnv L) (s := { s with heap := h4, toks := _ }) (pre := []) W7 hmR4 (by simp; lia) (ld' (s := { s with heap := h4, toks := _ }) W7 hmP4 ⟨g7, W7, fun h8 W8 => ?_⟩)))
    rw [List.push_toArray] at W8
    have h0 : p'.length ≠ 0 := fun q => hp0 (List.eq_nil_of_length_eq_zero q)
    refine wpAny_execs_nil (wpAny_execs_nil ⟨rfl, h8, _, rfl, ⟨g7, m4, rv4 ++ [Value.ref Pa], n4 + 1, ps4, R' ++ [p'], W8, hg4.trans s7, B4.keeps s7, Tb4.keeps s7, hmR4, hrv7.snoc ⟨Pa, pv, n, rfl, hlo4, q7, hpv7⟩, ?_, ?_⟩⟩)
    · rw [hR']
      cases p' with
      | nil => exact absurd rfl hp0
      | cons _ _ => simp [rows, ne]
    · simp only [List.length_append, List.length_cons, List.length_nil]; lia

theorem ListsD.of_row {g : Heap} {Ra : Addr} {rv : List Value} {n : Nat} {R : List (List Wd)} (h2 : g.get? Ra = some (listOf (List.toArray rv) n)) (h3 : All2 (RowD lo g) rv R) : ListsD lo g (.ref Ra) R := ⟨Ra, rv, n, rfl, h2, h3⟩

theorem Bs.hide {g h : Heap} {ps : Array Value} (B : Bs P mg mb h) (h65 : h.get? 65 = some (tabObj ps)) (k : ∀ b o, b ≠ 65 → h.get? b = some o → g.get? b = some o) : Bs P mg mb g := by
  have ns : ∀ {a : Addr} {mm : Str → Option Value}, h.Ns a mm → g.Ns a mm := fun {a mm} x => by
    obtain ⟨o, es, ep, e, hd, r⟩ := x
    exact ⟨o, es, ep, k _ _ (fun q => by rw [q, h65] at e; cases e; cases hd) e, hd, r⟩
  obtain ⟨bm, ob, b1, b2, b3, b4, b5⟩ := B.bm
  refine ⟨fun a o e => k a o (fun q => ?_) (B.K a o e), ns B.gl, ns B.b, ?_, B.bi, B.fr, ⟨bm, ob, b1, b2, k _ _ (fun q => by rw [q, h65] at b3; cases b3; cases b4) b3, b4, b5⟩⟩
  · subst q
    have e2 : (none : Option Obj) = some o := e
    cases e2
  · obtain ⟨mc, e, hd⟩ := B.lim
    exact ⟨mc, ns e, hd⟩
theorem triples_no_str {ps : Array Value} (h : TriplesOk ps.toList) {x : Str} {t : Tok} (e : ps[1]? = some (.str x t)) : False := by
  rw [← Array.getElem?_toList] at e
  generalize ps.toList = l at h e
  fun_induction TriplesOk l with
  | case1 => cases e
  | case2 => cases e
  | case3 => exact h.elim
theorem TabOk.hide {g h : Heap} {ps : Array Value} {q : Str} {lp : Pos} (T : TabOk lp q h ps) (h65 : h.get? 65 = some (tabObj ps)) (k : ∀ b o, b ≠ 65 → h.get? b = some o → g.get? b = some o) : TabOk lp q g ps :=
  ⟨T.tr, T.c.imp id fun z => by
    obtain ⟨c', e, c, o, vs, t, e1, e2, e3, e4⟩ := z
    exact ⟨c', e, c, o, vs, t, e1, k _ _ (fun q => by rw [q, h65] at e2; cases e2; cases e3; exact triples_no_str T.tr e4) e2, e3, e4⟩⟩

section
variable {env : Env} {Q : Value → Shared → Prop} {f : Str} {pf pos : Pos} {id : String}
theorem ev_callB1 {e : Expr} (hf : ∀ Q', Q' (.builtin id) s → wpAny (model prog w) A (eval (.Name f pf) env) Q' E s)
    (h : wpAny (model prog w) A (eval e env) (fun v s₁ => wpAny (model prog w) A (call (.builtin id) [v]) Q E s₁) E s)
    (hs : backTo pos (starEach [e] env) = [(false, eval e env)] := by rfl) : wpAny (model prog w) A (eval (.Call (.Name f pf) [e] [] pos) env) Q E s := by
  refine wpAny_Call_Name_kw (hf _ ?_)
  rw [hs]
  exact callB1 h
theorem ev_callB2 {e e' : Expr} (hf : ∀ Q', Q' (.builtin id) s → wpAny (model prog w) A (eval (.Name f pf) env) Q' E s)
    (h : wpAny (model prog w) A (eval e env) (fun v s₁ => wpAny (model prog w) A (eval e' env) (fun v' s₂ => wpAny (model prog w) A (call (.builtin id) [v, v']) Q E s₂) E s₁) E s)
    (hs : backTo pos (starEach [e, e'] env) = [(false, eval e env), (false, eval e' env)] := by rfl) : wpAny (model prog w) A (eval (.Call (.Name f pf) [e, e'] [] pos) env) Q E s := by
  refine wpAny_Call_Name_kw (hf _ ?_)
  rw [hs]
  exact callB2 h
end

/-- split_header_words: what it gives back for a list of texts -/
theorem call_shw {Q : Value → Shared → Prop} {ax : Addr} {vs : List Value} {n : Nat} {ps : Array Value} (B : Bs P mg mb s.heap) (h65 : s.heap.get? 65 = some (tabObj ps)) (T : TabOk lamPos lamQ s.heap ps) (r : Rm 12 A)
    (hl : s.heap.get? ax = some (listOf (List.toArray vs) n)) (hv : All2 StrT vs texts) (hsm : ∀ t ∈ texts, t.length < 1000) (hZ : lens texts ≤ 9000)
    (hQ : ∀ h' tk D ps', (∀ b o, b ≠ 65 → s.heap.get? b = some o → h'.get? b = some o) → h'.get? 65 = some (tabObj ps') → TabOk lamPos lamQ h' ps' → s.heap.get? D = none → ListsD s.heap.objs.size h' (.ref D) (texts.flatMap parse) → Q (.ref D) { s with heap := h', toks := tk }) :
    wpAny (model prog w) A (call (.ref 70) [.ref ax]) Q E s := by
  refine call_fn (n := 11) [(65, tabObj ps)] (by simpa using h65) (by simp) r (B.K 70 _ rfl) B.lim (codeRec_of B.K (by rfl)) (binds := [("header_values", .ref ax)]) (by rfl) (locs (by rfl)) fun A' g h₁ tk r' hs hg hk W => ?_
  have k65 : ∀ b o, b ≠ 65 → s.heap.get? b = some o → g.get? b = some o := fun b o hb e => hg b o (by simpa using Ne.symm hb) e
  have Bg := B.hide h65 k65
  have Tg := T.hide h65 k65
  refine wpAny_execs_cons (wpAny_Assert_holds (isTrue_not (isTrue_plain ?_)))
  refine ev_callB2 (id := "isinstance") (fun Q' q => ldB (Bg.keeps W.keep) (Bg.fr _ (by decide)) (by rfl) q) ?_
  have hax : ax ≠ 65 := fun q => by rw [q, h65] at hl; cases hl
  have hlg : g.get? ax = some (listOf (List.toArray vs) n) := k65 _ _ hax hl
  refine ld' W rfl (ldB (Bg.keeps W.keep) (Bg.fr _ (by decide)) (by rfl) (call_isinstance (isinstance_false_list (by decide +kernel) F.isi_meta_str F.sub_list_str) ⟨⟨_, W.keep _ _ hlg, rfl⟩, ?_⟩))
  refine wpAny_truthy_bool ⟨rfl, ?_⟩
  refine wpAny_execs_cons (wpAny_Assign_Name (ev_listNil ?_))
  refine st' (s := { s with heap := h₁.push (listOf #[] 0), toks := tk + 1 }) (W.pushMu (listOf #[] 0) rfl) fun h2 W2 => ?_
  have hRa : s.heap.objs.size < h₁.objs.size := W.Llt
  generalize hRad : h₁.objs.size = Ra at W2 hRa
  generalize hL : s.heap.objs.size = L at W2 hRa
  have lv := hv.len
  refine wpAny_execs_cons (for_list (env := shwEnv L) (s := { s with heap := h2, toks := tk + 1 + 1 }) (ax := ax) (items := vs) (fun i e h => ShwK P mg mb g L L Ra texts i e h) r'.hd ?_ ?_ ?_ ?_ ?_)
  · refine ld' (s := { s with heap := h2, toks := tk + 1 + 1 }) W2 rfl ⟨rfl, ⟨h2, _, rfl⟩, ⟨_, W2.keep _ _ hlg, rfl, n, rfl⟩, fun oI it hf => ?_⟩
    have W3 := (W2.pushMu oI hf).perm (List.perm_append_singleton _ [(Ra, listOf #[] 0), (65, tabObj ps)]).symm
    exact ⟨g, _, [], 0, ps, [], W3, Sub.refl _, Bg, Tg, rfl, .nil, rfl, Nat.zero_le _⟩
  · rintro i e h ⟨g1, m1, rv, n', ps1, R, W', hg0, B', T', hmR, hrv, hR, hRl⟩
    exact ⟨(W'.mus e (List.mem_append_right _ (.head _))).1, ⟨_, W'.keep _ _ (hg0 _ _ hlg), rfl, n, rfl⟩⟩
  · rintro i I oI oI' h h' ⟨g1, m1, rv, n', ps1, R, W', hg0, B', T', hmR, hrv, hR, hRl⟩ hs' ho'
    exact ⟨g1, m1, rv, n', ps1, R, W'.turn hs'.extBut ho', hg0, B', T', hmR, hrv, hR, hRl⟩
  · intro i v e h tk' E' hvi K
    have hi : i < texts.length := by rw [← lv]; exact (List.getElem?_eq_some_iff.mp hvi).1
    obtain ⟨t, ht⟩ : ∃ t, texts[i]? = some t := ⟨_, List.getElem?_eq_getElem hi⟩
    exact shw_forTurn (s := { s with heap := h, toks := tk' }) K ht (hv.get i v t hvi ht) (hsm t (List.mem_of_getElem? ht)) hZ (r'.le (by lia)) (Nat.le_refl _)
  · rintro I oI h h' tk' ⟨g1, m1, rv, n', ps1, R, W', hg0, B', T', hmR, hrv, hR, hRl⟩ hx
    have W3 := W'.drop hx
    rw [List.append_nil] at W3
    refine wpAny_execs_cons (wpAny_Return_some (ld' (env := shwEnv L) (s := { s with heap := h', toks := tk' }) W3 hmR ⟨_, rfl, ?_⟩))
    have m1 := (W3.mus (Ra, listOf (List.toArray rv) n') (.head _)).1
    have m2 := (W3.mus (65, tabObj ps1) (.tail _ (.head _))).1
    refine hQ h' tk' Ra ps1 (fun b o hb e => W3.keep _ _ (hg0 _ _ (k65 _ _ hb e))) m2 (T'.keeps W3.keep) (Heap.get?_none_of_le (by rw [hL]; exact Nat.le_of_lt hRa)) ?_
    have e9 : R = texts.flatMap parse := by rw [hR, lv, List.take_length]
    rw [← e9, hL]
    exact .of_row m1 (hrv.imp fun a b x => x.mono (Nat.le_refl _) fun b o _ e => W3.keep b o e)
end
end Mine
end

section
set_option autoImplicit false
set_option maxRecDepth 100000
set_option linter.unusedSimpArgs false
set_option linter.unusedVariables false
namespace Mine
open PySem PySem.W PySem.Calls PyProof.Rows PySem.Sre

/-! ### == of rows -/
def dO : Option Txt → PyData
  | none => .none
  | some v => .str (ts v)
def dW (w : Wd) : PyData := .tuple [.str (ts w.1), dO w.2]
def dR (ws : List Wd) : PyData := .list (ws.map dW)
def dL (l : List (List Wd)) : PyData := .list (l.map dR)

theorem TupD.reads {lo : Nat} {h : Heap} {v : Value} {w : Wd} (T : TupD lo h v w) : ∃ as, Reads h v (dW w) as := by
  obtain ⟨a, n, u, vv, rfl, _, e, ho⟩ := T
  have r2 : ∃ bs, Reads h vv (dO w.2) bs := by
    cases hw : w.2 with
    | none => rw [hw] at ho; rw [show vv = .none from ho]; exact ⟨_, .none⟩
    | some x => rw [hw] at ho; obtain ⟨u2, rfl⟩ := ho; exact ⟨_, .str _ _⟩
  obtain ⟨bs, r2⟩ := r2
  exact ⟨_, .tuple e rfl rfl (.cons (.str _ _) (.cons r2 .nil))⟩
theorem reads_all {α : Type} {h : Heap} {R : Value → α → Prop} {f : α → PyData} (hR : ∀ v x, R v x → ∃ as, Reads h v (f x) as) {vs : List Value} {xs : List α} (X : All2 R vs xs) : ∃ as, ReadsAll h vs (xs.map f) as := by
  induction X with
  | nil => exact ⟨_, .nil⟩
  | cons x _ ih =>
    obtain ⟨as, r1⟩ := hR _ _ x
    obtain ⟨bs, r2⟩ := ih
    exact ⟨_, .cons r1 r2⟩
theorem RowD.reads {lo : Nat} {h : Heap} {v : Value} {ws : List Wd} (T : RowD lo h v ws) : ∃ as, Reads h v (dR ws) as := by
  obtain ⟨a, vs, n, rfl, _, e, ho⟩ := T
  obtain ⟨as, r⟩ := reads_all (fun v x hx => TupD.reads hx) ho
  exact ⟨_, .list e rfl rfl (by simpa using r)⟩
theorem ListsD.reads {lo : Nat} {h : Heap} {v : Value} {l : List (List Wd)} (T : ListsD lo h v l) : ∃ as, Reads h v (dL l) as := by
  obtain ⟨a, vs, n, rfl, e, ho⟩ := T
  obtain ⟨as, r⟩ := reads_all (fun v x hx => RowD.reads hx) ho
  exact ⟨_, .list e rfl rfl (by simpa using r)⟩

theorem eqv_all {α : Type} {f : α → PyData} (hf : ∀ x y, PyData.eqv (f x) (f y) = true ↔ x = y) : ∀ (xs ys : List α), PyData.eqvAll (xs.map f) (ys.map f) = true ↔ xs = ys
  | [], [] => by simp [PyData.eqvAll]
  | [], _ :: _ => by simp [PyData.eqvAll]
  | _ :: _, [] => by simp [PyData.eqvAll]
  | x :: xs, y :: ys => by
    rw [List.map_cons, List.map_cons, PyData.eqvAll, Bool.and_eq_true, hf, eqv_all hf xs ys]
    simp
theorem ts_inj {a b : Txt} : ts a = ts b ↔ a = b := ⟨fun h => by have := congrArg tl h; rwa [tl_ts, tl_ts] at this, fun h => by rw [h]⟩
theorem eqv_W (a b : Wd) : PyData.eqv (dW a) (dW b) = true ↔ a = b := by
  obtain ⟨a1, a2⟩ := a
  obtain ⟨b1, b2⟩ := b
  have e2 : PyData.eqv (dO a2) (dO b2) = true ↔ a2 = b2 := by
    cases a2 <;> cases b2 <;> simp [dO, PyData.eqv, ts_inj]
  simp only [dW, PyData.eqv, PyData.eqvAll, Bool.and_true, Bool.and_eq_true, e2, beq_iff_eq, ts_inj, Prod.mk.injEq]
theorem eqv_R (a b : List Wd) : PyData.eqv (dR a) (dR b) = true ↔ a = b := by
  unfold dR
  rw [PyData.eqv]
  exact eqv_all eqv_W a b
theorem eqv_L (a b : List (List Wd)) : PyData.eqv (dL a) (dL b) = true ↔ a = b := by
  unfold dL
  rw [PyData.eqv]
  exact eqv_all eqv_R a b

theorem depth_all {α : Type} {f : α → PyData} {k : Nat} (hf : ∀ x, (f x).depth ≤ k) : ∀ (xs : List α), PyData.depthAll (xs.map f) ≤ k
  | [] => by simp [PyData.depthAll]
  | x :: xs => by
    rw [List.map_cons, PyData.depthAll]
    exact Nat.max_le.mpr ⟨hf x, depth_all hf xs⟩
theorem canLay_all {α : Type} {f : α → PyData} : ∀ (xs : List α), (∀ x ∈ xs, (f x).canLay0 = true) → PyData.canLayAll0 (xs.map f) = true
  | [], _ => by simp [PyData.canLayAll0]
  | x :: xs, h => by
    rw [List.map_cons, PyData.canLayAll0, h x (.head _), canLay_all xs fun y hy => h y (.tail _ hy)]
    rfl
theorem strOk_ts {t : Txt} (h : Sm t) : PyData.strOk (ts t) = true := by
  unfold PyData.strOk
  rw [Array.all_eq_true_iff_forall_mem]
  intro c hc
  have : c ∈ t := by simpa [ts] using hc
  simpa using h c this
theorem depth_W (w : Wd) : (dW w).depth ≤ 1 := by
  obtain ⟨a, b⟩ := w
  cases b <;> simp [dW, dO, PyData.depth, PyData.depthAll]
theorem depth_R (ws : List Wd) : (dR ws).depth ≤ 2 := by
  unfold dR
  rw [PyData.depth]
  have := depth_all depth_W ws
  lia
theorem depth_L (l : List (List Wd)) : (dL l).depth ≤ 3 := by
  unfold dL
  rw [PyData.depth]
  have := depth_all depth_R l
  lia
theorem canLay_W {w : Wd} (h : SmW w) : (dW w).canLay0 = true := by
  obtain ⟨a, b⟩ := w
  cases b with
  | none => simp [dW, dO, PyData.canLay0, PyData.canLayAll0, strOk_ts h.1]
  | some v => simp [dW, dO, PyData.canLay0, PyData.canLayAll0, strOk_ts h.1, strOk_ts (h.2 v rfl)]
theorem shaped_R {ws : List Wd} (h : ∀ w ∈ ws, SmW w) : SeqAt.shaped (dR ws) = true := by
  unfold SeqAt.shaped
  rw [Bool.and_eq_true, decide_eq_true_eq]
  refine ⟨?_, by have := depth_R ws; lia⟩
  unfold dR
  rw [PyData.canLay0]
  exact canLay_all ws fun w hw => canLay_W (h w hw)
theorem shaped_L {l : List (List Wd)} (h : ∀ r ∈ l, ∀ w ∈ r, SmW w) : SeqAt.shaped (dL l) = true := by
  unfold SeqAt.shaped
  rw [Bool.and_eq_true, decide_eq_true_eq]
  refine ⟨?_, by have := depth_L l; lia⟩
  unfold dL
  rw [PyData.canLay0]
  refine canLay_all l fun r hr => ?_
  unfold dR
  rw [PyData.canLay0]
  exact canLay_all r fun w hw => canLay_W (h r hr w hw)

section
variable {prog : Program} {w : World} {A : Around} {E : Value → Shared → Prop} {s : Shared} {Q : Value → Shared → Prop}
theorem ne_lists {lo lo' : Nat} {a b : Value} {l l' : List (List Wd)} (ha : ListsD lo s.heap a l) (hb : ListsD lo' s.heap b l') (sa : ∀ r ∈ l, ∀ w ∈ r, SmW w) (sb : ∀ r ∈ l', ∀ w ∈ r, SmW w) (r : Rm 1 A)
    (h : Q (.bool (!decide (l = l'))) s) : wpAny (model prog w) A (compareOp .NotEq a b) Q E s := by
  obtain ⟨as, ra⟩ := ha.reads
  obtain ⟨bs, rb⟩ := hb.reads
  refine SeqAt.compareNe_shaped ra rb (shaped_L sa) (shaped_L sb) (by have := r.un; rw [cLine_is]; lia) ?_
  have e : PyData.eqv (dL l) (dL l') = decide (l = l') := by rw [Bool.eq_iff_iff, eqv_L, decide_eq_true_eq]
  rw [e]; exact h
theorem eq_lists {lo lo' : Nat} {a b : Value} {l l' : List (List Wd)} (ha : ListsD lo s.heap a l) (hb : ListsD lo' s.heap b l') (sa : ∀ r ∈ l, ∀ w ∈ r, SmW w) (sb : ∀ r ∈ l', ∀ w ∈ r, SmW w) (r : Rm 1 A)
    (h : Q (.bool (decide (l = l'))) s) : wpAny (model prog w) A (compareOp .Eq a b) Q E s := by
  obtain ⟨as, ra⟩ := ha.reads
  obtain ⟨bs, rb⟩ := hb.reads
  refine SeqAt.compareEq_shaped ra rb (shaped_L sa) (shaped_L sb) (by have := r.un; rw [cLine_is]; lia) ?_
  have e : PyData.eqv (dL l) (dL l') = decide (l = l') := by rw [Bool.eq_iff_iff, eqv_L, decide_eq_true_eq]
  rw [e]; exact h
theorem ne_rows {lo lo' : Nat} {a b : Value} {l l' : List Wd} (ha : RowD lo s.heap a l) (hb : RowD lo' s.heap b l') (sa : ∀ w ∈ l, SmW w) (sb : ∀ w ∈ l', SmW w) (r : Rm 1 A)
    (h : Q (.bool (!decide (l = l'))) s) : wpAny (model prog w) A (compareOp .NotEq a b) Q E s := by
  obtain ⟨as, ra⟩ := ha.reads
  obtain ⟨bs, rb⟩ := hb.reads
  refine SeqAt.compareNe_shaped ra rb (shaped_R sa) (shaped_R sb) (by have := r.un; rw [cLine_is]; lia) ?_
  have e : PyData.eqv (dR l) (dR l') = decide (l = l') := by rw [Bool.eq_iff_iff, eqv_R, decide_eq_true_eq]
  rw [e]; exact h
end
end Mine
end

section
set_option autoImplicit false
set_option maxRecDepth 100000
set_option linter.unusedSimpArgs false
set_option linter.unusedVariables false
namespace Mine
open PySem PySem.W PySem.Calls PyProof.Rows PySem.Sre

theorem fdiv_nat (a b : Nat) : ((a : Int)).fdiv (b : Int) = ((a / b : Nat) : Int) := by
  rw [Int.fdiv_eq_ediv_of_nonneg _ (Int.natCast_nonneg b)]; rfl
theorem fmod_nat (a b : Nat) : ((a : Int)).fmod (b : Int) = ((a % b : Nat) : Int) := by
  rw [Int.fmod_eq_emod_of_nonneg _ (Int.natCast_nonneg b)]; rfl

section
variable {prog : Program} {w : World} {A : Around} {E : Value → Shared → Prop} {s : Shared} {env : Env} {g : Heap} {m : Str → Option Value} {mu : List (Addr × Obj)} {Q : Value → Shared → Prop}
/-- e // c -/
theorem ev_fdiv {e : Expr} {ci : Int} {kk : Nat} {pc pos : Pos} (c : Nat) (h0 : c ≠ 0 := by decide) (hs : c < 2 ^ 30 := by decide) (hc : ci = (c : Int) := by rfl)
    (h : wpAny (model prog w) A (eval e env) (fun v s₁ => ∃ (k : Nat) (u : Tok), v = .int (k : Int) u ∧ k < 2 ^ 30 ∧ ∀ u' tk, Q (.int ((k / c : Nat) : Int) u') { s₁ with toks := tk }) E s) :
    wpAny (model prog w) A (eval (.BinOp e .FloorDiv (.Constant (.int ci) kk pc) pos) env) Q E s := by
  subst hc
  refine wpAny_BinOp (wpAny_mono h (fun v s₁ h₁ => ?_) fun _ _ x => x)
  obtain ⟨k, u, rfl, hk, hq⟩ := h₁
  refine wpAny_Constant_int (floordiv_int (by lia) ?_ (Or.inl (PyProof.noPylong_small (by lia))))
  rw [fdiv_nat]
  exact hq _ _
theorem ev_mod {e : Expr} {ci : Int} {kk : Nat} {pc pos : Pos} (c : Nat) (h0 : c ≠ 0 := by decide) (hc : ci = (c : Int) := by rfl)
    (h : wpAny (model prog w) A (eval e env) (fun v s₁ => ∃ (k : Nat) (u : Tok), v = .int (k : Int) u ∧ ∀ u' tk, Q (.int ((k % c : Nat) : Int) u') { s₁ with toks := tk }) E s) :
    wpAny (model prog w) A (eval (.BinOp e .Mod (.Constant (.int ci) kk pc) pos) env) Q E s := by
  subst hc
  refine wpAny_BinOp (wpAny_mono h (fun v s₁ h₁ => ?_) fun _ _ x => x)
  obtain ⟨k, u, rfl, hq⟩ := h₁
  refine wpAny_Constant_int (PyProof.Rows.mod_int (by lia) ?_)
  rw [fmod_nat]
  exact hq _ _
theorem seqIdx_nat {k n : Nat} (h : k < n) : seqIndex? (k : Int) n = some k := by
  unfold seqIndex?
  have h1 : ¬ ((k : Int) < 0) := by lia
  simp only [h1, if_false]
  rw [if_pos (by simp; lia)]
  simp
/-- a sign of a text -/
theorem ev_idxStr {o e : Expr} {pos : Pos} (h : wpAny (model prog w) A (eval o env) (fun v s₁ => ∃ x t, v = .str x t ∧ x.length < 1000 ∧ wpAny (model prog w) A (eval e env) (fun i s₂ => ∃ (k : Nat) (u : Tok) (c : Nat), i = .int (k : Int) u ∧ (tl x)[k]? = some c ∧
      ∀ u' tk, Q (.str (ts [c]) u') { s₂ with toks := tk }) E s₁) E s)
    (hsub : ∀ o i, subscripted e false o i = operate [o, i] (getItem o i) := by intro _ _; rfl) : wpAny (model prog w) A (eval (.Subscript o e pos) env) Q E s := by
  refine PyProof.Rows.Subscript_ (wpAny_mono h (fun v s₁ h₁ => ?_) fun _ _ x => x)
  obtain ⟨x, t, rfl, hx, h₁⟩ := h₁
  refine wpAny_mono h₁ (fun i s₂ h₂ => ?_) fun _ _ x => x
  obtain ⟨k, u, c, rfl, hc, hq⟩ := h₂
  have hk : k < x.length := by
    have := (List.getElem?_eq_some_iff.mp hc).1
    rwa [tl_len] at this
  refine subTail (typeIs_str _ x t) F.slot_str_getitem.lookup (getItem_str (c := c) ?_ ?_ (hq _ _)) (hsub _ _)
  · have h1 : decide ((k : Int) < -(2 ^ 63 : Int)) = false := by simp <;> lia
    have h2 : decide ((k : Int) ≥ 2 ^ 63) = false := by simp <;> lia
    rw [h1, h2]; rfl
  · rw [seqIdx_nat hk]
    show x.cps[k]? = some c
    rw [← Array.getElem?_toList]
    exact hc
theorem cst {x : Str} {k : Nat} {pos : Pos} (h : ∀ u tk, Q (.str x u) { s with toks := tk }) : wpAny (model prog w) A (eval (.Constant (.str x) k pos) env) Q E s := Constant_str (h _ _)
/-- a place of a tuple display -/
theorem ev_idxTup {es : List Expr} {e : Expr} {kk : Nat} {p1 pos : Pos} (h : wpAny (model prog w) A (spliced (es.map fun e => (false, eval e env))) (fun vs s₁ => vs.length ≤ 100 ∧
      ∀ ob T, ob.isFreed = false → T = s₁.heap.objs.size → wpAny (model prog w) A (eval e env) (fun i s₂ => s₂.heap.get? T = some ob ∧ ∃ (k : Nat) (u : Tok) (x : Value), i = .int (k : Int) u ∧ vs[k]? = some x ∧ Q x s₂) E { s₁ with heap := s₁.heap.push ob }) E s)
    (hsub : ∀ o i, subscripted e false o i = operate [o, i] (getItem o i) := by intro _ _; rfl) (hs : backTo p1 (starEach es env) = es.map fun e => (false, eval e env) := by rfl) : wpAny (model prog w) A (eval (.Subscript (.Tuple es kk p1) e pos) env) Q E s := by
  refine PyProof.Rows.Subscript_ (Tuple_ ?_)
  rw [hs]
  refine wpAny_mono h (fun vs s₁ h₁ => ?_) fun _ _ x => x
  obtain ⟨hz, h₁⟩ := h₁
  refine wpAny_newTuple ?_ (by simp [sizeLine]; lia)
  refine wpAny_mono (h₁ (pairObj vs.toArray) _ rfl rfl) (fun i s₂ h₂ => ?_) fun _ _ x => x
  obtain ⟨hT, k, u, x, rfl, hx, hq⟩ := h₂
  have hk : k < vs.length := (List.getElem?_eq_some_iff.mp hx).1
  exact subTail (T := "tuple") ⟨_, hT, rfl⟩ slot_tuple_getitem.lookup (PyProof.Rows.getItem_tuple (j := k) ⟨_, hT, rfl, 0, rfl⟩ (by lia) (by lia) (by rw [seqIdx_nat (by simpa using hk)]) (by simpa using hx) hq) (hsub _ _)
end

/-! ### _law_lists -/
def menuL : Txt := [97, 98, 61, 92, 32, 59, 44, 10, 34]
def keysL : List Txt := [[97], [98], [34], [97, 92]]
def valL (k : Nat) : Txt := [menuL.getD (k / 40 % 8) 0, menuL.getD (k / 320 % 9) 0, menuL.getD (k / 2880 % 9) 0]
def optsL (v : Txt) : List (Option Txt) := [none, some [], some (v.take 1), some (v.take 2), some v]
def wdL (k : Nat) : Wd := (keysL.getD (k / 2 % 4) [], (optsL (valL k)).getD (k / 8 % 5) none)
structure GoodWd (w : Wd) : Prop where
  vw : Vw w
  al : ALw w
  kl : w.1.length ≤ 2
  vl : ∀ v, w.2 = some v → v.length ≤ 3

theorem menu_al : ∀ i, i < 9 → AL (menuL.getD i 0) := by unfold AL; decide
theorem menu_first : ∀ i, i < 8 → menuL.getD i 0 ≠ 34 := by decide
theorem keys_ok : ∀ i, i < 4 → ∀ o, (∀ v, o = some v → v.head? ≠ some 34 ∧ okT v) → Vw (keysL.getD i [], o) := by
  intro i hi o ho
  have k1 : ∀ i, i < 4 → keysL.getD i [] ≠ [] := by decide
  have k2 : ∀ i, i < 4 → ∀ c ∈ keysL.getD i [], tokC c = true := by decide +kernel
  exact ⟨k1 i hi, k2 i hi, ho⟩
theorem keys_al : ∀ i, i < 4 → ALt (keysL.getD i []) ∧ (keysL.getD i []).length ≤ 2 := by unfold ALt AL; decide
theorem wdL_good (k : Nat) : GoodWd (wdL k) := by
  have h1 : k / 40 % 8 < 8 := Nat.mod_lt _ (by decide)
  have h2 : k / 320 % 9 < 9 := Nat.mod_lt _ (by decide)
  have h3 : k / 2880 % 9 < 9 := Nat.mod_lt _ (by decide)
  have h4 : k / 2 % 4 < 4 := Nat.mod_lt _ (by decide)
  have h5 : k / 8 % 5 < 5 := Nat.mod_lt _ (by decide)
  have va : ALt (valL k) := .cons (menu_al _ (by lia)) (.cons (menu_al _ h2) (.cons (menu_al _ h3) .nil))
  have key : ∀ v, (optsL (valL k)).getD (k / 8 % 5) none = some v → ∃ j, v = (valL k).take j := by
    intro v hv
    generalize k / 8 % 5 = i at hv h5
    match i, h5 with
    | 0, _ => simp [optsL] at hv
    | 1, _ => exact ⟨0, by simp [optsL] at hv; simp [hv]⟩
    | 2, _ => exact ⟨1, by simp [optsL] at hv; exact hv.symm⟩
    | 3, _ => exact ⟨2, by simp [optsL] at hv; exact hv.symm⟩
    | 4, _ => exact ⟨3, by simp [optsL] at hv; rw [← hv]; rfl⟩
  have al : ∀ v, (wdL k).2 = some v → ALt v := fun v hv => by
    obtain ⟨j, rfl⟩ := key v hv
    exact fun c hc => va c (List.mem_of_mem_take hc)
  refine ⟨keys_ok _ h4 _ fun v hv => ⟨?_, (al v hv).ok⟩, ⟨(keys_al _ h4).1, al⟩, (keys_al _ h4).2, fun v hv => ?_⟩
  · obtain ⟨j, rfl⟩ := key v hv
    cases j with
    | zero => simp
    | succ j =>
      show some (menuL.getD (k / 40 % 8) 0) ≠ some 34
      intro q
      exact menu_first _ h1 (Option.some.inj q)
  · obtain ⟨j, rfl⟩ := key v hv
    have := List.length_take_le j (valL k)
    exact Nat.le_trans (List.length_take_le' j (valL k)) (Nat.le_refl 3)
end Mine
end

section
set_option autoImplicit false
set_option maxRecDepth 100000
set_option linter.unusedSimpArgs false
set_option linter.unusedVariables false
namespace Mine
open PySem PySem.W PySem.Calls PyProof.Rows PySem.Sre

def lisS : Stmt := topS 10
def lisSc : Scope := scopeOf lisS
def lisFor : Stmt := nth (bodyOf lisS) 2
abbrev lisEnv (L : Addr) : Env := envOf "_law_lists" lisSc L 75 (.ref 74)

structure LisK (g0 : Heap) (lo : Nat) (L La : Addr) (i : Nat) (e : Addr × Obj) (h : Heap) : Prop where
  ex : ∃ g m Ra pv n rv n' l p u, Wk g L h m ([(Ra, listOf (List.toArray pv) n), (La, listOf (List.toArray (rv ++ [Value.ref Ra])) n')] ++ e :: []) ∧ Sub g0 g ∧ m "menu" = some (.str (ts menuL) u) ∧ m "lists" = some (.ref La) ∧ lo ≤ Ra ∧ All2 (TupD lo g) pv p ∧ All2 (RowD lo g) rv l ∧
    (∀ r ∈ l, ∀ w ∈ r, GoodWd w) ∧ (∀ w ∈ p, GoodWd w) ∧ words l + p.length = i ∧ l.length ≤ i

theorem ts_app (a b : Txt) : (ts a ++ ts b : Str) = ts (a ++ b) := by rw [← ts_tl (ts a ++ ts b), tl_app, tl_ts, tl_ts]
theorem strLenApp (a b : Str) : (a ++ b).length = a.length + b.length := by
  rw [← tl_len, tl_app, List.length_append, tl_len, tl_len]

section
variable {prog : Program} {w : World} {A : Around} {E : Value → Shared → Prop} {s : Shared} {g0 : Heap} {lo : Nat} {L La : Addr}
theorem lt4 {P : Nat → Prop} (h0 : P 0) (h1 : P 1) (h2 : P 2) (h3 : P 3) : ∀ j, j < 4 → P j
  | 0, _ => h0 | 1, _ => h1 | 2, _ => h2 | 3, _ => h3
theorem lt5 {P : Nat → Prop} (h0 : P 0) (h1 : P 1) (h2 : P 2) (h3 : P 3) (h4 : P 4) : ∀ j, j < 5 → P j
  | 0, _ => h0 | 1, _ => h1 | 2, _ => h2 | 3, _ => h3 | 4, _ => h4

theorem ev_appendG {env : Env} {g : Heap} {m : Str → Option Value} {Q : Value → Shared → Prop} {T : Str} {pT apos pos : Pos} {e : Expr} {D : Addr} {its : Array Value} {n : Nat} {pre post : List (Addr × Obj)} (W : Wk g env.locals s.heap m (pre ++ (D, listOf its n) :: post)) (hm : m T = some (.ref D)) (hz : its.size ≤ 10000)
    (h : wpAny (model prog w) A (eval e env) (fun v s₁ => ∃ g' pre' post', Wk g' env.locals s₁.heap m (pre' ++ (D, listOf its n) :: post') ∧ ∀ h', Wk g' env.locals h' m (pre' ++ (D, listOf (its.push v) (n + 1)) :: post') → Q .none { s₁ with heap := h' }) E s)
    (hs : starEach [e] env = [(false, eval e env)] := by rfl) (hbase : attributeBase (.Name T pT) "append" env (eval (.Name T pT) env) = eval (.Name T pT) env := by rfl) (hline : (apos.endLine == pos.line) = true := by rfl)
    (hk : env.scope.kind = .function := by rfl) (hkT : env.kindOf T = some .local := by rfl) (hd2 : (T == ("__debug__" : Str)) = false := by decide) :
    wpAny (model prog w) A (eval (.Call (.Attribute (.Name T pT) "append" apos) [e] [] pos) env) Q E s := by
  have hD := (W.mus (D, listOf its n) (List.mem_append_right _ (.head _))).1
  refine Meth1 F.plainAttrs_list slot_list_append type_list_append (ld' W hm ⟨⟨_, hD, rfl⟩, fun a e => by cases e; exact ⟨_, hD, rfl⟩, ?_⟩ hk hkT hd2) hs hbase hline
  refine wpAny_mono h (fun v s₁ h₁ => ?_) fun _ _ x => x
  obtain ⟨g', pre', post', W', hq⟩ := h₁
  exact append_at (W'.mus (D, listOf its n) (List.mem_append_right _ (.head _))).1 (fun h' hs' ho' => hq h' (W'.turn hs'.extBut ho')) (by simp [sizeLine]; lia)

def lisPut : Stmt := nth (bodyOf lisFor) 2
/-- lists[-1].append((a key, a value)) -/
theorem lis_put {g : Heap} {m : Str → Option Value} {Ra : Addr} {pv rv : List Value} {n n' k : Nat} {post : List (Addr × Obj)} {u1 u2 : Tok} {Q : Flow → Shared → Prop}
    (W : Wk g L s.heap m ([] ++ (Ra, listOf (List.toArray pv) n) :: (La, listOf (List.toArray (rv ++ [Value.ref Ra])) n') :: post)) (hmL : m "lists" = some (.ref La)) (hmN : m "n" = some (.int (k : Int) u1)) (hmV : m "value" = some (.str (ts (valL k)) u2)) (hk : k < 2 ^ 30)
    (hz : pv.length ≤ 9000) (hz2 : rv.length ≤ 9000) (hlo : lo ≤ L)
    (h : ∀ g' h' tk v, Sub g g' → Wk g' L h' m ([] ++ (Ra, listOf (List.toArray (pv ++ [v])) (n + 1)) :: (La, listOf (List.toArray (rv ++ [Value.ref Ra])) n') :: post) → TupD lo g' v (wdL k) → Q .next { s with heap := h', toks := tk }) :
    wpAny (model prog w) A (exec lisPut (lisEnv L)) Q E s := by
  have hD := (W.mus (Ra, listOf (List.toArray pv) n) (.head _)).1
  have hDL := (W.mus (La, listOf (List.toArray (rv ++ [Value.ref Ra])) n') (.tail _ (.head _))).1
  refine wpAny_Expr (Meth1 F.plainAttrs_list slot_list_append type_list_append (PyProof.Rows.Subscript_ (ld' (env := lisEnv L) W hmL (PyProof.Rows.UnaryOp_ (wpAny_Constant_int (PyProof.Rows.neg_int ?_))))))
  refine subTail (T := "list") ⟨_, hDL, rfl⟩ slot_list_getitem.lookup (wpAny_getItem_list_neg (x := .ref Ra) ⟨_, hDL, rfl, n', rfl⟩ (by decide) (by simp; lia) (by decide) ?_ ?_) rfl
  · have e : (-1 + ((List.toArray (rv ++ [Value.ref Ra])).size : Int)).toNat = rv.length := by simp; lia
    rw [e]
    simp
  refine ⟨⟨_, hD, rfl⟩, fun a e => by cases e; exact ⟨_, hD, rfl⟩, ?_⟩
  refine ev_tuple2 ?_
  -- the key
  refine ev_idxTup (spliced_cons (cst fun a1 k1 => spliced_cons (cst fun a2 k2 => spliced_cons (cst fun a3 k3 => spliced_cons (cst fun a4 k4 => spliced_nil ⟨by simp, fun ob T ff hT => ?_⟩)))))
  have hTs : T = s.heap.objs.size := hT
  subst hTs
  have W1 := W.push ob
  have g1 : (s.heap.push ob).get? s.heap.objs.size = some ob := Heap.get?_push_size _ ff
  refine ev_mod (s := { s with heap := s.heap.push ob, toks := _ }) 4 (h := ev_fdiv 2 (h := ld' (env := lisEnv L) (s := { s with heap := s.heap.push ob, toks := _ }) W1 hmN ⟨k, u1, rfl, hk, fun u3 t3 => ⟨_, u3, rfl, fun u4 t4 => ⟨g1, k / 2 % 4, u4, ?_⟩⟩⟩))
  have hkey : ∀ j, j < 4 → ∃ u, ([Value.str (ts [97]) a1, Value.str (ts [98]) a2, Value.str (ts [34]) a3, Value.str (ts [97, 92]) a4] : List Value)[j]? = some (.str (ts (keysL.getD j [])) u) :=
    lt4 ⟨_, rfl⟩ ⟨_, rfl⟩ ⟨_, rfl⟩ ⟨_, rfl⟩
  obtain ⟨u5, h5⟩ := hkey _ (Nat.mod_lt (k / 2) (by decide))
  refine ⟨_, rfl, h5, ?_⟩
  -- the value
  generalize hh1 : s.heap.push ob = h1 at W1 g1
  have hxv : (ts (valL k)).length < 1000 := by rw [ts_len]; show (3 : Nat) < _; decide
  refine ev_idxTup (spliced_cons (wpAny_Constant_none (spliced_cons (cst fun b1 k5 => spliced_cons (subStr (env := lisEnv L) (ld' (s := { s with heap := h1, toks := k5 }) W1 hmV (wpAny_pure (evp_int ⟨ts (valL k), u2, none, some (1, k5), hxv, rfl, rfl, rfl, fun h2 u6 t6 kk2 => ?_⟩))))))))
  have W2 := W1.keeps kk2
  refine spliced_cons (subStr (env := lisEnv L) (ld' (s := { s with heap := h2, toks := t6 }) W2 hmV (wpAny_pure (evp_int ⟨ts (valL k), u2, none, some (2, t6), hxv, rfl, rfl, rfl, fun h3 u7 t7 kk3 => ?_⟩))))
  have W3 := W2.keeps kk3
  refine spliced_cons (ld' (env := lisEnv L) (s := { s with heap := h3, toks := t7 }) W3 hmV (spliced_nil ⟨by simp, fun ob2 T2 ff2 hT2 => ?_⟩))
  have hT2s : T2 = h3.objs.size := hT2
  subst hT2s
  have W4 := W3.push ob2
  have g2 : (h3.push ob2).get? h3.objs.size = some ob2 := Heap.get?_push_size _ ff2
  refine ev_mod (s := { s with heap := h3.push ob2, toks := _ }) 5 (h := ev_fdiv 8 (h := ld' (env := lisEnv L) (s := { s with heap := h3.push ob2, toks := _ }) W4 hmN ⟨k, u1, rfl, hk, fun u8 t8 => ⟨_, u8, rfl, fun u9 t9 => ⟨g2, k / 8 % 5, u9, ?_⟩⟩⟩))
  have e1 : cutT 0 (some 1) (tl (ts (valL k))) = (valL k).take 1 := by rw [tl_ts]; rfl
  have e2 : cutT 0 (some 2) (tl (ts (valL k))) = (valL k).take 2 := by rw [tl_ts]; rfl
  have hval : ∀ j, j < 5 → ∃ vv, ([Value.none, .str (ts []) b1, .str (ts ((valL k).take 1)) u6, .str (ts ((valL k).take 2)) u7, .str (ts (valL k)) u2] : List Value)[j]? = some vv ∧ OptV ((optsL (valL k)).getD j none) vv :=
    lt5 ⟨_, rfl, rfl⟩ ⟨_, rfl, ⟨_, rfl⟩⟩ ⟨_, rfl, ⟨_, rfl⟩⟩ ⟨_, rfl, ⟨_, rfl⟩⟩ ⟨_, rfl, ⟨_, rfl⟩⟩
  rw [← e1, ← e2] at hval
  obtain ⟨vv, h6, ho⟩ := hval _ (Nat.mod_lt (k / 8) (by decide))
  refine ⟨vv, rfl, h6, ?_⟩
  -- put
  generalize hh3 : h3.push ob2 = h4 at W4 g2
  obtain ⟨g', s1, s2, W5⟩ := W4.extPush (pairObj #[.str (ts (keysL.getD (k / 2 % 4) [])) u5, vv]) rfl
  refine append_at (W5.mus (Ra, listOf (List.toArray pv) n) (.head _)).1 (fun h5 hs5 ho5 => ?_) (by simp [sizeLine]; lia)
  have W6 := W5.turn (pre := []) hs5.extBut ho5
  rw [List.push_toArray] at W6
  exact h g' h5 _ _ s1 W6 ⟨_, 0, u5, vv, rfl, Nat.le_trans hlo (Nat.le_of_lt W4.Llt), s2, ho⟩

theorem lis_turn {i k : Nat} {e : Addr × Obj} {v : Value} {u0 : Tok} (K : LisK g0 lo L La i e s.heap) (hv : v = .int (k : Int) u0) (hk : k < 2 ^ 30) (hi : i ≤ 100) (hL : lo ≤ L) (r : Rm 8 A) :
    wpAny (model prog w) A (storeName (lisEnv L) "n" v) (fun _ s₂ => wpAny (model prog w) A (execs (bodyOf lisFor) (lisEnv L)) (fun f s₃ => f = .next ∧ ∃ h' tk', s₃ = { s with heap := h', toks := tk' } ∧ LisK g0 lo L La (i + 1) e h') E s₂) E s := by
  obtain ⟨g, m, Ra, pv, n, rv, n', l, p, u, W, hg0, hmM, hmL, hlo, hpv, hrv, gl, gp, hw, hll⟩ := K
  subst hv
  have hm8 : ∀ j, j < 9 → (tl (ts menuL))[j]? = some (menuL.getD j 0) := by rw [tl_ts]; decide
  have hml : (ts menuL).length < 1000 := by rw [ts_len]; decide
  refine st' W fun h1 W1 => ?_
  -- the value
  refine wpAny_execs_cons (wpAny_Assign_Name (wpAny_BinOp (wpAny_BinOp ?_)))
  refine ev_idxStr (ld' (env := lisEnv L) (s := { s with heap := h1, toks := _ }) W1 hmM ⟨_, _, rfl, hml, ev_mod 8 (h := ev_fdiv 40 (h := ld' (s := { s with heap := h1, toks := _ }) W1 rfl ⟨k, u0, rfl, hk, fun u1 t1 => ⟨_, u1, rfl, fun u2 t2 => ⟨_, u2, _, rfl, hm8 _ (by lia), fun u3 t3 => ?_⟩⟩⟩))⟩)
  refine ev_idxStr (ld' (env := lisEnv L) (s := { s with heap := h1, toks := t3 }) W1 hmM ⟨_, _, rfl, hml, ev_mod 9 (h := ev_fdiv 320 (h := ld' (s := { s with heap := h1, toks := _ }) W1 rfl ⟨k, u0, rfl, hk, fun u1 t1 => ⟨_, u1, rfl, fun u2 t2 => ⟨_, u2, _, rfl, hm8 _ (by lia), fun u4 t4 => ?_⟩⟩⟩))⟩)
  refine PyProof.Rows.add_str (s := { s with heap := h1, toks := t4 }) (fun u5 t5 => ?_) (by show (1 + 1 : Nat) ≤ _; decide)
  refine ev_idxStr (ld' (env := lisEnv L) (s := { s with heap := h1, toks := t5 }) W1 hmM ⟨_, _, rfl, hml, ev_mod 9 (h := ev_fdiv 2880 (h := ld' (s := { s with heap := h1, toks := _ }) W1 rfl ⟨k, u0, rfl, hk, fun u1 t1 => ⟨_, u1, rfl, fun u2 t2 => ⟨_, u2, _, rfl, hm8 _ (by lia), fun u6 t6 => ?_⟩⟩⟩))⟩)
  refine PyProof.Rows.add_str (s := { s with heap := h1, toks := t6 }) (fun u7 t7 => ?_) (by show (2 + 1 : Nat) ≤ _; decide)
  have ev : (ts [menuL.getD (k / 40 % 8) 0] ++ ts [menuL.getD (k / 320 % 9) 0] ++ ts [menuL.getD (k / 2880 % 9) 0] : Str) = ts (valL k) := rfl
  rw [ev]
  refine st' (s := { s with heap := h1, toks := t7 }) W1 fun h2 W2 => ?_
  -- a new row
  refine wpAny_execs_cons (wpAny_If (wpAny_isTrue_Compare1 (ev_mod 2 (h := ld' (env := lisEnv L) (s := { s with heap := h2, toks := _ }) W2 rfl ⟨k, u0, rfl, fun u8 t8 => wpAny_Constant_int (PyProof.Rows.eq_int (wpAny_truthy_bool ?_))⟩))))
  have lp := hpv.len
  have ll := hrv.len
  have tail : ∀ (g' h' : Heap) (tk' : Nat) (Ra' : Addr) (pv' : List Value) (k1 : Nat) (rv' : List Value) (k2 : Nat) (l' : List (List Wd)) (p' : List Wd) (m' : Str → Option Value), Sub g g' →
      Wk g' L h' m' ([] ++ (Ra', listOf (List.toArray pv') k1) :: (La, listOf (List.toArray (rv' ++ [Value.ref Ra'])) k2) :: [e]) → m' "menu" = some (.str (ts menuL) u) → m' "lists" = some (.ref La) → m' "n" = some (.int (k : Int) u0) → m' "value" = some (.str (ts (valL k)) u7) → lo ≤ Ra' →
      All2 (TupD lo g') pv' p' → All2 (RowD lo g') rv' l' → (∀ r ∈ l', ∀ w ∈ r, GoodWd w) → (∀ w ∈ p', GoodWd w) → words l' + p'.length = i → l'.length ≤ i + 1 →
      wpAny (model prog w) A (execs [lisPut] (lisEnv L)) (fun f s₃ => f = .next ∧ ∃ h' tk', s₃ = { s with heap := h', toks := tk' } ∧ LisK g0 lo L La (i + 1) e h') E { s with heap := h', toks := tk' } := by
    intro g' h' tk' Ra' pv' k1 rv' k2 l' p' m' kg W' q1 q2 q3 q4 q5 q6 q7 q8 q9 q10 q11
    have := q6.len
    have := q7.len
    refine wpAny_execs_cons (lis_put (lo := lo) (s := { s with heap := h', toks := tk' }) W' q2 q3 q4 hk (by lia) (by lia) hL fun g2 h2 tk2 v kg2 W2 hv => wpAny_execs_nil ⟨rfl, h2, tk2, rfl, ?_⟩)
    refine ⟨g2, m', Ra', pv' ++ [v], k1 + 1, rv', k2, l', p' ++ [wdL k], u, W2, hg0.trans (kg.trans kg2), q1, q2, q5, (q6.imp fun a b x => x.mono (Nat.le_refl _) fun b o _ e => kg2 b o e).snoc hv, q7.imp fun a b x => x.mono (Nat.le_refl _) fun b o _ e => kg2 b o e, q8, ?_, ?_, q11⟩
    · intro w hw
      rcases List.mem_append.mp hw with hw | hw
      · exact q9 w hw
      · rw [List.mem_singleton.mp hw]; exact wdL_good k
    · simp only [List.length_append, List.length_cons, List.length_nil]; lia
  by_cases hodd : k % 2 = 1
  · rw [if_pos (by rw [hodd]; rfl)]
    refine wpAny_execs_cons (wpAny_Expr (ev_appendG (T := Str.ofString "lists") (env := lisEnv L) (s := { s with heap := h2, toks := _ }) (pre := [(Ra, listOf (List.toArray pv) n)]) (post := [e]) W2 hmL (by simp; lia) (ev_listNil ?_)))
    have W3 := W2.pushMu (listOf #[] 0) rfl
    generalize hRad : h2.objs.size = Ra' at W3
    refine ⟨g, [(Ra', listOf #[] 0), (Ra, listOf (List.toArray pv) n)], [e], W3, fun h4 W4 => ?_⟩
    rw [List.push_toArray] at W4
    obtain ⟨g5, s5, q5, W5⟩ := Wk.settle (pre := [(Ra', listOf #[] 0)]) W4
    have hlo' : lo ≤ Ra' := by rw [← hRad]; exact Nat.le_trans hL (Nat.le_of_lt W2.Llt)
    have hpv5 : All2 (TupD lo g5) pv p := hpv.imp fun a b x => x.mono (Nat.le_refl _) fun b o _ e => s5 b o e
    have hrv5 : All2 (RowD lo g5) rv l := hrv.imp fun a b x => x.mono (Nat.le_refl _) fun b o _ e => s5 b o e
    refine wpAny_execs_nil ?_
    refine wpAny_mono (tail g5 h4 _ Ra' [] 0 (rv ++ [Value.ref Ra]) (n' + 1) (l ++ [p]) [] _ s5 W5 hmM hmL rfl rfl hlo' .nil (hrv5.snoc ⟨Ra, pv, n, rfl, hlo, q5, hpv5⟩) ?_ (fun w hw => by cases hw) ?_ ?_) (fun f s' q => q) fun _ _ q => q
    · intro r hr w hw
      rcases List.mem_append.mp hr with hr | hr
      · exact gl r hr w hw
      · rw [List.mem_singleton.mp hr] at hw; exact gp w hw
    · unfold words at hw ⊢
      simp only [List.map_append, List.sum_append, List.map_cons, List.map_nil, List.sum_cons, List.sum_nil, List.length_nil]; lia
    · simp only [List.length_append, List.length_cons, List.length_nil]; lia
  · have h0 : k % 2 = 0 := by lia
    rw [if_neg (by rw [h0]; decide)]
    refine wpAny_execs_nil ?_
    exact wpAny_mono (tail g h2 _ Ra pv n rv n' l p _ (Sub.refl _) W2 hmM hmL rfl rfl hlo hpv hrv gl gp hw (by lia)) (fun f s' q => q) fun _ _ q => q
end
end Mine
end

section
set_option autoImplicit false
set_option maxRecDepth 100000
set_option linter.unusedSimpArgs false
set_option linter.unusedVariables false
namespace Mine
open PySem PySem.W PySem.Calls PyProof.Rows PySem.Sre

theorem Walks.weak {prog : Program} {w : World} {A : Around} {I : Addr} {fp wr : List Addr} {n : Nat} {P P' : Nat → Value → Prop} {St : Nat → Heap → Prop} (W : Walks prog w A I fp wr n P St) (hP : ∀ i v, i < n → P i v → P' i v) : Walks prog w A I fp wr n P' St where
  sub := W.sub
  frame := W.frame
  item := fun i s Q E hi st hQ => W.item i s Q E hi st fun v h' tk hv a b => hQ v h' tk (hP i v hi hv) a b
  done := W.done
  self := W.self

/-- an iterator over the items -/
def ItSrc {α : Type} (prog : Program) (w : World) (A : Around) (s : Shared) (items : List α) (V : α → Value → Prop) (it : Value) (s₂ : Shared) : Prop :=
  ∃ (I : Addr) (fp wr : List Addr) (St : Nat → Heap → Prop) (h : Heap) (tk : Nat), it = .ref I ∧ s₂ = { s with heap := h, toks := tk } ∧ Sub s.heap h ∧
    Walks prog w A I fp wr items.length (fun i v => ∃ a, items[i]? = some a ∧ V a v) St ∧ St 0 h ∧ (∀ b ∈ fp, b < h.objs.size) ∧ (∀ b ∈ wr, s.heap.get? b = none)

section
variable {prog : Program} {w : World} {A : Around} {E : Value → Shared → Prop} {s : Shared} {env : Env}
theorem src_list {ax : Addr} {vs : List Value} (hh : A.handled = none) (hl : s.heap.IsList ax vs.toArray) : wpAny (model prog w) A (pyIter (.ref ax)) (ItSrc prog w A s vs (fun a v => v = a)) E s := by
  have hlt : ax < s.heap.objs.size := let ⟨o, ho, _⟩ := hl; Heap.lt_size ho
  have W := Walks.list (prog := prog) (w := w) (A := A) hh s.heap.objs.size ax (Nat.ne_of_lt hlt) vs.toArray
  have hn : vs.toArray.size = vs.length := by simp
  rw [hn] at W
  have W' := Walks.weak (P' := fun i v => ∃ a, vs[i]? = some a ∧ v = a) W fun i v hi hv => ⟨v, by simpa using hv, rfl⟩
  refine wpAny_pyIter_list hl ⟨_, _, _, _, _, _, rfl, rfl, fun _ _ e => Heap.get?_push_of_some _ e, W', ⟨⟨_, Heap.get?_push_size _ rfl, rfl, rfl⟩, hl.push _⟩, ?_, fun b hb => ?_⟩
  · intro b hb
    rw [Heap.size_push]
    rcases List.mem_cons.mp hb with rfl | hb
    · exact Nat.lt_succ_self _
    · rw [List.mem_singleton.mp hb]; exact Nat.lt_succ_of_lt hlt
  · rw [List.mem_singleton.mp hb]; exact Heap.get?_none_of_le (Nat.le_refl _)
theorem src_tuple {ax : Addr} {vs : List Value} (hh : A.handled = none) (hl : s.heap.IsTuple ax vs.toArray) : wpAny (model prog w) A (pyIter (.ref ax)) (ItSrc prog w A s vs (fun a v => v = a)) E s := by
  have hlt : ax < s.heap.objs.size := let ⟨o, ho, _⟩ := hl; Heap.lt_size ho
  have W := Walks.tuple (prog := prog) (w := w) (A := A) hh s.heap.objs.size ax (Nat.ne_of_lt hlt) vs.toArray
  have hn : vs.toArray.size = vs.length := by simp
  rw [hn] at W
  have W' := Walks.weak (P' := fun i v => ∃ a, vs[i]? = some a ∧ v = a) W fun i v hi hv => ⟨v, by simpa using hv, rfl⟩
  refine wpAny_pyIter_tuple hl ⟨_, _, _, _, _, _, rfl, rfl, fun _ _ e => Heap.get?_push_of_some _ e, W', ⟨⟨_, Heap.get?_push_size _ rfl, rfl, rfl⟩, hl.push _⟩, ?_, fun b hb => ?_⟩
  · intro b hb
    rw [Heap.size_push]
    rcases List.mem_cons.mp hb with rfl | hb
    · exact Nat.lt_succ_self _
    · rw [List.mem_singleton.mp hb]; exact Nat.lt_succ_of_lt hlt
  · rw [List.mem_singleton.mp hb]; exact Heap.get?_none_of_le (Nat.le_refl _)
def StrC (c : Nat) (v : Value) : Prop := ∃ u, v = .str (ts [c]) u
theorem src_str {x : Str} {t : Tok} (hh : A.handled = none) : wpAny (model prog w) A (pyIter (.str x t)) (ItSrc prog w A s (tl x) StrC) E s := by
  have hn : x.cps.size = (tl x).length := by simp [tl]
  have key : ∀ (k : String) (W : Walks prog w A s.heap.objs.size [s.heap.objs.size] [s.heap.objs.size] x.cps.size (SignAt x) (fun i h => h.IsStrIter s.heap.objs.size k x t i)),
      ItSrc prog w A s (tl x) StrC (.ref s.heap.objs.size) { s with heap := s.heap.push { cls := .type k, data := .fields #[.str x t, .int 0 0] } } := by
    intro k W
    rw [hn] at W
    refine ⟨_, _, _, _, _, _, rfl, rfl, fun _ _ e => Heap.get?_push_of_some _ e, Walks.weak W fun i v hi hv => ?_, ⟨_, Heap.get?_push_size _ rfl, rfl, rfl⟩, ?_, fun b hb => ?_⟩
    · obtain ⟨c, u, hc, rfl⟩ := hv
      refine ⟨c, ?_, u, rfl⟩
      rw [← hc]; simp [tl]
    · intro b hb
      rw [List.mem_singleton.mp hb, Heap.size_push]; exact Nat.lt_succ_self _
    · rw [List.mem_singleton.mp hb]; exact Heap.get?_none_of_le (Nat.le_refl _)
  cases ha : x.cps.all (· < 128) with
  | true => exact wpAny_pyIter_ascii ha (key _ (Walks.strAscii hh _ x t))
  | false => exact wpAny_pyIter_wide ha (key _ (Walks.strWide hh _ x t))
end
end Mine
end

section
set_option autoImplicit false
set_option maxRecDepth 100000
set_option linter.unusedSimpArgs false
set_option linter.unusedVariables false
namespace Mine
open PySem PySem.W PySem.Calls PyProof.Rows PySem.Sre

theorem all2_of_get {α : Type} {V : α → Value → Prop} : ∀ (items : List α) (vs : List Value), vs.length = items.length → (∀ (j : Nat) (v : Value), vs[j]? = some v → ∃ a, items[j]? = some a ∧ V a v) → All2 V items vs
  | [], [], _, _ => .nil
  | [], _ :: _, h, _ => by simp at h
  | _ :: _, [], h, _ => by simp at h
  | a :: as, v :: vs, h, hg => by
    obtain ⟨a', e, hv⟩ := hg 0 v rfl
    simp at e; subst e
    exact .cons hv (all2_of_get as vs (by simpa using h) fun j v' hj => by simpa using hg (j + 1) v' (by simpa using hj))
open Classical in
theorem paired_all2 {α : Type} {items : List α} {V : α → Value → Prop} {pa : α → Bool} {F : α → Value → Prop} (hfun : ∀ a a' v, V a v → V a' v → a = a')
    {as : List α} {vs : List Value} (X : All2 V as vs) (hm : ∀ a ∈ as, a ∈ items) {ys : List Value} (hp : Paired (fun v y => ∃ a ∈ items, V a v ∧ F a y) (vs.filter fun v => decide (∃ a ∈ items, V a v ∧ pa a = true)) ys) : All2 F (as.filter pa) ys := by
  induction X generalizing ys with
  | nil => cases hp; exact .nil
  | @cons a v as vs hv ht ih =>
    have ih' := fun {ys : List Value} => ih (ys := ys) (fun b hb => hm b (.tail _ hb))
    have hma := hm a (.head _)
    have e : decide (∃ a ∈ items, V a v ∧ pa a = true) = pa a := by
      rw [Bool.eq_iff_iff, decide_eq_true_eq]
      constructor
      · rintro ⟨a', _, h1, h2⟩
        rw [← hfun _ _ _ h1 hv]; exact h2
      · exact fun h => ⟨a, hma, hv, h⟩
    rw [List.filter_cons, e] at hp
    rw [List.filter_cons]
    cases hpa : pa a with
    | true =>
      rw [hpa, if_pos rfl] at hp
      rw [if_pos rfl]
      cases hp with
      | cons h1 h2 =>
        obtain ⟨a', _, q1, q2⟩ := h1
        rw [hfun _ _ _ q1 hv] at q2
        exact .cons q2 (ih' h2)
    | false =>
      rw [hpa, if_neg (by decide)] at hp
      rw [if_neg (by decide)]
      exact ih' hp

section
variable {prog : Program} {w : World} {A : Around} {E : Value → Shared → Prop} {s : Shared} {env : Env} {g : Heap} {m : Str → Option Value} {mu : List (Addr × Obj)} {Q : Value → Shared → Prop}
open Classical in
/-- a list comprehension without names from without -/
theorem ev_comp {α : Type} {items : List α} {V : α → Value → Prop} (pa : α → Bool) (F : α → Value → Prop) {elt iter : Expr} {x : Str} {px : Pos} {ifs : List Expr} {scope : Scope} {pos : Pos} (W : Wk g env.locals s.heap m mu)
    (hfun : ∀ a a' v, V a v → V a' v → a = a') (hz : items.length ≤ 10000)
    (hiter : wpAny (model prog w) A (eval iter env) (fun xv s₁ => (∃ h tk, s₁ = { s with heap := h, toks := tk } ∧ Sub s.heap h) ∧ wpAny (model prog w) A (pyIter xv) (ItSrc prog w A s₁ items V) E s₁) E s)
    (tests : ∀ C a v s₃ m₃ E', a ∈ items → V a v → Sub s.heap s₃.heap → s₃.heap.Ns C m₃ → m₃ x = some v →
      wpAny (model prog w) A (forIn ifs true fun c r => if r = true then do let ok ← isTrue c (compEnv scope C env) (eval c (compEnv scope C env)); pure (ForInStep.yield ok) else pure (ForInStep.yield r)) (fun ok s₄ => ok = pa a ∧ Keeps s₃ s₄) E' s₃)
    (elts : ∀ C a v s₃ m₃ E', a ∈ items → V a v → pa a = true → Sub s.heap s₃.heap → s₃.heap.Ns C m₃ → m₃ x = some v → wpAny (model prog w) A (eval elt (compEnv scope C env)) (fun y s₄ => F a y ∧ Keeps s₃ s₄) E' s₃)
    (hQ : ∀ g' h' tk D ys n, Sub g g' → Sub s.heap h' → Wk g' env.locals h' m mu → g'.get? D = some (listOf (List.toArray ys) n) → s.heap.get? D = none → All2 F (items.filter pa) ys → Q (.ref D) { s with heap := h', toks := tk })
    (hfree : ∀ y ∈ scope.names, y.2 ≠ .free := by decide) (hcell : ∀ y ∈ scope.names, y.2 ≠ .cell := by decide) (hkind : scope.kind = .function := by rfl)
    (hnames : ∀ y ∈ scope.names, y.2 = .local → scope.names.lookup y.1 = some .local := by decide) (hx : scope.names.lookup x = some .local := by rfl)
    (hs : ∀ x, foldedSetIterable iter env x = pure x := by intro _; rfl) :
    wpAny (model prog w) A (eval (.ListComp elt [⟨.Name x px, iter, ifs, 0⟩] scope pos) env) Q E s := by
  refine wpAny_ListComp_walk (fun v => decide (∃ a ∈ items, V a v ∧ pa a = true)) (fun v y => ∃ a ∈ items, V a v ∧ F a y) hfree hcell hkind hnames hx (wpAny_mono hiter (fun xv s₁ h₁ => ?_) fun _ _ e => e) hs
  obtain ⟨⟨h, tk, rfl, k1⟩, h₁⟩ := h₁
  refine wpAny_mono h₁ (fun it s₂ h₂ => ?_) fun _ _ e => e
  obtain ⟨I, fp, wr, St, h2, tk2, rfl, rfl, k2, WW, hst, hfp, hwr⟩ := h₂
  have hwr' : ∀ b o, s.heap.get? b = some o → b ∉ wr := fun b o e hb => by
    have := hwr b hb
    rw [show ({ s with heap := h, toks := tk } : Shared).heap.get? b = some o from k1 _ _ e] at this
    cases this
  refine ⟨I, fp, wr, items.length, _, St, rfl, WW, by simp [sizeLine]; lia, hst, hfp, ⟨?_, ?_⟩, ?_⟩
  · intro C i v s₃ m₃ E' hv hn hm hk htk
    obtain ⟨a, ha, hva⟩ := hv
    have hma := List.mem_of_getElem? ha
    refine wpAny_mono (tests C a v s₃ m₃ E' hma hva (fun b o e => hk b o (hwr' b o e) (k2 _ _ (k1 _ _ e))) hn hm) (fun ok s₄ q => ⟨?_, q.2⟩) fun _ _ e => e
    rw [q.1, Bool.eq_iff_iff, decide_eq_true_eq]
    constructor
    · exact fun h => ⟨a, hma, hva, h⟩
    · rintro ⟨a', _, h1, h2⟩
      rw [← hfun _ _ _ h1 hva]; exact h2
  · intro C i v s₃ m₃ E' hv hp hn hm hk htk
    obtain ⟨a, ha, hva⟩ := hv
    have hma := List.mem_of_getElem? ha
    have hpa : pa a = true := by
      obtain ⟨a', _, h1, h2⟩ := of_decide_eq_true hp
      rw [← hfun _ _ _ h1 hva]; exact h2
    exact wpAny_mono (elts C a v s₃ m₃ E' hma hva hpa (fun b o e => hk b o (hwr' b o e) (k2 _ _ (k1 _ _ e))) hn hm) (fun y s₄ q => ⟨⟨a, hma, hva, q.1⟩, q.2⟩) fun _ _ e => e
  · intro D h' tk' ys vs hD hl hpl hlen hP hF hk
    have kk : Sub s.heap h' := fun b o e => hk b o (hwr' b o e) (k2 _ _ (k1 _ _ e))
    obtain ⟨n, hpl⟩ := hpl
    have hDn : s.heap.get? D = none := by
      cases q : s.heap.get? D with
      | none => rfl
      | some o =>
        have : h2.get? D = none := hD
        rw [k2 _ _ (k1 _ _ q)] at this; cases this
    obtain ⟨g', s1, s2, W'⟩ := W.ext kk
    refine hQ g' h' tk' D ys.toList n s1 kk W' (s2 _ _ hDn (by simpa using hpl)) hDn ?_
    exact paired_all2 hfun (all2_of_get items vs hlen hP) (fun a h => h) hF
end
end Mine
end

section
set_option autoImplicit false
set_option maxRecDepth 100000
set_option linter.unusedSimpArgs false
set_option linter.unusedVariables false
namespace Mine
open PySem PySem.W PySem.Calls PyProof.Rows PySem.Sre

section
variable {M : Model} {prog : Program} {w : World} {A : Around} {E : Value → Shared → Prop} {s : Shared} {env : Env}
theorem one_test {c : Expr} {Q : Bool → Shared → Prop} (h : wpAny M A (isTrue c env (eval c env)) Q E s) :
    wpAny M A (forIn [c] true fun c r => if r = true then do let ok ← isTrue c env (eval c env); pure (ForInStep.yield ok) else pure (ForInStep.yield r)) Q E s := by
  rw [List.forIn_cons]
  refine wpAny_bind ?_
  rw [if_pos rfl]
  refine wpAny_bind (wpAny_mono h (fun ok s₁ h₁ => wpAny_pure ?_) fun _ _ e => e)
  dsimp only
  rw [List.forIn_nil]
  exact wpAny_pure h₁
theorem no_test {f : Expr → Bool → Sem (ForInStep Bool)} {Q : Bool → Shared → Prop} (h : Q true s) : wpAny M A (forIn ([] : List Expr) true f) Q E s := by
  rw [List.forIn_nil]
  exact wpAny_pure h
/-- a name of the frame C -/
theorem ldN {x : Str} {pos : Pos} {v : Value} {m : Str → Option Value} {Q : Value → Shared → Prop} (hn : s.heap.Ns env.locals m) (hv : m x = some v) (h : Q v s)
    (hk : env.scope.kind = .function := by rfl) (hl : env.kindOf x = some .local := by rfl) (hd : (x == ("__debug__" : Str)) = false := by decide) :
    wpAny M A (eval (.Name x pos) env) Q E s := wpAny_Name (wpAny_loadName_local hk hl hn hv h) hd
end

theorem GoodWd.small {w : Wd} (G : GoodWd w) : SmW w := by
  have al : ∀ {t : Txt}, ALt t → Sm t := fun {t} h c hc => by
    rcases h c hc with h | h | h | h | h | h | h | h | h <;> lia
  exact ⟨al G.al.1, fun v hv => al (G.al.2 v hv)⟩

def IntV (v : Value) (k : Nat) : Prop := ∃ u, v = .int (k : Int) u
def GoodL (l : List (List Wd)) : Prop := ∀ r ∈ l, r ≠ [] ∧ ∀ w ∈ r, GoodWd w

theorem words_filter : ∀ (l : List (List Wd)), words (l.filter fun r => !decide (r = [])) = words l
  | [] => rfl
  | r :: l => by
    have := words_filter l
    unfold words at this ⊢
    rw [List.filter_cons]
    by_cases h : r = []
    · subst h
      simp at this ⊢
      exact this
    · have hd : (!decide (r = [])) = true := by simp [h]
      rw [hd]
      simp at this ⊢
      exact this

theorem OptV.inj {a b : Option Txt} {v : Value} (h : OptV a v) (h' : OptV b v) : a = b := by
  cases a with
  | none =>
    cases b with
    | none => rfl
    | some y => obtain ⟨u, e⟩ := h'; rw [show v = .none from h] at e; cases e
  | some x =>
    obtain ⟨u, rfl⟩ := h
    cases b with
    | none => cases (show Value.str (ts x) u = .none from h')
    | some y => obtain ⟨u', e⟩ := h'; injection e with e _; rw [ts_inj.mp e]
theorem TupD.inj {lo lo' : Nat} {g : Heap} {v : Value} {a b : Wd} (h : TupD lo g v a) (h' : TupD lo' g v b) : a = b := by
  obtain ⟨x, n, u, vv, rfl, _, e, ho⟩ := h
  obtain ⟨x', n', u', vv', e1, _, e', ho'⟩ := h'
  cases e1
  rw [e] at e'
  injection e' with e'
  injection e' with _ _ e' _
  injection e' with e' _
  have e2 := congrArg Array.toList e'
  injection e2 with e3 e4
  injection e3 with e3 _
  injection e4 with e4 _
  subst e4
  exact Prod.ext (ts_inj.mp e3) (ho.inj ho')
theorem All2.inj {α β : Type} {R : α → β → Prop} (hR : ∀ a b b', R a b → R a b' → b = b') {as : List α} {bs bs' : List β} (X : All2 R as bs) (Y : All2 R as bs') : bs = bs' := by
  induction X generalizing bs' with
  | nil => cases Y; rfl
  | cons x _ ih =>
    cases Y with
    | cons x' y' => rw [hR _ _ _ x x', ih y']
theorem RowD.inj {lo lo' : Nat} {g : Heap} {v : Value} {a b : List Wd} (h : RowD lo g v a) (h' : RowD lo' g v b) : a = b := by
  obtain ⟨x, vs, n, rfl, _, e, ho⟩ := h
  obtain ⟨x', vs', n', e1, _, e', ho'⟩ := h'
  cases e1
  rw [e] at e'
  injection e' with e'
  injection e' with _ _ e' _
  injection e' with e' _
  have e2 : vs = vs' := congrArg Array.toList e'
  subst e2
  exact (ho.imp fun a b x => x.mono (Nat.zero_le _) fun b o _ e => e).inj (fun a b b' x y => x.inj y) (ho'.imp fun a b x => x.mono (Nat.zero_le _) fun b o _ e => e)
theorem All2.zipGet {α β : Type} {R : α → β → Prop} {as : List α} {bs : List β} (X : All2 R as bs) : ∀ (i : Nat) (a : α), as[i]? = some a → ∃ b, (as.zip bs)[i]? = some (a, b) ∧ R a b := by
  induction X with
  | nil => exact fun i a h => nomatch h
  | cons x _ ih =>
    intro i a h
    cases i with
    | zero => cases h; exact ⟨_, rfl, x⟩
    | succ i => exact ih i a h
theorem All2.zipLen {α β : Type} {R : α → β → Prop} {as : List α} {bs : List β} (h : All2 R as bs) : (as.zip bs).length = as.length := by
  rw [List.length_zip, h.len, Nat.min_self]
theorem All2.zipMem {α β : Type} {R : α → β → Prop} {as : List α} {bs : List β} (X : All2 R as bs) : ∀ x ∈ as.zip bs, R x.1 x.2 ∧ x.2 ∈ bs := by
  induction X with
  | nil => exact fun x h => nomatch h
  | cons a _ ih =>
    intro x h
    rw [List.zip_cons_cons] at h
    rcases List.mem_cons.mp h with rfl | h
    · exact ⟨a, .head _⟩
    · exact ⟨(ih x h).1, .tail _ (ih x h).2⟩
theorem ItSrc.zip {β : Type} {prog : Program} {w : World} {A : Around} {s s₂ : Shared} {vs : List Value} {xs : List β} {R : Value → β → Prop} {it : Value} (h : ItSrc prog w A s vs (fun a v => v = a) it s₂) (hR : All2 R vs xs) :
    ItSrc prog w A s (vs.zip xs) (fun a v => v = a.1 ∧ R a.1 a.2) it s₂ := by
  obtain ⟨I, fp, wr, St, h, tk, e1, e2, k, W, a, b, c⟩ := h
  refine ⟨I, fp, wr, St, h, tk, e1, e2, k, ?_, a, b, c⟩
  rw [hR.zipLen]
  refine Walks.weak W fun i v hi hv => ?_
  obtain ⟨x, e, rfl⟩ := hv
  obtain ⟨y, e3, e4⟩ := hR.zipGet i _ e
  exact ⟨_, e3, rfl, e4⟩

section
variable {prog : Program} {w : World} {A : Around} {E : Value → Shared → Prop} {s : Shared} {P : Params} {mg mb : Str → Option Value}
/-- _law_lists -/
theorem call_lis {Q : Value → Shared → Prop} {wx : Addr} {vs : List Value} {n : Nat} {ks : List Nat} (B : Bs P mg mb s.heap) (r : Rm 12 A) (hl : s.heap.get? wx = some (listOf (List.toArray vs) n)) (hv : All2 IntV vs ks) (hk : ∀ k ∈ ks, k < 2 ^ 30) (hlen : ks.length ≤ 100)
    (hQ : ∀ h' tk D l, Sub s.heap h' → s.heap.get? D = none → ListsD s.heap.objs.size h' (.ref D) l → GoodL l → words l = ks.length → Q (.ref D) { s with heap := h', toks := tk }) :
    wpAny (model prog w) A (call (.ref 75) [.ref wx]) Q E s := by
  refine call_fn (n := 11) [] (by simp) (by simp) r (B.K 75 _ rfl) B.lim (codeRec_of B.K (by rfl)) (binds := [("words", .ref wx)]) (by rfl) (locs (by rfl)) fun A' g h₁ tk r' hs hg hkp W => ?_
  have lv := hv.len
  have hg' : Sub s.heap g := fun b o e => hg b o (by simp) e
  refine wpAny_execs_cons (wpAny_Assign_Name (cst fun u1 t1 => st' (s := { s with heap := h₁, toks := t1 }) W fun h2 W2 => ?_))
  refine wpAny_execs_cons (wpAny_Assign_Name (List_ ?_))
  show wpAny _ _ (spliced [(false, eval (.List [] _) _)]) _ _ _
  refine spliced_cons (ev_listNil (s := { s with heap := h2, toks := t1 + 1 }) (spliced_nil (wpAny_newList ?_ (by simp [sizeLine]))))
  have W3 := (W2.pushMu (listOf #[] 0) rfl).pushMu (listOf (List.toArray ([] ++ [Value.ref h2.objs.size])) 0) rfl
  refine st' (s := { s with heap := (h2.push (listOf #[] 0)).push (listOf (List.toArray ([] ++ [Value.ref h2.objs.size])) 0), toks := t1 + 1 }) W3 fun h4 W4 => ?_
  have hloR : s.heap.objs.size ≤ h2.objs.size := Nat.le_of_lt W2.Llt
  have hloL : s.heap.objs.size ≤ (h2.push (listOf #[] 0)).objs.size := by rw [Heap.size_push]; lia
  clear W3
  generalize h2.objs.size = Ra at W4 hloR
  generalize (h2.push (listOf #[] 0)).objs.size = La at W4 hloL
  generalize hL : s.heap.objs.size = L at W4 hloR hloL
  refine wpAny_execs_cons (for_list (env := lisEnv L) (s := { s with heap := h4, toks := t1 + 1 + 1 }) (ax := wx) (items := vs) (fun i e h => LisK g L L La i e h) r'.hd ?_ ?_ ?_ ?_ ?_)
  · refine ld' (env := lisEnv L) (s := { s with heap := h4, toks := t1 + 1 + 1 }) W4 rfl ⟨rfl, ⟨h4, _, rfl⟩, ⟨_, W4.keep _ _ (hg' _ _ hl), rfl, n, rfl⟩, fun oI it hf => ?_⟩
    have W5 := (W4.pushMu oI hf).perm (mu' := [(Ra, listOf #[] 0), (La, listOf (List.toArray ([] ++ [Value.ref Ra])) 0)] ++ [(h4.objs.size, oI)]) ((List.Perm.cons _ (List.Perm.swap _ _ _)).trans (List.perm_append_singleton _ _).symm)
    exact ⟨g, _, Ra, [], 0, [], 0, [], [], u1, W5, Sub.refl _, rfl, rfl, hloR, .nil, .nil, (fun r hr => by cases hr), (fun w hw => by cases hw), rfl, Nat.le_refl _⟩
  · rintro i e h ⟨g1, m1, Ra', pv, n1, rv, n2, l, p, u, W', hg0, q1, q2, q3, q4, q5, q6⟩
    exact ⟨(W'.mus e (List.mem_append_right _ (.head _))).1, ⟨_, W'.keep _ _ (hg0 _ _ (hg' _ _ hl)), rfl, n, rfl⟩⟩
  · rintro i I oI oI' h h' ⟨g1, m1, Ra', pv, n1, rv, n2, l, p, u, W', hg0, q⟩ hs' ho'
    exact ⟨g1, m1, Ra', pv, n1, rv, n2, l, p, u, W'.turn hs'.extBut ho', hg0, q⟩
  · intro i v e h tk' E' hvi K
    have hi : i < ks.length := by rw [← lv]; exact (List.getElem?_eq_some_iff.mp hvi).1
    obtain ⟨k, ht⟩ : ∃ k, ks[i]? = some k := ⟨_, List.getElem?_eq_getElem hi⟩
    obtain ⟨u, hu⟩ := hv.get i v k hvi ht
    exact lis_turn (s := { s with heap := h, toks := tk' }) K hu (hk k (List.mem_of_getElem? ht)) (by lia) (Nat.le_refl _) (r'.le (by lia))
  · rintro I oI h h' tk' ⟨g1, m1, Ra', pv, n1, rv, n2, l, p, u, W', hg0, q1, q2, q3, q4, q5, q6, q7, q8, q9⟩ hx
    have W5 := W'.drop hx
    rw [List.append_nil] at W5
    obtain ⟨g6, s6, f6, W6⟩ := Wk.settle (pre := []) W5
    obtain ⟨g7, s7, f7, W7⟩ := Wk.settle (pre := []) (post := []) W6
    have k7 := s6.trans s7
    have hrows : All2 (RowD L g7) (rv ++ [Value.ref Ra']) (l ++ [p]) := (q5.imp fun a b x => x.mono (Nat.le_refl _) fun b o _ e => k7 b o e).snoc ⟨Ra', pv, n1, rfl, q3, s7 _ _ f6, q4.imp fun a b x => x.mono (Nat.le_refl _) fun b o _ e => k7 b o e⟩
    have gAll : ∀ r ∈ l ++ [p], ∀ w ∈ r, GoodWd w := fun r hr w hw => by
      rcases List.mem_append.mp hr with hr | hr
      · exact q6 r hr w hw
      · rw [List.mem_singleton.mp hr] at hw; exact q7 w hw
    have hwords : words (l ++ [p]) = ks.length := by
      rw [← lv, ← q8]; simp [words]
    have hll := hrows.len
    have hle : (l ++ [p]).length ≤ 200 := by simp only [List.length_append, List.length_cons, List.length_nil]; lia
    refine wpAny_execs_cons (wpAny_Return_some (ev_comp (env := lisEnv L) (s := { s with heap := h', toks := tk' }) (items := (rv ++ [Value.ref Ra']).zip (l ++ [p])) (V := fun a v => v = a.1 ∧ RowD L g7 a.1 a.2) (fun a => !decide (a.2 = [])) (fun a y => y = a.1) W7
      (fun a a' v h1 h2 => ?_) (by rw [hrows.zipLen, hll]; lia) ?_ ?_ ?_ ?_))
    · have e1 : a.1 = a'.1 := h1.1.symm.trans h2.1
      have r2 := h2.2
      rw [← e1] at r2
      exact Prod.ext e1 (h1.2.inj r2)
    · refine ld' (env := lisEnv L) (s := { s with heap := h', toks := tk' }) W7 q2 ⟨⟨h', tk', rfl, Sub.refl _⟩, ?_⟩
      exact wpAny_mono (src_list (s := { s with heap := h', toks := tk' }) r'.hd ⟨_, W7.keep _ _ f7, rfl, n2, rfl⟩) (fun it s₂ q => q.zip hrows) fun _ _ q => q
    · intro C a v s₃ m₃ E' ha hV hk3 hn hm
      obtain ⟨rfl, hr⟩ := hV
      have hmem := hrows.zipMem a ha
      refine one_test (wpAny_isTrue_Compare1 (ldN hn hm (ev_listNil (ne_rows (lo := L) (lo' := 0) (l := a.2) (l' := []) ?_ ⟨_, [], 0, rfl, Nat.zero_le _, Heap.get?_push_size _ rfl, .nil⟩ (fun w hw => (gAll _ hmem.2 w hw).small) (fun w hw => by cases hw) (r'.le (by lia)) (wpAny_truthy_bool ⟨rfl, ?_⟩)))))
      · exact hr.mono (Nat.le_refl _) fun b o _ e => Heap.get?_push_of_some _ (hk3 _ _ (W7.keep _ _ e))
      · exact ⟨_, s₃.toks, rfl, fun b o e => Heap.get?_push_of_some _ e⟩
    · intro C a v s₃ m₃ E' ha hV hpa hk3 hn hm
      exact ldN hn hm ⟨hV.1, s₃.heap, s₃.toks, rfl, fun _ _ e => e⟩
    · intro g8 h8 tk8 D ys n8 s8 k8 W8 hD hDn hF
      refine ⟨_, rfl, ?_⟩
      have hmono : ∀ b o, L ≤ b → g7.get? b = some o → h8.get? b = some o := fun b o _ e => k8 _ _ (W7.keep _ _ e)
      have kA : Sub s.heap h' := fun b o e => W7.keep _ _ (k7 _ _ (hg0 _ _ (hg' _ _ e)))
      refine hQ h8 tk8 D ((l ++ [p]).filter fun r => !decide (r = [])) (kA.trans k8) ?_ ?_ ?_ ?_
      · cases q : s.heap.get? D with
        | none => rfl
        | some o =>
          have e9 : h'.get? D = none := hDn
          rw [kA _ _ q] at e9; cases e9
      · rw [hL]
        refine ⟨D, ys, n8, rfl, W8.keep _ _ hD, ?_⟩
        have zip2 : ∀ {as : List Value} {bs : List (List Wd)} {ys : List Value}, All2 (RowD L g7) as bs → All2 (fun (a : Value × List Wd) y => y = a.1) ((as.zip bs).filter fun a => !decide (a.2 = [])) ys → All2 (RowD L h8) ys (bs.filter fun r => !decide (r = [])) := by
          intro as bs ys h1
          induction h1 generalizing ys with
          | nil => intro h2; cases h2; exact .nil
          | @cons a b as bs hab hr ih =>
            intro h2
            rw [List.zip_cons_cons, List.filter_cons] at h2
            rw [List.filter_cons]
            by_cases hb : b = []
            · have e0 : (!decide (b = [])) = false := by simp [hb]
              rw [e0, if_neg (by decide)] at h2 ⊢
              exact ih h2
            · have e0 : (!decide (b = [])) = true := by simp [hb]
              rw [e0, if_pos rfl] at h2 ⊢
              cases h2 with
              | cons q1 q2 =>
                rw [q1]
                exact .cons (hab.mono (Nat.le_refl _) hmono) (ih q2)
        exact zip2 hrows hF
      · intro r hr
        obtain ⟨h1, h2⟩ := List.mem_filter.mp hr
        exact ⟨by simpa using h2, gAll r h1⟩
      · rw [words_filter, hwords]
end
end Mine
end

section
set_option autoImplicit false
set_option maxRecDepth 100000
set_option linter.unusedSimpArgs false
set_option linter.unusedVariables false
namespace Mine
open PySem PySem.W PySem.Calls PyProof.Rows PySem.Sre

theorem in_sign_iff (y : Str) (c : Nat) : (!(Builtin.Str.occurrences y (ts [c]) 0 y.length 1).isEmpty) = (tl y).contains c := by
  rw [Bool.eq_iff_iff, StrLaws.found_iff, List.contains_iff_mem]
  constructor
  · rintro ⟨i, h1, h2⟩
    rw [StrLaws.subAt_eq, beq_iff_eq] at h2
    have h3 : ((tl y).drop i).take 1 = [c] := h2
    have : c ∈ ((tl y).drop i).take 1 := by rw [h3]; exact .head _
    exact List.mem_of_mem_drop (List.mem_of_mem_take this)
  · intro h
    obtain ⟨i, hi, e⟩ := List.getElem_of_mem h
    refine ⟨i, ?_, ?_⟩
    · have := tl_len y
      show i + 1 ≤ y.length
      lia
    · rw [StrLaws.subAt_eq, beq_iff_eq]
      show ((tl y).drop i).take 1 = [c]
      rw [List.drop_eq_getElem_cons hi, e]; rfl

theorem strsAre_of {vs : List Value} {txts : List Txt} (h : All2 StrT vs txts) : StrsAre vs (txts.map ts) := by
  induction h with
  | nil => exact .nil
  | cons hv _ ih => obtain ⟨u, rfl⟩ := hv; exact .cons _ u ih

section
variable {prog : Program} {w : World} {A : Around} {E : Value → Shared → Prop} {s : Shared} {env : Env} {Q : Value → Shared → Prop}
theorem in_sign {c : Nat} {y : Str} {t u : Tok} (h : Q (.bool ((tl y).contains c)) s) : wpAny (model prog w) A (compareOp .In (.str (ts [c]) u) (.str y t)) Q E s := by
  refine PyProof.Rows.in_str ?_
  rw [in_sign_iff]
  exact h
/-- sep.join(e) -/
theorem ev_join {sep : Txt} {e : Expr} {k : Nat} {pc apos pos : Pos} (h : wpAny (model prog w) A (eval e env) (fun v s₁ => ∃ D vs n txts, v = .ref D ∧ s₁.heap.get? D = some (listOf (List.toArray vs) n) ∧ All2 StrT vs txts ∧ (txts.map List.length).sum + txts.length * sep.length ≤ 16777216 ∧
      ∀ u tk, Q (.str (ts (joinT sep txts)) u) { s₁ with toks := tk }) E { s with toks := s.toks + 1 })
    (hs : starEach [e] env = [(false, eval e env)] := by rfl) (hbase : attributeBase (.Constant (.str (ts sep)) k pc) "join" env (eval (.Constant (.str (ts sep)) k pc) env) = eval (.Constant (.str (ts sep)) k pc) env := by rfl) (hline : (apos.endLine == pos.line) = true := by rfl) :
    wpAny (model prog w) A (eval (.Call (.Attribute (.Constant (.str (ts sep)) k pc) "join" apos) [e] [] pos) env) Q E s := by
  refine Meth1 F.plainAttrs_str F.slot_str_join F.type_str_join (Constant_str ⟨typeIs_str _ _ _, (fun a e => nomatch e), ?_⟩) hs hbase hline
  refine wpAny_mono h (fun v s₁ h₁ => ?_) fun _ _ x => x
  obtain ⟨D, vs, n, txts, rfl, hD, hv, hz, hq⟩ := h₁
  refine join_list (ys := txts.map ts) ⟨_, hD, rfl, n, rfl⟩ (by simpa using strsAre_of hv) ?_ fun t' k' => ?_
  · have e1 : ((txts.map ts).map fun y => y.length) = txts.map List.length := by
      rw [List.map_map]; exact List.map_congr_left fun a _ => ts_len a
    rw [e1, List.length_map, ts_len]; exact hz
  · have := hq t' k'
    have e2 : ts (joinT sep txts) = Txt.join (ts sep) (txts.map ts) := by
      rw [← ts_tl (Txt.join (ts sep) (txts.map ts)), tl_join, tl_ts, List.map_map]
      congr 2
      rw [show (tl ∘ ts) = id from funext fun a => tl_ts a, List.map_id]
    rw [e2] at this
    exact this

/-- a for over a list that stays, into two names -/
theorem for_listP {elts : List Expr} {kk : Nat} {tp pos : Pos} {iter : Expr} {body : List Stmt} {ax : Addr} {items : List Value} {Q : Flow → Shared → Prop} (K : Nat → Addr × Obj → Heap → Prop) (hh : A.handled = none)
    (hiter : wpAny (model prog w) A (eval iter env) (fun v s₁ => v = .ref ax ∧ (∃ h tk, s₁ = { s with heap := h, toks := tk }) ∧ s₁.heap.IsList ax items.toArray ∧ ∀ oI, ItOb ax 0 oI → oI.isFreed = false → K 0 (s₁.heap.objs.size, oI) (s₁.heap.push oI)) E s)
    (hK : ∀ i e h, K i e h → h.get? e.1 = some e.2 ∧ h.IsList ax items.toArray)
    (hturn : ∀ i I oI oI' h h', K i (I, oI) h → Heap.SameBut I h h' → h'.get? I = some oI' → K i (I, oI') h')
    (step : ∀ i v e h tk E', items[i]? = some v → K i e h → wpAny (model prog w) A (assign (.Tuple elts kk tp) env v) (fun _ s₂ => wpAny (model prog w) A (execs body env) (fun f s₃ => f = .next ∧ ∃ h' tk', s₃ = { s with heap := h', toks := tk' } ∧ K (i + 1) e h') E' s₂) E' { s with heap := h, toks := tk })
    (done : ∀ I oI h h' tk, K items.length (I, oI) h → Heap.ExtBut I h h' → Q .next { s with heap := h', toks := tk })
    (hs : ∀ x, foldedSetIterable iter env x = pure x := by intro _; rfl) :
    wpAny (model prog w) A (exec (.For (.Tuple elts kk tp) iter body [] pos) env) Q E s := by
  refine PySem.wpAny_For (wpAny_mono hiter (fun v s₁ h₁ => ?_) fun _ _ e => e) hs
  obtain ⟨rfl, ⟨h, tk, rfl⟩, hl, h0⟩ := h₁
  refine wpAny_pyIter_list hl ?_
  generalize hoI : ({ cls := .type "list_iterator", data := .fields #[.ref ax, .int 0 0] } : Obj) = oI
  have K0 := h0 oI ⟨by rw [← hoI], by rw [← hoI]; rfl⟩ (by rw [← hoI]; rfl)
  have it0 : ItOb ax 0 oI := ⟨by rw [← hoI], by rw [← hoI]; rfl⟩
  refine codeAny_forLoop_any (fun n s' => ∃ i oI' h' tk', s' = { s with heap := h', toks := tk' } ∧ K i (h.objs.size, oI') h' ∧ ItOb ax i oI' ∧ i ≤ items.length ∧ n = items.length + 1 - i) ?_ (items.length + 1) ⟨0, oI, _, _, rfl, K0, it0, Nat.zero_le _, rfl⟩
  rintro n s' ⟨i, oI', h', tk', rfl, Ki, iti, hi, rfl⟩
  obtain ⟨gI, gl⟩ := hK _ _ _ Ki
  have hit : h'.IsListIter h.objs.size ax i := ⟨oI', gI, iti.cls, iti.data⟩
  cases hv : items[i]? with
  | none =>
    have hsz : i = items.length := Nat.le_antisymm hi (by simpa using hv)
    refine wpAny_pyNext_list_end (s := { s with heap := h', toks := tk' }) hh hit gl (by simpa using hv) fun h₁ he₁ => wpAny_execs_nil ?_
    exact done h.objs.size oI' h' h₁ tk' (hsz ▸ Ki) he₁
  | some v =>
    have hlt : i < items.length := (List.getElem?_eq_some_iff.mp hv).1
    refine wpAny_pyNext_list_item (s := { s with heap := h', toks := tk' }) hit gl (by simpa using hv) fun h₁ hit₁ hs₁ => ?_
    obtain ⟨o1, ho1, hc1, hd1⟩ := id hit₁
    have K1 := hturn i _ oI' o1 h' h₁ Ki hs₁ ho1
    have fin := step i v _ h₁ tk' (notedBy (model prog w) A env fun e s' => cameBackBy (model prog w) A env E e s') hv K1
    have fin2 := wpAny_mono fin (fun _ s₂ h₂ => wpAny_mono (E' := notedBy (model prog w) A env fun e s' => cameBackBy (model prog w) A env E e s') h₂ (fun f s₃ h₃ => (show f = .next ∧ ∃ i' oI' h' tk', s₃ = { s with heap := h', toks := tk' } ∧ i' = i + 1 ∧ K i' (h.objs.size, oI') h' ∧ ItOb ax i' oI' from by
      obtain ⟨rfl, h3, tk3, rfl, K3⟩ := h₃
      exact ⟨rfl, i + 1, o1, h3, tk3, rfl, rfl, K3, hc1, hd1⟩)) fun _ _ e => e) fun _ _ e => e
    cases v with
    | ref T =>
      refine wpAny_letOwnedTupleGo_listiter (s := { s with heap := h₁, toks := tk' }) hit₁ (wpAny_mono fin2 (fun _ s₂ h₂ => wpAny_mono h₂ (fun f s₃ h₃ => ?_) fun _ _ e => e) fun _ _ e => e)
      obtain ⟨rfl, i', o3, h3, tk3, rfl, rfl, K3, I3⟩ := h₃
      exact ⟨items.length + 1 - (i + 1), by lia, i + 1, o3, h3, tk3, rfl, K3, I3, hlt, rfl⟩
    | _ =>
      refine wpAny_of_eq (a := ()) rfl (wpAny_mono fin2 (fun _ s₂ h₂ => wpAny_mono h₂ (fun f s₃ h₃ => ?_) fun _ _ e => e) fun _ _ e => e)
      obtain ⟨rfl, i', o3, h3, tk3, rfl, rfl, K3, I3⟩ := h₃
      exact ⟨items.length + 1 - (i + 1), by lia, i + 1, o3, h3, tk3, rfl, K3, I3, hlt, rfl⟩
end
end Mine
end

section
set_option autoImplicit false
set_option maxRecDepth 100000
set_option linter.unusedSimpArgs false
set_option linter.unusedVariables false
namespace Mine
open PySem PySem.W PySem.Calls PyProof.Rows PySem.Sre

def shoS : Stmt := topS 11
def shoSc : Scope := scopeOf shoS
def shoFor : Stmt := nth (bodyOf shoS) 2
def shoIn : Stmt := nth (bodyOf shoFor) 2
abbrev shoEnv (L : Addr) : Env := envOf "_law_shortest" shoSc L 80 (.ref 79)

def Sm1 (c : Nat) : Prop := c < 1114112
section
variable {prog : Program} {w : World} {A : Around} {E : Value → Shared → Prop} {s : Shared} {env : Env}
theorem ev_addT {e1 e2 : Expr} {pos : Pos} {Q : Value → Shared → Prop}
    (h : wpAny (model prog w) A (eval e1 env) (fun v s₁ => ∃ a u, v = .str (ts a) u ∧ wpAny (model prog w) A (eval e2 env) (fun v' s₂ => ∃ b u', v' = .str (ts b) u' ∧ a.length + b.length ≤ 100000 ∧ ∀ u tk, Q (.str (ts (a ++ b)) u) { s₂ with toks := tk }) E s₁) E s) :
    wpAny (model prog w) A (eval (.BinOp e1 .Add e2 pos) env) Q E s := by
  refine wpAny_BinOp (wpAny_mono h (fun v s₁ h₁ => ?_) fun _ _ x => x)
  obtain ⟨a, u, rfl, h₁⟩ := h₁
  refine wpAny_mono h₁ (fun v' s₂ h₂ => ?_) fun _ _ x => x
  obtain ⟨b, u', rfl, hz, hq⟩ := h₂
  refine PyProof.Rows.add_str (fun t' tk => ?_) (by rw [ts_len, ts_len]; simp [sizeLine]; lia)
  rw [ts_app]
  exact hq _ _
/-- a list of signs == [] -/
theorem eq_signs {a b : Addr} {cs : List Nat} {ys : List Value} {n k : Nat} {Q : Value → Shared → Prop} (ha : s.heap.get? a = some (listOf (List.toArray ys) n)) (hy : All2 StrC cs ys) (hc : ∀ c ∈ cs, c < 1114112) (hb : s.heap.get? b = some (listOf #[] k)) (r : Rm 1 A)
    (h : Q (.bool cs.isEmpty) s) : wpAny (model prog w) A (compareOp .Eq (.ref a) (.ref b)) Q E s := by
  obtain ⟨as, ra⟩ : ∃ as, ReadsAll s.heap ys (cs.map fun c => PyData.str (ts [c])) as := by
    clear ha h hc
    induction hy with
    | nil => exact ⟨_, .nil⟩
    | cons x y ih =>
      obtain ⟨u, rfl⟩ := x
      obtain ⟨as, r⟩ := ih
      exact ⟨_, .cons (.str _ _) r⟩
  have sh : SeqAt.shaped (PyData.list (cs.map fun c => PyData.str (ts [c]))) = true := by
    unfold SeqAt.shaped
    rw [Bool.and_eq_true, decide_eq_true_eq]
    constructor
    · rw [PyData.canLay0]
      refine canLay_all cs fun c hm => ?_
      rw [PyData.canLay0]
      exact strOk_ts fun d hd => by rw [List.mem_singleton.mp hd]; exact hc c hm
    · rw [PyData.depth]
      have := depth_all (f := fun c => PyData.str (ts [c])) (k := 0) (fun c => by simp [PyData.depth]) cs
      lia
  refine SeqAt.compareEq_shaped (.list ha rfl rfl (by simpa using ra)) (.list (xs := []) hb rfl rfl .nil) sh (by decide) (by have := r.un; rw [cLine_is]; lia) ?_
  have e : PyData.eqv (PyData.list (cs.map fun c => PyData.str (ts [c]))) (PyData.list []) = cs.isEmpty := by
    cases cs <;> simp [PyData.eqv, PyData.eqvAll]
  rw [e]; exact h
end

def shoSigns : Txt := [32, 10, 59, 44]
theorem plain_filter (v : Txt) : (v.filter fun c => (tl (ts shoSigns)).contains c).isEmpty = plainV v := by
  rw [tl_ts]
  unfold plainV
  induction v with
  | nil => rfl
  | cons c r ih =>
    rw [List.filter_cons, List.all_cons, ← ih]
    have e : (c == 32 || c == 10 || c == 59 || c == 44) = shoSigns.contains c := by
      unfold shoSigns
      simp only [List.contains_cons, List.contains_nil, Bool.or_false]
      rw [Bool.or_assoc, Bool.or_assoc]
    rw [e]
    cases shoSigns.contains c <;> simp
def escs : Txt := [34, 92]
def escC (c : Nat) : Txt := if (tl (ts escs)).contains c then [92, c] else [c]
theorem join_escV : ∀ (v : Txt), joinT [] (v.map escC) = escV v
  | [] => rfl
  | c :: r => by
    have e : joinT [] ((c :: r).map escC) = escC c ++ joinT [] (r.map escC) := by
      rw [List.map_cons, joinT_cons, ]
      cases r with
      | nil => rfl
      | cons d r' => rw [List.map_cons, joinT_cons]; rfl
    rw [e, join_escV r]
    have e2 : escV (c :: r) = if c = 34 ∨ c = 92 then 92 :: c :: escV r else c :: escV r := rfl
    rw [e2]
    unfold escC
    rw [tl_ts]
    by_cases h1 : c = 34
    · subst h1; simp [escs]
    · by_cases h2 : c = 92
      · subst h2; simp [escs]
      · simp [escs, h1, h2]
theorem escV_len : ∀ (v : Txt), (escV v).length ≤ 2 * v.length
  | [] => by simp [escV]
  | c :: r => by
    have := escV_len r
    unfold escV
    split <;> simp <;> lia
theorem encV_len {o : Option Txt} (h : ∀ v, o = some v → v.length ≤ 3) : (encV o).length ≤ 9 := by
  cases o with
  | none => simp [encV]
  | some v =>
    have h1 := h v rfl
    have h2 := escV_len v
    unfold encV
    dsimp only
    split <;> simp <;> lia
end Mine
end

section
set_option autoImplicit false
set_option maxRecDepth 100000
set_option linter.unusedSimpArgs false
set_option linter.unusedVariables false
namespace Mine
open PySem PySem.W PySem.Calls PyProof.Rows PySem.Sre

def gap0 (G : Txt) (n : Nat) (o : Option Txt) : Txt := if o = some [] then [59] else [G.getD n 0]
def gapIf (gap : Txt) : Option Txt → Txt
  | none => gap
  | some v => if plainV v then gap else []
theorem gapIf_gap0 (G : Txt) (n : Nat) (o : Option Txt) : gapIf (gap0 G n o) o = gapOf (G.getD n 0) o := by
  cases o with
  | none => rfl
  | some v =>
    unfold gapIf gap0 gapOf
    dsimp only
    cases plainV v with
    | false => rfl
    | true =>
      by_cases h : v = []
      · subst h; rfl
      · simp [h]
theorem StrC.inj {a a' : Nat} {v : Value} (h : StrC a v) (h' : StrC a' v) : a = a' := by
  obtain ⟨u, rfl⟩ := h
  obtain ⟨u', e⟩ := h'
  injection e with e _
  have := ts_inj.mp e
  injection this
theorem All2.mapR {α β γ : Type} {R : α → γ → Prop} {S : γ → β → Prop} {f : α → β} (h : ∀ a y, R a y → S y (f a)) {as : List α} {ys : List γ} (X : All2 R as ys) : All2 S ys (as.map f) := by
  induction X with
  | nil => exact .nil
  | cons x _ ih => exact .cons (h _ _ x) ih

def shoGap : Stmt := nth (bodyOf shoIn) 1
def shoIf : Stmt := nth (bodyOf shoIn) 3
section
variable {prog : Program} {w : World} {A : Around} {E : Value → Shared → Prop} {s : Shared} {g : Heap} {L : Addr} {m : Str → Option Value} {mu : List (Addr × Obj)} {Q : Flow → Shared → Prop}
theorem sho_gap {vv : Value} {o : Option Txt} {G : Txt} {ug uc : Tok} {n : Nat} (W : Wk g L s.heap m mu) (hval : m "value" = some vv) (ho : OptV o vv) (hgaps : m "gaps" = some (.str (ts G) ug)) (hc : m "count" = some (.int (n : Int) uc)) (hn : n < G.length) (hG : G.length < 1000)
    (h : ∀ h' tk u, Wk g L h' (fun y => if y = "gap" then some (.str (ts (gap0 G n o)) u) else m y) mu → Q .next { s with heap := h', toks := tk }) : wpAny (model prog w) A (exec shoGap (shoEnv L)) Q E s := by
  have hgc : (tl (ts G))[n]? = some (G.getD n 0) := by
    rw [tl_ts, List.getD_eq_getElem?_getD, List.getElem?_eq_getElem hn]; rfl
  have yes : ∀ tk, o = some [] → wpAny (model prog w) A (eval (.Constant (.str (ts [59])) 0 ⟨66, 18, 66, 21⟩) (shoEnv L)) (fun v s₁ => wpAny (model prog w) A (storeName (shoEnv L) "gap" v) (fun _ => Q .next) E s₁) E { s with toks := tk } := fun tk e =>
    cst fun u tk2 => st' (env := shoEnv L) (s := { s with heap := s.heap, toks := tk2 }) W fun h1 W1 => by
      rw [show ts [59] = ts (gap0 G n o) from by rw [e]; rfl] at W1
      exact h _ _ _ W1
  refine wpAny_Assign_Name (IfExp_ (wpAny_isTrue_Compare1 (ld' (env := shoEnv L) W hval (cst fun u1 t1 => ?_))))
  have no : ∀ tk, o ≠ some [] → wpAny (model prog w) A (eval (.Subscript (.Name "gaps" ⟨66, 42, 66, 46⟩) (.Name "count" ⟨66, 47, 66, 52⟩) ⟨66, 42, 66, 53⟩) (shoEnv L)) (fun v s₁ => wpAny (model prog w) A (storeName (shoEnv L) "gap" v) (fun _ => Q .next) E s₁) E { s with toks := tk } := fun tk e =>
    ev_idxStr (ld' (env := shoEnv L) (s := { s with toks := tk }) W hgaps ⟨_, _, rfl, by rw [ts_len]; exact hG, ld' (env := shoEnv L) (s := { s with toks := tk }) W hc ⟨n, uc, G.getD n 0, rfl, hgc, fun u2 t2 =>
      st' (env := shoEnv L) (s := { s with heap := s.heap, toks := t2 }) W fun h1 W1 => by
        rw [show ts [G.getD n 0] = ts (gap0 G n o) from by unfold gap0; rw [if_neg e]] at W1
        exact h _ _ _ W1⟩⟩)
  cases o with
  | none =>
    cases (show vv = .none from ho)
    refine PySem.EqNone.eq_none_str (wpAny_truthy_bool ?_)
    rw [if_neg (by decide)]
    exact no _ (by simp)
  | some v =>
    obtain ⟨uv, rfl⟩ := ho
    refine PyProof.Rows.eq_str (wpAny_truthy_bool ?_)
    by_cases hv : v = []
    · subst hv
      rw [if_pos (by rfl)]
      exact yes _ rfl
    · have e : (ts v == ("" : Str)) = false := by
        rw [← Bool.not_eq_true, beq_iff_eq]
        intro q
        exact hv (ts_inj.mp (q.trans (show ("" : Str) = ts [] from rfl)))
      rw [if_neg (by rw [e]; decide)]
      exact no _ (by simpa using hv)
theorem sho_if {vv : Value} {o : Option Txt} {line gap : Txt} {ul ug : Tok} (W : Wk g L s.heap m mu) (hval : m "value" = some vv) (ho : OptV o vv) (hov : ∀ v, o = some v → v.length ≤ 3 ∧ ALt v) (hline : m "line" = some (.str (ts line) ul)) (hgap : m "gap" = some (.str (ts gap) ug)) (hz : line.length ≤ 9000) (r : Rm 4 A)
    (h : ∀ g' h' tk m' u u', Sub g g' → Wk g' L h' m' mu → m' "line" = some (.str (ts (line ++ encV o)) u) → m' "gap" = some (.str (ts (gapIf gap o)) u') → (∀ y : Str, y ≠ "line" → y ≠ "gap" → m' y = m y) → Q .next { s with heap := h', toks := tk }) :
    wpAny (model prog w) A (exec shoIf (shoEnv L)) Q E s := by
  cases o with
  | none =>
    cases (show vv = .none from ho)
    refine wpAny_If (isTrue_and (wpAny_isTrue_Compare1 (ld' (env := shoEnv L) W hval (Constant_none (isnot_none_none (wpAny_truthy_bool ?_))))))
    rw [if_neg (by decide), if_neg (by decide)]
    refine wpAny_execs_cons (wpAny_If (wpAny_isTrue_Compare1 (ld' (env := shoEnv L) W hval (Constant_none (isnot_none_none (wpAny_truthy_bool ?_))))))
    rw [if_neg (by decide)]
    refine wpAny_execs_nil (wpAny_execs_nil ?_)
    refine h g s.heap s.toks m ul ug (Sub.refl _) W ?_ hgap fun _ _ _ => rfl
    rw [hline]; simp [encV]
  | some v =>
    obtain ⟨uv, rfl⟩ := ho
    obtain ⟨hv3, hal⟩ := hov v rfl
    refine wpAny_If (isTrue_and (wpAny_isTrue_Compare1 (ld' (env := shoEnv L) W hval (Constant_none (isnot_none_ne (by simp) (wpAny_truthy_bool ?_))))))
    rw [if_pos rfl]
    refine isTrue_and (wpAny_isTrue_Compare1 (ev_comp (env := shoEnv L) (items := v) (V := StrC) (fun c => (tl (ts shoSigns)).contains c) StrC W (fun a a' v h1 h2 => h1.inj h2) (by lia) ?_ ?_ ?_ ?_))
    · refine ld' (env := shoEnv L) W hval ⟨⟨s.heap, s.toks, rfl, Sub.refl _⟩, ?_⟩
      have := src_str (prog := prog) (w := w) (A := A) (E := E) (s := s) (x := ts v) (t := uv) r.hd
      rw [tl_ts] at this
      exact this
    · intro C c v' s₃ m₃ E' hc hV hk3 hn hm
      obtain ⟨u, rfl⟩ := hV
      exact one_test (wpAny_isTrue_Compare1 (ldN hn hm (cst fun u tk => in_sign (wpAny_truthy_bool ⟨rfl, s₃.heap, tk, rfl, fun _ _ e => e⟩))))
    · intro C c v' s₃ m₃ E' hc hV hpa hk3 hn hm
      exact ldN hn hm ⟨hV, s₃.heap, s₃.toks, rfl, fun _ _ e => e⟩
    · intro g1 h1 t1 D ys n s1 k1 W1 hD hDn hF
      refine ev_listNil (s := { s with heap := h1, toks := t1 }) ?_
      have W2 := W1.push (listOf #[] 0)
      have e0 : (h1.push (listOf #[] 0)).get? h1.objs.size = some (listOf #[] 0) := Heap.get?_push_size _ rfl
      refine eq_signs (s := { s with heap := h1.push (listOf #[] 0), toks := t1 }) (W2.keep _ _ hD) hF (fun c hc => ?_) e0 (r.le (by lia)) (wpAny_truthy_bool ?_)
      · rcases hal c (List.mem_filter.mp hc).1 with h | h | h | h | h | h | h | h | h <;> lia
      rw [plain_filter]
      generalize h1.push (listOf #[] 0) = h2 at W2
      cases hp : plainV v with
      | true =>
        rw [if_pos rfl]
        refine isTrue_and_nil ?_
        rw [if_pos rfl]
        refine wpAny_execs_cons (wpAny_Assign_Name (ev_addT (ev_addT (ld' (env := shoEnv L) (s := { s with heap := h2, toks := t1 }) W2 hline ⟨line, ul, rfl, cst fun u2 t2 => ⟨[61], u2, rfl, by simp only [List.length_cons, List.length_nil]; lia, fun u3 t3 => ⟨_, u3, rfl, ld' (env := shoEnv L) (s := { s with heap := h2, toks := t3 }) W2 hval ⟨v, uv, rfl, by simp only [List.length_append, List.length_cons, List.length_nil]; lia, fun u4 t4 => ?_⟩⟩⟩⟩))))
        refine st' (env := shoEnv L) (s := { s with heap := h2, toks := t4 }) W2 fun h3 W3 => wpAny_execs_nil ?_
        have e1 : line ++ [61] ++ v = line ++ encV (some v) := by unfold encV; dsimp only; rw [hp, if_pos rfl]; simp
        have e2 : gapIf gap (some v) = gap := by unfold gapIf; dsimp only; rw [hp, if_pos rfl]
        rw [e1] at W3
        refine h g1 h3 _ _ u4 ug s1 W3 rfl ?_ fun y y1 y2 => ?_
        · rw [e2]; exact hgap
        · exact if_neg y1
      | false =>
        rw [if_neg (by decide), if_neg (by decide)]
        refine wpAny_execs_cons (wpAny_If (wpAny_isTrue_Compare1 (ld' (env := shoEnv L) (s := { s with heap := h2, toks := t1 }) W2 hval (Constant_none (isnot_none_ne (by simp) (wpAny_truthy_bool ?_))))))
        rw [if_pos rfl]
        have hel := escV_len v
        refine wpAny_execs_cons (wpAny_Assign_Name (ev_addT (ev_addT (ev_addT (ld' (env := shoEnv L) (s := { s with heap := h2, toks := t1 }) W2 hline ⟨line, ul, rfl, cst fun u2 t2 => ⟨[61, 34], u2, rfl, by simp only [List.length_cons, List.length_nil]; lia, fun u3 t3 => ⟨_, u3, rfl, ?_⟩⟩⟩)))))
        refine ev_join (sep := []) (s := { s with heap := h2, toks := t3 }) ?_
        refine ev_comp (env := shoEnv L) (s := { s with heap := h2, toks := t3 + 1 }) (items := v) (V := StrC) (fun _ => true) (fun c y => StrT y (escC c)) W2 (fun a a' v h1 h2 => h1.inj h2) (by lia) ?_ ?_ ?_ ?_
        · refine ld' (env := shoEnv L) (s := { s with heap := h2, toks := t3 + 1 }) W2 hval ⟨⟨h2, t3 + 1, rfl, Sub.refl _⟩, ?_⟩
          have := src_str (prog := prog) (w := w) (A := A) (E := E) (s := { s with heap := h2, toks := t3 + 1 }) (x := ts v) (t := uv) r.hd
          rw [tl_ts] at this
          exact this
        · intro C c v' s₃ m₃ E' hc hV hk3 hn hm
          exact no_test ⟨rfl, s₃.heap, s₃.toks, rfl, fun _ _ e => e⟩
        · intro C c v' s₃ m₃ E' hc hV hpa hk3 hn hm
          obtain ⟨u, rfl⟩ := hV
          refine IfExp_ (wpAny_isTrue_Compare1 (ldN hn hm (cst fun u5 t5 => in_sign (y := ts escs) (wpAny_truthy_bool ?_))))
          cases he : (tl (ts escs)).contains c with
          | true =>
            rw [if_pos rfl]
            refine ev_addT (cst fun u6 t6 => ⟨[92], u6, rfl, ldN (s := { s₃ with toks := t6 }) hn hm ⟨[c], u, rfl, by simp, fun u7 t7 => ⟨⟨u7, ?_⟩, s₃.heap, t7, rfl, fun _ _ e => e⟩⟩⟩)
            unfold escC
            rw [he, if_pos rfl]
            rfl
          | false =>
            rw [if_neg (by decide)]
            refine ldN (s := { s₃ with toks := t5 }) hn hm ⟨⟨u, ?_⟩, s₃.heap, t5, rfl, fun _ _ e => e⟩
            unfold escC
            rw [he, if_neg (by decide)]
        · intro g3 h3 t4 D3 ys3 n3 s3 k3 W3 hD3 hDn3 hF3
          have hF3' : All2 StrT ys3 (v.map escC) := by
            rw [List.filter_eq_self.mpr (fun _ _ => rfl)] at hF3
            exact hF3.mapR fun a y q => q
          have ej : joinT [] (v.map escC) = escV v := join_escV v
          have ec : ((v.map escC).map List.length).sum = (escV v).length := by
            rw [← ej]
            have : ∀ l : List Txt, (l.map List.length).sum = (joinT [] l).length := by
              intro l
              cases l with
              | nil => rfl
              | cons a r =>
                rw [joinT_cons]
                simp [List.length_flatMap]
            exact this _
          refine ⟨D3, ys3, n3, v.map escC, rfl, W3.keep _ _ hD3, hF3', ?_, fun u5 t5 => ?_⟩
          · rw [ec]; simp only [List.length_nil]; lia
          rw [ej]
          refine ⟨escV v, u5, rfl, by simp only [List.length_append, List.length_cons, List.length_nil]; lia, fun u6 t6 => ⟨_, u6, rfl, cst fun u7 t7 => ⟨[34], u7, rfl, by simp only [List.length_append, List.length_cons, List.length_nil]; lia, fun u8 t8 => ?_⟩⟩⟩
          refine st' (env := shoEnv L) (s := { s with heap := h3, toks := t8 }) W3 fun h4 W4 => ?_
          refine wpAny_execs_cons (wpAny_Assign_Name (cst fun u9 t9 => st' (env := shoEnv L) (s := { s with heap := h4, toks := t9 }) W4 fun h5 W5 => ?_))
          have e1 : line ++ [61, 34] ++ escV v ++ [34] = line ++ encV (some v) := by unfold encV; dsimp only; rw [hp, if_neg (by decide)]; simp
          have e2 : gapIf gap (some v) = [] := by unfold gapIf; dsimp only; rw [hp, if_neg (by decide)]
          rw [e1] at W5
          refine wpAny_execs_nil (wpAny_execs_nil (h g3 h5 _ _ u8 u9 (s1.trans s3) W5 rfl ?_ fun y y1 y2 => ?_))
          · rw [e2]; rfl
          · show (if y = _ then _ else if y = _ then _ else m y) = m y
            rw [if_neg y2, if_neg y1]
end
end Mine
end

section
set_option autoImplicit false
set_option maxRecDepth 100000
set_option linter.unusedSimpArgs false
set_option linter.unusedVariables false
namespace Mine
open PySem PySem.W PySem.Calls PyProof.Rows PySem.Sre

theorem rowS_len {gs : Nat → Nat} : ∀ (ws : List Wd) (n : Nat) (gap : Txt), (∀ w ∈ ws, GoodWd w) → (rowS gs n gap ws).length ≤ gap.length + 12 * ws.length
  | [], _, _, _ => by simp [rowS]
  | w :: ws, n, gap, h => by
    have h1 := rowS_len (gs := gs) ws (n + 1) (gapOf (gs n) w.2) fun x hx => h x (.tail _ hx)
    have h2 := gapOf_len (gs n) w.2
    have h3 := encV_len (h w (.head _)).vl
    have h4 := (h w (.head _)).kl
    unfold rowS
    simp only [List.length_append, List.length_cons]
    lia
theorem rowsS_sum {gs : Nat → Nat} : ∀ (l : List (List Wd)) (n : Nat), GoodL l → ((rowsS gs n l).map List.length).sum ≤ 12 * words l
  | [], _, _ => by simp [rowsS]
  | r :: rs, n, h => by
    have h1 := rowsS_sum (gs := gs) rs (n + r.length) fun x hx => h x (.tail _ hx)
    have h2 := rowS_len (gs := gs) r n [] (h r (.head _)).2
    unfold rowsS
    simp only [List.map_cons, List.sum_cons, words, List.length_nil] at *
    lia
theorem words_len : ∀ (l : List (List Wd)), GoodL l → l.length ≤ words l
  | [], _ => by simp [words]
  | r :: rs, h => by
    have h1 := words_len rs fun x hx => h x (.tail _ hx)
    have h2 : r.length ≠ 0 := fun q => (h r (.head _)).1 (List.eq_nil_of_length_eq_zero q)
    simp only [words, List.map_cons, List.sum_cons, List.length_cons] at *
    lia
theorem rowsS_length {gs : Nat → Nat} : ∀ (l : List (List Wd)) (n : Nat), (rowsS gs n l).length = l.length
  | [], _ => by simp [rowsS]
  | r :: rs, n => by simp [rowsS, rowsS_length rs]
theorem joinT_len (sep : Txt) : ∀ (l : List Txt), (joinT sep l).length ≤ (l.map List.length).sum + l.length * sep.length
  | [] => by simp [joinT]
  | a :: r => by
    have h : (r.flatMap fun y => sep ++ y).length = (r.map List.length).sum + r.length * sep.length := by
      induction r with
      | nil => simp
      | cons b r ih =>
        rw [List.flatMap_cons, List.length_append, ih]
        simp only [List.length_append, List.map_cons, List.sum_cons, List.length_cons, Nat.add_mul]
        lia
    rw [joinT_cons, List.length_append, h]
    simp only [List.map_cons, List.sum_cons, List.length_cons, Nat.add_mul]
    lia
theorem shS_len {gs : Nat → Nat} {l : List (List Wd)} (h : GoodL l) : (shS gs l).length ≤ 13 * words l := by
  have h1 := rowsS_sum (gs := gs) l 0 h
  have h2 := words_len l h
  have h3 := joinT_len [44] (rowsS gs 0 l)
  rw [rowsS_length] at h3
  unfold shS
  simp only [List.length_cons, List.length_nil] at h3
  lia
theorem rowsS_app {gs : Nat → Nat} : ∀ (a b : List (List Wd)) (n : Nat), rowsS gs n (a ++ b) = rowsS gs n a ++ rowsS gs (n + words a) b
  | [], b, n => by simp [rowsS, words]
  | r :: a, b, n => by
    have := rowsS_app (gs := gs) a b (n + r.length)
    show rowS gs n [] r :: rowsS gs (n + r.length) (a ++ b) = rowS gs n [] r :: (rowsS gs (n + r.length) a ++ _)
    rw [this]
    simp only [words, List.map_cons, List.sum_cons, Nat.add_assoc]

def tgtOf : Stmt → Expr
  | .For t .. => t
  | _ => .Name "x" ⟨0, 0, 0, 0⟩

structure ShoI (g0 : Heap) (L Ra : Addr) (rv : List Value) (n' : Nat) (eo : Addr × Obj) (G : Txt) (ug : Tok) (n0 : Nat) (row : List Wd) (T : Txt) (i : Nat) (e : Addr × Obj) (h : Heap) : Prop where
  ex : ∃ g m line gap u1 u2 u3, Wk g L h m ([(Ra, listOf (List.toArray rv) n'), eo] ++ e :: []) ∧ Sub g0 g ∧ m "line" = some (.str (ts line) u1) ∧ m "gap" = some (.str (ts gap) u2) ∧ m "count" = some (.int ((n0 + i : Nat) : Int) u3) ∧
    m "gaps" = some (.str (ts G) ug) ∧ m "rows" = some (.ref Ra) ∧ line ++ rowS (fun i => G.getD i 0) (n0 + i) gap (row.drop i) = T
structure ShoK (g0 : Heap) (L Ra : Addr) (G : Txt) (ug : Tok) (l : List (List Wd)) (i : Nat) (e : Addr × Obj) (h : Heap) : Prop where
  ex : ∃ g m rv n' u3, Wk g L h m ([(Ra, listOf (List.toArray rv) n')] ++ e :: []) ∧ Sub g0 g ∧ m "count" = some (.int ((words (l.take i) : Nat) : Int) u3) ∧
    m "gaps" = some (.str (ts G) ug) ∧ m "rows" = some (.ref Ra) ∧ All2 StrT rv (rowsS (fun i => G.getD i 0) 0 (l.take i))

section
variable {prog : Program} {w : World} {A : Around} {E : Value → Shared → Prop} {s : Shared} {g0 : Heap} {L Ra : Addr}
theorem sho_turn {rv : List Value} {n' : Nat} {eo : Addr × Obj} {G : Txt} {ug : Tok} {n0 : Nat} {row : List Wd} {T : Txt} {i : Nat} {e : Addr × Obj} {v : Value} {wd : Wd} {lo : Nat} (K : ShoI g0 L Ra rv n' eo G ug n0 row T i e s.heap) (hv : TupD lo g0 v wd) (hi : row[i]? = some wd) (hG : GoodWd wd) (hn : n0 + i < G.length) (hGl : G.length < 1000) (hT : T.length ≤ 9000) (r : Rm 6 A) :
    wpAny (model prog w) A (assign (tgtOf shoIn) (shoEnv L) v) (fun _ s₂ => wpAny (model prog w) A (execs (bodyOf shoIn) (shoEnv L)) (fun f s₃ => f = .next ∧ ∃ h' tk', s₃ = { s with heap := h', toks := tk' } ∧ ShoI g0 L Ra rv n' eo G ug n0 row T (i + 1) e h') E s₂) E s := by
  obtain ⟨g, m, line, gap, u1, u2, u3, W, hg0, q1, q2, q3, q4, q5, q6⟩ := K
  obtain ⟨a, n, uk, vv, rfl, _, ha, ho⟩ := hv
  have hlt : i < row.length := (List.getElem?_eq_some_iff.mp hi).1
  have hd : row.drop i = wd :: row.drop (i + 1) := by
    rw [List.drop_eq_getElem_cons hlt]
    congr 1
    exact (List.getElem?_eq_some_iff.mp hi).2
  rw [hd] at q6
  have q7 : line ++ (gap ++ (wd.1 ++ (encV wd.2 ++ rowS (fun i => G.getD i 0) (n0 + i + 1) (gapOf (G.getD (n0 + i) 0) wd.2) (row.drop (i + 1))))) = T := q6
  have hlen := congrArg List.length q7
  simp only [List.length_append] at hlen
  refine asg2 W r.hd ⟨_, W.keep _ _ (hg0 _ _ ha), rfl, n, rfl⟩ fun h1 t1 W1 => ?_
  refine wpAny_execs_cons (wpAny_Assign_Name (ev_addT (ev_addT (ld' (env := shoEnv L) (s := { s with heap := h1, toks := t1 }) W1 q1 ⟨line, u1, rfl, ld' (env := shoEnv L) (s := { s with heap := h1, toks := t1 }) W1 q2 ⟨gap, u2, rfl, by lia, fun u4 t4 => ⟨_, u4, rfl, ld' (env := shoEnv L) (s := { s with heap := h1, toks := t4 }) W1 rfl ⟨wd.1, uk, rfl, by simp only [List.length_append]; lia, fun u5 t5 => ?_⟩⟩⟩⟩))))
  refine st' (env := shoEnv L) (s := { s with heap := h1, toks := t5 }) W1 fun h2 W2 => ?_
  refine wpAny_execs_cons (sho_gap (s := { s with heap := h2, toks := _ }) W2 rfl ho q4 q3 hn hGl fun h3 t3 u6 W3 => ?_)
  refine wpAny_execs_cons (wpAny_Assign_Name (wpAny_BinOp (ld' (env := shoEnv L) (s := { s with heap := h3, toks := t3 }) W3 q3 (wpAny_Constant_int (PyProof.Rows.add_int ?_)))))
  refine st' (env := shoEnv L) (s := { s with heap := h3, toks := _ }) W3 fun h4 W4 => ?_
  refine wpAny_execs_cons (sho_if (s := { s with heap := h4, toks := _ }) W4 rfl ho (fun x hx => ⟨hG.vl x hx, hG.al.2 x hx⟩) rfl rfl (by simp only [List.length_append]; lia) (r.le (by lia)) fun g5 h5 t5 m5 u7 u8 s5 W5 p1 p2 p3 => ?_)
  refine wpAny_execs_nil ⟨rfl, h5, t5, rfl, g5, m5, _, _, u7, u8, _, W5, hg0.trans s5, p1, p2, (p3 "count" (by decide) (by decide)).trans rfl, (p3 "gaps" (by decide) (by decide)).trans q4, (p3 "rows" (by decide) (by decide)).trans q5, ?_⟩
  rw [gapIf_gap0, ← q7]
  simp only [List.append_assoc]
  rfl
end
end Mine
end

section
set_option autoImplicit false
set_option maxRecDepth 100000
set_option linter.unusedSimpArgs false
set_option linter.unusedVariables false
namespace Mine
open PySem PySem.W PySem.Calls PyProof.Rows PySem.Sre

theorem words_app (a b : List (List Wd)) : words (a ++ b) = words a + words b := by simp [words]
section
variable {prog : Program} {w : World} {A : Around} {E : Value → Shared → Prop} {s : Shared} {g0 : Heap} {L Ra : Addr} {P : Params} {mg mb : Str → Option Value}
theorem sho_row {G : Txt} {ug : Tok} {l : List (List Wd)} {i : Nat} {e : Addr × Obj} {v : Value} {row : List Wd} {lo : Nat} (K : ShoK g0 L Ra G ug l i e s.heap) (hv : RowD lo g0 v row) (hi : l[i]? = some row) (hG : GoodL l) (hn : words l ≤ G.length) (hGl : G.length < 700) (r : Rm 6 A) :
    wpAny (model prog w) A (storeName (shoEnv L) "row" v) (fun _ s₂ => wpAny (model prog w) A (execs (bodyOf shoFor) (shoEnv L)) (fun f s₃ => f = .next ∧ ∃ h' tk', s₃ = { s with heap := h', toks := tk' } ∧ ShoK g0 L Ra G ug l (i + 1) e h') E s₂) E s := by
  obtain ⟨g, m, rv, n', u3, W, hg0, q1, q2, q3, q4⟩ := K
  obtain ⟨ra, pv, pn, rfl, _, hra, hpv⟩ := hv
  have hlt : i < l.length := (List.getElem?_eq_some_iff.mp hi).1
  have htk : l.take (i + 1) = l.take i ++ [row] := by rw [List.take_add_one, hi]; rfl
  have hw1 : words (l.take (i + 1)) = words (l.take i) + row.length := by rw [htk]; simp [words]
  have hw2 : words (l.take (i + 1)) ≤ words l := by
    have : words l = words (l.take (i + 1)) + words (l.drop (i + 1)) := by rw [← words_app, List.take_append_drop]
    lia
  have hrowG : ∀ w ∈ row, GoodWd w := (hG row (List.mem_of_getElem? hi)).2
  have hTl := rowS_len (gs := fun i => G.getD i 0) row (words (l.take i)) [] hrowG
  simp only [List.length_nil] at hTl
  have hpl := hpv.len
  refine st' (env := shoEnv L) W fun h1 W1 => ?_
  refine wpAny_execs_cons (wpAny_Assign_Name (cst fun u4 t4 => st' (env := shoEnv L) (s := { s with heap := h1, toks := t4 }) W1 fun h2 W2 => ?_))
  refine wpAny_execs_cons (wpAny_Assign_Name (cst fun u5 t5 => st' (env := shoEnv L) (s := { s with heap := h2, toks := t5 }) W2 fun h3 W3 => ?_))
  refine wpAny_execs_cons (for_listP (env := shoEnv L) (s := { s with heap := h3, toks := _ }) (ax := ra) (items := pv) (fun j e' h => ShoI g0 L Ra rv n' e G ug (words (l.take i)) row (rowS (fun i => G.getD i 0) (words (l.take i)) [] row) j e' h) r.hd ?_ ?_ ?_ ?_ ?_)
  · refine ld' (env := shoEnv L) (s := { s with heap := h3, toks := _ }) W3 rfl ⟨rfl, ⟨h3, _, rfl⟩, ⟨_, W3.keep _ _ (hg0 _ _ hra), rfl, pn, rfl⟩, fun oI it hf => ?_⟩
    have W4 := (W3.pushMu oI hf).perm (List.perm_append_singleton (h3.objs.size, oI) [(Ra, listOf (List.toArray rv) n'), e]).symm
    exact ⟨g, _, [], [], u4, u5, u3, W4, hg0, rfl, rfl, q1, q2, q3, rfl⟩
  · rintro j e' h ⟨g1, m1, line, gap, u6, u7, u8, W', hg1, _⟩
    exact ⟨(W'.mus e' (List.mem_append_right _ (.head _))).1, ⟨_, W'.keep _ _ (hg1 _ _ hra), rfl, pn, rfl⟩⟩
  · rintro j I oI oI' h h' ⟨g1, m1, line, gap, u6, u7, u8, W', hg1, q⟩ hs' ho'
    exact ⟨g1, m1, line, gap, u6, u7, u8, W'.turn hs'.extBut ho', hg1, q⟩
  · intro j v e' h tk' E' hvj K
    have hj : j < row.length := by rw [← hpl]; exact (List.getElem?_eq_some_iff.mp hvj).1
    obtain ⟨wd, hwd⟩ : ∃ wd, row[j]? = some wd := ⟨_, List.getElem?_eq_getElem hj⟩
    exact sho_turn (s := { s with heap := h, toks := tk' }) K (hpv.get j v wd hvj hwd) hwd (hrowG wd (List.mem_of_getElem? hwd)) (by lia) (by lia) (by lia) r
  · rintro I oI h h' tk' ⟨g1, m1, line, gap, u6, u7, u8, W', hg1, p1, p2, p3, p4, p5, p6⟩ hx
    have W5 := W'.drop hx
    rw [List.append_nil] at W5
    rw [hpl, List.drop_length] at p6
    have p7 : line = rowS (fun i => G.getD i 0) (words (l.take i)) [] row := by rw [← p6]; simp [rowS]
    have hrl := q4.len
    rw [rowsS_length, List.length_take] at hrl
    have hwl := words_len l hG
    refine wpAny_execs_cons (wpAny_Expr (ev_append (env := shoEnv L) (s := { s with heap := h', toks := tk' }) (pre := []) W5 p5 (by simp; lia) (ld' (env := shoEnv L) (s := { s with heap := h', toks := tk' }) W5 p1 ⟨g1, W5, fun h8 W8 => ?_⟩)))
    rw [List.push_toArray] at W8
    refine wpAny_execs_nil ⟨rfl, h8, _, rfl, g1, m1, _, _, u8, W8, hg1, ?_, p4, p5, ?_⟩
    · rw [hw1, p3, hpl]
    · rw [htk, rowsS_app, Nat.zero_add]
      exact q4.snoc ⟨u6, by rw [p7]⟩

/-- _law_shortest -/
theorem call_sho {Q : Value → Shared → Prop} {lx : Value} {G : Txt} {ug : Tok} {l : List (List Wd)} {lo : Nat} (B : Bs P mg mb s.heap) (r : Rm 12 A) (hl : ListsD lo s.heap lx l) (hG : GoodL l) (hn : words l ≤ G.length) (hGl : G.length < 700)
    (hQ : ∀ h' tk u, Sub s.heap h' → Q (.str (ts (shS (fun i => G.getD i 0) l)) u) { s with heap := h', toks := tk }) :
    wpAny (model prog w) A (call (.ref 80) [lx, .str (ts G) ug]) Q E s := by
  refine call_fn (n := 11) [] (by simp) (by simp) r (B.K 80 _ rfl) B.lim (codeRec_of B.K (by rfl)) (binds := [("lists", lx), ("gaps", .str (ts G) ug)]) (by rfl) (locs (by rfl)) fun A' g h₁ tk r' hs hg hkp W => ?_
  obtain ⟨la, vs, n, rfl, hla, hvs⟩ := hl
  have hg' : Sub s.heap g := fun b o e => hg b o (by simp) e
  have lv := hvs.len
  have hwl := words_len l hG
  refine wpAny_execs_cons (wpAny_Assign_Name (ev_listNil ?_))
  refine st' (s := { s with heap := h₁.push (listOf #[] 0), toks := _ }) (W.pushMu (listOf #[] 0) rfl) fun h2 W2 => ?_
  generalize h₁.objs.size = Ra at W2
  generalize hL : s.heap.objs.size = L at W2
  refine wpAny_execs_cons (wpAny_Assign_Name (wpAny_Constant_int (st' (env := shoEnv L) (s := { s with heap := h2, toks := _ }) W2 fun h3 W3 => ?_)))
  refine wpAny_execs_cons (for_list (env := shoEnv L) (s := { s with heap := h3, toks := _ }) (ax := la) (items := vs) (fun i e h => ShoK g L Ra G ug l i e h) r'.hd ?_ ?_ ?_ ?_ ?_)
  · refine ld' (env := shoEnv L) (s := { s with heap := h3, toks := _ }) W3 rfl ⟨rfl, ⟨h3, _, rfl⟩, ⟨_, W3.keep _ _ (hg' _ _ hla), rfl, n, rfl⟩, fun oI it hf => ?_⟩
    have W4 := (W3.pushMu oI hf).perm (List.perm_append_singleton (h3.objs.size, oI) [(Ra, listOf #[] 0)]).symm
    exact ⟨g, _, [], 0, _, W4, Sub.refl _, rfl, rfl, rfl, .nil⟩
  · rintro i e h ⟨g1, m1, rv, n', u3, W', hg1, _⟩
    exact ⟨(W'.mus e (List.mem_append_right _ (.head _))).1, ⟨_, W'.keep _ _ (hg1 _ _ (hg' _ _ hla)), rfl, n, rfl⟩⟩
  · rintro i I oI oI' h h' ⟨g1, m1, rv, n', u3, W', hg1, q⟩ hs' ho'
    exact ⟨g1, m1, rv, n', u3, W'.turn hs'.extBut ho', hg1, q⟩
  · intro i v e h tk' E' hvi K
    have hi : i < l.length := by rw [← lv]; exact (List.getElem?_eq_some_iff.mp hvi).1
    obtain ⟨row, hr⟩ : ∃ row, l[i]? = some row := ⟨_, List.getElem?_eq_getElem hi⟩
    exact sho_row (s := { s with heap := h, toks := tk' }) (lo := 0) K ((hvs.get i v row hvi hr).mono (Nat.zero_le _) fun b o _ e => hg' _ _ e) hr hG hn hGl (r'.le (by lia))
  · rintro I oI h h' tk' ⟨g1, m1, rv, n', u3, W', hg1, q1, q2, q3, q4⟩ hx
    have W5 := W'.drop hx
    rw [List.append_nil] at W5
    rw [lv, List.take_length] at q4
    have h1 := rowsS_sum (gs := fun i => G.getD i 0) l 0 hG
    refine wpAny_execs_cons (wpAny_Return_some (ev_join (sep := [44]) (s := { s with heap := h', toks := tk' }) ?_))
    refine ld' (env := shoEnv L) (s := { s with heap := h', toks := _ }) W5 q3 ⟨Ra, rv, n', _, rfl, (W5.mus _ (.head _)).1, q4, ?_, fun u tk2 => ⟨_, rfl, ?_⟩⟩
    · rw [rowsS_length]; simp only [List.length_cons, List.length_nil]; lia
    · exact hQ h' tk2 u fun b o e => W5.keep _ _ (hg1 _ _ (hg' _ _ e))
end
end Mine
end

section
set_option autoImplicit false
set_option maxRecDepth 100000
set_option linter.unusedSimpArgs false
set_option linter.unusedVariables false
namespace Mine
open PySem PySem.W PySem.Calls PyProof.Rows PySem.Sre

section
variable {prog : Program} {w : World} {A : Around} {E : Value → Shared → Prop} {s : Shared} {env : Env} {g : Heap} {m : Str → Option Value} {mu : List (Addr × Obj)} {Q : Value → Shared → Prop}
/-- o.join(e), o a text -/
theorem ev_joinG {o : Expr} {e : Expr} {apos pos : Pos} (h : wpAny (model prog w) A (eval o env) (fun ov s₁ => ∃ sep t, ov = .str (ts sep) t ∧ wpAny (model prog w) A (eval e env) (fun v s₂ => ∃ D vs n txts, v = .ref D ∧ s₂.heap.get? D = some (listOf (List.toArray vs) n) ∧ All2 StrT vs txts ∧ (txts.map List.length).sum + txts.length * sep.length ≤ 16777216 ∧
      ∀ u tk, Q (.str (ts (joinT sep txts)) u) { s₂ with toks := tk }) E s₁) E s)
    (hs : starEach [e] env = [(false, eval e env)] := by rfl) (hbase : attributeBase o "join" env (eval o env) = eval o env := by rfl) (hline : (apos.endLine == pos.line) = true := by rfl) :
    wpAny (model prog w) A (eval (.Call (.Attribute o "join" apos) [e] [] pos) env) Q E s := by
  refine Meth1 F.plainAttrs_str F.slot_str_join F.type_str_join (wpAny_mono h (fun ov s₁ h₁ => ?_) fun _ _ x => x) hs hbase hline
  obtain ⟨sep, t, rfl, h₁⟩ := h₁
  refine ⟨typeIs_str _ _ _, (fun a e => nomatch e), wpAny_mono h₁ (fun v s₂ h₂ => ?_) fun _ _ x => x⟩
  obtain ⟨D, vs, n, txts, rfl, hD, hv, hz, hq⟩ := h₂
  refine join_list (ys := txts.map ts) ⟨_, hD, rfl, n, rfl⟩ (by simpa using strsAre_of hv) ?_ fun t' k' => ?_
  · have e1 : ((txts.map ts).map fun y => y.length) = txts.map List.length := by
      rw [List.map_map]; exact List.map_congr_left fun a _ => ts_len a
    rw [e1, List.length_map, ts_len]; exact hz
  · have := hq t' k'
    have e2 : ts (joinT sep txts) = Txt.join (ts sep) (txts.map ts) := by
      rw [← ts_tl (Txt.join (ts sep) (txts.map ts)), tl_join, tl_ts, List.map_map]
      congr 2
      rw [show (tl ∘ ts) = id from funext fun a => tl_ts a, List.map_id]
    rw [e2] at this
    exact this
theorem ev_pick2 {x : Str} {p1 p2 p3 p4 p5 pos : Pos} {k1 k2 k3 kk k : Nat} {u : Tok} (a b : Txt) (W : Wk g env.locals s.heap m mu) (hm : m x = some (.int (k : Int) u))
    (h : ∀ h' tk u, Sub s.heap h' → Wk g env.locals h' m mu → Q (.str (ts (if k % 2 = 1 then b else a)) u) { s with heap := h', toks := tk })
    (hk : env.scope.kind = .function := by rfl) (hl : env.kindOf x = some .local := by rfl) (hd : (x == ("__debug__" : Str)) = false := by decide)
    (hsub : ∀ o i, subscripted (.BinOp (.Name x p4) .Mod (.Constant (.int 2) k3 p5) p3) false o i = operate [o, i] (getItem o i) := by intro _ _; rfl) (hs : backTo p2 (starEach [.Constant (.str (ts a)) k1 p1, .Constant (.str (ts b)) k2 pos] env) = [.Constant (.str (ts a)) k1 p1, .Constant (.str (ts b)) k2 pos].map fun e => (false, eval e env) := by rfl) {pp : Pos} :
    wpAny (model prog w) A (eval (.Subscript (.Tuple [.Constant (.str (ts a)) k1 p1, .Constant (.str (ts b)) k2 pos] kk p2) (.BinOp (.Name x p4) .Mod (.Constant (.int 2) k3 p5) p3) pp) env) Q E s := by
  refine ev_idxTup (spliced_cons (cst fun a1 t1 => spliced_cons (cst fun a2 t2 => spliced_nil ⟨by simp, fun ob T ff hT => ?_⟩))) hsub hs
  have hTs : T = s.heap.objs.size := hT
  subst hTs
  refine ev_mod (s := { s with heap := s.heap.push ob, toks := t2 }) 2 (h := ld' (s := { s with heap := s.heap.push ob, toks := t2 }) (W.push ob) hm ⟨k, u, rfl, fun u3 t3 => ⟨Heap.get?_push_size _ ff, k % 2, u3, ?_⟩⟩ hk hl hd)
  have hh : ∃ u4, ([Value.str (ts a) a1, Value.str (ts b) a2] : List Value)[k % 2]? = some (.str (ts (if k % 2 = 1 then b else a)) u4) := by
    rcases Nat.mod_two_eq_zero_or_one k with e | e <;> rw [e]
    · exact ⟨a1, rfl⟩
    · exact ⟨a2, rfl⟩
  obtain ⟨u4, hh⟩ := hh
  exact ⟨_, rfl, hh, h _ _ u4 (fun _ _ e => Heap.get?_push_of_some _ e) (W.push ob)⟩
theorem ev_pick3 {x : Str} {p1 p2 p3 p4 p5 p6 pos : Pos} {k1 k2 k3 k4 kk k : Nat} {u : Tok} (a b c : Txt) (W : Wk g env.locals s.heap m mu) (hm : m x = some (.int (k : Int) u))
    (h : ∀ h' tk u, Sub s.heap h' → Wk g env.locals h' m mu → Q (.str (ts (if k % 3 = 0 then a else if k % 3 = 1 then b else c)) u) { s with heap := h', toks := tk })
    (hk : env.scope.kind = .function := by rfl) (hl : env.kindOf x = some .local := by rfl) (hd : (x == ("__debug__" : Str)) = false := by decide)
    (hsub : ∀ o i, subscripted (.BinOp (.Name x p4) .Mod (.Constant (.int 3) k3 p5) p3) false o i = operate [o, i] (getItem o i) := by intro _ _; rfl) (hs : backTo p2 (starEach [.Constant (.str (ts a)) k1 p1, .Constant (.str (ts b)) k2 pos, .Constant (.str (ts c)) k4 p6] env) = [.Constant (.str (ts a)) k1 p1, .Constant (.str (ts b)) k2 pos, .Constant (.str (ts c)) k4 p6].map fun e => (false, eval e env) := by rfl) {pp : Pos} :
    wpAny (model prog w) A (eval (.Subscript (.Tuple [.Constant (.str (ts a)) k1 p1, .Constant (.str (ts b)) k2 pos, .Constant (.str (ts c)) k4 p6] kk p2) (.BinOp (.Name x p4) .Mod (.Constant (.int 3) k3 p5) p3) pp) env) Q E s := by
  refine ev_idxTup (spliced_cons (cst fun a1 t1 => spliced_cons (cst fun a2 t2 => spliced_cons (cst fun a3 t3 => spliced_nil ⟨by simp, fun ob T ff hT => ?_⟩)))) hsub hs
  have hTs : T = s.heap.objs.size := hT
  subst hTs
  refine ev_mod (s := { s with heap := s.heap.push ob, toks := t3 }) 3 (h := ld' (s := { s with heap := s.heap.push ob, toks := t3 }) (W.push ob) hm ⟨k, u, rfl, fun u3 t4 => ⟨Heap.get?_push_size _ ff, k % 3, u3, ?_⟩⟩ hk hl hd)
  have hh : ∃ u4, ([Value.str (ts a) a1, Value.str (ts b) a2, Value.str (ts c) a3] : List Value)[k % 3]? = some (.str (ts (if k % 3 = 0 then a else if k % 3 = 1 then b else c)) u4) := by
    have : k % 3 < 3 := Nat.mod_lt _ (by decide)
    have e : k % 3 = 0 ∨ k % 3 = 1 ∨ k % 3 = 2 := by lia
    rcases e with e | e | e <;> rw [e]
    · exact ⟨a1, rfl⟩
    · exact ⟨a2, rfl⟩
    · exact ⟨a3, rfl⟩
  obtain ⟨u4, hh⟩ := hh
  exact ⟨_, rfl, hh, h _ _ u4 (fun _ _ e => Heap.get?_push_of_some _ e) (W.push ob)⟩
end

def esc2C (c : Nat) : Txt := if c = 10 then [10] else [92, c]
theorem joinT_nil_cons (a : Txt) (r : List Txt) : joinT [] (a :: r) = a ++ joinT [] r := by
  rw [joinT_cons]
  cases r with
  | nil => rfl
  | cons b r => rw [joinT_cons]; rfl
theorem joinT_sum : ∀ l : List Txt, (joinT [] l).length = (l.map List.length).sum
  | [] => rfl
  | a :: r => by rw [joinT_nil_cons, List.length_append, joinT_sum r]; rfl
theorem join_esc2 : ∀ (v : Txt), joinT [] (v.map esc2C) = esc2 v
  | [] => rfl
  | c :: r => by
    rw [List.map_cons, joinT_nil_cons, join_esc2 r]
    have e2 : esc2 (c :: r) = if c = 10 then c :: esc2 r else 92 :: c :: esc2 r := rfl
    rw [e2]
    unfold esc2C
    split
    · rename_i h; rw [h]; rfl
    · rfl
theorem esc2_len : ∀ (v : Txt), (esc2 v).length ≤ 2 * v.length
  | [] => by simp [esc2]
  | c :: r => by
    have := esc2_len r
    unfold esc2
    split <;> simp <;> lia
theorem dwW_len {e : Txt} {w : Wd} (he : e.length ≤ 3) (h : GoodWd w) : (dwW e w).length ≤ 13 := by
  have h1 := h.kl
  unfold dwW
  cases hw : w.2 with
  | none => simp; lia
  | some v =>
    have h2 := h.vl v hw
    have h3 := esc2_len v
    simp; lia
end Mine
end

section
set_option autoImplicit false
set_option maxRecDepth 100000
set_option linter.unusedSimpArgs false
set_option linter.unusedVariables false
namespace Mine
open PySem PySem.W PySem.Calls PyProof.Rows PySem.Sre

def dreS : Stmt := topS 12
def dreSc : Scope := scopeOf dreS
def dreFor : Stmt := nth (bodyOf dreS) 1
def dreIn : Stmt := nth (bodyOf dreFor) 1
abbrev dreEnv (L : Addr) : Env := envOf "_law_dress" dreSc L 85 (.ref 84)

def eOf (k : Nat) : Txt := if k % 2 = 1 then [61, 10] else [32, 61, 32]
def rsOf (k : Nat) : Txt := if k % 3 = 0 then [10, 59, 61, 32] else if k % 3 = 1 then [32] else [59, 59]
structure DreI (g0 : Heap) (L Ra : Addr) (rv : List Value) (n' : Nat) (eo : Addr × Obj) (k : Nat) (uw : Tok) (row : List Wd) (i : Nat) (e : Addr × Obj) (h : Heap) : Prop where
  ex : ∃ g m Ta tv tn, Wk g L h m ([] ++ (Ta, listOf (List.toArray tv) tn) :: ([(Ra, listOf (List.toArray rv) n'), eo] ++ e :: [])) ∧ Sub g0 g ∧ m "told" = some (.ref Ta) ∧ m "way" = some (.int (k : Int) uw) ∧ m "rows" = some (.ref Ra) ∧ All2 StrT tv ((row.take i).map (dwW (eOf k)))

def dreWithin : Stmt := nth (bodyOf dreIn) 0
section
variable {prog : Program} {w : World} {A : Around} {E : Value → Shared → Prop} {s : Shared} {g0 g : Heap} {L Ra : Addr} {m : Str → Option Value} {mu : List (Addr × Obj)}
theorem dre_within {Q : Flow → Shared → Prop} {vv : Value} {o : Option Txt} (W : Wk g L s.heap m mu) (hval : m "value" = some vv) (ho : OptV o vv) (hov : ∀ v, o = some v → v.length ≤ 3) (r : Rm 4 A)
    (h : ∀ g' h' tk u, Sub g g' → Wk g' L h' (fun y => if y = "within" then some (.str (ts (esc2 (o.getD []))) u) else m y) mu → Q .next { s with heap := h', toks := tk }) :
    wpAny (model prog w) A (exec dreWithin (dreEnv L)) Q E s := by
  have hl3 : (o.getD []).length ≤ 3 := by
    cases o with
    | none => simp
    | some v => exact hov v rfl
  refine wpAny_Assign_Name (ev_join (sep := []) (ev_comp (env := dreEnv L) (items := o.getD []) (V := StrC) (fun _ => true) (fun c y => StrT y (esc2C c)) (s := { s with heap := s.heap, toks := s.toks + 1 }) W (fun a a' v h1 h2 => h1.inj h2) (by lia) ?_ ?_ ?_ ?_))
  · have src : ∀ (v : Txt) (u : Tok) (tk : Nat), o.getD [] = v → wpAny (model prog w) A (pyIter (.str (ts v) u)) (ItSrc prog w A { s with toks := tk } (o.getD []) StrC) E { s with toks := tk } := by
      intro v u tk hv
      have := src_str (prog := prog) (w := w) (A := A) (E := E) (s := { s with toks := tk }) (x := ts v) (t := u) r.hd
      rw [tl_ts] at this
      rw [hv]; exact this
    have empty : o.getD [] = [] → ∀ tk, wpAny (model prog w) A (eval (.BoolOp .Or [.Constant (.str (ts [])) 0 ⟨80, 91, 80, 93⟩] ⟨80, 82, 80, 93⟩) (dreEnv L)) (fun xv s₁ => (∃ h tk, s₁ = { s with heap := h, toks := tk } ∧ Sub s.heap h) ∧ wpAny (model prog w) A (pyIter xv) (ItSrc prog w A s₁ (o.getD []) StrC) E s₁) E { s with toks := tk } :=
      fun he tk => BoolOp_one (cst fun u t => ⟨⟨s.heap, t, rfl, Sub.refl _⟩, src [] u t he⟩)
    refine BoolOp_or (ld' (env := dreEnv L) (s := { s with heap := s.heap, toks := _ }) W hval ?_)
    cases o with
    | none =>
      cases (show vv = .none from ho)
      refine truthy_none ?_
      rw [if_neg (by decide)]
      exact empty rfl _
    | some v =>
      obtain ⟨uv, rfl⟩ := ho
      refine truthy_txt (by rw [ts_len]; have := hov v rfl; lia) fun tk => ?_
      rw [tl_ts]
      cases v with
      | nil =>
        rw [if_neg (by decide)]
        exact empty rfl _
      | cons c v' =>
        rw [if_pos (by rfl)]
        exact ⟨⟨s.heap, tk, rfl, Sub.refl _⟩, src _ uv tk rfl⟩
  · intro C c v' s₃ m₃ E' hc hV hk3 hn hm
    exact no_test ⟨rfl, s₃.heap, s₃.toks, rfl, fun _ _ e => e⟩
  · intro C c v' s₃ m₃ E' hc hV hpa hk3 hn hm
    obtain ⟨u, rfl⟩ := hV
    refine IfExp_ (wpAny_isTrue_Compare1 (ldN hn hm (cst fun u5 t5 => PyProof.Rows.eq_str (wpAny_truthy_bool ?_))))
    by_cases he : c = 10
    · subst he
      rw [if_pos (by rfl)]
      exact ldN (s := { s₃ with toks := t5 }) hn hm ⟨⟨u, rfl⟩, s₃.heap, t5, rfl, fun _ _ e => e⟩
    · have e : (ts [c] == ("\n" : Str)) = false := by
        rw [← Bool.not_eq_true, beq_iff_eq]
        intro q
        have := ts_inj.mp (q.trans (show ("\n" : Str) = ts [10] from rfl))
        injection this with this
        exact he this
      rw [if_neg (by rw [e]; decide)]
      refine ev_addT (cst fun u6 t6 => ⟨[92], u6, rfl, ldN (s := { s₃ with toks := t6 }) hn hm ⟨[c], u, rfl, by simp, fun u7 t7 => ⟨⟨u7, ?_⟩, s₃.heap, t7, rfl, fun _ _ e => e⟩⟩⟩)
      unfold esc2C
      rw [if_neg he]
      rfl
  · intro g3 h3 t4 D3 ys3 n3 s3 k3 W3 hD3 hDn3 hF3
    have hF3' : All2 StrT ys3 ((o.getD []).map esc2C) := by
      rw [List.filter_eq_self.mpr (fun _ _ => rfl)] at hF3
      exact hF3.mapR fun a y q => q
    refine ⟨D3, ys3, n3, _, rfl, W3.keep _ _ hD3, hF3', ?_, fun u5 t5 => ?_⟩
    · have := esc2_len (o.getD [])
      rw [← joinT_sum, join_esc2]; simp only [List.length_nil]; lia
    rw [join_esc2]
    exact st' (env := dreEnv L) (s := { s with heap := h3, toks := t5 }) W3 fun h4 W4 => h g3 h4 _ u5 s3 W4
end
end Mine
end

section
set_option autoImplicit false
set_option maxRecDepth 100000
set_option linter.unusedSimpArgs false
set_option linter.unusedVariables false
namespace Mine
open PySem PySem.W PySem.Calls PyProof.Rows PySem.Sre

theorem eOf_len (k : Nat) : (eOf k).length ≤ 3 := by unfold eOf; split <;> simp
theorem rsOf_len (k : Nat) : (rsOf k).length ≤ 4 := by unfold rsOf; split <;> (try split) <;> simp
theorem dwW_none {e : Txt} {w : Wd} (h : w.2 = none) : dwW e w = w.1 := by unfold dwW; rw [h]
theorem dwW_some {e v : Txt} {w : Wd} (h : w.2 = some v) : dwW e w = w.1 ++ e ++ [34] ++ esc2 v ++ [34] := by unfold dwW; rw [h]; simp
theorem take_map_snoc {α β : Type} {f : α → β} {l : List α} {i : Nat} {a : α} (h : l[i]? = some a) : (l.take (i + 1)).map f = (l.take i).map f ++ [f a] := by
  rw [List.take_add_one, h]; simp

def drePut : Stmt := nth (bodyOf dreIn) 1
section
variable {prog : Program} {w : World} {A : Around} {E : Value → Shared → Prop} {s : Shared} {g0 : Heap} {L Ra : Addr}
theorem dre_put {Q : Flow → Shared → Prop} {g : Heap} {m : Str → Option Value} {Ta : Addr} {tv : List Value} {tn k : Nat} {uw uk ui : Tok} {post : List (Addr × Obj)} {wd : Wd} {vv : Value} (W : Wk g L s.heap m ([] ++ (Ta, listOf (List.toArray tv) tn) :: post)) (hT : m "told" = some (.ref Ta)) (hw : m "way" = some (.int (k : Int) uw)) (hn : m "name" = some (.str (ts wd.1) uk)) (hval : m "value" = some vv) (ho : OptV wd.2 vv)
    (hi : m "within" = some (.str (ts (esc2 (wd.2.getD []))) ui)) (hG : GoodWd wd) (hz : tv.length ≤ 9000)
    (h : ∀ h' tk v, Wk g L h' m ([] ++ (Ta, listOf (List.toArray (tv ++ [v])) (tn + 1)) :: post) → StrT v (dwW (eOf k) wd) → Q .next { s with heap := h', toks := tk }) :
    wpAny (model prog w) A (exec drePut (dreEnv L)) Q E s := by
  have hkl := hG.kl
  have hel := eOf_len k
  refine wpAny_Expr (ev_append (T := Str.ofString "told") (env := dreEnv L) (pre := []) W hT (by simp; lia) (IfExp_ (wpAny_isTrue_Compare1 (ld' (env := dreEnv L) W hval (Constant_none ?_)))))
  cases hwd : wd.2 with
  | none =>
    rw [hwd] at ho
    cases (show vv = .none from ho)
    refine is_none_none (wpAny_truthy_bool ?_)
    rw [if_pos rfl]
    refine ld' (env := dreEnv L) W hn ⟨g, W, fun h1 W1 => ?_⟩
    rw [List.push_toArray] at W1
    exact h h1 _ _ W1 ⟨uk, by rw [dwW_none hwd]⟩
  | some v =>
    rw [hwd] at ho hi
    obtain ⟨uv, rfl⟩ := ho
    have hvl := hG.vl v hwd
    have hev := esc2_len v
    refine is_none_ne (by simp) (wpAny_truthy_bool ?_)
    rw [if_neg (by decide)]
    refine ev_addT (ev_addT (ev_addT (ev_addT (ld' (env := dreEnv L) W hn ⟨wd.1, uk, rfl, ev_pick2 (env := dreEnv L) [32, 61, 32] [61, 10] W hw fun h1 t1 u1 k1 W1 => ⟨eOf k, u1, rfl, by lia, fun u2 t2 => ⟨_, u2, rfl, cst fun u3 t3 => ⟨[34], u3, rfl, by simp only [List.length_append, List.length_cons, List.length_nil]; lia, fun u4 t4 => ⟨_, u4, rfl, ?_⟩⟩⟩⟩⟩))))
    refine ld' (env := dreEnv L) (s := { s with heap := h1, toks := t4 }) W1 hi ⟨_, ui, rfl, by simp only [List.length_append, List.length_cons, List.length_nil, Option.getD_some]; lia, fun u5 t5 => ⟨_, u5, rfl, cst fun u6 t6 => ⟨[34], u6, rfl, by simp only [List.length_append, List.length_cons, List.length_nil, Option.getD_some]; lia, fun u7 t7 => ⟨g, W1, fun h2 W2 => ?_⟩⟩⟩⟩
    rw [List.push_toArray] at W2
    exact h h2 _ _ W2 ⟨u7, by rw [dwW_some hwd]; rfl⟩

theorem dre_turn {rv : List Value} {n' : Nat} {eo : Addr × Obj} {k : Nat} {uw : Tok} {row : List Wd} {i : Nat} {e : Addr × Obj} {v : Value} {wd : Wd} {lo : Nat} (K : DreI g0 L Ra rv n' eo k uw row i e s.heap) (hv : TupD lo g0 v wd) (hi : row[i]? = some wd) (hG : GoodWd wd) (hz : row.length ≤ 1000) (r : Rm 6 A) :
    wpAny (model prog w) A (assign (tgtOf dreIn) (dreEnv L) v) (fun _ s₂ => wpAny (model prog w) A (execs (bodyOf dreIn) (dreEnv L)) (fun f s₃ => f = .next ∧ ∃ h' tk', s₃ = { s with heap := h', toks := tk' } ∧ DreI g0 L Ra rv n' eo k uw row (i + 1) e h') E s₂) E s := by
  obtain ⟨g, m, Ta, tv, tn, W, hg0, q1, q2, q3, q4⟩ := K
  obtain ⟨a, n, uk, vv, rfl, _, ha, ho⟩ := hv
  have htl := q4.len
  rw [List.length_map, List.length_take] at htl
  refine asg2 W r.hd ⟨_, W.keep _ _ (hg0 _ _ ha), rfl, n, rfl⟩ fun h1 t1 W1 => ?_
  refine wpAny_execs_cons (dre_within (s := { s with heap := h1, toks := t1 }) W1 rfl ho hG.vl (r.le (by lia)) fun g2 h2 t2 u2 s2 W2 => ?_)
  refine wpAny_execs_cons (dre_put (s := { s with heap := h2, toks := t2 }) (wd := wd) W2 q1 q2 rfl rfl ho rfl hG (by lia) fun h3 t3 v W3 hv => ?_)
  refine wpAny_execs_nil ⟨rfl, h3, t3, rfl, g2, _, Ta, _, _, W3, hg0.trans s2, q1, q2, q3, ?_⟩
  rw [take_map_snoc hi]
  exact q4.snoc hv

structure DreK (g0 : Heap) (L Ra : Addr) (k : Nat) (uw : Tok) (l : List (List Wd)) (i : Nat) (e : Addr × Obj) (h : Heap) : Prop where
  ex : ∃ g m rv n', Wk g L h m ([] ++ (Ra, listOf (List.toArray rv) n') :: [e]) ∧ Sub g0 g ∧ m "way" = some (.int (k : Int) uw) ∧ m "rows" = some (.ref Ra) ∧ All2 StrT rv ((l.take i).map (dRow (eOf k) (rsOf k)))

theorem dRow_len {e rs : Txt} {row : List Wd} (he : e.length ≤ 3) (hr : rs.length ≤ 4) (hG : ∀ w ∈ row, GoodWd w) : (dRow e rs row).length ≤ 17 * row.length ∧ ((row.map (dwW e)).map List.length).sum ≤ 13 * row.length := by
  have h1 : ∀ ws : List Wd, (∀ w ∈ ws, GoodWd w) → ((ws.map (dwW e)).map List.length).sum ≤ 13 * ws.length := by
    intro ws
    induction ws with
    | nil => simp
    | cons a ws ih =>
      intro h
      have h2 := ih fun x hx => h x (.tail _ hx)
      have h3 := dwW_len he (h a (.head _))
      simp only [List.map_cons, List.sum_cons, List.length_cons]
      lia
  have h2 := h1 row hG
  have h3 := joinT_len rs (row.map (dwW e))
  rw [List.length_map] at h3
  have h4 : row.length * rs.length ≤ row.length * 4 := Nat.mul_le_mul_left _ hr
  unfold dRow
  exact ⟨by lia, h2⟩

theorem dre_row {k : Nat} {uw : Tok} {l : List (List Wd)} {i : Nat} {e : Addr × Obj} {v : Value} {row : List Wd} {lo : Nat} (K : DreK g0 L Ra k uw l i e s.heap) (hv : RowD lo g0 v row) (hi : l[i]? = some row) (hG : GoodL l) (hn : words l ≤ 700) (r : Rm 6 A) :
    wpAny (model prog w) A (storeName (dreEnv L) "row" v) (fun _ s₂ => wpAny (model prog w) A (execs (bodyOf dreFor) (dreEnv L)) (fun f s₃ => f = .next ∧ ∃ h' tk', s₃ = { s with heap := h', toks := tk' } ∧ DreK g0 L Ra k uw l (i + 1) e h') E s₂) E s := by
  obtain ⟨g, m, rv, n', W, hg0, q2, q3, q4⟩ := K
  obtain ⟨ra, pv, pn, rfl, _, hra, hpv⟩ := hv
  have hpl := hpv.len
  have hrowG : ∀ w ∈ row, GoodWd w := (hG row (List.mem_of_getElem? hi)).2
  have hlt : i < l.length := (List.getElem?_eq_some_iff.mp hi).1
  have hrl : row.length ≤ 700 := by
    have h1 : words l = words (l.take i) + words (l.drop i) := by rw [← words_app, List.take_append_drop]
    have h2 : l.drop i = row :: l.drop (i + 1) := by
      rw [List.drop_eq_getElem_cons hlt]
      congr 1
      exact (List.getElem?_eq_some_iff.mp hi).2
    have h3 : words (row :: l.drop (i + 1)) = row.length + words (l.drop (i + 1)) := by simp [words]
    rw [h2, h3] at h1
    lia
  have hrvl := q4.len
  rw [List.length_map, List.length_take] at hrvl
  have hwl := words_len l hG
  refine st' (env := dreEnv L) W fun h1 W1 => ?_
  refine wpAny_execs_cons (wpAny_Assign_Name (ev_listNil (s := { s with heap := h1, toks := _ }) ?_))
  refine st' (env := dreEnv L) (s := { s with heap := h1.push (listOf #[] 0), toks := _ }) (W1.pushMu (listOf #[] 0) rfl) fun h2 W2 => ?_
  generalize h1.objs.size = Ta at W2
  refine wpAny_execs_cons (for_listP (env := dreEnv L) (s := { s with heap := h2, toks := _ }) (ax := ra) (items := pv) (fun j e' h => DreI g0 L Ra rv n' e k uw row j e' h) r.hd ?_ ?_ ?_ ?_ ?_)
  · refine ld' (env := dreEnv L) (s := { s with heap := h2, toks := _ }) W2 rfl ⟨rfl, ⟨h2, _, rfl⟩, ⟨_, W2.keep _ _ (hg0 _ _ hra), rfl, pn, rfl⟩, fun oI it hf => ?_⟩
    have W4 := (W2.pushMu oI hf).perm (List.perm_append_singleton (h2.objs.size, oI) [(Ta, listOf #[] 0), (Ra, listOf (List.toArray rv) n'), e]).symm
    exact ⟨g, _, Ta, [], 0, W4, hg0, rfl, q2, q3, .nil⟩
  · rintro j e' h ⟨g1, m1, Ta1, tv, tn, W', hg1, _⟩
    exact ⟨(W'.mus e' (.tail _ (.tail _ (.tail _ (.head _))))).1, ⟨_, W'.keep _ _ (hg1 _ _ hra), rfl, pn, rfl⟩⟩
  · rintro j I oI oI' h h' ⟨g1, m1, Ta1, tv, tn, W', hg1, q⟩ hs' ho'
    exact ⟨g1, m1, Ta1, tv, tn, Wk.turn (pre := [(Ta1, listOf (List.toArray tv) tn), (Ra, listOf (List.toArray rv) n'), e]) (post := []) W' hs'.extBut ho', hg1, q⟩
  · intro j v e' h tk' E' hvj K
    have hj : j < row.length := by rw [← hpl]; exact (List.getElem?_eq_some_iff.mp hvj).1
    obtain ⟨wd, hwd⟩ : ∃ wd, row[j]? = some wd := ⟨_, List.getElem?_eq_getElem hj⟩
    exact dre_turn (s := { s with heap := h, toks := tk' }) K (hpv.get j v wd hvj hwd) hwd (hrowG wd (List.mem_of_getElem? hwd)) (by lia) r
  · rintro I oI h h' tk' ⟨g1, m1, Ta1, tv, tn, W', hg1, p1, p2, p3, p4⟩ hx
    have W5 : Wk g1 L h' m1 ([(Ta1, listOf (List.toArray tv) tn), (Ra, listOf (List.toArray rv) n'), e] ++ []) := Wk.drop (pre := [(Ta1, listOf (List.toArray tv) tn), (Ra, listOf (List.toArray rv) n'), e]) W' hx
    rw [hpl, List.take_length] at p4
    obtain ⟨g2, s2, f2, W6⟩ := Wk.settle (pre := []) W5
    obtain ⟨hl1, hl2⟩ := dRow_len (eOf_len k) (rsOf_len k) hrowG
    have hrs := rsOf_len k
    refine wpAny_execs_cons (wpAny_Expr (ev_append (T := Str.ofString "rows") (env := dreEnv L) (s := { s with heap := h', toks := tk' }) (pre := []) W6 p3 (by simp; lia) (ev_joinG ?_)))
    refine ev_pick3 (env := dreEnv L) (s := { s with heap := h', toks := tk' }) [10, 59, 61, 32] [32] [59, 59] W6 p2 fun h7 t7 u7 k7 W7 => ⟨rsOf k, u7, rfl, ?_⟩
    refine ld' (env := dreEnv L) (s := { s with heap := h7, toks := t7 }) W7 p1 ⟨Ta1, tv, tn, _, rfl, W7.keep _ _ f2, p4, ?_, fun u8 t8 => ⟨g2, W7, fun h8 W8 => ?_⟩⟩
    · have h4 : (row.map (dwW (eOf k))).length * (rsOf k).length ≤ row.length * 4 := by rw [List.length_map]; exact Nat.mul_le_mul_left _ hrs
      lia
    rw [List.push_toArray] at W8
    refine wpAny_execs_nil ⟨rfl, h8, _, rfl, g2, m1, _, _, W8, hg1.trans s2, p2, p3, ?_⟩
    rw [take_map_snoc hi]
    exact q4.snoc ⟨u8, rfl⟩
end
end Mine
end

section
set_option autoImplicit false
set_option maxRecDepth 100000
set_option linter.unusedSimpArgs false
set_option linter.unusedVariables false
namespace Mine
open PySem PySem.W PySem.Calls PyProof.Rows PySem.Sre

def prOf (k : Nat) : Txt := if k % 2 = 1 then [] else [32, 59, 61]
def spOf (k : Nat) : Txt := if k % 2 = 1 then [32, 44, 59, 44] else [44]
def dreT (k : Nat) (l : List (List Wd)) : Txt := dTxt (prOf k) (eOf k) (rsOf k) (spOf k) l
theorem parse_dreT (k : Nat) {l : List (List Wd)} (h : GoodL l) : parse (dreT k l) = l := by
  have e : dreT k l = dTxt (preW (decide (k % 2 = 1))) (eW (decide (k % 2 = 1))) (rsepW (k % 3)) (sepW (decide (k % 2 = 1))) l := by
    unfold dreT prOf eOf spOf preW eW sepW rsOf rsepW
    by_cases h : k % 2 = 1 <;> simp [h]
  rw [e]
  exact parse_dress _ _ fun r hr => ⟨(h r hr).1, fun w hw => ((h r hr).2 w hw).vw⟩
theorem dRows_sum {e rs : Txt} (he : e.length ≤ 3) (hr : rs.length ≤ 4) : ∀ (l : List (List Wd)), GoodL l → ((l.map (dRow e rs)).map List.length).sum ≤ 17 * words l
  | [], _ => by simp
  | r :: l, h => by
    have h1 := dRows_sum he hr l fun x hx => h x (.tail _ hx)
    have h2 := (dRow_len he hr (h r (.head _)).2).1
    simp only [words, List.map_cons, List.sum_cons] at *
    lia
theorem spOf_len (k : Nat) : (spOf k).length ≤ 4 := by unfold spOf; split <;> simp
theorem prOf_len (k : Nat) : (prOf k).length ≤ 3 := by unfold prOf; split <;> simp
theorem dreT_len (k : Nat) {l : List (List Wd)} (h : GoodL l) : (dreT k l).length ≤ 3 + 21 * words l := by
  have h1 := dRows_sum (eOf_len k) (rsOf_len k) l h
  have h2 := joinT_len (spOf k) (l.map (dRow (eOf k) (rsOf k)))
  have h3 : (l.map (dRow (eOf k) (rsOf k))).length * (spOf k).length ≤ l.length * 4 := by rw [List.length_map]; exact Nat.mul_le_mul_left _ (spOf_len k)
  have h4 := words_len l h
  have h5 := prOf_len k
  unfold dreT dTxt
  rw [List.length_append]
  lia

section
variable {prog : Program} {w : World} {A : Around} {E : Value → Shared → Prop} {s : Shared} {P : Params} {mg mb : Str → Option Value}
/-- _law_dress -/
theorem call_dre {Q : Value → Shared → Prop} {lx : Value} {k : Nat} {uw : Tok} {l : List (List Wd)} {lo : Nat} (B : Bs P mg mb s.heap) (r : Rm 12 A) (hl : ListsD lo s.heap lx l) (hG : GoodL l) (hn : words l ≤ 700)
    (hQ : ∀ h' tk u, Sub s.heap h' → Q (.str (ts (dreT k l)) u) { s with heap := h', toks := tk }) :
    wpAny (model prog w) A (call (.ref 85) [lx, .int (k : Int) uw]) Q E s := by
  refine call_fn (n := 11) [] (by simp) (by simp) r (B.K 85 _ rfl) B.lim (codeRec_of B.K (by rfl)) (binds := [("lists", lx), ("way", .int (k : Int) uw)]) (by rfl) (locs (by rfl)) fun A' g h₁ tk r' hs hg hkp W => ?_
  obtain ⟨la, vs, n, rfl, hla, hvs⟩ := hl
  have hg' : Sub s.heap g := fun b o e => hg b o (by simp) e
  have lv := hvs.len
  have hwl := words_len l hG
  refine wpAny_execs_cons (wpAny_Assign_Name (ev_listNil ?_))
  refine st' (s := { s with heap := h₁.push (listOf #[] 0), toks := _ }) (W.pushMu (listOf #[] 0) rfl) fun h2 W2 => ?_
  generalize h₁.objs.size = Ra at W2
  generalize hL : s.heap.objs.size = L at W2
  refine wpAny_execs_cons (for_list (env := dreEnv L) (s := { s with heap := h2, toks := _ }) (ax := la) (items := vs) (fun i e h => DreK g L Ra k uw l i e h) r'.hd ?_ ?_ ?_ ?_ ?_)
  · refine ld' (env := dreEnv L) (s := { s with heap := h2, toks := _ }) W2 rfl ⟨rfl, ⟨h2, _, rfl⟩, ⟨_, W2.keep _ _ (hg' _ _ hla), rfl, n, rfl⟩, fun oI it hf => ?_⟩
    have W4 := (W2.pushMu oI hf).perm (List.perm_append_singleton (h2.objs.size, oI) [(Ra, listOf #[] 0)]).symm
    exact ⟨g, _, [], 0, W4, Sub.refl _, rfl, rfl, .nil⟩
  · rintro i e h ⟨g1, m1, rv, n', W', hg1, _⟩
    exact ⟨(W'.mus e (.tail _ (.head _))).1, ⟨_, W'.keep _ _ (hg1 _ _ (hg' _ _ hla)), rfl, n, rfl⟩⟩
  · rintro i I oI oI' h h' ⟨g1, m1, rv, n', W', hg1, q⟩ hs' ho'
    exact ⟨g1, m1, rv, n', Wk.turn (pre := [(Ra, listOf (List.toArray rv) n')]) (post := []) W' hs'.extBut ho', hg1, q⟩
  · intro i v e h tk' E' hvi K
    have hi : i < l.length := by rw [← lv]; exact (List.getElem?_eq_some_iff.mp hvi).1
    obtain ⟨row, hr⟩ : ∃ row, l[i]? = some row := ⟨_, List.getElem?_eq_getElem hi⟩
    exact dre_row (s := { s with heap := h, toks := tk' }) (lo := 0) K ((hvs.get i v row hvi hr).mono (Nat.zero_le _) fun b o _ e => hg' _ _ e) hr hG hn (r'.le (by lia))
  · rintro I oI h h' tk' ⟨g1, m1, rv, n', W', hg1, q2, q3, q4⟩ hx
    have W5 : Wk g1 L h' m1 ([(Ra, listOf (List.toArray rv) n')] ++ []) := Wk.drop (pre := [(Ra, listOf (List.toArray rv) n')]) W' hx
    rw [lv, List.take_length] at q4
    have h1 := dRows_sum (eOf_len k) (rsOf_len k) l hG
    have h2 := joinT_len (spOf k) (l.map (dRow (eOf k) (rsOf k)))
    have h3 : (l.map (dRow (eOf k) (rsOf k))).length * (spOf k).length ≤ l.length * 4 := by rw [List.length_map]; exact Nat.mul_le_mul_left _ (spOf_len k)
    have h5 := prOf_len k
    refine wpAny_execs_cons (wpAny_Return_some (ev_addT (ev_pick2 (env := dreEnv L) (s := { s with heap := h', toks := tk' }) [32, 59, 61] [] W5 q2 fun h7 t7 u7 k7 W7 => ⟨prOf k, u7, rfl, ?_⟩)))
    refine ev_joinG (ev_pick2 (env := dreEnv L) (s := { s with heap := h7, toks := t7 }) [44] [32, 44, 59, 44] W7 q2 fun h8 t8 u8 k8 W8 => ⟨spOf k, u8, rfl, ?_⟩)
    refine ld' (env := dreEnv L) (s := { s with heap := h8, toks := t8 }) W8 q3 ⟨Ra, rv, n', _, rfl, (W8.mus _ (.head _)).1, q4, by lia, fun u9 t9 => ⟨_, u9, rfl, by lia, fun u10 t10 => ⟨_, rfl, ?_⟩⟩⟩
    exact hQ h8 t10 u10 fun b o e => W8.keep _ _ (hg1 _ _ (hg' _ _ e))
end
end Mine
end

section
set_option autoImplicit false
set_option maxRecDepth 100000
set_option linter.unusedSimpArgs false
set_option linter.unusedVariables false
namespace Mine
open PySem PySem.W PySem.Calls PyProof.Rows PySem.Sre

/-! ### cells -/
theorem Wk.addMu {g h : Heap} {L a : Addr} {m : Str → Option Value} {mu : List (Addr × Obj)} {o : Obj} (W : Wk g L h m mu) (ho : h.get? a = some o) (hL : a ≠ L) (hg : g.get? a = none) (hm : ∀ p ∈ mu, p.1 ≠ a) : Wk g L h m ((a, o) :: mu) := by
  refine ⟨W.ns, W.keep, W.low, fun p hp => ?_, ?_⟩
  · rcases List.mem_cons.mp hp with rfl | hp
    · exact ⟨ho, hL, hg⟩
    · exact W.mus p hp
  · refine List.nodup_cons.mpr ⟨fun q => ?_, W.nd⟩
    obtain ⟨p, hp, e⟩ := List.mem_map.mp q
    exact hm p hp e

theorem call_fnC {prog : Program} {w : World} {A : Around} {s : Shared} {E : Value → Shared → Prop} {name : Str} {params : Arguments} {body : List Stmt} {scope : Scope} {pm cd doc : Value} {a : Addr} {vals : List Value} {binds : List (Str × Value)} {Q : Value → Shared → Prop}
    {n : Nat} (hid : List (Addr × Obj)) (hh : ∀ p ∈ hid, s.heap.get? p.1 = some p.2) (hnd : (hid.map (·.1)).Nodup) (hroom : Rm (n + 1) A)
    (ho : s.heap.get? a = some { cls := .type "function", data := .func (docDef name params body scope pm cd doc) }) (hlim : s.heap.NoLimit) (hcd : s.heap.CodeRec cd name)
    (hbind : bindArgs (docDef name params body scope pm cd doc) ⟨vals, []⟩ = pure binds)
    (hkind : ∀ x ∈ binds, scope.names.lookup x.1 = some .local ∨ (scope.names.lookup x.1 = some .cell ∧ ((cellsFrom (s.heap.objs.size + 1) scope.names []).lookup x.1).isSome = true))
    (h : ∀ A' g h₁ tk, Rm n A' → Sub g s.heap → (∀ b o, (∀ p ∈ hid, p.1 ≠ b) → s.heap.get? b = some o → g.get? b = some o) → Sub s.heap h₁ → Wk g s.heap.objs.size h₁ (bindL (envOfC name scope s.heap.objs.size a cd).kindOf binds fun _ => none) hid →
      (∀ x c, (cellsFrom (s.heap.objs.size + 1) scope.names []).lookup x = some c → s.heap.objs.size < c ∧ g.get? c = none ∧ (∀ p ∈ hid, p.1 ≠ c) ∧ ∃ o, h₁.get? c = some o ∧ o.data = .cell (bindC (envOfC name scope s.heap.objs.size a cd).kindOf binds (fun _ => none) x)) →
      wpAny (model prog w) A' (execs body (envOfC name scope s.heap.objs.size a cd)) (fun f s' => ∃ v, f = .ret v ∧ Q v s') (fun _ _ => False) { s with heap := h₁, toks := tk })
    (hco : scope.isCoroutine = false := by rfl) (hgen : scope.isGenerator = false := by rfl) (hk : scope.kind = .function := by rfl) :
    wpAny (model prog w) A (call (.ref a) vals) Q E s := by
  refine wpAny_call (call_cells_ret hroom.room ho rfl hlim hcd hbind hkind (fun h₁ tk F X => ?_) hco hgen hk)
  refine wpAny_mono (h _ (hideAll s.heap (hid.map (·.1))) h₁ tk (hroom.deeper _) hidden (fun b o hb e => hideAll_get _ e fun q => ?_) F.keep ⟨F.ns, fun b o e => F.keep b o (hidden b o e), ?_, fun p hp => ⟨F.keep _ _ (hh p hp), Nat.ne_of_lt (Heap.lt_size (hh p hp)), hideAll_none _ (List.mem_map_of_mem hp)⟩, hnd⟩ (fun x c e => ?_)) (fun f s' hf => ?_) fun _ _ x => x
  · obtain ⟨p, hp, e⟩ := List.mem_map.mp q
    exact hb p hp e
  · cases q : (hideAll s.heap (hid.map (·.1))).get? s.heap.objs.size with
    | none => rfl
    | some o => exact absurd (Heap.lt_size (hidden _ _ q)) (Nat.lt_irrefl _)
  · have lt := X.above x c (mem_of_lookup e)
    refine ⟨lt, ?_, fun p hp q => ?_, X.cell x c e⟩
    · cases q : (hideAll s.heap (hid.map (·.1))).get? c with
      | none => rfl
      | some o => exact absurd (Heap.lt_size (hidden _ _ q)) (Nat.not_lt_of_gt lt)
    · have := Heap.lt_size (hh p hp)
      rw [q] at this
      exact Nat.lt_irrefl _ (Nat.lt_trans lt this)
  · obtain ⟨v, rfl, hv⟩ := hf
    exact hv

section
variable {M : Model} {A : Around} {E : Value → Shared → Prop} {s : Shared} {env : Env} {g : Heap} {L : Addr} {m : Str → Option Value} {mu pre post : List (Addr × Obj)}
theorem ldCell {x : Str} {pos : Pos} {c : Addr} {v : Value} {Q : Value → Shared → Prop} (hv : s.heap.IsCell c (some v)) (hc : env.cells.lookup x = some c) (h : Q v s)
    (hk : env.scope.kind = .function := by rfl) (hl : env.kindOf x = some .cell := by rfl) (hd : (x == ("__debug__" : Str)) = false := by decide) : wpAny M A (eval (.Name x pos) env) Q E s :=
  wpAny_Name (wpAny_loadName_cell hk hl hc hv h) hd
theorem stCell {x : Str} {c : Addr} {o : Obj} {v : Value} {v0 : Option Value} {Q : Unit → Shared → Prop} (W : Wk g env.locals s.heap m (pre ++ (c, o) :: post)) (ho : o.data = .cell v0) (hc : env.cells.lookup x = some c)
    (h : ∀ g' h' o', Sub g g' → g'.get? c = some o' → o'.data = .cell (some v) → Wk g' env.locals h' m (pre ++ post) → Q () { s with heap := h' })
    (hk : env.scope.kind = .function := by rfl) (hl : env.kindOf x = some .cell := by rfl) : wpAny M A (storeName env x v) Q E s := by
  have hm := (W.mus (c, o) (List.mem_append_right _ (.head _))).1
  refine wpAny_storeName_cell hk hl hc ⟨o, hm, ho⟩ fun h' hv hs => ?_
  obtain ⟨o', ho', hd'⟩ := hv
  obtain ⟨g', s1, e1, W1⟩ := (W.turn hs.extBut ho').settle
  exact h g' h' o' s1 e1 hd' W1
end

section
variable {prog : Program} {w : World} {A : Around} {E : Value → Shared → Prop} {s : Shared} {env : Env} {g : Heap} {m : Str → Option Value} {mu : List (Addr × Obj)} {Q : Value → Shared → Prop}
theorem ev_fdivG {e1 e2 : Expr} {pos : Pos}
    (h : wpAny (model prog w) A (eval e1 env) (fun v s₁ => ∃ (k : Nat) (u : Tok), v = .int (k : Int) u ∧ k < 2 ^ 30 ∧ wpAny (model prog w) A (eval e2 env) (fun v2 s₂ => ∃ (c : Nat) (u2 : Tok), v2 = .int (c : Int) u2 ∧ c ≠ 0 ∧ c < 2 ^ 30 ∧ ∀ u' tk, Q (.int ((k / c : Nat) : Int) u') { s₂ with toks := tk }) E s₁) E s) :
    wpAny (model prog w) A (eval (.BinOp e1 .FloorDiv e2 pos) env) Q E s := by
  refine wpAny_BinOp (wpAny_mono h (fun v s₁ h₁ => ?_) fun _ _ x => x)
  obtain ⟨k, u, rfl, hk, h₁⟩ := h₁
  refine wpAny_mono h₁ (fun v2 s₂ h₂ => ?_) fun _ _ x => x
  obtain ⟨c, u2, rfl, hc, hc2, hq⟩ := h₂
  refine floordiv_int (by lia) ?_ (Or.inl (PyProof.noPylong_small (by lia)))
  rw [fdiv_nat]
  exact hq _ _
theorem ev_modG {e1 e2 : Expr} {pos : Pos}
    (h : wpAny (model prog w) A (eval e1 env) (fun v s₁ => ∃ (k : Nat) (u : Tok), v = .int (k : Int) u ∧ wpAny (model prog w) A (eval e2 env) (fun v2 s₂ => ∃ (c : Nat) (u2 : Tok), v2 = .int (c : Int) u2 ∧ c ≠ 0 ∧ ∀ u' tk, Q (.int ((k % c : Nat) : Int) u') { s₂ with toks := tk }) E s₁) E s) :
    wpAny (model prog w) A (eval (.BinOp e1 .Mod e2 pos) env) Q E s := by
  refine wpAny_BinOp (wpAny_mono h (fun v s₁ h₁ => ?_) fun _ _ x => x)
  obtain ⟨k, u, rfl, h₁⟩ := h₁
  refine wpAny_mono h₁ (fun v2 s₂ h₂ => ?_) fun _ _ x => x
  obtain ⟨c, u2, rfl, hc, hq⟩ := h₂
  refine PyProof.Rows.mod_int (by lia) ?_
  rw [fmod_nat]
  exact hq _ _
theorem ev_addN {e1 e2 : Expr} {pos : Pos}
    (h : wpAny (model prog w) A (eval e1 env) (fun v s₁ => ∃ (k : Nat) (u : Tok), v = .int (k : Int) u ∧ wpAny (model prog w) A (eval e2 env) (fun v2 s₂ => ∃ (c : Nat) (u2 : Tok), v2 = .int (c : Int) u2 ∧ ∀ u' tk, Q (.int ((k + c : Nat) : Int) u') { s₂ with toks := tk }) E s₁) E s) :
    wpAny (model prog w) A (eval (.BinOp e1 .Add e2 pos) env) Q E s := by
  refine wpAny_BinOp (wpAny_mono h (fun v s₁ h₁ => ?_) fun _ _ x => x)
  obtain ⟨k, u, rfl, h₁⟩ := h₁
  refine wpAny_mono h₁ (fun v2 s₂ h₂ => ?_) fun _ _ x => x
  obtain ⟨c, u2, rfl, hq⟩ := h₂
  exact PyProof.Rows.add_int (hq _ _)
theorem ev_subN {e1 e2 : Expr} {pos : Pos}
    (h : wpAny (model prog w) A (eval e1 env) (fun v s₁ => ∃ (k : Nat) (u : Tok), v = .int (k : Int) u ∧ wpAny (model prog w) A (eval e2 env) (fun v2 s₂ => ∃ (c : Nat) (u2 : Tok), v2 = .int (c : Int) u2 ∧ c ≤ k ∧ ∀ u' tk, Q (.int ((k - c : Nat) : Int) u') { s₂ with toks := tk }) E s₁) E s) :
    wpAny (model prog w) A (eval (.BinOp e1 .Sub e2 pos) env) Q E s := by
  refine wpAny_BinOp (wpAny_mono h (fun v s₁ h₁ => ?_) fun _ _ x => x)
  obtain ⟨k, u, rfl, h₁⟩ := h₁
  refine wpAny_mono h₁ (fun v2 s₂ h₂ => ?_) fun _ _ x => x
  obtain ⟨c, u2, rfl, hc, hq⟩ := h₂
  refine PyProof.Rows.sub_int ?_
  have e : ((k : Int) - (c : Int)) = ((k - c : Nat) : Int) := by lia
  rw [e]
  exact hq _ _
theorem ev_int {i : Int} {k : Nat} {pos : Pos} (h : ∀ u tk, Q (.int i u) { s with toks := tk }) : wpAny (model prog w) A (eval (.Constant (.int i) k pos) env) Q E s := wpAny_Constant_int (h _ _)
/-- len(a text) -/
theorem ev_len {P : Params} {mg mb : Str → Option Value} {e : Expr} {pf pos : Pos} (B : Bs P mg mb s.heap)
    (h : wpAny (model prog w) A (eval e env) (fun v s₁ => ∃ t u, v = .str (ts t) u ∧ t.length < 1000 ∧ ∀ u' tk, Q (.int ((t.length : Nat) : Int) u') { s₁ with toks := tk }) E s)
    (hG : env.globals = mainGlobals := by rfl) (hGb : env.builtins = builtinsNs := by rfl) (hk : env.scope.kind = .function := by rfl) (hx : env.kindOf "len" = some .globalImplicit := by rfl)
    (hs : backTo pos (starEach [e] env) = [(false, eval e env)] := by rfl) : wpAny (model prog w) A (eval (.Call (.Name "len" pf) [e] [] pos) env) Q E s := by
  refine ev_callB1 (id := "len") (fun Q' q => ldB B (B.fr _ (by decide)) (by rfl) q (by decide) hG hGb hk hx) (wpAny_mono h (fun v s₁ h₁ => ?_) fun _ _ x => x) hs
  obtain ⟨t, u, rfl, ht, hq⟩ := h₁
  refine PyProof.Rows.len_str ?_ ?_
  · rw [ts_len]; lia
  · have e : (((ts t).length : Nat) : Int) = (t.length : Int) := by rw [ts_len]
    rw [e]
    exact hq _ _
open Classical in
/-- a list comprehension with names from without -/
theorem ev_compF {α : Type} {items : List α} {V : α → Value → Prop} (pa : α → Bool) (F : α → Value → Prop) {elt iter : Expr} {x : Str} {px : Pos} {ifs : List Expr} {scope : Scope} {pos : Pos} {cl : List (Str × Addr)} (W : Wk g env.locals s.heap m mu)
    (hfun : ∀ a a' v, V a v → V a' v → a = a') (hz : items.length ≤ 10000) (hclos : closureFor scope env = pure cl)
    (hiter : wpAny (model prog w) A (eval iter env) (fun xv s₁ => (∃ h tk, s₁ = { s with heap := h, toks := tk } ∧ Sub s.heap h) ∧ wpAny (model prog w) A (pyIter xv) (ItSrc prog w A s₁ items V) E s₁) E s)
    (tests : ∀ C a v s₃ m₃ E', a ∈ items → V a v → Sub s.heap s₃.heap → s₃.heap.Ns C m₃ → m₃ x = some v →
      wpAny (model prog w) A (forIn ifs true fun c r => if r = true then do let ok ← isTrue c (compEnvC scope cl C env) (eval c (compEnvC scope cl C env)); pure (ForInStep.yield ok) else pure (ForInStep.yield r)) (fun ok s₄ => ok = pa a ∧ Keeps s₃ s₄) E' s₃)
    (elts : ∀ C a v s₃ m₃ E', a ∈ items → V a v → pa a = true → Sub s.heap s₃.heap → s₃.heap.Ns C m₃ → m₃ x = some v → wpAny (model prog w) A (eval elt (compEnvC scope cl C env)) (fun y s₄ => F a y ∧ Keeps s₃ s₄) E' s₃)
    (hQ : ∀ g' h' tk D ys n, Sub g g' → Sub s.heap h' → Wk g' env.locals h' m mu → g'.get? D = some (listOf (List.toArray ys) n) → s.heap.get? D = none → All2 F (items.filter pa) ys → Q (.ref D) { s with heap := h', toks := tk })
    (hcell : ∀ y ∈ scope.names, y.2 ≠ .cell := by decide) (hkind : scope.kind = .function := by rfl)
    (hnames : ∀ y ∈ scope.names, y.2 = .local → scope.names.lookup y.1 = some .local := by decide) (hx : scope.names.lookup x = some .local := by rfl)
    (hs : ∀ x, foldedSetIterable iter env x = pure x := by intro _; rfl) :
    wpAny (model prog w) A (eval (.ListComp elt [⟨.Name x px, iter, ifs, 0⟩] scope pos) env) Q E s := by
  refine wpAny_ListComp_free (fun v => decide (∃ a ∈ items, V a v ∧ pa a = true)) (fun v y => ∃ a ∈ items, V a v ∧ F a y) hclos hcell hkind hnames hx (wpAny_mono hiter (fun xv s₁ h₁ => ?_) fun _ _ e => e) hs
  obtain ⟨⟨h, tk, rfl, k1⟩, h₁⟩ := h₁
  refine wpAny_mono h₁ (fun it s₂ h₂ => ?_) fun _ _ e => e
  obtain ⟨I, fp, wr, St, h2, tk2, rfl, rfl, k2, WW, hst, hfp, hwr⟩ := h₂
  have hwr' : ∀ b o, s.heap.get? b = some o → b ∉ wr := fun b o e hb => by
    have := hwr b hb
    rw [show ({ s with heap := h, toks := tk } : Shared).heap.get? b = some o from k1 _ _ e] at this
    cases this
  refine ⟨I, fp, wr, items.length, _, St, rfl, WW, by simp [sizeLine]; lia, hst, hfp, ⟨?_, ?_⟩, ?_⟩
  · intro C i v s₃ m₃ E' _ hv hn hm hk htk
    obtain ⟨a, ha, hva⟩ := hv
    have hma := List.mem_of_getElem? ha
    refine wpAny_mono (tests C a v s₃ m₃ E' hma hva (fun b o e => hk b o (hwr' b o e) (k2 _ _ (k1 _ _ e))) hn hm) (fun ok s₄ q => ⟨?_, q.2⟩) fun _ _ e => e
    rw [q.1, Bool.eq_iff_iff, decide_eq_true_eq]
    constructor
    · exact fun h => ⟨a, hma, hva, h⟩
    · rintro ⟨a', _, h1, h2⟩
      rw [← hfun _ _ _ h1 hva]; exact h2
  · intro C i v s₃ m₃ E' _ hv hp hn hm hk htk
    obtain ⟨a, ha, hva⟩ := hv
    have hma := List.mem_of_getElem? ha
    have hpa : pa a = true := by
      obtain ⟨a', _, h1, h2⟩ := of_decide_eq_true hp
      rw [← hfun _ _ _ h1 hva]; exact h2
    exact wpAny_mono (elts C a v s₃ m₃ E' hma hva hpa (fun b o e => hk b o (hwr' b o e) (k2 _ _ (k1 _ _ e))) hn hm) (fun y s₄ q => ⟨⟨a, hma, hva, q.1⟩, q.2⟩) fun _ _ e => e
  · intro D h' tk' ys vs hD hl hpl hlen hP hF hk
    have kk : Sub s.heap h' := fun b o e => hk b o (hwr' b o e) (k2 _ _ (k1 _ _ e))
    obtain ⟨n, hpl⟩ := hpl
    have hDn : s.heap.get? D = none := by
      cases q : s.heap.get? D with
      | none => rfl
      | some o =>
        have : h2.get? D = none := hD
        rw [k2 _ _ (k1 _ _ q)] at this; cases this
    obtain ⟨g', s1, s2, W'⟩ := W.ext kk
    refine hQ g' h' tk' D ys.toList n s1 kk W' (s2 _ _ hDn (by simpa using hpl)) hDn ?_
    exact paired_all2 hfun (all2_of_get items vs hlen hP) (fun a h => h) hF
end
end Mine
end

section
set_option autoImplicit false
set_option maxRecDepth 100000
set_option linter.unusedSimpArgs false
set_option linter.unusedVariables false
namespace Mine
open PySem PySem.W PySem.Calls PyProof.Rows PySem.Sre

section
variable {prog : Program} {w : World} {A : Around} {E : Value → Shared → Prop} {s : Shared} {env : Env} {g : Heap} {m : Str → Option Value} {mu : List (Addr × Obj)} {Q : Value → Shared → Prop}
/-- a tuple display -/
theorem ev_tuple {es : List Expr} {kk : Nat} {pos : Pos} (h : wpAny (model prog w) A (spliced (es.map fun e => (false, eval e env))) (fun vs s₁ => vs.length ≤ 100 ∧ Q (.ref s₁.heap.objs.size) { s₁ with heap := s₁.heap.push (pairObj vs.toArray) }) E s)
    (hs : backTo pos (starEach es env) = es.map fun e => (false, eval e env) := by rfl) : wpAny (model prog w) A (eval (.Tuple es kk pos) env) Q E s := by
  refine Tuple_ ?_
  rw [hs]
  refine wpAny_mono h (fun vs s₁ h₁ => ?_) fun _ _ x => x
  exact wpAny_newTuple h₁.2 (by have := h₁.1; simp [sizeLine]; lia)
/-- a place of a tuple -/
theorem ev_idxT {o e : Expr} {pos : Pos} (h : wpAny (model prog w) A (eval o env) (fun v s₁ => ∃ (T : Addr) (vs : List Value) (n : Nat), v = .ref T ∧ vs.length ≤ 1000 ∧ wpAny (model prog w) A (eval e env) (fun i s₂ => s₂.heap.get? T = some { cls := .type "tuple", data := .seq vs.toArray n } ∧ ∃ (k : Nat) (u : Tok) (x : Value), i = .int (k : Int) u ∧ vs[k]? = some x ∧ Q x s₂) E s₁) E s)
    (hsub : ∀ o i, subscripted e false o i = operate [o, i] (getItem o i) := by intro _ _; rfl) : wpAny (model prog w) A (eval (.Subscript o e pos) env) Q E s := by
  refine PyProof.Rows.Subscript_ (wpAny_mono h (fun v s₁ h₁ => ?_) fun _ _ x => x)
  obtain ⟨T, vs, n, rfl, hz, h₁⟩ := h₁
  refine wpAny_mono h₁ (fun i s₂ h₂ => ?_) fun _ _ x => x
  obtain ⟨hT, k, u, x, rfl, hx, hq⟩ := h₂
  have hk : k < vs.length := (List.getElem?_eq_some_iff.mp hx).1
  exact subTail (T := "tuple") ⟨_, hT, rfl⟩ slot_tuple_getitem.lookup (PyProof.Rows.getItem_tuple (j := k) ⟨_, hT, rfl, n, rfl⟩ (by lia) (by lia) (by rw [seqIdx_nat (by simpa using hk)]) (by simpa using hx) hq) (hsub _ _)
end

def chaS : Stmt := topS 13
def chaSc : Scope := scopeOf chaS
abbrev chaEnv (L : Addr) : Env := envOfC "_law_changed" chaSc L 90 (.ref 89)
def chaMenu : List Txt := [[], [97], [98], [61], [34], [92], [32], [59], [44], [10]]
def chaParts : List Nat := [3600, 36000, 360000]
def chaOk (t : Txt) : Prop := t.length ≤ 1 ∧ ALt t
theorem chaMenu_ok : ∀ j, j < 10 → chaOk (chaMenu.getD j []) := by unfold chaOk ALt AL; decide
theorem cha_join : ∀ {l : List Txt}, (∀ t ∈ l, chaOk t) → (joinT [] l).length ≤ l.length ∧ ALt (joinT [] l)
  | [], _ => ⟨by simp [joinT], .nil⟩
  | a :: l, h => by
    have h1 := cha_join fun x hx => h x (.tail _ hx)
    have h2 := h a (.head _)
    rw [joinT_nil_cons]
    refine ⟨?_, h2.2.app h1.2⟩
    rw [List.length_append, List.length_cons]
    have := h2.1
    lia
theorem txts_of {α : Type} {ok : Txt → Prop} {as : List α} {ys : List Value} (X : All2 (fun _ y => ∃ t, StrT y t ∧ ok t) as ys) : ∃ txts, All2 StrT ys txts ∧ (∀ t ∈ txts, ok t) ∧ txts.length = as.length := by
  induction X with
  | nil => exact ⟨[], .nil, (fun _ h => by cases h), rfl⟩
  | cons x _ ih =>
    obtain ⟨txts, h1, h2, h3⟩ := ih
    obtain ⟨t, hs, ho⟩ := x
    refine ⟨t :: txts, .cons hs h1, fun z hz => ?_, congrArg (· + 1) h3⟩
    rcases List.mem_cons.mp hz with rfl | hz
    · exact ho
    · exact h2 z hz
theorem IntV.inj {v : Value} {a b : Nat} (h : IntV v a) (h' : IntV v b) : a = b := by
  obtain ⟨u, rfl⟩ := h
  obtain ⟨u', e⟩ := h'
  injection e with e _
  lia
theorem zip_fun {β : Type} {R : Value → β → Prop} (hR : ∀ v x y, R v x → R v y → x = y) : ∀ (a a' : Value × β) (v : Value), (v = a.1 ∧ R a.1 a.2) → (v = a'.1 ∧ R a'.1 a'.2) → a = a' := by
  rintro ⟨v1, x⟩ ⟨v2, y⟩ v ⟨e1, h1⟩ ⟨e2, h2⟩
  dsimp only at *
  subst e1
  subst e2
  rw [hR _ _ _ h1 h2]
end Mine
end

section
set_option autoImplicit false
set_option maxRecDepth 100000
set_option linter.unusedSimpArgs false
set_option linter.unusedVariables false
namespace Mine
open PySem PySem.W PySem.Calls PyProof.Rows PySem.Sre

theorem cha_menu {vs : List Value} (h : All2 StrT vs chaMenu) {j : Nat} (hj : j < 10) : ∃ v, vs[j]? = some v ∧ ∃ t, StrT v t ∧ chaOk t := by
  have hl := h.len
  have hj' : j < vs.length := by rw [hl]; exact hj
  refine ⟨_, List.getElem?_eq_getElem hj', chaMenu.getD j [], ?_, chaMenu_ok j hj⟩
  refine h.get j _ _ (List.getElem?_eq_getElem hj') ?_
  have : j < chaMenu.length := hj
  rw [List.getD_eq_getElem?_getD, List.getElem?_eq_getElem this]; rfl

theorem ItSrc.as {β : Type} {prog : Program} {w : World} {A : Around} {s s₂ : Shared} {vs : List Value} {xs : List β} {R : Value → β → Prop} {it : Value} (h : ItSrc prog w A s vs (fun a v => v = a) it s₂) (hR : All2 R vs xs) :
    ItSrc prog w A s xs (fun x v => R v x) it s₂ := by
  obtain ⟨I, fp, wr, St, h, tk, e1, e2, k, W, a, b, c⟩ := h
  refine ⟨I, fp, wr, St, h, tk, e1, e2, k, ?_, a, b, c⟩
  rw [← hR.len]
  refine Walks.weak W fun i v hi hv => ?_
  obtain ⟨x, e, rfl⟩ := hv
  have hx : i < xs.length := by rw [← hR.len]; exact hi
  exact ⟨_, List.getElem?_eq_getElem hx, hR.get i _ _ e (List.getElem?_eq_getElem hx)⟩
section
variable {prog : Program} {w : World} {A : Around} {E : Value → Shared → Prop} {s : Shared} {P : Params} {mg mb : Str → Option Value} {g : Heap} {L : Addr} {m : Str → Option Value} {mu : List (Addr × Obj)} {Q : Flow → Shared → Prop}
theorem cha_signs {on om : Obj} {k : Nat} {u : Tok} {T : Addr} {vs : List Value} {n : Nat} (W : Wk g L s.heap m mu) (hn : g.get? (L + 1) = some on) (hnd : on.data = .cell (some (.int (k : Int) u))) (hm : g.get? (L + 1 + 1) = some om) (hmd : om.data = .cell (some (.ref T))) (hT : g.get? T = some { cls := .type "tuple", data := .seq vs.toArray n }) (hvs : All2 StrT vs chaMenu) (hk : k < 2 ^ 30) (r : Rm 4 A)
    (h : ∀ g' h' tk u X, Sub g g' → X.length ≤ 3 → ALt X → Wk g' L h' (fun y => if y = "signs" then some (.str (ts X) u) else m y) mu → Q .next { s with heap := h', toks := tk }) (st : Stmt) (hst : st = nth (bodyOf chaS) 3) :
    wpAny (model prog w) A (exec st (chaEnv L)) Q E s := by
  subst hst
  refine wpAny_Assign_Name (ev_join (sep := []) ?_)
  have hl := hvs.len
  refine ev_compF (env := chaEnv L) (cl := [("n", L + 1), ("menu", L + 1 + 1)]) (items := chaParts) (V := fun c v => IntV v c) (fun _ => true) (fun _ y => ∃ t, StrT y t ∧ chaOk t) (s := { s with heap := s.heap, toks := s.toks + 1 }) W (fun a a' v h1 h2 => h1.inj h2) (by decide) (by rfl) ?_ ?_ ?_ ?_
  · refine ev_tuple (spliced_cons (ev_int fun a1 t1 => spliced_cons (ev_int fun a2 t2 => spliced_cons (ev_int fun a3 t3 => spliced_nil ⟨by simp, ⟨_, _, rfl, fun _ _ e => Heap.get?_push_of_some _ e⟩, ?_⟩))))
    refine wpAny_mono (src_tuple (s := { s with heap := s.heap.push (pairObj [Value.int 3600 a1, .int 36000 a2, .int 360000 a3].toArray), toks := t3 }) (vs := [Value.int 3600 a1, .int 36000 a2, .int 360000 a3]) r.hd ⟨_, Heap.get?_push_size _ rfl, rfl, 0, rfl⟩) (fun it s₂ q => q.as ?_) fun _ _ q => q
    exact .cons ⟨_, rfl⟩ (.cons ⟨_, rfl⟩ (.cons ⟨_, rfl⟩ .nil))
  · intro C c v' s₃ m₃ E' hc hV hk3 hn hm
    exact no_test ⟨rfl, s₃.heap, s₃.toks, rfl, fun _ _ e => e⟩
  · intro C c v' s₃ m₃ E' hc hV hpa hk3 hn3 hm3
    obtain ⟨up, rfl⟩ := hV
    have hc0 : c ≠ 0 ∧ c < 2 ^ 30 := by
      have : ∀ c ∈ chaParts, c ≠ 0 ∧ c < 2 ^ 30 := by decide
      exact this c hc
    refine ev_idxT (ldCell (env := compEnvC _ _ C (chaEnv L)) ⟨om, hk3 _ _ (W.keep _ _ hm), hmd⟩ (by rfl) ⟨T, vs, n, rfl, by rw [hl]; decide, ?_⟩)
    refine ev_mod 10 (h := ev_fdivG (ldCell (env := compEnvC _ _ C (chaEnv L)) ⟨on, hk3 _ _ (W.keep _ _ hn), hnd⟩ (by rfl) ⟨k, u, rfl, hk, ldN hn3 hm3 ⟨c, up, rfl, hc0.1, hc0.2, fun u1 t1 => ⟨_, u1, rfl, fun u2 t2 => ⟨hk3 _ _ (W.keep _ _ hT), k / c % 10, u2, ?_⟩⟩⟩⟩))
    obtain ⟨v, hv, t, hs, hok⟩ := cha_menu hvs (Nat.mod_lt (k / c) (by decide : 10 > 0))
    exact ⟨v, rfl, hv, ⟨t, hs, hok⟩, s₃.heap, t2, rfl, fun _ _ e => e⟩
  · intro g3 h3 t4 D3 ys3 n3 s3 k3 W3 hD3 hDn3 hF3
    rw [List.filter_eq_self.mpr (fun _ _ => rfl)] at hF3
    obtain ⟨txts, q1, q2, q3⟩ := txts_of hF3
    obtain ⟨j1, j2⟩ := cha_join q2
    have q3' : txts.length = 3 := q3
    refine ⟨D3, ys3, n3, txts, rfl, W3.keep _ _ hD3, q1, ?_, fun u5 t5 => ?_⟩
    · rw [← joinT_sum]; simp only [List.length_nil]; lia
    exact st' (env := chaEnv L) (s := { s with heap := h3, toks := t5 }) W3 fun h4 W4 => h g3 h4 _ u5 _ s3 (by lia) j2 W4
end
end Mine
end

section
set_option autoImplicit false
set_option maxRecDepth 100000
set_option linter.unusedSimpArgs false
set_option linter.unusedVariables false
namespace Mine
open PySem PySem.W PySem.Calls PyProof.Rows PySem.Sre

section
variable {prog : Program} {w : World} {A : Around} {E : Value → Shared → Prop} {s : Shared} {P : Params} {mg mb : Str → Option Value}
theorem mapd_cons {env : Env} {e : Expr} {es : List Expr} {Q : List Value → Shared → Prop} (h : wpAny (model prog w) A (eval e env) (fun v s₁ => wpAny (model prog w) A (spliced (es.map fun e => (false, eval e env))) (fun vs s₂ => Q (v :: vs) s₂) E s₁) E s) :
    wpAny (model prog w) A (spliced ((e :: es).map fun e => (false, eval e env))) Q E s := by
  rw [List.map_cons]
  exact spliced_cons h
theorem mapd_nil {env : Env} {Q : List Value → Shared → Prop} (h : Q [] s) : wpAny (model prog w) A (spliced (([] : List Expr).map fun e => (false, eval e env))) Q E s := spliced_nil h
theorem cha_menuSt {g : Heap} {L : Addr} {m : Str → Option Value} {om : Obj} {Q : Flow → Shared → Prop} (W : Wk g L s.heap m [(L + 1 + 1, om)]) (ho : om.data = .cell none)
    (h : ∀ g' h' tk T vs om', Sub g g' → Wk g' L h' m [] → All2 StrT vs chaMenu → g'.get? T = some (pairObj (List.toArray vs)) → g'.get? (L + 1 + 1) = some om' → om'.data = .cell (some (.ref T)) → Q .next { s with heap := h', toks := tk }) (st : Stmt) (hst : st = nth (bodyOf chaS) 0) :
    wpAny (model prog w) A (exec st (chaEnv L)) Q E s := by
  subst hst
  refine wpAny_Assign_Name ?_
  refine ev_tuple ?_
  refine mapd_cons ?_
  refine cst ?_
  intro a0 t0
  refine mapd_cons ?_
  refine cst ?_
  intro a1 t1
  refine mapd_cons ?_
  refine cst ?_
  intro a2 t2
  refine mapd_cons ?_
  refine cst ?_
  intro a3 t3
  refine mapd_cons ?_
  refine cst ?_
  intro a4 t4
  refine mapd_cons ?_
  refine cst ?_
  intro a5 t5
  refine mapd_cons ?_
  refine cst ?_
  intro a6 t6
  refine mapd_cons ?_
  refine cst ?_
  intro a7 t7
  refine mapd_cons ?_
  refine cst ?_
  intro a8 t8
  refine mapd_cons ?_
  refine cst ?_
  intro a9 t9
  refine mapd_nil ⟨by simp, ?_⟩
  have hvs : All2 StrT [Value.str (ts []) a0, .str (ts [97]) a1, .str (ts [98]) a2, .str (ts [61]) a3, .str (ts [34]) a4, .str (ts [92]) a5, .str (ts [32]) a6, .str (ts [59]) a7, .str (ts [44]) a8, .str (ts [10]) a9] chaMenu := .cons ⟨a0, rfl⟩ (.cons ⟨a1, rfl⟩ (.cons ⟨a2, rfl⟩ (.cons ⟨a3, rfl⟩ (.cons ⟨a4, rfl⟩ (.cons ⟨a5, rfl⟩ (.cons ⟨a6, rfl⟩ (.cons ⟨a7, rfl⟩ (.cons ⟨a8, rfl⟩ (.cons ⟨a9, rfl⟩ .nil)))))))))
  obtain ⟨g2, s2, e2, W4⟩ := W.extPush (pairObj (List.toArray [Value.str (ts []) a0, .str (ts [97]) a1, .str (ts [98]) a2, .str (ts [61]) a3, .str (ts [34]) a4, .str (ts [92]) a5, .str (ts [32]) a6, .str (ts [59]) a7, .str (ts [44]) a8, .str (ts [10]) a9])) rfl
  refine stCell (env := chaEnv L) (s := { s with heap := s.heap.push (pairObj (List.toArray [Value.str (ts []) a0, .str (ts [97]) a1, .str (ts [98]) a2, .str (ts [61]) a3, .str (ts [34]) a4, .str (ts [92]) a5, .str (ts [32]) a6, .str (ts [59]) a7, .str (ts [44]) a8, .str (ts [10]) a9])), toks := t9 }) (pre := []) W4 ho (by rfl) fun g3 h3 om' s3 e3 d3 W5 => ?_
  exact h g3 h3 t9 _ _ om' (s2.trans s3) W5 hvs (s3 _ _ e2) e3 d3
end
end Mine
end

section
set_option autoImplicit false
set_option maxRecDepth 100000
set_option linter.unusedSimpArgs false
set_option linter.unusedVariables false
namespace Mine
open PySem PySem.W PySem.Calls PyProof.Rows PySem.Sre

section
variable {prog : Program} {w : World} {A : Around} {E : Value → Shared → Prop} {s : Shared} {P : Params} {mg mb : Str → Option Value} {g : Heap} {L : Addr} {m : Str → Option Value} {Q : Flow → Shared → Prop} {t : Txt} {k : Nat} {ut uk : Tok} {on : Obj}
theorem cha_start (W : Wk g L s.heap m []) (B : Bs P mg mb g) (hn : g.get? (L + 1) = some on) (hnd : on.data = .cell (some (.int (k : Int) uk))) (hmt : m "text" = some (.str (ts t) ut)) (ht : t.length < 900)
    (h : ∀ h' tk u, Wk g L h' (fun y => if y = "start" then some (.int ((k % 60 % (t.length + 1) : Nat) : Int) u) else m y) [] → Q .next { s with heap := h', toks := tk }) (sx : Stmt) (hsx : sx = nth (bodyOf chaS) 1) :
    wpAny (model prog w) A (exec sx (chaEnv L)) Q E s := by
  subst hsx
  refine wpAny_Assign_Name ?_
  refine ev_modG ?_
  refine ev_mod 60 (h := ?_)
  refine ldCell (env := chaEnv L) ⟨on, W.keep _ _ hn, hnd⟩ (by rfl) ⟨k, uk, rfl, fun u1 b1 => ⟨_, u1, rfl, ?_⟩⟩
  refine ev_addN ?_
  refine ev_len (s := { s with toks := b1 }) (B.keeps W.keep) ?_
  refine ld' (env := chaEnv L) (s := { s with toks := b1 }) W hmt ⟨t, ut, rfl, by omega, fun u2 b2 => ⟨_, u2, rfl, ?_⟩⟩
  refine ev_int fun u3 b3 => ⟨1, u3, rfl, fun u4 b4 => ⟨_, u4, rfl, by omega, fun u5 b5 => ?_⟩⟩
  exact st' (env := chaEnv L) (s := { s with heap := s.heap, toks := b5 }) W fun h4 W6 => h _ _ _ W6
theorem cha_end {st : Nat} {us : Tok} (W : Wk g L s.heap m []) (B : Bs P mg mb g) (hn : g.get? (L + 1) = some on) (hnd : on.data = .cell (some (.int (k : Int) uk))) (hmt : m "text" = some (.str (ts t) ut)) (hms : m "start" = some (.int (st : Int) us)) (ht : t.length < 900) (hk : k < 2 ^ 30) (hst : st ≤ t.length)
    (h : ∀ h' tk u, Wk g L h' (fun y => if y = "end" then some (.int ((st + k / 60 % 60 % (t.length - st + 1) : Nat) : Int) u) else m y) [] → Q .next { s with heap := h', toks := tk }) (sx : Stmt) (hsx : sx = nth (bodyOf chaS) 2) :
    wpAny (model prog w) A (exec sx (chaEnv L)) Q E s := by
  subst hsx
  refine wpAny_Assign_Name ?_
  refine ev_addN ?_
  refine ld' (env := chaEnv L) W hms ⟨st, us, rfl, ?_⟩
  refine ev_modG ?_
  refine ev_mod 60 (h := ?_)
  refine ev_fdiv 60 (h := ?_)
  refine ldCell (env := chaEnv L) ⟨on, W.keep _ _ hn, hnd⟩ (by rfl) ⟨k, uk, rfl, hk, fun u6 b6 => ⟨_, u6, rfl, fun u7 b7 => ⟨_, u7, rfl, ?_⟩⟩⟩
  refine ev_addN ?_
  refine ev_subN ?_
  refine ev_len (s := { s with toks := b7 }) (B.keeps W.keep) ?_
  refine ld' (env := chaEnv L) (s := { s with toks := b7 }) W hmt ⟨t, ut, rfl, by omega, fun u8 b8 => ⟨_, u8, rfl, ?_⟩⟩
  refine ld' (env := chaEnv L) (s := { s with toks := b8 }) W hms ⟨st, us, rfl, hst, fun u9 b9 => ⟨_, u9, rfl, ?_⟩⟩
  refine ev_int fun u10 b10 => ⟨1, u10, rfl, fun u11 b11 => ⟨_, u11, rfl, by omega, fun u12 b12 => ⟨_, u12, rfl, fun u13 b13 => ?_⟩⟩⟩
  exact st' (env := chaEnv L) (s := { s with heap := s.heap, toks := b13 }) W fun h4 W6 => h _ _ _ W6
theorem cha_ret {st en : Nat} {us ue ux : Tok} {X : Txt} {R : Flow → Shared → Prop} (W : Wk g L s.heap m []) (hmt : m "text" = some (.str (ts t) ut)) (hms : m "start" = some (.int (st : Int) us)) (hme : m "end" = some (.int (en : Int) ue)) (hmx : m "signs" = some (.str (ts X) ux)) (ht : t.length < 900) (hst : st ≤ en) (hx : X.length ≤ 3)
    (h : ∀ h' tk u, Sub s.heap h' → R (.ret (.str (ts (t.take st ++ X.take (en - st) ++ t.drop en)) u)) { s with heap := h', toks := tk }) (sx : Stmt) (hsx : sx = nth (bodyOf chaS) 4) :
    wpAny (model prog w) A (exec sx (chaEnv L)) R E s := by
  subst hsx
  refine wpAny_Return_some ?_
  refine ev_addT ?_
  refine ev_addT ?_
  refine subStr (env := chaEnv L) (ld' W hmt (wpAny_pure (ld' W hms ⟨ts t, ut, none, some (st, us), by rw [ts_len]; omega, rfl, rfl, rfl, fun h1 u1 t1 k1 => ⟨_, u1, rfl, ?_⟩⟩)))
  have W1 := W.keeps k1
  refine subStr (env := chaEnv L) (ld' (s := { s with heap := h1, toks := t1 }) W1 hmx (wpAny_pure ?_))
  refine ev_subN ?_
  refine ld' (env := chaEnv L) (s := { s with heap := h1, toks := t1 }) W1 hme ⟨en, ue, rfl, ?_⟩
  refine ld' (env := chaEnv L) (s := { s with heap := h1, toks := t1 }) W1 hms ⟨st, us, rfl, hst, fun u2 t2 => ?_⟩
  refine ⟨ts X, ux, none, some (en - st, u2), by rw [ts_len]; omega, rfl, rfl, rfl, fun h3 u3 t3 k3 => ⟨_, u3, rfl, ?_, fun u4 t4 => ⟨_, u4, rfl, ?_⟩⟩⟩
  · simp only [tl_ts, cutT, Option.map_none, Option.map_some, Option.getD_none, Option.getD_some, List.drop_zero, List.length_take]; omega
  have W3 := W1.keeps k3
  refine subStr (env := chaEnv L) (ld' (s := { s with heap := h3, toks := t4 }) W3 hmt (ld' (s := { s with heap := h3, toks := t4 }) W3 hme (wpAny_pure ⟨ts t, ut, some (en, ue), none, by rw [ts_len]; omega, rfl, rfl, rfl, fun h5 u5 t5 k5 => ⟨_, u5, rfl, ?_, fun u6 t6 => ?_⟩⟩)))
  · simp only [tl_ts, cutT, Option.map_none, Option.map_some, Option.getD_none, Option.getD_some, List.drop_zero, List.length_take, List.length_append, List.length_drop]; omega
  have := h h5 t6 u6 (k1.trans (k3.trans k5))
  simp only [tl_ts, cutT, Option.map_none, Option.map_some, Option.getD_none, Option.getD_some, List.drop_zero]
  exact this
end
end Mine
end

section
set_option autoImplicit false
set_option maxRecDepth 100000
set_option linter.unusedSimpArgs false
set_option linter.unusedVariables false
namespace Mine
open PySem PySem.W PySem.Calls PyProof.Rows PySem.Sre

theorem chaBody_is : bodyOf chaS = [nth (bodyOf chaS) 0, nth (bodyOf chaS) 1, nth (bodyOf chaS) 2, nth (bodyOf chaS) 3, nth (bodyOf chaS) 4] := rfl
theorem get90 {P : Params} {g : Heap} (X : (hd.heap_39 P).In g) : ∃ prm body pm doc, g.get? 90 = some { cls := .type "function", data := .func (docDef "_law_changed" prm body chaSc pm (.ref 89) doc) } ∧ body = bodyOf chaS ∧ g.CodeRec (.ref 89) "_law_changed" ∧
    ∀ t k, bindArgs (docDef "_law_changed" prm body chaSc pm (.ref 89) doc) ⟨[t, k], []⟩ = pure [(Str.ofString "text", t), (Str.ofString "n", k)] :=
  ⟨_, _, _, _, X 90 _ rfl, rfl, codeRec_of X (by rfl), fun _ _ => rfl⟩
section
variable {prog : Program} {w : World} {A : Around} {E : Value → Shared → Prop} {s : Shared} {P : Params} {mg mb : Str → Option Value}
theorem cha_body {g : Heap} {L : Addr} {m : Str → Option Value} {Q : Value → Shared → Prop} {t : Txt} {k : Nat} {ut uk : Tok} {on om : Obj} (W : Wk g L s.heap m [(L + 1 + 1, om)]) (B : Bs P mg mb g) (hn : g.get? (L + 1) = some on) (hnd : on.data = .cell (some (.int (k : Int) uk))) (hmd : om.data = .cell none) (hmt : m "text" = some (.str (ts t) ut)) (ht : t.length < 900) (hal : ALt t) (hk : k < 2 ^ 30) (r : Rm 4 A)
    (hQ : ∀ h' tk u t', Sub g h' → t'.length ≤ t.length → ALt t' → Q (.str (ts t') u) { s with heap := h', toks := tk }) (body : List Stmt) (hb : body = bodyOf chaS) :
    wpAny (model prog w) A (execs body (chaEnv L)) (fun f s' => ∃ v, f = .ret v ∧ Q v s') E s := by
  rw [hb, chaBody_is]
  generalize hst0 : nth (bodyOf chaS) 0 = st0
  generalize hst1 : nth (bodyOf chaS) 1 = st1
  generalize hst2 : nth (bodyOf chaS) 2 = st2
  generalize hst3 : nth (bodyOf chaS) 3 = st3
  generalize hst4 : nth (bodyOf chaS) 4 = st4
  refine wpAny_execs_cons ?_
  refine cha_menuSt W hmd (fun g1 h1 t1 T vs om' s1 W1 hvs hT hom homd => ?_) st0 hst0.symm
  have B1 := B.keeps s1
  refine wpAny_execs_cons (cha_start (s := { s with heap := h1, toks := t1 }) W1 B1 (s1 _ _ hn) hnd hmt ht (fun h2 t2 us W2 => ?_) _ hst1.symm)
  have hst : k % 60 % (t.length + 1) ≤ t.length := by
    have := Nat.mod_lt (k % 60) (show t.length + 1 > 0 by lia)
    lia
  generalize k % 60 % (t.length + 1) = st at W2 hst
  refine wpAny_execs_cons (cha_end (s := { s with heap := h2, toks := t2 }) W2 B1 (s1 _ _ hn) hnd hmt rfl ht hk hst (fun h3 t3 ue W3 => ?_) _ hst2.symm)
  have hen : st ≤ st + k / 60 % 60 % (t.length - st + 1) ∧ st + k / 60 % 60 % (t.length - st + 1) ≤ t.length := by
    have := Nat.mod_lt (k / 60 % 60) (show t.length - st + 1 > 0 by lia)
    lia
  generalize st + k / 60 % 60 % (t.length - st + 1) = en at W3 hen
  refine wpAny_execs_cons (cha_signs (s := { s with heap := h3, toks := t3 }) W3 (s1 _ _ hn) hnd hom homd hT hvs hk r (fun g4 h4 t4 ux X s4 hX hXa W4 => ?_) _ hst3.symm)
  refine wpAny_execs_cons (cha_ret (s := { s with heap := h4, toks := t4 }) W4 hmt rfl rfl rfl ht hen.1 hX (fun h5 t5 u5 k5 => ⟨_, rfl, ?_⟩) _ hst4.symm)
  refine hQ h5 t5 u5 _ (s1.trans (s4.trans (Sub.trans W4.keep k5))) ?_ ?_
  · simp only [List.length_append, List.length_take, List.length_drop]; lia
  · intro c hc
    rcases List.mem_append.mp hc with hc | hc
    · rcases List.mem_append.mp hc with hc | hc
      · exact hal c (List.mem_of_mem_take hc)
      · exact hXa c (List.mem_of_mem_take hc)
    · exact hal c (List.mem_of_mem_drop hc)
/-- _law_changed: a text no longer, of the nine signs -/
theorem call_cha {Q : Value → Shared → Prop} {t : Txt} {k : Nat} {ut uk : Tok} (B : Bs P mg mb s.heap) (r : Rm 12 A) (ht : t.length < 900) (hal : ALt t) (hk : k < 2 ^ 30)
    (hQ : ∀ h' tk u t', Sub s.heap h' → t'.length ≤ t.length → ALt t' → Q (.str (ts t') u) { s with heap := h', toks := tk }) :
    wpAny (model prog w) A (call (.ref 90) [.str (ts t) ut, .int (k : Int) uk]) Q E s := by
  obtain ⟨prm, body, pm, doc, hget, hbody, hcr, hbind⟩ := get90 B.K
  refine call_fnC (n := 11) [] (by simp) (by simp) r hget B.lim hcr (hbind _ _) ?_ fun A' g h₁ tk r' hs hg hkp W cel => ?_
  · intro x hx
    rcases List.mem_cons.mp hx with rfl | hx
    · exact Or.inl (by rfl)
    · rw [List.mem_singleton.mp hx]
      exact Or.inr ⟨by rfl, by rfl⟩
  have hg' : Sub s.heap g := fun b o e => hg b o (by simp) e
  obtain ⟨cn1, cn2, _, on, cn3, cn4⟩ := cel "n" (s.heap.objs.size + 1) (by rfl)
  obtain ⟨cm1, cm2, _, om, cm3, cm4⟩ := cel "menu" (s.heap.objs.size + 1 + 1) (by rfl)
  have cn4' : on.data = .cell (some (.int (k : Int) uk)) := cn4
  have cm4' : om.data = .cell none := cm4
  have W1 := W.addMu cn3 (Nat.ne_of_gt cn1) cn2 (by simp)
  have W2 := W1.addMu cm3 (Nat.ne_of_gt cm1) cm2 (by simp)
  obtain ⟨g1, s1, en, W3⟩ := Wk.settle (pre := [(s.heap.objs.size + 1 + 1, om)]) (post := []) W2
  exact cha_body (L := s.heap.objs.size) (s := { s with heap := h₁, toks := tk }) W3 (B.keeps (hg'.trans s1)) en cn4' cm4' (by rfl) ht hal hk (r'.le (by lia)) (fun h' tk' u t' kk hl ha => hQ h' tk' u t' (hg'.trans (s1.trans kk)) hl ha) body hbody
end
end Mine
end

section
set_option autoImplicit false
set_option maxRecDepth 100000
set_option linter.unusedSimpArgs false
set_option linter.unusedVariables false
namespace Mine
open PySem PySem.W PySem.Calls PyProof.Rows PySem.Sre

/-! ### zip of two texts -/
abbrev AscIt (h : Heap) (it : Addr) (x : Str) (t : Tok) (i : Nat) : Prop := h.IsStrIter it "str_ascii_iterator" x t i
structure ZAp (z TI TO i1 i2 : Addr) : Prop where
  TIz : TI ≠ z
  TOz : TO ≠ z
  i1z : i1 ≠ z
  i2z : i2 ≠ z
  TITO : TI ≠ TO
  TIi1 : TI ≠ i1
  TIi2 : TI ≠ i2
  TOi1 : TO ≠ i1
  TOi2 : TO ≠ i2
  i12 : i1 ≠ i2

section
variable {prog : Program} {w : World} {A : Around} {E : Value → Shared → Prop} {s : Shared} {z TI TO i1 i2 : Addr} {x1 x2 : Str} {t1 t2 : Tok} {k : Nat}
theorem zs_next {a b : Value} {c1 c2 : Nat} {Q : Value → Shared → Prop} (D : ZAp z TI TO i1 i2)
    (hz : IsZip s.heap z TI TO .none) (hTI : IsPair s.heap TI (.ref i1) (.ref i2)) (hTO : IsPair s.heap TO a b)
    (h1 : AscIt s.heap i1 x1 t1 k) (h2 : AscIt s.heap i2 x2 t2 k) (e1 : x1.cps[k]? = some c1) (e2 : x2.cps[k]? = some c2)
    (hQ : ∀ h' tk x y, StrC c1 x → StrC c2 y → IsZip h' z TI TO (rawInt s.heap.objs.size) → IsPair h' TO x y → AscIt h' i1 x1 t1 (k + 1) → AscIt h' i2 x2 t2 (k + 1) → IsPair h' s.heap.objs.size x y →
      (∀ c o, c ≠ z → c ≠ TO → c ≠ i1 → c ≠ i2 → s.heap.get? c = some o → h'.get? c = some o) → Q (.ref s.heap.objs.size) { s with heap := h', toks := tk }) :
    wpAny (model prog w) A (Builtin.«zip.__next__» ⟨[.ref z], []⟩) (fun fin s' => ∃ v, fin = .done (.ret v) ∧ Q v s') E s := by
  show wpAny _ _ (field (.ref z) 2 >>= _) _ _ _
  refine wpAny_bind (wpAny_field hz rfl (x := .bool false) rfl ?_)
  show wpAny _ _ (field (.ref z) 3 >>= _) _ _ _
  refine wpAny_bind (wpAny_field hz rfl (x := .ref TI) rfl ?_)
  refine wpAny_bind (wpAny_seqItems hTI rfl ?_)
  show wpAny _ _ (Builtin.SmallTypes.ownedTupleIsFree (.ref z) >>= _) _ _ _
  refine wpAny_bind ?_
  unfold Builtin.SmallTypes.ownedTupleIsFree
  refine wpAny_bind (wpAny_field hz rfl (x := .none) rfl (wpAny_pure ?_))
  simp only [if_true]
  refine wpAny_bind (wpAny_rule ?_)
  refine wpAny_bind (wpAny_field hz rfl (x := .ref TO) rfl ?_)
  refine wpAny_bind (wpAny_setField_rec hz (by simp) fun ha hza hsa => ?_)
  replace hza : IsZip ha z TI TO .ellipsis := hza
  refine wpAny_bind ?_
  simp only [List.zipIdx_cons, List.zipIdx_nil, List.forIn_cons, List.forIn_nil]
  refine wpAny_bind (wpAny_bind (wpAny_onRaise ?_))
  show wpAny _ _ (Builtin.SmallTypes.nextOf (.ref i1) >>= _) _ _ _
  refine wpAny_bind (wpAny_nextOf_ascii_item (h1.extBut hsa.extBut D.i1z) e1 fun hb h1b hsb => wpAny_pure ?_)
  have hTOb : IsPair hb TO a b := hsb.extBut _ _ D.TOi1 (hsa.extBut _ _ D.TOz hTO)
  refine wpAny_bind (wpAny_seqItems hTOb rfl ?_)
  refine wpAny_bind (wpAny_updateSeq_pair hTOb fun hc hTOc hsc => ?_)
  replace hTOc : IsPair hc TO (.str ⟨#[c1]⟩ s.toks) b := hTOc
  refine wpAny_bind (wpAny_letGo (wpAny_pure ?_))
  refine wpAny_bind (wpAny_bind (wpAny_onRaise ?_))
  show wpAny _ _ (Builtin.SmallTypes.nextOf (.ref i2) >>= _) _ _ _
  refine wpAny_bind (wpAny_nextOf_ascii_item (((h2.extBut hsa.extBut D.i2z).extBut hsb.extBut D.i12.symm).extBut hsc.extBut D.TOi2.symm) e2 fun hd h2d hsd => wpAny_pure ?_)
  have hTOd : IsPair hd TO (.str ⟨#[c1]⟩ s.toks) b := hsd.extBut _ _ D.TOi2 hTOc
  refine wpAny_bind (wpAny_seqItems hTOd rfl ?_)
  refine wpAny_bind (wpAny_updateSeq_pair hTOd fun he hTOe hse => ?_)
  replace hTOe : IsPair he TO (.str ⟨#[c1]⟩ s.toks) (.str ⟨#[c2]⟩ (s.toks + 1)) := hTOe
  refine wpAny_bind (wpAny_letGo (wpAny_pure (wpAny_pure ?_)))
  refine wpAny_bind (wpAny_seqItems hTOe rfl ?_)
  refine wpAny_bind (wpAny_newTuple ?_)
  have hsz : he.objs.size = s.heap.objs.size := by rw [hse.1, hsd.1, hsc.1, hsb.1, hsa.1]
  have hze : IsZip he z TI TO .ellipsis := hse.extBut _ _ D.TOz.symm (hsd.extBut _ _ D.i2z.symm (hsc.extBut _ _ D.TOz.symm (hsb.extBut _ _ D.i1z.symm hza)))
  have hke : ∀ c o, c ≠ z → c ≠ TO → c ≠ i1 → c ≠ i2 → s.heap.get? c = some o → he.get? c = some o := fun c o n1 n2 n3 n4 e =>
    hse.extBut _ _ n2 (hsd.extBut _ _ n4 (hsc.extBut _ _ n2 (hsb.extBut _ _ n3 (hsa.extBut _ _ n1 e))))
  have h1e : AscIt he i1 x1 t1 (k + 1) := ((h1b.extBut hsc.extBut D.TOi1.symm).extBut hsd.extBut D.i12).extBut hse.extBut D.TOi1.symm
  have h2e : AscIt he i2 x2 t2 (k + 1) := h2d.extBut hse.extBut D.TOi2.symm
  have hzlt : z < he.objs.size := Heap.lt_size hze
  show wpAny _ _ (Builtin.SmallTypes.ownedTupleHandOut (.ref z) (.ref he.objs.size) >>= _) _ _ _
  refine wpAny_bind ?_
  unfold Builtin.SmallTypes.ownedTupleHandOut
  have hzf : IsZip (he.push { cls := .type "tuple", data := .seq #[.str ⟨#[c1]⟩ s.toks, .str ⟨#[c2]⟩ (s.toks + 1)] }) z TI TO .ellipsis := Heap.get?_push_of_some _ hze
  refine wpAny_bind (wpAny_setField_rec hzf (by simp) fun hg hzg hsg => ?_)
  replace hzg : IsZip hg z TI TO (rawInt he.objs.size) := hzg
  refine wpAny_setField_rec hzg (by simp) fun hh hzh hsh => ?_
  replace hzh : IsZip hh z TI TO (rawInt he.objs.size) := hzh
  have up : ∀ c o, c ≠ z → he.get? c = some o → hh.get? c = some o := fun c o n1 e => hsh.extBut _ _ n1 (hsg.extBut _ _ n1 (Heap.get?_push_of_some _ e))
  have hTh : IsPair hh he.objs.size (.str ⟨#[c1]⟩ s.toks) (.str ⟨#[c2]⟩ (s.toks + 1)) := hsh.extBut _ _ (Nat.ne_of_gt hzlt) (hsg.extBut _ _ (Nat.ne_of_gt hzlt) (Heap.get?_push_size _ rfl))
  rw [hsz] at hzh hTh
  refine wpAny_pure ⟨_, rfl, ?_⟩
  show Q (.ref he.objs.size) _
  rw [hsz]
  exact hQ hh _ _ _ ⟨_, rfl⟩ ⟨_, rfl⟩ hzh (up _ _ D.TOz hTOe) (let ⟨o, ho, r⟩ := h1e; ⟨o, up _ _ D.i1z ho, r⟩) (let ⟨o, ho, r⟩ := h2e; ⟨o, up _ _ D.i2z ho, r⟩) hTh fun c o n1 n2 n3 n4 e => up c o n1 (hke c o n1 n2 n3 n4 e)
end
end Mine
end

section
set_option autoImplicit false
set_option maxRecDepth 100000
set_option linter.unusedSimpArgs false
set_option linter.unusedVariables false
namespace Mine
open PySem PySem.W PySem.Calls PyProof.Rows PySem.Sre

section
variable {prog : Program} {w : World} {A : Around} {E : Value → Shared → Prop} {s : Shared} {z TI TO i1 i2 : Addr} {x1 x2 : Str} {t1 t2 : Tok} {k : Nat}
theorem zs_end {a b : Value} {Q : Fin → Shared → Prop} (hh : A.handled = none) (D : ZAp z TI TO i1 i2)
    (hz : IsZip s.heap z TI TO .none) (hTI : IsPair s.heap TI (.ref i1) (.ref i2)) (hTO : IsPair s.heap TO a b)
    (h1 : AscIt s.heap i1 x1 t1 k) (h2 : AscIt s.heap i2 x2 t2 k) (hend : x1.cps[k]? = none ∨ x2.cps[k]? = none)
    (hE : ∀ h' e tk, (∀ c o, c ≠ z → c ≠ TO → c ≠ i1 → c ≠ i2 → s.heap.get? c = some o → h'.get? c = some o) → (∃ o, h'.get? e = some o ∧ o.cls = .type "StopIteration") → E (.ref e) { s with heap := h', toks := tk }) :
    wpAny (model prog w) A (Builtin.«zip.__next__» ⟨[.ref z], []⟩) Q E s := by
  show wpAny _ _ (field (.ref z) 2 >>= _) _ _ _
  refine wpAny_bind (wpAny_field hz rfl (x := .bool false) rfl ?_)
  show wpAny _ _ (field (.ref z) 3 >>= _) _ _ _
  refine wpAny_bind (wpAny_field hz rfl (x := .ref TI) rfl ?_)
  refine wpAny_bind (wpAny_seqItems hTI rfl ?_)
  show wpAny _ _ (Builtin.SmallTypes.ownedTupleIsFree (.ref z) >>= _) _ _ _
  refine wpAny_bind ?_
  unfold Builtin.SmallTypes.ownedTupleIsFree
  refine wpAny_bind (wpAny_field hz rfl (x := .none) rfl (wpAny_pure ?_))
  simp only [if_true]
  refine wpAny_bind (wpAny_rule ?_)
  refine wpAny_bind (wpAny_field hz rfl (x := .ref TO) rfl ?_)
  refine wpAny_bind (wpAny_setField_rec hz (by simp) fun ha hza hsa => ?_)
  replace hza : IsZip ha z TI TO .ellipsis := hza
  refine wpAny_bind ?_
  simp only [List.zipIdx_cons, List.zipIdx_nil, List.forIn_cons, List.forIn_nil]
  refine wpAny_bind (wpAny_bind (wpAny_onRaise ?_))
  show wpAny _ _ (Builtin.SmallTypes.nextOf (.ref i1) >>= _) _ _ _
  cases e1 : x1.cps[k]? with
  | none =>
    refine wpAny_bind (wpAny_nextOf_ascii_end hh (h1.extBut hsa.extBut D.i1z) e1 fun hb e hsb he => ?_)
    obtain ⟨oe, hoe, hce⟩ := he
    have hzb : IsZip hb z TI TO .ellipsis := hsb _ _ D.i1z.symm hza
    have hez : e ≠ z := fun x => by subst x; rw [hzb] at hoe; cases hoe; simp at hce
    refine wpAny_setField_rec hzb (by simp) fun hc _ hsc => hE hc e _ (fun c o n1 _ n3 _ x => hsc.extBut _ _ n1 (hsb _ _ n3 (hsa.extBut _ _ n1 x))) ⟨oe, hsc.extBut _ _ hez hoe, hce⟩
  | some c1 =>
    have e2 : x2.cps[k]? = none := by rcases hend with h | h; rw [e1] at h; cases h; exact h
    refine wpAny_bind (wpAny_nextOf_ascii_item (h1.extBut hsa.extBut D.i1z) e1 fun hb h1b hsb => wpAny_pure ?_)
    have hTOb : IsPair hb TO a b := hsb.extBut _ _ D.TOi1 (hsa.extBut _ _ D.TOz hTO)
    refine wpAny_bind (wpAny_seqItems hTOb rfl ?_)
    refine wpAny_bind (wpAny_updateSeq_pair hTOb fun hc hTOc hsc => ?_)
    refine wpAny_bind (wpAny_letGo (wpAny_pure ?_))
    refine wpAny_bind (wpAny_bind (wpAny_onRaise ?_))
    show wpAny _ _ (Builtin.SmallTypes.nextOf (.ref i2) >>= _) _ _ _
    refine wpAny_bind (wpAny_nextOf_ascii_end hh (((h2.extBut hsa.extBut D.i2z).extBut hsb.extBut D.i12.symm).extBut hsc.extBut D.TOi2.symm) e2 fun hd e hsd he => ?_)
    obtain ⟨oe, hoe, hce⟩ := he
    have hzd : IsZip hd z TI TO .ellipsis := hsd _ _ D.i2z.symm (hsc.extBut _ _ D.TOz.symm (hsb.extBut _ _ D.i1z.symm hza))
    have hez : e ≠ z := fun x => by subst x; rw [hzd] at hoe; cases hoe; simp at hce
    refine wpAny_setField_rec hzd (by simp) fun hf _ hsf => hE hf e _ (fun c o n1 n2 n3 n4 x => hsf.extBut _ _ n1 (hsd _ _ n4 (hsc.extBut _ _ n2 (hsb.extBut _ _ n3 (hsa.extBut _ _ n1 x))))) ⟨oe, hsf.extBut _ _ hez hoe, hce⟩
theorem zs_pyNext_item {a b : Value} {c1 c2 : Nat} {Q : Option Value → Shared → Prop} (D : ZAp z TI TO i1 i2)
    (hz : IsZip s.heap z TI TO .none) (hTI : IsPair s.heap TI (.ref i1) (.ref i2)) (hTO : IsPair s.heap TO a b)
    (h1 : AscIt s.heap i1 x1 t1 k) (h2 : AscIt s.heap i2 x2 t2 k) (e1 : x1.cps[k]? = some c1) (e2 : x2.cps[k]? = some c2)
    (hQ : ∀ h' tk x y, StrC c1 x → StrC c2 y → IsZip h' z TI TO (rawInt s.heap.objs.size) → IsPair h' TO x y → AscIt h' i1 x1 t1 (k + 1) → AscIt h' i2 x2 t2 (k + 1) → IsPair h' s.heap.objs.size x y →
      (∀ c o, c ≠ z → c ≠ TO → c ≠ i1 → c ≠ i2 → s.heap.get? c = some o → h'.get? c = some o) → Q (some (.ref s.heap.objs.size)) { s with heap := h', toks := tk }) :
    wpAny (model prog w) A (pyNext (.ref z)) Q E s := by
  have hT : s.TypeIs (.ref z) "zip" := ⟨_, hz, rfl⟩
  unfold pyNext
  exact wpAny_bind (wpAny_attempt (wpAny_callSpecial?_slot (name := Str.ofString "__next__") hT F.slot_zip_next
    (wpAny_call_entry F.slot_zip_next hT F.entry_zip_next
      (zs_next D hz hTI hTO h1 h2 e1 e2 fun h' tk x y a1 a2 a3 a4 a5 a6 a7 a8 => wpAny_pure (hQ h' tk x y a1 a2 a3 a4 a5 a6 a7 a8)) (F.args_zip_next_1 _))))
theorem zs_pyNext_end {a b : Value} {Q : Option Value → Shared → Prop} (hh : A.handled = none) (D : ZAp z TI TO i1 i2)
    (hz : IsZip s.heap z TI TO .none) (hTI : IsPair s.heap TI (.ref i1) (.ref i2)) (hTO : IsPair s.heap TO a b)
    (h1 : AscIt s.heap i1 x1 t1 k) (h2 : AscIt s.heap i2 x2 t2 k) (hend : x1.cps[k]? = none ∨ x2.cps[k]? = none)
    (hQ : ∀ h' tk, (∀ c o, c ≠ z → c ≠ TO → c ≠ i1 → c ≠ i2 → s.heap.get? c = some o → h'.get? c = some o) → Q none { s with heap := h', toks := tk }) : wpAny (model prog w) A (pyNext (.ref z)) Q E s := by
  have hT : s.TypeIs (.ref z) "zip" := ⟨_, hz, rfl⟩
  unfold pyNext
  refine wpAny_bind (wpAny_attempt (wpAny_callSpecial?_slot (name := Str.ofString "__next__") hT F.slot_zip_next
    (wpAny_call_entry F.slot_zip_next hT F.entry_zip_next (zs_end hh D hz hTI hTO h1 h2 hend fun h' e tk hk he => ?_) (F.args_zip_next_1 _))))
  obtain ⟨o, ho, hc⟩ := he
  refine wpAny_bind (wpAny_isInstance (T := "StopIteration") (b := true) ⟨o, ho, hc⟩ isSubtype_stop ?_)
  exact wpAny_pure (hQ _ _ hk)
end

abbrev zsIt (x : Str) (t : Tok) : Obj := { cls := .type "str_ascii_iterator", data := .fields #[.str x t, .int 0 0] }
abbrev zsH1 (h : Heap) (x1 : Str) (t1 : Tok) : Heap := h.push (zsIt x1 t1)
abbrev zsH2 (h : Heap) (x1 x2 : Str) (t1 t2 : Tok) : Heap := (zsH1 h x1 t1).push (zsIt x2 t2)
abbrev zsH3 (h : Heap) (x1 x2 : Str) (t1 t2 : Tok) : Heap := (zsH2 h x1 x2 t1 t2).push { cls := .type "tuple", data := .seq #[.ref h.objs.size, .ref (zsH1 h x1 t1).objs.size] }
abbrev zsH4 (h : Heap) (x1 x2 : Str) (t1 t2 : Tok) : Heap := (zsH3 h x1 x2 t1 t2).push { cls := .type "tuple", data := .seq #[.none, .none] }
abbrev zsH5 (h : Heap) (x1 x2 : Str) (t1 t2 : Tok) : Heap := (zsH4 h x1 x2 t1 t2).push { cls := .type "zip", data := .fields #[.none, .bool false, .bool false, .ref (zsH2 h x1 x2 t1 t2).objs.size, .ref (zsH3 h x1 x2 t1 t2).objs.size] }
theorem zs_iter {x : Str} (hx : x.cps.all (· < 128) = true) {t : Tok} {prog : Program} {w : World} {A : Around} {E : Value → Shared → Prop} {s : Shared} {Q : Value → Shared → Prop}
    (hQ : Q (.ref s.heap.objs.size) { s with heap := s.heap.push (zsIt x t) }) : wpAny (model prog w) A (pyIter (.str x t)) Q E s := wpAny_pyIter_ascii hx hQ
set_option maxHeartbeats 1000000 in
theorem meets_zs_new {x1 x2 : Str} (t1 t2 : Tok) (hx1 : x1.cps.all (· < 128) = true) (hx2 : x2.cps.all (· < 128) = true) :
    Meets (Builtin.«zip.__new__» ⟨[.type "zip", .str x1 t1, .str x2 t2], []⟩) (fun _ R s =>
      R (.ok (.ret (.ref (zsH4 s.heap x1 x2 t1 t2).objs.size))) { s with heap := zsH5 s.heap x1 x2 t1 t2 }) :=
  .of_wp fun prog w A R s h => by
    obtain ⟨hp, g, d, tk, os⟩ := s
    have hsub := sub_zip
    wp_walk using zs_iter hx1, zs_iter hx2
    exact ⟨_, rfl, h⟩
end Mine
end

section
set_option autoImplicit false
set_option maxRecDepth 100000
set_option linter.unusedSimpArgs false
set_option linter.unusedVariables false
namespace Mine
open PySem PySem.W PySem.Calls PyProof.Rows PySem.Sre

theorem zn (n : Nat) : n ≤ n + 4 ∧ n + 4 < n + 5 ∧ n ≤ n + 2 ∧ n + 2 < n + 5 ∧ n ≤ n + 3 ∧ n + 3 < n + 5 ∧ n < n + 5 ∧ n ≤ n + 1 ∧ n + 1 < n + 5 := by lia
theorem zsep {n c : Nat} (h : c < n ∨ n + 5 ≤ c) : c ≠ n + 4 ∧ c ≠ n + 3 ∧ c ≠ n ∧ c ≠ n + 1 := by lia
theorem zti (n : Nat) : n + 2 ≠ n + 4 ∧ n + 2 ≠ n + 3 ∧ n + 2 ≠ n ∧ n + 2 ≠ n + 1 := by lia
structure ZSt (h : Heap) (n0 : Addr) (x1 x2 : Str) (t1 t2 : Tok) (f0 : Value) (k : Nat) : Prop where
  z : IsZip h (n0 + 4) (n0 + 2) (n0 + 3) f0
  TI : IsPair h (n0 + 2) (.ref n0) (.ref (n0 + 1))
  TO : ∃ a b, IsPair h (n0 + 3) a b
  i1 : AscIt h n0 x1 t1 k
  i2 : AscIt h (n0 + 1) x2 t2 k
theorem ZSt.keep {h h' : Heap} {n0 : Addr} {x1 x2 : Str} {t1 t2 : Tok} {f0 : Value} {k : Nat} (Z : ZSt h n0 x1 x2 t1 t2 f0 k) (hk : ∀ b o, n0 ≤ b → b < n0 + 5 → h.get? b = some o → h'.get? b = some o) : ZSt h' n0 x1 x2 t1 t2 f0 k := by
  obtain ⟨z, TI, ⟨a, b, TO⟩, ⟨o1, i1, r1⟩, ⟨o2, i2, r2⟩⟩ := Z
  obtain ⟨p1, p2, p3, p4, p5, p6, p7, p8, p9⟩ := zn n0
  exact ⟨hk _ _ p1 p2 z, hk _ _ p3 p4 TI, ⟨a, b, hk _ _ p5 p6 TO⟩, ⟨o1, hk _ _ (Nat.le_refl _) p7 i1, r1⟩, ⟨o2, hk _ _ p8 p9 i2, r2⟩⟩
theorem zap (n0 : Addr) : ZAp (n0 + 4) (n0 + 2) (n0 + 3) n0 (n0 + 1) := by
  constructor <;> (intro h; have h' : (_ : Nat) = _ := h; lia)

section
variable {prog : Program} {w : World} {A : Around} {E : Value → Shared → Prop} {s : Shared} {x1 x2 : Str} {t1 t2 : Tok}
theorem call_zs {Q : Value → Shared → Prop} (hx1 : x1.cps.all (· < 128) = true) (hx2 : x2.cps.all (· < 128) = true)
    (h : ∀ h', ZSt h' s.heap.objs.size x1 x2 t1 t2 .none 0 → h'.objs.size = s.heap.objs.size + 5 → Sub s.heap h' → Q (.ref (s.heap.objs.size + 4)) { s with heap := h' }) :
    wpAny (model prog w) A (call (.type "zip") [.str x1 t1, .str x2 t2]) Q E s := by
  refine callType_new F.called_zip (by decide) (F.typeCall_zip_2 _ _) (F.newCall_zip_2 _ _) (fun obj => F.args_object_init_3 obj _ _) F.entry_zip_new
    (meets_zs_new t1 t2 hx1 hx2) ?_
  have z1 : (zsH1 s.heap x1 t1).objs.size = s.heap.objs.size + 1 := Heap.size_push ..
  have z2 : (zsH2 s.heap x1 x2 t1 t2).objs.size = s.heap.objs.size + 2 := by rw [Heap.size_push, z1]
  have z3 : (zsH3 s.heap x1 x2 t1 t2).objs.size = s.heap.objs.size + 3 := by rw [Heap.size_push, z2]
  have z4 : (zsH4 s.heap x1 x2 t1 t2).objs.size = s.heap.objs.size + 4 := by rw [Heap.size_push, z3]
  have z5 : (zsH5 s.heap x1 x2 t1 t2).objs.size = s.heap.objs.size + 5 := by rw [Heap.size_push, z4]
  have g5 : (zsH5 s.heap x1 x2 t1 t2).get? (zsH4 s.heap x1 x2 t1 t2).objs.size = some _ := Heap.get?_push_size _ rfl
  have g4 : (zsH5 s.heap x1 x2 t1 t2).get? (zsH3 s.heap x1 x2 t1 t2).objs.size = some _ := Heap.get?_push_of_some _ (Heap.get?_push_size _ rfl)
  have g3 : (zsH5 s.heap x1 x2 t1 t2).get? (zsH2 s.heap x1 x2 t1 t2).objs.size = some _ := Heap.get?_push_of_some _ (Heap.get?_push_of_some _ (Heap.get?_push_size _ rfl))
  have g2 : (zsH5 s.heap x1 x2 t1 t2).get? (zsH1 s.heap x1 t1).objs.size = some _ := Heap.get?_push_of_some _ (Heap.get?_push_of_some _ (Heap.get?_push_of_some _ (Heap.get?_push_size _ rfl)))
  have g1 : (zsH5 s.heap x1 x2 t1 t2).get? s.heap.objs.size = some _ := Heap.get?_push_of_some _ (Heap.get?_push_of_some _ (Heap.get?_push_of_some _ (Heap.get?_push_of_some _ (Heap.get?_push_size _ rfl))))
  show _ ∧ _
  rw [z2, z3, z4] at g5
  rw [z1, z2] at g3
  rw [z3] at g4
  rw [z1] at g2
  rw [z4]
  exact ⟨⟨_, g5, rfl⟩, h _ ⟨g5, g3, ⟨_, _, g4⟩, ⟨_, g1, rfl, rfl⟩, ⟨_, g2, rfl, rfl⟩⟩ z5 fun c o x =>
    Heap.get?_push_of_some _ (Heap.get?_push_of_some _ (Heap.get?_push_of_some _ (Heap.get?_push_of_some _ (Heap.get?_push_of_some _ x))))⟩

theorem ZSt.next {n0 : Addr} {k c1 c2 : Nat} {Q : Option Value → Shared → Prop} (Z : ZSt s.heap n0 x1 x2 t1 t2 .none k) (e1 : x1.cps[k]? = some c1) (e2 : x2.cps[k]? = some c2)
    (hQ : ∀ h' tk T x y, StrC c1 x → StrC c2 y → n0 + 5 ≤ T → s.heap.get? T = none → ZSt h' n0 x1 x2 t1 t2 (rawInt T) (k + 1) → h'.IsTuple T #[x, y] → (∀ c o, (c < n0 ∨ n0 + 5 ≤ c) → s.heap.get? c = some o → h'.get? c = some o) → Q (some (.ref T)) { s with heap := h', toks := tk }) :
    wpAny (model prog w) A (pyNext (.ref (n0 + 4))) Q E s := by
  obtain ⟨a, b, TO⟩ := Z.TO
  have hlt : n0 + 4 < s.heap.objs.size := Heap.lt_size Z.z
  refine zs_pyNext_item (zap n0) Z.z Z.TI TO Z.i1 Z.i2 e1 e2 fun h' tk x y a1 a2 a3 a4 a5 a6 a7 a8 => ?_
  have hTI := zti n0
  exact hQ h' tk s.heap.objs.size x y a1 a2 hlt (Heap.get?_none_of_le (Nat.le_refl _)) ⟨a3, a8 _ _ hTI.1 hTI.2.1 hTI.2.2.1 hTI.2.2.2 Z.TI, ⟨_, _, a4⟩, a5, a6⟩ ⟨_, a7, rfl, 0, rfl⟩ fun c o hc e => a8 c o (zsep hc).1 (zsep hc).2.1 (zsep hc).2.2.1 (zsep hc).2.2.2 e
theorem ZSt.stop {n0 : Addr} {k : Nat} {Q : Option Value → Shared → Prop} (hh : A.handled = none) (Z : ZSt s.heap n0 x1 x2 t1 t2 .none k) (hend : x1.cps[k]? = none ∨ x2.cps[k]? = none)
    (hQ : ∀ h' tk, (∀ c o, (c < n0 ∨ n0 + 5 ≤ c) → s.heap.get? c = some o → h'.get? c = some o) → Q none { s with heap := h', toks := tk }) :
    wpAny (model prog w) A (pyNext (.ref (n0 + 4))) Q E s := by
  obtain ⟨a, b, TO⟩ := Z.TO
  refine zs_pyNext_end hh (zap n0) Z.z Z.TI TO Z.i1 Z.i2 hend fun h' tk a8 => hQ h' tk fun c o hc e => a8 c o (zsep hc).1 (zsep hc).2.1 (zsep hc).2.2.1 (zsep hc).2.2.2 e
theorem ZSt.go {n0 T : Addr} {k : Nat} {elts : List Expr} {kk : Nat} {pos : Pos} {Q : Unit → Shared → Prop} (Z : ZSt s.heap n0 x1 x2 t1 t2 (rawInt T) k)
    (hQ : ∀ h', ZSt h' n0 x1 x2 t1 t2 .none k → (∀ c o, (c < n0 ∨ n0 + 5 ≤ c) → s.heap.get? c = some o → h'.get? c = some o) → Q () { s with heap := h' }) :
    wpAny (model prog w) A (letOwnedTupleGo (.Tuple elts kk pos) (.ref (n0 + 4)) (.ref T)) Q E s := by
  obtain ⟨a, b, TO⟩ := Z.TO
  refine wpAny_letOwnedTupleGo_zip Z.z fun h' z' hs => hQ h' ⟨z', hs.extBut _ _ (zap n0).TIz Z.TI, ⟨a, b, hs.extBut _ _ (zap n0).TOz TO⟩, Z.i1.extBut hs.extBut (zap n0).i1z, Z.i2.extBut hs.extBut (zap n0).i2z⟩ fun c o hc e => hs.extBut _ _ (zsep hc).1 e
end
end Mine
end

section
set_option autoImplicit false
set_option maxRecDepth 100000
set_option linter.unusedSimpArgs false
set_option linter.unusedVariables false
namespace Mine
open PySem PySem.W PySem.Calls PyProof.Rows PySem.Sre

theorem zip_at {x1 x2 : Str} {i c1 c2 : Nat} (h : ((tl x1).zip (tl x2))[i]? = some (c1, c2)) : x1.cps[i]? = some c1 ∧ x2.cps[i]? = some c2 := by
  obtain ⟨h1, h2⟩ := List.getElem?_zip_eq_some.mp h
  rw [← Array.getElem?_toList, ← Array.getElem?_toList]
  exact ⟨h1, h2⟩
theorem zip_out {x1 x2 : Str} {i : Nat} (h : ((tl x1).zip (tl x2))[i]? = none) : x1.cps[i]? = none ∨ x2.cps[i]? = none := by
  rw [List.getElem?_eq_none_iff, List.length_zip] at h
  rw [← Array.getElem?_toList, ← Array.getElem?_toList, List.getElem?_eq_none_iff, List.getElem?_eq_none_iff]
  show (tl x1).length ≤ i ∨ (tl x2).length ≤ i
  lia
structure ZInv (s : Shared) (D C : Addr) (x1 x2 : Str) (t1 t2 : Tok) (F : Nat × Nat → Value → Prop) (pa : Nat × Nat → Bool) (n : Nat) (s' : Shared) : Prop where
  ex : ∃ h' tk i m' ys nn, s' = { s with heap := h', toks := tk } ∧ i ≤ ((tl x1).zip (tl x2)).length ∧ n = ((tl x1).zip (tl x2)).length + 1 - i ∧ Sub s.heap h' ∧ ZSt h' s.heap.objs.size x1 x2 t1 t2 .none i ∧ h'.Ns C m' ∧
    h'.get? D = some (listOf (List.toArray ys) nn) ∧ All2 F ((((tl x1).zip (tl x2)).take i).filter pa) ys

section
variable {prog : Program} {w : World} {A : Around} {E : Value → Shared → Prop} {s : Shared} {env : Env} {x1 x2 : Str} {t1 t2 : Tok} {D C : Addr} {F : Nat × Nat → Value → Prop} {pa : Nat × Nat → Bool}
theorem zs_loop {elt c iter : Expr} {a b : Str} {p1 p2 tp pos : Pos} {kk : Nat} {scope : Scope} {R : Result → Shared → Prop} {cenv : Env} {s₀ : Shared} (hh : A.handled = none) (hD : s.heap.objs.size + 5 = D) (hC : s.heap.objs.size + 6 = C) (hcl : cenv.locals = C) (hz : ((tl x1).zip (tl x2)).length ≤ 10000)
    (ha : cenv.kindOf a = some .local) (hb : cenv.kindOf b = some .local) (hp : (cenv.scope.kind == .class || (cenv.scope.kind == .module && cenv.locals != cenv.globals)) = false) (hab : ¬ a = b)
    (tests : ∀ c1 c2 v1 v2 s₃ m₃ E', StrC c1 v1 → StrC c2 v2 → s₃.heap.Ns C m₃ → m₃ a = some v1 → m₃ b = some v2 → wpAny (model prog w) A (isTrue c cenv (eval c cenv)) (fun ok s₄ => ok = pa (c1, c2) ∧ Keeps s₃ s₄) E' s₃)
    (elts : ∀ c1 c2 s₃ E', wpAny (model prog w) A (eval elt cenv) (fun y s₄ => F (c1, c2) y ∧ Keeps s₃ s₄) E' s₃)
    (I0 : ZInv s D C x1 x2 t1 t2 F pa (((tl x1).zip (tl x2)).length + 1) s₀)
    (hR : ∀ h' tk m' ys nn, Sub s.heap h' → h'.Ns C m' → h'.get? D = some (listOf (List.toArray ys) nn) → All2 F (((tl x1).zip (tl x2)).filter pa) ys → R (.ok .next) { s with heap := h', toks := tk }) :
    codeAny (model prog w) A (.compLoop (.ListComp elt [⟨.Tuple [.Name a p1, .Name b p2] kk tp, iter, [c], 0⟩] scope pos) 0 (.ref (s.heap.objs.size + 4)) (.ref D) cenv) R s₀ := by
  refine PySem.W.kct_loop (ZInv s D C x1 x2 t1 t2 F pa) ?_ _ I0
  rintro n s' ⟨h', tk, i, m', ys, nn, rfl, hi, rfl, k0, Z, hn, hDl, hF⟩
  have lt0 : ∀ {q : Addr} {o : Obj}, s.heap.get? q = some o → q < s.heap.objs.size := fun e => Heap.lt_size e
  have hDC : D ≠ C := by rw [← hD, ← hC]; exact fun q => by have q' : (s.heap.objs.size + 5 : Nat) = s.heap.objs.size + 6 := q; lia
  have hD5 : s.heap.objs.size + 5 ≤ D := by rw [← hD]; exact Nat.le_refl _
  have hC5 : s.heap.objs.size + 5 ≤ C := by rw [← hC]; exact Nat.le_succ _
  cases hv : ((tl x1).zip (tl x2))[i]? with
  | none =>
    have hle : ((tl x1).zip (tl x2)).length ≤ i := List.getElem?_eq_none_iff.mp hv
    refine ZSt.stop (s := { s with heap := h', toks := tk }) hh Z (zip_out hv) fun h1 tk1 k1 => ?_
    obtain ⟨oC, es, ep, eC, rest⟩ := hn
    refine hR h1 tk1 m' ys nn (fun q o e => k1 q o (Or.inl (lt0 e)) (k0 q o e)) ⟨oC, es, ep, k1 _ _ (Or.inr hC5) eC, rest⟩ (k1 _ _ (Or.inr hD5) hDl) ?_
    rw [List.take_of_length_le hle] at hF
    exact hF
  | some cc =>
    obtain ⟨c1, c2⟩ := cc
    have hlt : i < ((tl x1).zip (tl x2)).length := (List.getElem?_eq_some_iff.mp hv).1
    obtain ⟨e1, e2⟩ := zip_at hv
    refine ZSt.next (s := { s with heap := h', toks := tk }) Z e1 e2 fun h1 tk1 T v1 v2 hv1 hv2 hT hTn Z1 hTt k1 => ?_
    refine ZSt.go (s := { s with heap := h1, toks := tk1 }) Z1 fun h2 Z2 k2 => ?_
    have k12 : ∀ q o, (q < s.heap.objs.size ∨ s.heap.objs.size + 5 ≤ q) → h'.get? q = some o → h2.get? q = some o := fun q o hq e => k2 q o hq (k1 q o hq e)
    have hn2 : h2.Ns C m' := by
      obtain ⟨oC, es, ep, eC, rest⟩ := hn
      exact ⟨oC, es, ep, k12 _ _ (Or.inr hC5) eC, rest⟩
    obtain ⟨oT, eT, rT⟩ := hTt
    refine PySem.W.kcp_assign (s := { s with heap := h2, toks := tk1 }) hh ⟨oT, k2 _ _ (Or.inr hT) eT, rT⟩ ha hb hp (by rw [hcl]; exact hn2) fun h3 tk3 hn3 k3 => ?_
    rw [hcl] at hn3 k3
    have Z3 := Z2.keep (h' := h3) fun q o hq1 hq2 e => k3 q o (fun q' => by rw [q', ← hC] at hq2; exact absurd hq2 (Nat.not_lt.mpr (Nat.le_succ _))) e
    have k03 : Sub s.heap h3 := fun q o e => k3 q o (fun q' => by have := lt0 e; rw [q', ← hC] at this; exact absurd this (Nat.not_lt.mpr (by show (s.heap.objs.size : Nat) ≤ s.heap.objs.size + 6; lia))) (k12 q o (Or.inl (lt0 e)) (k0 q o e))
    have hD3 : h3.get? D = some (listOf (List.toArray ys) nn) := k3 _ _ hDC (k12 _ _ (Or.inr hD5) hDl)
    refine wpAny_mono (tests c1 c2 v1 v2 { s with heap := h3, toks := tk3 } _ _ hv1 hv2 hn3 (by rw [if_neg hab, if_pos rfl]) (if_pos rfl)) (fun ok s₄ q => ?_) fun _ _ e => e
    obtain ⟨rfl, h4, tk4, rfl, k4⟩ := q
    have tk1e : ((tl x1).zip (tl x2)).take (i + 1) = ((tl x1).zip (tl x2)).take i ++ [(c1, c2)] := by rw [List.take_add_one, hv]; rfl
    cases hpa : pa (c1, c2) with
    | false =>
      rw [if_neg (by decide)]
      refine ⟨((tl x1).zip (tl x2)).length + 1 - (i + 1), by lia, h4, tk4, i + 1, _, ys, nn, rfl, hlt, rfl, k03.trans k4, Z3.keep fun q o _ _ e => k4 q o e, hn3.keeps k4, k4 _ _ hD3, ?_⟩
      rw [tk1e, List.filter_append, List.filter_cons, hpa, if_neg (by decide), List.filter_nil, List.append_nil]
      exact hF
    | true =>
      rw [if_pos rfl]
      refine wpAny_mono (elts c1 c2 { s with heap := h4, toks := tk4 } _) (fun y s₅ q => ?_) fun _ _ e => e
      obtain ⟨hy, h5, tk5, rfl, k5⟩ := q
      have hys : ys.length ≤ 10000 := by
        rw [← hF.len]
        exact Nat.le_trans (List.length_filter_le _ _) (Nat.le_trans (List.length_take_le' _ _) hz)
      refine append_at (s := { s with heap := h5, toks := tk5 }) (k5 _ _ (k4 _ _ hD3)) (fun h6 hs6 ho6 => ?_) (by simp [sizeLine]; lia)
      rw [List.push_toArray] at ho6
      have k6 : ∀ q o, q ≠ D → h3.get? q = some o → h6.get? q = some o := fun q o hq e => hs6.extBut q o hq (k5 q o (k4 q o e))
      refine ⟨((tl x1).zip (tl x2)).length + 1 - (i + 1), by lia, h6, tk5, i + 1, _, ys ++ [y], nn + 1, rfl, hlt, rfl, fun q o e => k6 q o (fun q' => by have := lt0 e; rw [q', ← hD] at this; exact absurd this (Nat.not_lt.mpr (by show (s.heap.objs.size : Nat) ≤ s.heap.objs.size + 5; lia))) (k03 q o e), Z3.keep fun q o _ hq e => k6 q o (fun q' => by rw [q', ← hD] at hq; exact absurd hq (Nat.lt_irrefl _)) e, ((hn3.keeps k4).keeps k5).sameBut hs6 hDC.symm, ho6, ?_⟩
      rw [tk1e, List.filter_append, List.filter_cons, hpa, if_pos rfl, List.filter_nil]
      exact hF.snoc hy
end
end Mine
end

section
set_option autoImplicit false
set_option maxRecDepth 100000
set_option linter.unusedSimpArgs false
set_option linter.unusedVariables false
namespace Mine
open PySem PySem.W PySem.Calls PyProof.Rows PySem.Sre

section
variable {prog : Program} {w : World} {A : Around} {E : Value → Shared → Prop} {s : Shared} {env : Env} {g : Heap} {m : Str → Option Value} {mu : List (Addr × Obj)} {x1 x2 : Str} {t1 t2 : Tok} {Q : Flow → Shared → Prop}
/-- y = [elt for a, b in zip(two texts) if c] -/
theorem zs_assign {elt c iter : Expr} {a b y : Str} {p1 p2 tp py pos spos : Pos} {kk : Nat} {scope : Scope} (F : Nat × Nat → Value → Prop) (pa : Nat × Nat → Bool) (W : Wk g env.locals s.heap m mu) (hh : A.handled = none) (hz : ((tl x1).zip (tl x2)).length ≤ 10000)
    (hiter : wpAny (model prog w) A (eval iter env) (fun xv s₁ => xv = .ref (s.heap.objs.size + 4) ∧ ∃ h tk, s₁ = { s with heap := h, toks := tk } ∧ ZSt h s.heap.objs.size x1 x2 t1 t2 .none 0 ∧ h.objs.size = s.heap.objs.size + 5 ∧ Sub s.heap h) E s)
    (tests : ∀ C c1 c2 v1 v2 s₃ m₃ E', StrC c1 v1 → StrC c2 v2 → s₃.heap.Ns C m₃ → m₃ a = some v1 → m₃ b = some v2 → wpAny (model prog w) A (isTrue c (compEnvC scope [] C env) (eval c (compEnvC scope [] C env))) (fun ok s₄ => ok = pa (c1, c2) ∧ Keeps s₃ s₄) E' s₃)
    (elts : ∀ C c1 c2 s₃ E', wpAny (model prog w) A (eval elt (compEnvC scope [] C env)) (fun y s₄ => F (c1, c2) y ∧ Keeps s₃ s₄) E' s₃)
    (hQ : ∀ g' h' tk D ys nn, Sub g g' → Wk g' env.locals h' (fun z => if z = y then some (.ref D) else m z) mu → g'.get? D = some (listOf (List.toArray ys) nn) → All2 F (((tl x1).zip (tl x2)).filter pa) ys → Q .next { s with heap := h', toks := tk })
    (hab : ¬ a = b)
    (hsw : swapsWith (.ListComp elt [⟨.Tuple [.Name a p1, .Name b p2] kk tp, iter, [c], 0⟩] scope pos) (some (.Name y py)) spos.line env = pure true := by rfl)
    (hclos : closureFor scope env = pure [] := by rfl) (hcell : ∀ z ∈ scope.names, z.2 ≠ .cell := by decide) (hkind : scope.kind = .function := by rfl)
    (hnames : ∀ z ∈ scope.names, z.2 = .local → scope.names.lookup z.1 = some .local := by decide) (hxa : scope.names.lookup a = some .local := by rfl) (hxb : scope.names.lookup b = some .local := by rfl)
    (hy : env.kindOf y = some .local := by rfl) (hek : env.scope.kind = .function := by rfl)
    (hs : ∀ x, foldedSetIterable iter env x = pure x := by intro _; rfl) :
    wpAny (model prog w) A (exec (.Assign [.Name y py] (.ListComp elt [⟨.Tuple [.Name a p1, .Name b p2] kk tp, iter, [c], 0⟩] scope pos) spos) env) Q E s := by
  rw [exec_Assign_Name_used _ _ _ _ hsw]
  refine wpAny_bind (wpAny_standAt (wpAny_bind ?_))
  show wpAny _ A (do let _ ← comprehension (.ListComp elt [⟨.Tuple [.Name a p1, .Name b p2] kk tp, iter, [c], 0⟩] scope pos) scope env _ (newList []) false (eval iter env) (some (assign (.Name y py) env))) _ _ s
  refine wpAny_bind (wpAny_mono (wpAny_comprehension_free (use := some (assign (.Name y py) env)) (Q := fun _ s' => Q .next s') rfl hs hclos hkind hnames
    (wpAny_mono hiter (fun xv s₁ h₁ => ?_) fun _ _ e => e)) (fun _ s' hq => wpAny_pure (wpAny_pure hq)) fun _ _ e => e)
  obtain ⟨rfl, h, tk, rfl, Z, hsz, k1⟩ := h₁
  refine wpAny_pyIter_zip Z.z ?_
  refine wpAny_newObj_type (wpAny_newFunctionEnv hcell (by intro y hy; simp at hy) (fun h₁ hns₁ hsb₁ => ?_) hkind)
  dsimp only at hns₁ hsb₁ ⊢
  generalize hH2 : h.push { cls := .type "list", dict := none, data := .seq ([] : List Value).toArray } = H2 at hns₁ hsb₁ ⊢
  have hCs : H2.objs.size = s.heap.objs.size + 6 := by rw [← hH2, Heap.size_push, hsz]
  have hDC : h.objs.size ≠ H2.objs.size := by rw [hsz, hCs]; exact fun q => by have q' : (s.heap.objs.size + 5 : Nat) = s.heap.objs.size + 6 := q; lia
  have below : ∀ q, q < h.objs.size → q ≠ H2.objs.size := fun q hq => by
    rw [← hH2, Heap.size_push]; exact Nat.ne_of_lt (Nat.lt_succ_of_lt hq)
  have old : ∀ q o, h.get? q = some o → h₁.get? q = some o := fun q o e => hsb₁.extBut q o (below q (Heap.lt_size e)) (Heap.get?_push_of_some _ (hH2 ▸ Heap.get?_push_of_some _ e))
  have hacc : h₁.get? h.objs.size = some (listOf (List.toArray []) 0) := hsb₁.extBut _ _ hDC (Heap.get?_push_of_some _ (hH2 ▸ Heap.get?_push_size _ rfl))
  have hCn : s.heap.get? H2.objs.size = none := Heap.get?_none_of_le (by rw [hCs]; exact Nat.le_add_right _ _)
  have hDn : s.heap.get? h.objs.size = none := Heap.get?_none_of_le (by rw [hsz]; exact Nat.le_add_right _ _)
  have hLt := W.Llt
  have hLC : env.locals ≠ H2.objs.size := by rw [hCs]; exact Nat.ne_of_lt (Nat.lt_of_lt_of_le hLt (Nat.le_add_right _ _))
  have loop : ∀ s₃ : Shared, s₃ = { s with heap := h₁, toks := tk + ([] : List (Str × Value)).length } →
      codeAny (model prog w) A (.compLoop (.ListComp elt [⟨.Tuple [.Name a p1, .Name b p2] kk tp, iter, [c], 0⟩] scope pos) 0 (.ref (s.heap.objs.size + 4)) (.ref h.objs.size) (compEnvC scope [] H2.objs.size env))
        (compPost (model prog w) A E (some (assign (.Name y py) env)) (fun _ s' => Q .next s') (.ref h.objs.size) H2.objs.size) s₃ := by
    rintro s₃ rfl
    refine zs_loop (s := s) (t1 := t1) (t2 := t2) (x1 := x1) (x2 := x2) (F := F) (pa := pa) hh hsz.symm hCs.symm rfl hz (lookup_relabel_local hxa) (lookup_relabel_local hxb) (by simp [compEnvC, relabel, hkind]) hab
      (fun c1 c2 v1 v2 s₃ m₃ E' h1 h2 hn ha hb => tests _ c1 c2 v1 v2 s₃ m₃ E' h1 h2 hn ha hb) (fun c1 c2 s₃ E' => elts _ c1 c2 s₃ E')
      ⟨h₁, _, 0, _, [], 0, rfl, Nat.zero_le _, rfl, k1.trans old, Z.keep fun q o _ _ e => old q o e, hns₁, hacc, .nil⟩ ?_
    intro h' tk' m' ys nn k0 hn hD hF
    have W1 := W.keeps k0
    obtain ⟨oC, es, ep, eC, rest⟩ := id hn
    have W2 := W1.addMu (a := H2.objs.size) eC hLC.symm (by
      cases q : g.get? H2.objs.size with
      | none => rfl
      | some o => have := W.keep _ _ q; rw [hCn] at this; cases this) fun p hp q => by
        have := (W.mus p hp).1; rw [q, hCn] at this; cases this
    obtain ⟨g', s1, s2, W3⟩ := W2.rebase
    have gD : g'.get? h.objs.size = some (listOf (List.toArray ys) nn) := by
      refine s2 _ _ (fun q => ?_) (fun p hp q => ?_) hD
      · have : env.locals = h.objs.size := q.symm
        rw [this, hsz] at hLt
        exact absurd hLt (Nat.not_lt.mpr (Nat.le_add_right _ _))
      · rcases List.mem_cons.mp hp with rfl | hp
        · exact hDC q.symm
        · have := (W.mus p hp).1; rw [q, hDn] at this; cases this
    show wpAny _ A (assign (.Name y py) env (.ref h.objs.size)) _ _ _
    refine wpAny_assign_Name (st' (env := env) (s := { s with heap := h', toks := tk' }) W3 (fun h2 W4 => ?_) hek hy)
    have gC := (W4.mus (H2.objs.size, oC) (.head _)).1
    refine ⟨m', ⟨oC, es, ep, gC, rest⟩, fun h3 hs3 => ?_⟩
    have W5 := Wk.drop (pre := []) W4 hs3.extBut
    exact hQ g' h3 _ h.objs.size ys nn s1 W5 gD hF
  exact codeAny_compStart_list (loop _ rfl) (wpAny_pyIter_zip (Z.keep fun q o _ _ e => old q o e).z (loop _ rfl))
end
end Mine
end

section
set_option autoImplicit false
set_option maxRecDepth 100000
set_option linter.unusedSimpArgs false
set_option linter.unusedVariables false
namespace Mine
open PySem PySem.W PySem.Calls PyProof.Rows PySem.Sre

theorem ListsD.take {h h' g : Heap} {D : Addr} {l : List (List Wd)} (x : ListsD h.objs.size h' (.ref D) l) (hD : h.get? D = none) (s : ∀ b o, h.get? b = none → h'.get? b = some o → g.get? b = some o) : ListsD h.objs.size g (.ref D) l :=
  x.mono (Nat.le_refl _) (fun b o hb e => s b o (Heap.get?_none_of_le hb) e) (fun a o e1 e => by cases e1; exact s _ _ hD e)

section
variable {prog : Program} {w : World} {A : Around} {E : Value → Shared → Prop} {s : Shared} {env : Env} {Q : Value → Shared → Prop} {f : Str} {pf pos : Pos} {T : String}
theorem ev_callT1 {e : Expr} (hf : ∀ Q', Q' (.type T) s → wpAny (model prog w) A (eval (.Name f pf) env) Q' E s)
    (h : wpAny (model prog w) A (eval e env) (fun v s₁ => wpAny (model prog w) A (call (.type T) [v]) Q E s₁) E s)
    (hs : backTo pos (starEach [e] env) = [(false, eval e env)] := by rfl) : wpAny (model prog w) A (eval (.Call (.Name f pf) [e] [] pos) env) Q E s := by
  refine wpAny_Call_Name_kw (hf _ ?_)
  rw [hs]
  exact PyProof.Rows.callWith_type (first := []) rfl (evalArgs_plain (spliced_cons (wpAny_mono h (fun v s₁ h₁ => spliced_nil h₁) fun _ _ e => e)))
theorem ev_callT2 {e e' : Expr} (hf : ∀ Q', Q' (.type T) s → wpAny (model prog w) A (eval (.Name f pf) env) Q' E s)
    (h : wpAny (model prog w) A (eval e env) (fun v s₁ => wpAny (model prog w) A (eval e' env) (fun v' s₂ => wpAny (model prog w) A (call (.type T) [v, v']) Q E s₂) E s₁) E s)
    (hs : backTo pos (starEach [e, e'] env) = [(false, eval e env), (false, eval e' env)] := by rfl) : wpAny (model prog w) A (eval (.Call (.Name f pf) [e, e'] [] pos) env) Q E s := by
  refine wpAny_Call_Name_kw (hf _ ?_)
  rw [hs]
  exact PyProof.Rows.callWith_type (first := []) rfl (evalArgs_plain (spliced_cons (wpAny_mono h (fun v s₁ h₁ => spliced_cons (wpAny_mono h₁ (fun v' s₂ h₂ => spliced_nil h₂) fun _ _ e => e)) fun _ _ e => e)))
/-- a place of a list -/
theorem ev_idxL {o e : Expr} (h : wpAny (model prog w) A (eval o env) (fun v s₁ => ∃ (D : Addr) (vs : List Value) (n : Nat), v = .ref D ∧ vs.length ≤ 1000 ∧ wpAny (model prog w) A (eval e env) (fun i s₂ => s₂.heap.get? D = some (listOf (List.toArray vs) n) ∧ ∃ (k : Nat) (u : Tok) (x : Value), i = .int (k : Int) u ∧ vs[k]? = some x ∧ Q x s₂) E s₁) E s)
    (hsub : ∀ o i, subscripted e false o i = operate [o, i] (getItem o i) := by intro _ _; rfl) : wpAny (model prog w) A (eval (.Subscript o e pos) env) Q E s := by
  refine PyProof.Rows.Subscript_ (wpAny_mono h (fun v s₁ h₁ => ?_) fun _ _ x => x)
  obtain ⟨D, vs, n, rfl, hz, h₁⟩ := h₁
  refine wpAny_mono h₁ (fun i s₂ h₂ => ?_) fun _ _ x => x
  obtain ⟨hD, k, u, x, rfl, hx, hq⟩ := h₂
  have hk : k < vs.length := (List.getElem?_eq_some_iff.mp hx).1
  exact subTail (T := "list") ⟨_, hD, rfl⟩ slot_list_getitem.lookup (wpAny_getItem_list ⟨_, hD, rfl, n, rfl⟩ (by lia) (by lia) (by simpa using hx) hq) (hsub _ _)
/-- a stretch of a list -/
theorem subList {value : Expr} {lower upper step : Option Expr} {p : Pos}
    (h : wpAny (model prog w) A (eval value env) (fun o s₁ => wpAny (model prog w) A (evalPart lower env) (fun vl s₂ => wpAny (model prog w) A (evalPart upper env) (fun vu s₃ => wpAny (model prog w) A (evalPart step env) (fun vs s₄ =>
      ∃ (D : Addr) (items : List Value) (n : Nat) (lo hi st : Option Int), o = .ref D ∧ s₄.heap.get? D = some (listOf (List.toArray items) n) ∧ items.length ≤ 1000 ∧ IsPart vl lo ∧ IsPart vu hi ∧ IsPart vs st ∧ st ≠ some 0 ∧
        ∀ h' T, Sub s₄.heap h' → s₄.heap.get? T = none → h'.get? T = some (listOf (slicePick (List.toArray items) lo hi st) 0) → Q (.ref T) { s₄ with heap := h' }) E s₃) E s₂) E s₁) E s)
    {ops : Value → Value → List Value} (hsub : ∀ o i, subscripted (.Slice lower upper step p) false o i = operate (ops o i) (getItem o i) := by intro _ _; rfl) :
    wpAny (model prog w) A (eval (.Subscript value (.Slice lower upper step p) pos) env) Q E s := by
  refine PyProof.Rows.Subscript_ (wpAny_mono h (fun o s₁ h₁ => wpAny_Slice (wpAny_mono h₁ (fun vl s₂ h₂ => wpAny_mono h₂ (fun vu s₃ h₃ => wpAny_mono h₃ (fun vs s₄ h₄ => ?_) fun _ _ e => e) fun _ _ e => e) fun _ _ e => e)) fun _ _ e => e)
  obtain ⟨D, items, n, lo, hi, st, rfl, hD, hz, p1, p2, p3, h0, hQ⟩ := h₄
  refine subTail (T := "list") ⟨_, Heap.get?_push_of_some _ hD, rfl⟩ slot_list_getitem.lookup (wpAny_getItem_list_slice ⟨_, Heap.get?_push_of_some _ hD, rfl, n, rfl⟩ ⟨_, Heap.get?_push_size _ rfl, rfl, rfl⟩ p1 p2 p3 h0 ?_ (by simp [sizeLine]; lia)) (hsub _ _)
  exact hQ _ _ (fun _ _ e => Heap.get?_push_of_some _ (Heap.get?_push_of_some _ e)) (Heap.get?_none_of_le (by rw [Heap.size_push]; exact Nat.le_succ _)) (Heap.get?_push_size _ rfl)
/-- a list display -/
theorem ev_list {es : List Expr} (h : wpAny (model prog w) A (spliced (es.map fun e => (false, eval e env))) (fun vs s₁ => vs.length ≤ 100 ∧ Q (.ref s₁.heap.objs.size) { s₁ with heap := s₁.heap.push (listOf vs.toArray 0) }) E s)
    (hs : backTo pos (starEach es env) = es.map fun e => (false, eval e env) := by rfl) : wpAny (model prog w) A (eval (.List es pos) env) Q E s := by
  refine List_ ?_
  rw [hs]
  refine wpAny_mono h (fun vs s₁ h₁ => ?_) fun _ _ x => x
  exact wpAny_newList h₁.2 (by have := h₁.1; simp [sizeLine]; lia)
end

section
variable {prog : Program} {w : World} {A : Around} {E : Value → Shared → Prop} {s : Shared} {Q : Value → Shared → Prop}
def AnyInt (v : Value) : Prop := ∃ i u, v = .int i u
def intAt (vs : List Value) (i : Nat) : Int := match vs[i]? with
  | some (Value.int k _) => k
  | _ => 0
/-- sum(a list of ints): some int -/
theorem call_sumL {D : Addr} {vs : List Value} {n : Nat} (hh : A.handled = none) (hD : s.heap.get? D = some (listOf (List.toArray vs) n)) (hv : ∀ v ∈ vs, AnyInt v)
    (h : ∀ h' tk t' S, Sub s.heap h' → Q (.int S t') { s with heap := h', toks := tk }) : wpAny (model prog w) A (call (.builtin "sum") [.ref D]) Q E s := by
  have hl : s.heap.IsList D vs.toArray := ⟨_, hD, rfl, n, rfl⟩
  have hne : D ≠ s.heap.objs.size := Nat.ne_of_lt (Heap.lt_size hD)
  have W := (Walks.list (prog := prog) (w := w) (A := A.in1) hh s.heap.objs.size D hne vs.toArray).toS
  have hval : ∀ i v, vs.toArray[i]? = some v → ∃ t, v = Value.int (intAt vs i) t := by
    intro i v e
    have e' : vs[i]? = some v := by simpa using e
    obtain ⟨k, u, rfl⟩ := hv v (List.mem_of_getElem? e')
    exact ⟨u, by unfold intAt; rw [e']⟩
  refine call_sum_walkAnyS (wpAny_pyIter_list hl ?_)
  refine ⟨s.heap.objs.size, _, _, _, _, _, _, intAt vs, rfl, W, ⟨⟨_, Heap.get?_push_size _ rfl, rfl, rfl⟩, hl.push _⟩, fun b hb => ?_, hval, fun s' t' hm => ?_⟩
  · rcases List.mem_cons.mp hb with rfl | hb
    · exact Heap.lt_size (Heap.get?_push_size _ rfl)
    · obtain rfl := List.mem_singleton.mp hb
      exact Heap.lt_size (Heap.get?_push_of_some _ hD)
  · obtain ⟨h', g', d', tk', os'⟩ := s'
    have e1 : g' = s.gens := hm.gens
    have e2 : d' = s.drawn := hm.drawn
    have e3 : os' = s.os := hm.os
    subst e1 e2 e3
    exact h h' tk' t' _ fun b o e => hm.heap b o (fun hb => absurd (Heap.lt_size e) ((List.mem_singleton.mp hb) ▸ Nat.lt_irrefl _)) (Heap.get?_push_of_some _ e)
theorem src_range {r : Addr} {n : Nat} {t u v : Tok} (hh : A.handled = none) (hr : IsRange s.heap r 0 (n : Int) 1 t u v) (hn : n < 2 ^ 30) : wpAny (model prog w) A (pyIter (.ref r)) (ItSrc prog w A s (List.range n) (fun k v => IntV v k)) E s := by
  have hsz : Builtin.Range.rangeSize 0 (n : Int) 1 = (n : Int) := by
    rw [rangeSize_one]; split <;> lia
  have W := Walks.weak (P' := fun i v => ∃ a, (List.range n)[i]? = some a ∧ IntV v a) (Walks.range (prog := prog) (w := w) (A := A) hh s.heap.objs.size 0 1 n) fun i v hi hv => by
    obtain ⟨tk, rfl⟩ := hv
    refine ⟨i, List.getElem?_range hi, tk, ?_⟩
    congr 1; lia
  refine wpAny_pyIter_range hr (small_one (by lia) (by lia) (by lia) (by lia)) ⟨_, [s.heap.objs.size], [s.heap.objs.size], _, _, _, rfl, rfl, fun _ _ e => Heap.get?_push_of_some _ e, by rw [List.length_range]; exact W, ?_, fun b hb => ?_, fun b hb => ?_⟩
  · show IsRangeIter _ _ _ _ _
    rw [hsz]
    simpa using Heap.get?_push_size _ rfl
  · rw [List.mem_singleton.mp hb, Heap.size_push]; exact Nat.lt_succ_self _
  · rw [List.mem_singleton.mp hb]; exact Heap.get?_none_of_le (Nat.le_refl _)
/-- a list three times -/
theorem mul3 {D : Addr} {vs : List Value} {n : Nat} {u : Tok} (hD : s.heap.get? D = some (listOf (List.toArray vs) n)) (hz : vs.length ≤ 1000)
    (h : Q (.ref s.heap.objs.size) { s with heap := s.heap.push (listOf (List.toArray (vs ++ (vs ++ vs))) 0) }) : wpAny (model prog w) A (binaryOp .Mult (.ref D) (.int 3 u)) Q E s := by
  have e : List.foldl (fun x1 x2 => x1 ++ x2) #[] (List.replicate (if (List.toArray vs).isEmpty = true then 0 else (3 : Int).toNat) (List.toArray vs)) = List.toArray (vs ++ (vs ++ vs)) := by
    cases vs with
    | nil => rfl
    | cons a r =>
      rw [if_neg (by simp)]
      show (((#[] : Array Value) ++ (a :: r).toArray) ++ (a :: r).toArray) ++ (a :: r).toArray = _
      apply Array.toList_inj.mp
      simp
  refine wpAny_binaryOp_repeat_ref (T := "list") (U := "int") (by decide) ⟨_, hD, rfl⟩ (fun s' => typeIs_int s' 3 u) noFill_list_mul F.fills_int_mul F.slot_int_rmul repeat_list F.slot_int_index.lookup
    (call_meets F.slot_int_rmul (typeIs_int s 3 u) F.entry_int_rmul (F.args_int_rmul_2 _ _) (int___rmul___int_list 3 u D (List.toArray vs) n)
      ⟨hD, rfl, ⟨_, hD, rfl⟩, call_meets F.slot_list_mul ⟨_, hD, rfl⟩ F.entry_list_mul (F.args_list_mul_2 _ _)
        (AutoListH.list___mul___list_int_3 D (List.toArray vs) n 3 u (by simp [Builtin.List.listFitsIndex]) (by simp; lia) (by simp [Builtin.List.listTooLong, sizeLine]; lia)) ⟨hD, ?_⟩⟩)
  rw [e]
  exact h
end
end Mine
end

section
set_option autoImplicit false
set_option maxRecDepth 100000
set_option linter.unusedSimpArgs false
set_option linter.unusedVariables false
namespace Mine
open PySem PySem.W PySem.Calls PyProof.Rows PySem.Sre

/-! ### law -/
def lawS : Stmt := topS 14
def lawSc : Scope := scopeOf lawS
abbrev lawEnv (L : Addr) : Env := envOfC "law" lawSc L 95 (.ref 94)
theorem lawBody_is : bodyOf lawS = [nth (bodyOf lawS) 0, nth (bodyOf lawS) 1, nth (bodyOf lawS) 2, nth (bodyOf lawS) 3, nth (bodyOf lawS) 4, nth (bodyOf lawS) 5, nth (bodyOf lawS) 6, nth (bodyOf lawS) 7, nth (bodyOf lawS) 8, nth (bodyOf lawS) 9] := rfl

theorem pick_mem {vs : List Value} {lo hi st : Option Int} {v : Value} (h : v ∈ (slicePick (List.toArray vs) lo hi st).toList) : v ∈ vs := by
  unfold slicePick at h
  obtain ⟨i, _, e⟩ := List.mem_filterMap.mp h
  have e' : vs[i]? = some v := by simpa using e
  exact List.mem_of_getElem? e'
theorem fmod_small (i : Int) : ∃ d : Nat, i.fmod 583200000 = (d : Int) ∧ d < 583200000 := by
  have h1 := Int.fmod_nonneg_of_pos i (show (0 : Int) < 583200000 by decide)
  have h2 := Int.fmod_lt_of_pos i (show (0 : Int) < 583200000 by decide)
  exact ⟨(i.fmod 583200000).toNat, by omega, by omega⟩

section
variable {prog : Program} {w : World} {A : Around} {E : Value → Shared → Prop} {s : Shared} {P : Params} {mg mb : Str → Option Value} {g : Heap} {L : Addr} {m : Str → Option Value} {mu : List (Addr × Obj)} {Q : Flow → Shared → Prop}
theorem law_base {ob : Obj} (W : Wk g L s.heap m ((L + 1 + 1, ob) :: mu)) (ho : ob.data = .cell none)
    (h : ∀ g' h' tk T vs ob', Sub g g' → Wk g' L h' m mu → vs.length = 8 → (∀ v ∈ vs, AnyInt v) → g'.get? T = some (pairObj (List.toArray vs)) → g'.get? (L + 1 + 1) = some ob' → ob'.data = .cell (some (.ref T)) → Q .next { s with heap := h', toks := tk }) (st : Stmt) (hst : st = nth (bodyOf lawS) 0) :
    wpAny (model prog w) A (exec st (lawEnv L)) Q E s := by
  subst hst
  have fin : ∀ (t7 : Nat) (vs : List Value), vs.length = 8 → (∀ v ∈ vs, AnyInt v) → wpAny (model prog w) A (storeName (lawEnv L) "base" (.ref s.heap.objs.size)) (fun _ s' => Q .next s') E { s with heap := s.heap.push (pairObj (List.toArray vs)), toks := t7 } := by
    intro t7 vs hl hi
    obtain ⟨g2, s2, e2, W4⟩ := W.extPush (pairObj (List.toArray vs)) rfl
    refine stCell (env := lawEnv L) (s := { s with heap := s.heap.push (pairObj (List.toArray vs)), toks := t7 }) (pre := []) W4 ho (by rfl) fun g3 h3 ob' s3 e3 d3 W5 => ?_
    exact h g3 h3 t7 _ _ ob' (s2.trans s3) W5 hl hi (s3 _ _ e2) e3 d3
  refine wpAny_Assign_Name (ev_tuple ?_)
  refine mapd_cons (ev_int ?_); intro a0 t0
  refine mapd_cons (ev_int ?_); intro a1 t1
  refine mapd_cons (ev_int ?_); intro a2 t2
  refine mapd_cons (ev_int ?_); intro a3 t3
  refine mapd_cons (ev_int ?_); intro a4 t4
  refine mapd_cons (ev_int ?_); intro a5 t5
  refine mapd_cons (ev_int ?_); intro a6 t6
  refine mapd_cons (ev_int ?_); intro a7 t7
  refine mapd_nil ⟨by simp, ?_⟩
  refine fin t7 _ rfl ?_
  intro v hv
  simp only [List.mem_cons, List.not_mem_nil, or_false] at hv
  rcases hv with rfl | rfl | rfl | rfl | rfl | rfl | rfl | rfl <;> exact ⟨_, _, rfl⟩
def DrawnV (y : Value) : Prop := ∃ d, IntV y d ∧ d < 583200000
theorem law_drawn {os ob od : Obj} {S T : Addr} {sv bv : List Value} {n nb : Nat} (W : Wk g L s.heap m ((L + 1 + 1 + 1, od) :: mu)) (B : Bs P mg mb g) (ho : od.data = .cell none)
    (hs : g.get? (L + 1) = some os) (hsd : os.data = .cell (some (.ref S))) (hS : g.get? S = some (listOf (List.toArray sv) n)) (hsv : ∀ v ∈ sv, AnyInt v) (hsl : sv.length ≤ 1000)
    (hb : g.get? (L + 1 + 1) = some ob) (hbd : ob.data = .cell (some (.ref T))) (hT : g.get? T = some { cls := .type "tuple", data := .seq bv.toArray nb }) (hbl : bv.length = 8) (hbv : ∀ v ∈ bv, AnyInt v) (r : Rm 4 A)
    (h : ∀ g' h' tk D dv nd od', Sub g g' → Wk g' L h' m mu → dv.length = 8 → (∀ v ∈ dv, DrawnV v) → g'.get? D = some (listOf (List.toArray dv) nd) → g'.get? (L + 1 + 1 + 1) = some od' → od'.data = .cell (some (.ref D)) → Q .next { s with heap := h', toks := tk }) (st : Stmt) (hst : st = nth (bodyOf lawS) 1) :
    wpAny (model prog w) A (exec st (lawEnv L)) Q E s := by
  subst hst
  refine wpAny_Assign_Name ?_
  refine ev_compF (env := lawEnv L) (cl := [("script", L + 1), ("base", L + 1 + 1)]) (items := List.range 8) (V := fun k v => IntV v k) (fun _ => true) (fun _ y => DrawnV y) W (fun a a' v h1 h2 => h1.inj h2) (by decide) (by rfl) ?_ ?_ ?_ ?_
  · have Bk := B.keeps W.keep
    refine ev_callT1 (T := "range") (fun Q' q => ldB (env := lawEnv L) Bk (Bk.fr _ (by decide)) (by rfl) q) (ev_int fun a1 t1 => call_range_1 ⟨⟨_, _, rfl, fun _ _ e => Heap.get?_push_of_some _ e⟩, ?_⟩)
    exact src_range (n := 8) r.hd (IsRange.new ..) (by decide)
  · intro C c v' s₃ m₃ E' hc hV hk3 hn hm
    exact no_test ⟨rfl, s₃.heap, s₃.toks, rfl, fun _ _ e => e⟩
  · intro C k v s₃ m₃ E' hk hV hpa hk3 hn3 hm3
    obtain ⟨uk, rfl⟩ := hV
    have hk8 : k < 8 := List.mem_range.mp hk
    have up : Sub g s₃.heap := fun b o e => hk3 _ _ (W.keep _ _ e)
    have B3 : Bs P mg mb s₃.heap := B.keeps up
    refine wpAny_BinOp (wpAny_BinOp (ev_callB1 (env := compEnvC _ _ C (lawEnv L)) (id := "sum") (fun Q' q => ldB (env := compEnvC _ _ C (lawEnv L)) B3 (B3.fr _ (by decide)) (by rfl) q) (subList ?_)))
    refine ldCell (env := compEnvC _ _ C (lawEnv L)) ⟨os, up _ _ hs, hsd⟩ (by rfl) ?_
    refine ldN (env := compEnvC _ _ C (lawEnv L)) hn3 hm3 (evp_int (evp_int ⟨S, sv, n, some (k : Int), some 60, some 8, rfl, up _ _ hS, hsl, .int _ _, .int _ _, .int _ _, by decide, fun h5 T5 k5 hT5 gT5 => ?_⟩))
    generalize ha : slicePick (List.toArray sv) (some (k : Int)) (some 60) (some 8) = arr at gT5
    have hav : ∀ v ∈ arr.toList, AnyInt v := fun v hv => hsv v (pick_mem (by rw [ha]; exact hv))
    have e5 : arr = List.toArray arr.toList := by simp
    rw [e5] at gT5
    refine call_sumL (s := { s₃ with heap := h5, toks := _ }) r.hd gT5 hav fun h6 t6 u6 X k6 => ?_
    have up6 : Sub g h6 := up.trans (k5.trans k6)
    refine ev_idxT (ldCell (env := compEnvC _ _ C (lawEnv L)) (s := { s₃ with heap := h6, toks := t6 }) ⟨ob, up6 _ _ hb, hbd⟩ (by rfl) ⟨T, bv, nb, rfl, by omega, ldN (env := compEnvC _ _ C (lawEnv L)) (s := { s₃ with heap := h6, toks := t6 }) (hn3.keeps (k5.trans k6)) hm3 ⟨up6 _ _ hT, k, uk, bv[k], rfl, List.getElem?_eq_getElem (by omega), ?_⟩⟩)
    obtain ⟨i, ui, ei⟩ := hbv bv[k] (List.getElem_mem _)
    rw [ei]
    refine PyProof.Rows.add_int (ev_int fun a9 t9 => PyProof.Rows.mod_int (by decide) ?_)
    obtain ⟨d, hd1, hd2⟩ := fmod_small (X + i)
    rw [hd1]
    exact ⟨⟨d, ⟨_, rfl⟩, hd2⟩, h6, _, rfl, k5.trans k6⟩
  · intro g3 h3 t4 D3 ys3 n3 s3 k3 W3 hD3 hDn3 hF3
    rw [List.filter_eq_self.mpr (fun _ _ => rfl)] at hF3
    have hl3 := hF3.len
    rw [List.length_range] at hl3
    have hall : ∀ v ∈ ys3, DrawnV v := fun v hv => by
      obtain ⟨i, hi⟩ := List.getElem?_of_mem hv
      have hlt := (List.getElem?_eq_some_iff.mp hi).1
      exact hF3.get i i v (List.getElem?_range (by omega)) hi
    refine stCell (env := lawEnv L) (s := { s with heap := h3, toks := t4 }) (pre := []) W3 ho (by rfl) fun g4 h4 od' s4 e4 d4 W5 => ?_
    exact h g4 h4 t4 D3 ys3 n3 od' (s3.trans s4) W5 hl3.symm hall (s4 _ _ hD3) e4 d4
end
end Mine
end

section
set_option autoImplicit false
set_option maxRecDepth 100000
set_option linter.unusedSimpArgs false
set_option linter.unusedVariables false
namespace Mine
open PySem PySem.W PySem.Calls PyProof.Rows PySem.Sre

def FnAt (P : Params) (a : Addr) : Prop := ∃ (o : Obj) (fd : FuncData), o.data = .func fd ∧ ∀ (mg mb : Str → Option Value) (h : Heap), Bs P mg mb h → h.get? a = some o
theorem fn70 {P : Params} : FnAt P 70 := ⟨_, _, rfl, fun _ _ _ B => B.K 70 _ rfl⟩
theorem fn75 {P : Params} : FnAt P 75 := ⟨_, _, rfl, fun _ _ _ B => B.K 75 _ rfl⟩
theorem fn80 {P : Params} : FnAt P 80 := ⟨_, _, rfl, fun _ _ _ B => B.K 80 _ rfl⟩
theorem fn85 {P : Params} : FnAt P 85 := ⟨_, _, rfl, fun _ _ _ B => B.K 85 _ rfl⟩
theorem fn90 {P : Params} : FnAt P 90 := ⟨_, _, rfl, fun _ _ _ B => B.K 90 _ rfl⟩

structure Drw (g : Heap) (L D : Addr) (dv : List Value) (nd : Nat) : Prop where
  c : ∃ od, g.get? (L + 1 + 1 + 1) = some od ∧ od.data = .cell (some (.ref D))
  d : g.get? D = some (listOf (List.toArray dv) nd)
  l : dv.length = 8
  v : ∀ v ∈ dv, DrawnV v
theorem Drw.keep {g g' : Heap} {L D : Addr} {dv : List Value} {nd : Nat} (X : Drw g L D dv nd) (k : Sub g g') : Drw g' L D dv nd :=
  ⟨let ⟨od, h1, h2⟩ := X.c; ⟨od, k _ _ h1, h2⟩, k _ _ X.d, X.l, X.v⟩
def gapC (c : Nat) : Prop := c = 59 ∨ c = 32 ∨ c = 10
def gapOk (t : Txt) : Prop := ∃ c, t = [c] ∧ gapC c
theorem gap_join : ∀ {l : List Txt}, (∀ t ∈ l, gapOk t) → (joinT [] l).length = l.length ∧ ∀ c ∈ joinT [] l, gapC c
  | [], _ => ⟨rfl, fun c hc => by simp [joinT] at hc⟩
  | a :: l, h => by
    obtain ⟨h1, h2⟩ := gap_join fun x hx => h x (.tail _ hx)
    obtain ⟨c, rfl, hc⟩ := h a (.head _)
    rw [joinT_nil_cons]
    refine ⟨by simp [h1], fun d hd => ?_⟩
    rcases List.mem_append.mp hd with hd | hd
    · rw [List.mem_singleton.mp hd]; exact hc
    · exact h2 d hd
theorem gap_sign (j : Nat) (h : j < 3) : ∃ c, (tl (ts [59, 32, 10]))[j]? = some c ∧ gapC c := by
  have key : ∀ j, j < 3 → (tl (ts [59, 32, 10]))[j]? = some ([59, 32, 10].getD j 0) ∧ gapC ([59, 32, 10].getD j 0) := by unfold gapC; decide
  exact ⟨_, key j h⟩
def cutsL : List Nat := [4, 3, 4, 2, 4, 1, 0, 3]
theorem cutsL_ok (j : Nat) (h : j < 8) : ∃ k, cutsL[j]? = some k ∧ k ≤ 4 := by
  have key : ∀ j, j < 8 → cutsL[j]? = some (cutsL.getD j 0) ∧ cutsL.getD j 0 ≤ 4 := by decide
  exact ⟨_, key j h⟩
theorem int_get {vs : List Value} {ks : List Nat} (h : All2 IntV vs ks) {j k : Nat} (hj : ks[j]? = some k) : ∃ x, vs[j]? = some x ∧ IntV x k := by
  have hlt : j < vs.length := by
    rw [h.len]; exact (List.getElem?_eq_some_iff.mp hj).1
  exact ⟨_, List.getElem?_eq_getElem hlt, h.get j _ _ (List.getElem?_eq_getElem hlt) hj⟩
theorem drawn_list : ∀ (vs : List Value), (∀ v ∈ vs, DrawnV v) → ∃ ks, All2 IntV vs ks ∧ ∀ k ∈ ks, k < 2 ^ 30
  | [], _ => ⟨[], .nil, fun _ h => by cases h⟩
  | a :: vs, h => by
    obtain ⟨ks, h1, h2⟩ := drawn_list vs fun v hv => h v (.tail _ hv)
    obtain ⟨d, h3, h4⟩ := h a (.head _)
    refine ⟨d :: ks, .cons h3 h1, fun k hk => ?_⟩
    rcases List.mem_cons.mp hk with rfl | hk
    · lia
    · exact h2 k hk

section
variable {prog : Program} {w : World} {A : Around} {E : Value → Shared → Prop} {s : Shared} {env : Env}
/-- drawn[4] -/
theorem ev_drawn4 {L D : Addr} {dv : List Value} {nd : Nat} {p1 p2 p3 : Pos} {kk : Nat} {Q : Value → Shared → Prop} (X : Drw s.heap L D dv nd) (hc : env.cells.lookup (Str.ofString "drawn") = some (L + 1 + 1 + 1))
    (h : ∀ k u tk, k < 583200000 → Q (.int ((k : Nat) : Int) u) { s with toks := tk })
    (hk : env.scope.kind = .function := by rfl) (hl : env.kindOf "drawn" = some .cell := by rfl) :
    wpAny (model prog w) A (eval (.Subscript (.Name "drawn" p1) (.Constant (.int 4) kk p2) p3) env) Q E s := by
  obtain ⟨od, h1, h2⟩ := X.c
  have hl8 := X.l
  refine ev_idxL (ldCell ⟨od, h1, h2⟩ hc ⟨D, dv, nd, rfl, by lia, ev_int fun u1 t1 => ⟨X.d, 4, u1, dv[4], rfl, List.getElem?_eq_getElem (by lia), ?_⟩⟩ hk hl)
  obtain ⟨d, ⟨u, e⟩, hd⟩ := X.v dv[4] (List.getElem_mem _)
  rw [e]
  exact h d u t1 hd
end

section
variable {prog : Program} {w : World} {A : Around} {E : Value → Shared → Prop} {s : Shared} {P : Params} {mg mb : Str → Option Value} {g : Heap} {L : Addr} {m : Str → Option Value} {mu : List (Addr × Obj)} {Q : Flow → Shared → Prop} {D : Addr} {dv : List Value} {nd : Nat}
theorem law_lists (W : Wk g L s.heap m mu) (B : Bs P mg mb g) (X : Drw g L D dv nd) (r : Rm 14 A)
    (h : ∀ g' h' tk Dl l lo, Sub g g' → ListsD lo g' (.ref Dl) l → GoodL l → words l ≤ 4 → Wk g' L h' (fun y => if y = "lists" then some (.ref Dl) else m y) mu → Q .next { s with heap := h', toks := tk }) (st : Stmt) (hst : st = nth (bodyOf lawS) 2) :
    wpAny (model prog w) A (exec st (lawEnv L)) Q E s := by
  subst hst
  have Bk := B.keeps W.keep
  have Xk := X.keep W.keep
  obtain ⟨ob, fd, hob, hfd⟩ := fn75 (P := P)
  refine wpAny_Assign_Name (ev_callF1 (o := ob) (fd := fd) (fun Q' q => ldG (env := lawEnv L) Bk (mgLis Bk) q) (subList ?_))
  obtain ⟨od, c1, c2⟩ := Xk.c
  refine ldCell (env := lawEnv L) ⟨od, c1, c2⟩ (by rfl) (wpAny_pure ?_)
  refine evalPart_some_step (ev_idxTup (env := lawEnv L) ?_)
  refine mapd_cons (ev_int fun a0 t0 => ?_)
  refine mapd_cons (ev_int fun a1 t1 => ?_)
  refine mapd_cons (ev_int fun a2 t2 => ?_)
  refine mapd_cons (ev_int fun a3 t3 => ?_)
  refine mapd_cons (ev_int fun a4 t4 => ?_)
  refine mapd_cons (ev_int fun a5 t5 => ?_)
  refine mapd_cons (ev_int fun a6 t6 => ?_)
  refine mapd_cons (ev_int fun a7 t7 => ?_)
  have hvs : All2 IntV [Value.int 4 a0, .int 3 a1, .int 4 a2, .int 2 a3, .int 4 a4, .int 1 a5, .int 0 a6, .int 3 a7] cutsL :=
    .cons ⟨a0, rfl⟩ (.cons ⟨a1, rfl⟩ (.cons ⟨a2, rfl⟩ (.cons ⟨a3, rfl⟩ (.cons ⟨a4, rfl⟩ (.cons ⟨a5, rfl⟩ (.cons ⟨a6, rfl⟩ (.cons ⟨a7, rfl⟩ .nil)))))))
  refine mapd_nil ⟨by simp, fun ob T hf hT => ?_⟩
  have kT : Sub s.heap (s.heap.push ob) := fun _ _ e => Heap.get?_push_of_some _ e
  refine ev_mod 8 (h := ev_drawn4 (env := lawEnv L) (s := { s with heap := s.heap.push ob, toks := t7 }) (Xk.keep kT) (by rfl) fun k u1 b1 hk => ⟨k, u1, rfl, fun u2 b2 => ?_⟩)
  obtain ⟨c, hc1, hc2⟩ := cutsL_ok (k % 8) (Nat.mod_lt _ (by decide))
  obtain ⟨x, hx, uc, ec⟩ := int_get hvs hc1
  refine ⟨by rw [hT]; exact Heap.get?_push_size _ hf, k % 8, u2, x, rfl, hx, ?_⟩
  rw [ec]
  have hl8 := X.l
  refine wpAny_pure ⟨D, dv, nd, none, some (c : Int), none, rfl, kT _ _ Xk.d, by lia, .none, .int _ _, .none, by decide, fun h5 T5 k5 hT5 gT5 => ?_⟩
  rw [slicePick_upto (List.toArray dv) c (by simp; lia)] at gT5
  have W5 := (W.push ob).keeps k5
  have B5 := B.keeps W5.keep
  obtain ⟨ks, q1, q2⟩ := drawn_list (dv.take c) fun v hv => X.v v (List.mem_of_mem_take hv)
  have hks : ks.length ≤ 4 := by
    rw [← q1.len, List.length_take]; lia
  refine ⟨⟨hfd _ _ _ B5, hob⟩, call_lis (s := { s with heap := h5, toks := b2 }) B5 (r.le (by lia)) gT5 q1 q2 (by lia) fun h6 t6 Dl l k6 hDn hL hG hw => ?_⟩
  obtain ⟨g', s1, s2, W6⟩ := W5.ext k6
  exact st' (env := lawEnv L) (s := { s with heap := h6, toks := t6 }) W6 fun h7 W7 => h g' h7 _ Dl l _ s1 (hL.take hDn s2) hG (by lia) W7
theorem law_gaps (W : Wk g L s.heap m mu) (B : Bs P mg mb g) (X : Drw g L D dv nd) (r : Rm 4 A)
    (h : ∀ g' h' tk G u, Sub g g' → G.length = 4 → (∀ c ∈ G, gapC c) → Wk g' L h' (fun y => if y = "gaps" then some (.str (ts G) u) else m y) mu → Q .next { s with heap := h', toks := tk }) (st : Stmt) (hst : st = nth (bodyOf lawS) 3) :
    wpAny (model prog w) A (exec st (lawEnv L)) Q E s := by
  subst hst
  refine wpAny_Assign_Name (ev_join (sep := []) ?_)
  refine ev_compF (env := lawEnv L) (cl := [("drawn", L + 1 + 1 + 1)]) (items := [8, 24, 72, 216]) (V := fun c v => IntV v c) (fun _ => true) (fun _ y => ∃ t, StrT y t ∧ gapOk t) (s := { s with heap := s.heap, toks := s.toks + 1 }) W (fun a a' v h1 h2 => h1.inj h2) (by decide) (by rfl) ?_ ?_ ?_ ?_
  · refine ev_tuple (mapd_cons (ev_int fun a1 t1 => mapd_cons (ev_int fun a2 t2 => mapd_cons (ev_int fun a3 t3 => mapd_cons (ev_int fun a4 t4 => mapd_nil ⟨by simp, ⟨_, _, rfl, fun _ _ e => Heap.get?_push_of_some _ e⟩, ?_⟩)))))
    refine wpAny_mono (src_tuple (s := { s with heap := s.heap.push (pairObj [Value.int 8 a1, .int 24 a2, .int 72 a3, .int 216 a4].toArray), toks := t4 }) (vs := [Value.int 8 a1, .int 24 a2, .int 72 a3, .int 216 a4]) r.hd ⟨_, Heap.get?_push_size _ rfl, rfl, 0, rfl⟩) (fun it s₂ q => q.as ?_) fun _ _ q => q
    exact .cons ⟨_, rfl⟩ (.cons ⟨_, rfl⟩ (.cons ⟨_, rfl⟩ (.cons ⟨_, rfl⟩ .nil)))
  · intro C c v' s₃ m₃ E' hc hV hk3 hn hm
    exact no_test ⟨rfl, s₃.heap, s₃.toks, rfl, fun _ _ e => e⟩
  · intro C c v' s₃ m₃ E' hc hV hpa hk3 hn3 hm3
    obtain ⟨up, rfl⟩ := hV
    have hc0 : c ≠ 0 ∧ c < 2 ^ 30 := by
      have : ∀ c ∈ [8, 24, 72, 216], c ≠ 0 ∧ c < 2 ^ 30 := by decide
      exact this c hc
    have X3 : Drw s₃.heap L D dv nd := X.keep fun b o e => hk3 _ _ (W.keep _ _ e)
    refine ev_idxStr (cst fun u0 t0 => ⟨ts [59, 32, 10], u0, rfl, by decide, ?_⟩)
    refine ev_mod 3 (h := ev_fdivG (ev_drawn4 (env := compEnvC _ _ C (lawEnv L)) (s := { s₃ with toks := t0 }) X3 (by rfl) fun k u1 t1 hk => ⟨k, u1, rfl, by lia, ldN (s := { s₃ with toks := t1 }) hn3 hm3 ⟨c, up, rfl, hc0.1, hc0.2, fun u2 t2 => ⟨_, u2, rfl, fun u3 t3 => ?_⟩⟩⟩))
    obtain ⟨d, hd1, hd2⟩ := gap_sign (k / c % 3) (Nat.mod_lt _ (by decide))
    exact ⟨k / c % 3, u3, d, rfl, hd1, fun u4 t4 => ⟨⟨[d], ⟨u4, rfl⟩, d, rfl, hd2⟩, s₃.heap, t4, rfl, fun _ _ e => e⟩⟩
  · intro g3 h3 t4 D3 ys3 n3 s3 k3 W3 hD3 hDn3 hF3
    rw [List.filter_eq_self.mpr (fun _ _ => rfl)] at hF3
    obtain ⟨txts, q1, q2, q3⟩ := txts_of hF3
    obtain ⟨j1, j2⟩ := gap_join q2
    have q3' : txts.length = 4 := q3
    refine ⟨D3, ys3, n3, txts, rfl, W3.keep _ _ hD3, q1, ?_, fun u5 t5 => ?_⟩
    · rw [← joinT_sum]; simp only [List.length_nil]; lia
    exact st' (env := lawEnv L) (s := { s with heap := h3, toks := t5 }) W3 fun h4 W4 => h g3 h4 _ _ u5 s3 (by lia) j2 W4
end
end Mine
end

section
set_option autoImplicit false
set_option maxRecDepth 100000
set_option linter.unusedSimpArgs false
set_option linter.unusedVariables false
namespace Mine
open PySem PySem.W PySem.Calls PyProof.Rows PySem.Sre

theorem good_vl {l : List (List Wd)} (h : GoodL l) : Vl l := fun r hr => ⟨(h r hr).1, fun w hw => ((h r hr).2 w hw).vw⟩
theorem good_al {l : List (List Wd)} (h : GoodL l) : ∀ r ∈ l, ∀ w ∈ r, ALw w := fun r hr w hw => ((h r hr).2 w hw).al
theorem good_sm {l : List (List Wd)} (h : GoodL l) : ∀ r ∈ l, ∀ w ∈ r, SmW w := fun r hr w hw => ((h r hr).2 w hw).small
theorem AL.lt {c : Nat} (h : AL c) : c < 128 := by unfold AL at h; lia
theorem gapC.al {c : Nat} (h : gapC c) : AL c := by unfold gapC at h; unfold AL; lia
theorem gapC.m1 {c : Nat} (h : gapC c) : m1 9 c := by
  unfold gapC at h
  exact .inr ⟨rfl, by lia⟩
theorem ALt.sm {t : Txt} (h : ALt t) : Sm t := fun c hc => by have := (h c hc).lt; lia
theorem mt_lt {l t : Txt} (X : mt l t) : ALt t → ∀ c ∈ l, c < 128 := by
  induction X with
  | nil => exact fun _ c hc => nomatch hc
  | @cons a b _ _ h1 _ ih =>
    intro h c hc
    rcases List.mem_cons.mp hc with rfl | hc
    · rcases h1 with e | ⟨e, _⟩
      · rw [← e]; exact (h b (.head _)).lt
      · rw [e]; decide
    · exact ih (fun d hd => h d (.tail _ hd)) c hc
theorem getD_gap {G : Txt} (hG : G.length = 4) (h : ∀ c ∈ G, gapC c) {l : List (List Wd)} (hw : words l ≤ 4) : ∀ i, i < words l → gapC (G.getD i 0) := fun i hi => by
  have hlt : i < G.length := by lia
  rw [List.getD_eq_getElem?_getD, List.getElem?_eq_getElem hlt]
  exact h _ (List.getElem_mem _)
def semis : Txt := [59, 59, 59, 59]
def tabs : Txt := [9, 9, 9, 9]
theorem semis_gap : ∀ c ∈ semis, gapC c := by unfold gapC; decide
def shG (G : Txt) (l : List (List Wd)) : Txt := shS (fun i => G.getD i 0) l
theorem shG_tabs {l : List (List Wd)} (hw : words l ≤ 4) : shG tabs l = Ll l := shS9 fun i hi => by
  have key : ∀ i, i < 4 → tabs.getD i 0 = 9 := by decide
  exact key i (Nat.lt_of_lt_of_le hi hw)
structure GapT (l : List (List Wd)) (t : Txt) : Prop where
  mt : mt (Ll l) t
  al : ALt t
  len : t.length ≤ 13 * words l
theorem shG_gap {G : Txt} (hG : G.length = 4) (h : ∀ c ∈ G, gapC c) {l : List (List Wd)} (hl : GoodL l) (hw : words l ≤ 4) : GapT l (shG G l) :=
  ⟨mt_shS fun i hi => (getD_gap hG h hw i hi).m1, ALt_shS (fun i hi => (getD_gap hG h hw i hi).al) (good_al hl), shS_len hl⟩

section
variable {prog : Program} {w : World} {A : Around} {E : Value → Shared → Prop} {s : Shared} {P : Params} {mg mb : Str → Option Value} {g : Heap} {L : Addr} {m : Str → Option Value} {mu : List (Addr × Obj)} {Q : Flow → Shared → Prop} {D Dl : Addr} {dv : List Value} {nd lo : Nat} {l : List (List Wd)}
theorem law_loose (W : Wk g L s.heap m mu) (B : Bs P mg mb g) (hml : m "lists" = some (.ref Dl)) (hl : ListsD lo g (.ref Dl) l) (hG : GoodL l) (hw : words l ≤ 4) (r : Rm 12 A)
    (h : ∀ h' tk u, Wk g L h' (fun y => if y = "loose" then some (.str (ts (Ll l)) u) else m y) mu → Q .next { s with heap := h', toks := tk }) (st : Stmt) (hst : st = nth (bodyOf lawS) 4) :
    wpAny (model prog w) A (exec st (lawEnv L)) Q E s := by
  subst hst
  have Bk := B.keeps W.keep
  obtain ⟨ob, fd, hob, hfd⟩ := fn80 (P := P)
  refine wpAny_Assign_Name (ev_callF2 (o := ob) (fd := fd) (fun Q' q => ldG (env := lawEnv L) Bk (mgSho Bk) q) (ld' (env := lawEnv L) W hml (cst fun u1 t1 => ⟨⟨hfd _ _ _ Bk, hob⟩, ?_⟩)))
  refine call_sho (G := tabs) (s := { s with toks := t1 }) Bk r (hl.keep W.keep) hG (by show words l ≤ 4; exact hw) (by decide) fun h' tk u k => ?_
  have e : shS (fun i => tabs.getD i 0) l = Ll l := shG_tabs hw
  rw [e]
  exact st' (env := lawEnv L) (s := { s with heap := h', toks := tk }) (W.keeps k) fun h2 W2 => h h2 _ u W2
theorem law_rival (W : Wk g L s.heap m mu) (B : Bs P mg mb g) (hml : m "lists" = some (.ref Dl)) (hl : ListsD lo g (.ref Dl) l) (hG : GoodL l) (hw : words l ≤ 4) (r : Rm 12 A)
    (h : ∀ h' tk u, Wk g L h' (fun y => if y = "rival" then some (.str (ts (shG semis l)) u) else m y) mu → Q .next { s with heap := h', toks := tk }) (st : Stmt) (hst : st = nth (bodyOf lawS) 5) :
    wpAny (model prog w) A (exec st (lawEnv L)) Q E s := by
  subst hst
  have Bk := B.keeps W.keep
  obtain ⟨ob, fd, hob, hfd⟩ := fn80 (P := P)
  refine wpAny_Assign_Name (ev_callF2 (o := ob) (fd := fd) (fun Q' q => ldG (env := lawEnv L) Bk (mgSho Bk) q) (ld' (env := lawEnv L) W hml (cst fun u1 t1 => ⟨⟨hfd _ _ _ Bk, hob⟩, ?_⟩)))
  refine call_sho (G := semis) (s := { s with toks := t1 }) Bk r (hl.keep W.keep) hG (by show words l ≤ 4; exact hw) (by decide) fun h' tk u k => ?_
  exact st' (env := lawEnv L) (s := { s with heap := h', toks := tk }) (W.keeps k) fun h2 W2 => h h2 _ u W2
theorem law_texts {G t : Txt} {ug ur : Tok} (W : Wk g L s.heap m mu) (B : Bs P mg mb g) (X : Drw g L D dv nd) (hml : m "lists" = some (.ref Dl)) (hl : ListsD lo g (.ref Dl) l) (hG : GoodL l) (hw : words l ≤ 4) (hmg : m "gaps" = some (.str (ts G) ug)) (hGl : G.length = 4) (hmr : m "rival" = some (.str (ts t) ur)) (r : Rm 12 A)
    (h : ∀ g' h' tk T vs k, Sub g g' → g'.get? T = some (listOf (List.toArray vs) 0) → All2 StrT vs [dreT k l, t, shG G l] → Wk g' L h' (fun y => if y = "texts" then some (.ref T) else m y) mu → Q .next { s with heap := h', toks := tk }) (st : Stmt) (hst : st = nth (bodyOf lawS) 6) :
    wpAny (model prog w) A (exec st (lawEnv L)) Q E s := by
  subst hst
  have Bk := B.keeps W.keep
  obtain ⟨ob, fd, hob, hfd⟩ := fn80 (P := P)
  obtain ⟨ob2, fd2, hob2, hfd2⟩ := fn85 (P := P)
  refine wpAny_Assign_Name (ev_list (mapd_cons (ev_callF2 (o := ob2) (fd := fd2) (fun Q' q => ldG (env := lawEnv L) Bk (mgDre Bk) q) (ld' (env := lawEnv L) W hml (ev_mod 6 (h := ev_fdiv 648 (h := ev_drawn4 (env := lawEnv L) (X.keep W.keep) (by rfl) fun k u1 t1 hk => ⟨k, u1, rfl, by lia, fun u2 t2 => ⟨_, u2, rfl, fun u3 t3 => ⟨⟨hfd2 _ _ _ Bk, hob2⟩, ?_⟩⟩⟩)))))))
  refine call_dre (s := { s with toks := t3 }) Bk r (hl.keep W.keep) hG (by lia) fun h4 t4 u4 k4 => ?_
  have W4 := W.keeps k4
  refine mapd_cons (ld' (env := lawEnv L) (s := { s with heap := h4, toks := t4 }) W4 hmr ?_)
  have B4 := B.keeps W4.keep
  refine mapd_cons (ev_callF2 (o := ob) (fd := fd) (fun Q' q => ldG (env := lawEnv L) (s := { s with heap := h4, toks := t4 }) B4 (mgSho B4) q) (ld' (env := lawEnv L) (s := { s with heap := h4, toks := t4 }) W4 hml (ld' (env := lawEnv L) (s := { s with heap := h4, toks := t4 }) W4 hmg ⟨⟨hfd _ _ _ B4, hob⟩, ?_⟩)))
  refine call_sho (s := { s with heap := h4, toks := t4 }) B4 r (hl.keep W4.keep) hG (by lia) (by lia) fun h5 t5 u5 k5 => ?_
  have W5 := W4.keeps k5
  have fin : ∀ (vs : List Value), All2 StrT vs [dreT (k / 648 % 6) l, t, shG G l] → wpAny (model prog w) A (storeName (lawEnv L) "texts" (.ref h5.objs.size)) (fun _ s' => Q .next s') E { s with heap := h5.push (listOf (List.toArray vs) 0), toks := t5 } := by
    intro vs hv
    obtain ⟨g6, s6, e6, W6⟩ := W5.extPush (listOf (List.toArray vs) 0) rfl
    exact st' (env := lawEnv L) (s := { s with heap := h5.push (listOf (List.toArray vs) 0), toks := t5 }) W6 fun h7 W7 => h g6 h7 _ _ vs _ s6 e6 hv W7
  exact mapd_nil ⟨by simp, fin _ (.cons ⟨_, rfl⟩ (.cons ⟨_, rfl⟩ (.cons ⟨_, rfl⟩ .nil)))⟩
end
end Mine
end

section
set_option autoImplicit false
set_option maxRecDepth 100000
set_option linter.unusedSimpArgs false
set_option linter.unusedVariables false
namespace Mine
open PySem PySem.W PySem.Calls PyProof.Rows PySem.Sre

def NoCode (o : Obj) : Prop := ∀ (vs : Array Value) (x : Str) (t : Tok), o.data = .fields vs → vs[1]? = some (.str x t) → False
theorem Wk.extTurnT {g h h' : Heap} {L a : Addr} {m : Str → Option Value} {o o' : Obj} {pre post : List (Addr × Obj)} (W : Wk g L h m (pre ++ (a, o) :: post)) (hk : ∀ b x, b ≠ a → h.get? b = some x → h'.get? b = some x) (ho : h'.get? a = some o') :
    ∃ g', Sub g g' ∧ (∀ b x, h.get? b = none → h'.get? b = some x → g'.get? b = some x) ∧ (∀ b x, b ≠ L → (∀ p ∈ pre ++ (a, o') :: post, p.1 ≠ b) → h'.get? b = some x → g'.get? b = some x) ∧ Wk g' L h' m (pre ++ (a, o') :: post) := by
  have W1 := W.turn (h' := h') hk ho
  obtain ⟨g', s1, s2, W2⟩ := W1.rebase
  obtain ⟨oL, _, _, eL, _⟩ := W.ns
  refine ⟨g', s1, fun b x hb e => s2 b x (fun q => by rw [q, eL] at hb; cases hb) (fun p hp q => ?_) e, s2, W2⟩
  rcases List.mem_append.mp hp with hp | hp
  · have := (W.mus p (List.mem_append_left _ hp)).1; rw [q, hb] at this; cases this
  · rcases List.mem_cons.mp hp with rfl | hp
    · have := (W.mus (a, o) (List.mem_append_right _ (.head _))).1; rw [show a = b from q, hb] at this; cases this
    · have := (W.mus p (List.mem_append_right _ (.tail _ hp))).1; rw [q, hb] at this; cases this
theorem TabOk.rest {g g' h : Heap} {L : Addr} {m : Str → Option Value} {post : List (Addr × Obj)} {ps : Array Value} {q : Str} {lp : Pos} (T : TabOk lp q h ps) (W : Wk g L h m ([] ++ (65, tabObj ps) :: post)) (hp : ∀ p ∈ post, NoCode p.2)
    (k : ∀ b x, b ≠ L → (∀ p ∈ [] ++ (65, tabObj ps) :: post, p.1 ≠ b) → h.get? b = some x → g'.get? b = some x) : TabOk lp q g' ps := by
  refine ⟨T.tr, T.c.imp id fun z => ?_⟩
  obtain ⟨c', e, c, o, vs, t, e1, e2, e3, e4⟩ := z
  refine ⟨c', e, c, o, vs, t, e1, k _ _ (fun x => ?_) (fun p hm x => ?_) e2, e3, e4⟩
  · obtain ⟨oL, es, ep, eL, dL, _⟩ := W.ns
    rw [x, eL] at e2; cases e2; rw [dL] at e3; cases e3
  · have hm' := (W.mus p hm).1
    rw [x, e2] at hm'
    rcases List.mem_cons.mp hm with rfl | hm
    · cases hm'; cases e3; exact triples_no_str T.tr e4
    · cases hm'; exact hp p hm vs _ t e3 e4

section
variable {prog : Program} {w : World} {A : Around} {E : Value → Shared → Prop} {s : Shared} {P : Params} {mg mb : Str → Option Value} {g : Heap} {L : Addr} {m : Str → Option Value} {post : List (Addr × Obj)}
/-- split_header_words(e) within law -/
theorem ev_shw {e : Expr} {pf pos : Pos} {Q : Value → Shared → Prop} (Bs0 : Bs P mg mb s.heap) (B : Bs P mg mb g) (r : Rm 12 A) (hpost : ∀ p ∈ post, NoCode p.2)
    (h : wpAny (model prog w) A (eval e (lawEnv L)) (fun v s₁ => ∃ (ax : Addr) (vs : List Value) (n : Nat) (texts : List Txt) (ps : Array Value) (g1 : Heap), v = .ref ax ∧ Sub g g1 ∧ Wk g1 L s₁.heap m ([] ++ (65, tabObj ps) :: post) ∧ TabOk lamPos lamQ g1 ps ∧ g1.get? ax = some (listOf (List.toArray vs) n) ∧ All2 StrT vs texts ∧
      (∀ t ∈ texts, t.length < 1000) ∧ lens texts ≤ 9000 ∧ ∀ g' h' tk Dr ps' lo, Sub g1 g' → TabOk lamPos lamQ g' ps' → Wk g' L h' m ([] ++ (65, tabObj ps') :: post) → ListsD lo g' (.ref Dr) (texts.flatMap parse) → Q (.ref Dr) { s₁ with heap := h', toks := tk }) E s)
    (hs : backTo pos (starEach [e] (lawEnv L)) = [(false, eval e (lawEnv L))] := by rfl) :
    wpAny (model prog w) A (eval (.Call (.Name "split_header_words" pf) [e] [] pos) (lawEnv L)) Q E s := by
  obtain ⟨ob, fd, hob, hfd⟩ := fn70 (P := P)
  refine ev_callF1 (o := ob) (fd := fd) (fun Q' q => ldG (env := lawEnv L) Bs0 (mgShw Bs0) q) (wpAny_mono h (fun v s₁ h₁ => ?_) fun _ _ x => x) hs
  obtain ⟨ax, vs, n, texts, ps, g1, rfl, k1, W, T, hax, hv, hsm, hZ, hq⟩ := h₁
  have B1 := (B.keeps k1).keeps W.keep
  refine ⟨⟨hfd _ _ _ B1, hob⟩, call_shw B1 (W.mus (65, tabObj ps) (.head _)).1 (T.keeps W.keep) r (W.keep _ _ hax) hv hsm hZ fun h' tk D ps' k65 h65' T' hDn hL => ?_⟩
  obtain ⟨g', s1, s2, s3, W'⟩ := W.extTurnT k65 h65'
  exact hq g' h' tk D ps' _ s1 (T'.rest W' hpost s3) W' (hL.take hDn s2)
end

section
variable {prog : Program} {w : World} {A : Around} {E : Value → Shared → Prop} {s : Shared} {P : Params} {mg mb : Str → Option Value} {g : Heap} {L : Addr} {m : Str → Option Value} {Q : Flow → Shared → Prop} {Dl T : Addr} {lo n : Nat} {l : List (List Wd)} {ps : Array Value} {vs : List Value} {texts : List Txt}
theorem law_test (W : Wk g L s.heap m ([] ++ (65, tabObj ps) :: [])) (B : Bs P mg mb g) (Tb : TabOk lamPos lamQ g ps) (hml : m "lists" = some (.ref Dl)) (hl : ListsD lo g (.ref Dl) l) (hG : GoodL l) (hw : words l ≤ 4) (hmt : m "texts" = some (.ref T)) (hT : g.get? T = some (listOf (List.toArray vs) n)) (hv : All2 StrT vs texts)
    (hsm : ∀ t ∈ texts, t.length < 1000) (hZ : lens texts ≤ 9000) (hp : texts.flatMap parse = l ++ (l ++ l)) (r : Rm 12 A)
    (h : ∀ g' h' tk ps', Sub g g' → TabOk lamPos lamQ g' ps' → Wk g' L h' m ([] ++ (65, tabObj ps') :: []) → Q .next { s with heap := h', toks := tk }) (st : Stmt) (hst : st = nth (bodyOf lawS) 7) :
    wpAny (model prog w) A (exec st (lawEnv L)) Q E s := by
  subst hst
  have Bk := B.keeps W.keep
  refine wpAny_If (wpAny_isTrue_Compare1 (ev_shw (post := []) (m := m) Bk B r (fun p hp => by cases hp) (ld' (env := lawEnv L) W hmt ⟨T, vs, n, texts, ps, g, rfl, Sub.refl _, W, Tb, hT, hv, hsm, hZ, fun g1 h1 t1 Dr ps1 lo1 k1 T1 W1 hL => ?_⟩)))
  rw [hp] at hL
  obtain ⟨la, lv, ln, e, hla, hlv⟩ := hl
  cases e
  have hla1 := W1.keep _ _ (k1 _ _ hla)
  have hlen := hlv.len
  have hwl := words_len l hG
  refine wpAny_BinOp (ld' (env := lawEnv L) (s := { s with heap := h1, toks := t1 }) W1 hml (ev_int fun u2 t2 => mul3 (s := { s with heap := h1, toks := t2 }) hla1 (by lia) ?_))
  have W2 := W1.push (listOf (List.toArray (lv ++ (lv ++ lv))) 0)
  have hlv2 : All2 (RowD lo (h1.push (listOf (List.toArray (lv ++ (lv ++ lv))) 0))) lv l := hlv.imp fun a b x => x.mono (Nat.le_refl _) fun b o _ e => W2.keep _ _ (k1 _ _ e)
  have sm : ∀ r ∈ l ++ (l ++ l), ∀ w ∈ r, SmW w := fun r hr => by
    simp only [List.mem_append, or_self] at hr
    exact good_sm hG r hr
  refine ne_lists (s := { s with heap := h1.push (listOf (List.toArray (lv ++ (lv ++ lv))) 0), toks := t2 }) (hL.keep W2.keep) ⟨_, _, 0, rfl, Heap.get?_push_size _ rfl, hlv2.append (hlv2.append hlv2)⟩ sm sm (r.le (by lia)) (wpAny_truthy_bool ?_)
  rw [decide_eq_true rfl, if_neg (by decide)]
  exact wpAny_execs_nil (h g1 _ t2 ps1 k1 T1 W2)
end
end Mine
end

section
set_option autoImplicit false
set_option maxRecDepth 100000
set_option linter.unusedSimpArgs false
set_option linter.unusedVariables false
namespace Mine
open PySem PySem.W PySem.Calls PyProof.Rows PySem.Sre

section
variable {prog : Program} {w : World} {A : Around} {E : Value → Shared → Prop} {s : Shared} {env : Env}
/-- a for over a list that is made in its head -/
theorem for_listE {x : Str} {px pos : Pos} {iter : Expr} {body : List Stmt} {Q : Flow → Shared → Prop} (hh : A.handled = none)
    (hiter : wpAny (model prog w) A (eval iter env) (fun v s₁ => ∃ (ax : Addr) (items : List Value) (K : Nat → Addr × Obj → Heap → Prop), v = .ref ax ∧ s₁.heap.IsList ax items.toArray ∧
      (∀ oI, ItOb ax 0 oI → oI.isFreed = false → K 0 (s₁.heap.objs.size, oI) (s₁.heap.push oI)) ∧
      (∀ i e h, K i e h → h.get? e.1 = some e.2 ∧ h.IsList ax items.toArray) ∧
      (∀ i j I oI oI' h h', K i (I, oI) h → ItOb ax j oI' → Heap.SameBut I h h' → h'.get? I = some oI' → K i (I, oI') h') ∧
      (∀ i v e h tk E', items[i]? = some v → K i e h → wpAny (model prog w) A (storeName env x v) (fun _ s₂ => wpAny (model prog w) A (execs body env) (fun f s₃ => f = .next ∧ ∃ h' tk', s₃ = { s₁ with heap := h', toks := tk' } ∧ K (i + 1) e h') E' s₂) E' { s₁ with heap := h, toks := tk }) ∧
      (∀ I oI h h' tk, K items.length (I, oI) h → Heap.ExtBut I h h' → Q .next { s₁ with heap := h', toks := tk })) E s)
    (hs : ∀ x, foldedSetIterable iter env x = pure x := by intro _; rfl) :
    wpAny (model prog w) A (exec (.For (.Name x px) iter body [] pos) env) Q E s := by
  refine PySem.wpAny_For (wpAny_mono hiter (fun v s₁ h₁ => ?_) fun _ _ e => e) hs
  obtain ⟨ax, items, K, rfl, hl, h0, hK, hturn, step, done⟩ := h₁
  refine wpAny_pyIter_list hl ?_
  generalize hoI : ({ cls := .type "list_iterator", data := .fields #[.ref ax, .int 0 0] } : Obj) = oI
  have it0 : ItOb ax 0 oI := ⟨by rw [← hoI], by rw [← hoI]; rfl⟩
  have K0 := h0 oI it0 (by rw [← hoI]; rfl)
  refine codeAny_forLoop (fun n s' => ∃ i oI' h' tk', s' = { s₁ with heap := h', toks := tk' } ∧ K i (s₁.heap.objs.size, oI') h' ∧ ItOb ax i oI' ∧ i ≤ items.length ∧ n = items.length + 1 - i) ?_ (items.length + 1) ⟨0, oI, _, _, rfl, K0, it0, Nat.zero_le _, rfl⟩
  rintro n s' ⟨i, oI', h', tk', rfl, Ki, iti, hi, rfl⟩
  obtain ⟨gI, gl⟩ := hK _ _ _ Ki
  have hit : h'.IsListIter s₁.heap.objs.size ax i := ⟨oI', gI, iti.cls, iti.data⟩
  cases hv : items[i]? with
  | none =>
    have hsz : i = items.length := Nat.le_antisymm hi (by simpa using hv)
    refine wpAny_pyNext_list_end (s := { s₁ with heap := h', toks := tk' }) hh hit gl (by simpa using hv) fun h₁ he₁ => wpAny_execs_nil ?_
    exact done s₁.heap.objs.size oI' h' h₁ tk' (hsz ▸ Ki) he₁
  | some v =>
    have hlt : i < items.length := (List.getElem?_eq_some_iff.mp hv).1
    refine wpAny_pyNext_list_item (s := { s₁ with heap := h', toks := tk' }) hit gl (by simpa using hv) fun h₁ hit₁ hs₁ => ?_
    obtain ⟨o1, ho1, hc1, hd1⟩ := hit₁
    have K1 := hturn i _ _ oI' o1 h' h₁ Ki ⟨hc1, hd1⟩ hs₁ ho1
    refine PySem.wpAny_assign_Name (wpAny_mono (step i v _ h₁ tk' _ hv K1) (fun _ s₂ h₂ => wpAny_mono h₂ (fun f s₃ h₃ => ?_) fun _ _ e => e) fun _ _ e => e)
    obtain ⟨rfl, h3, tk3, rfl, K3⟩ := h₃
    exact ⟨items.length + 1 - (i + 1), by lia, i + 1, o1, h3, tk3, rfl, K3, ⟨hc1, hd1⟩, hlt, rfl⟩
theorem ItOb.noCode {ax : Addr} {i : Nat} {o : Obj} (h : ItOb ax i o) : NoCode o := by
  intro vs x t e e1
  rw [h.data] at e
  cases e
  cases e1

def OneV {α : Type} (_ : α) (y : Value) : Prop := ∃ u, y = .int 1 u
/-- a list of ones == [] -/
theorem eq_ones {α : Type} {a b : Addr} {cs : List α} {ys : List Value} {n k : Nat} {Q : Value → Shared → Prop} (ha : s.heap.get? a = some (listOf (List.toArray ys) n)) (hy : All2 OneV cs ys) (hb : s.heap.get? b = some (listOf #[] k)) (r : Rm 1 A)
    (h : Q (.bool cs.isEmpty) s) : wpAny (model prog w) A (compareOp .Eq (.ref a) (.ref b)) Q E s := by
  obtain ⟨as, ra⟩ : ∃ as, ReadsAll s.heap ys (cs.map fun _ => PyData.int 1) as := by
    clear ha h
    induction hy with
    | nil => exact ⟨_, .nil⟩
    | cons x y ih =>
      obtain ⟨u, rfl⟩ := x
      obtain ⟨as, r⟩ := ih
      exact ⟨_, .cons (.int _ _) r⟩
  have sh : SeqAt.shaped (PyData.list (cs.map fun _ => PyData.int 1)) = true := by
    unfold SeqAt.shaped
    rw [Bool.and_eq_true, decide_eq_true_eq]
    constructor
    · rw [PyData.canLay0]
      exact canLay_all cs fun c hm => by rw [PyData.canLay0]
    · rw [PyData.depth]
      have := depth_all (f := fun (_ : α) => PyData.int 1) (k := 0) (fun c => by simp [PyData.depth]) cs
      lia
  refine SeqAt.compareEq_shaped (.list ha rfl rfl (by simpa using ra)) (.list (xs := []) hb rfl rfl .nil) sh (by decide) (by have := r.un; rw [cLine_is]; lia) ?_
  have e : PyData.eqv (PyData.list (cs.map fun _ => PyData.int 1)) (PyData.list []) = cs.isEmpty := by
    cases cs <;> simp [PyData.eqv, PyData.eqvAll]
  rw [e]; exact h
theorem ne_sign {a b : Nat} {t u : Tok} {Q : Value → Shared → Prop} (h : Q (.bool (a != b)) s) : wpAny (model prog w) A (compareOp .NotEq (.str (ts [a]) t) (.str (ts [b]) u)) Q E s := by
  refine PySem.P.ne_str ?_
  have e : ((ts [a]).cps.toList != (ts [b]).cps.toList) = (a != b) := by
    show ([a] != [b]) = (a != b)
    rw [Bool.eq_iff_iff]
    simp
  rw [e]; exact h
theorem notin_sign {c : Nat} {y : Str} {t u : Tok} {Q : Value → Shared → Prop} (h : Q (.bool (!(tl y).contains c)) s) : wpAny (model prog w) A (compareOp .NotIn (.str (ts [c]) u) (.str y t)) Q E s := by
  refine PySem.P.notIn_str ?_
  rw [in_sign_iff]
  exact h
end

theorem okPair_is (a b : Nat) : (!okPair a b) = ((a != b) && ((b != 9) || !(tl (ts [59, 32, 10])).contains a)) := by
  rw [tl_ts, Bool.eq_iff_iff]
  simp only [okPair, List.contains_cons, List.contains_nil, Bool.or_false, Bool.not_eq_true', Bool.and_eq_true, Bool.or_eq_true, bne_iff_ne, ne_eq, Bool.or_eq_false_iff, Bool.and_eq_false_iff, beq_eq_false_iff_ne, beq_iff_eq]
  constructor
  · rintro ⟨h1, h2⟩
    refine ⟨h1, ?_⟩
    rcases h2 with h | h
    · exact .inl h
    · exact .inr ⟨h.1.1, h.1.2, h.2⟩
  · rintro ⟨h1, h2⟩
    refine ⟨h1, ?_⟩
    rcases h2 with h | h
    · exact .inl h
    · exact .inr ⟨⟨h.1, h.2.1⟩, h.2.2⟩
/-- the law's last test -/
theorem law_eq {l : List (List Wd)} {t : Txt} (hG : GoodL l) (hal : ALt t) (hlen : t.length ≤ (Ll l).length) :
    decide (parse t = l) = (((t.length : Int) == ((Ll l).length : Int)) && ((t.zip (Ll l)).filter fun x => !okPair x.1 x.2).isEmpty) := by
  rw [Bool.eq_iff_iff, decide_eq_true_eq, parse_iff (good_vl hG) hal.ok hlen, mt_zip, Bool.and_eq_true, beq_iff_eq]
  refine and_congr ⟨fun h => by rw [h], fun h => by lia⟩ ?_
  rw [List.isEmpty_iff, List.filter_eq_nil_iff, List.all_eq_true]
  refine forall_congr' fun x => forall_congr' fun _ => ?_
  cases okPair x.1 x.2 <;> simp
end Mine
end

section
set_option autoImplicit false
set_option maxRecDepth 100000
set_option linter.unusedSimpArgs false
set_option linter.unusedVariables false
namespace Mine
open PySem PySem.W PySem.Calls PyProof.Rows PySem.Sre

def lawFor : Stmt := nth (bodyOf lawS) 8
theorem lawFor_is : bodyOf lawFor = [nth (bodyOf lawFor) 0, nth (bodyOf lawFor) 1, nth (bodyOf lawFor) 2] := rfl
theorem asc_of {t : Txt} (h : ∀ c ∈ t, c < 128) : (ts t).cps.all (· < 128) = true := by
  rw [Array.all_eq_true_iff_forall_mem]
  intro c hc
  have : c ∈ t := by simpa [ts] using hc
  simpa using h c this

section
variable {prog : Program} {w : World} {A : Around} {E : Value → Shared → Prop} {s : Shared} {P : Params} {mg mb : Str → Option Value} {g : Heap} {L : Addr} {m : Str → Option Value} {mu : List (Addr × Obj)} {Q : Flow → Shared → Prop} {t ll : Txt} {ut ul : Tok}
theorem law_change {k : Nat} {uk : Tok} (W : Wk g L s.heap m mu) (B : Bs P mg mb g) (hmr : m "rival" = some (.str (ts t) ut)) (hmn : m "n" = some (.int (k : Int) uk)) (ht : t.length < 900) (hal : ALt t) (hk : k < 2 ^ 30) (r : Rm 12 A)
    (h : ∀ h' tk u t', t'.length ≤ t.length → ALt t' → Wk g L h' (fun y => if y = "rival" then some (.str (ts t') u) else m y) mu → Q .next { s with heap := h', toks := tk }) (st : Stmt) (hst : st = nth (bodyOf lawFor) 0) :
    wpAny (model prog w) A (exec st (lawEnv L)) Q E s := by
  subst hst
  have Bk := B.keeps W.keep
  obtain ⟨ob, fd, hob, hfd⟩ := fn90 (P := P)
  refine wpAny_Assign_Name (ev_callF2 (o := ob) (fd := fd) (fun Q' q => ldG (env := lawEnv L) Bk (mgCha Bk) q) (ld' (env := lawEnv L) W hmr (ld' (env := lawEnv L) W hmn ⟨⟨hfd _ _ _ Bk, hob⟩, ?_⟩)))
  refine call_cha Bk r ht hal hk fun h' tk u t' k' hl ha => ?_
  exact st' (env := lawEnv L) (s := { s with heap := h', toks := tk }) (W.keeps k') fun h2 W2 => h h2 _ u t' hl ha W2
theorem law_apart (W : Wk g L s.heap m mu) (B : Bs P mg mb g) (hmr : m "rival" = some (.str (ts t) ut)) (hml : m "loose" = some (.str (ts ll) ul)) (ht : t.length < 900) (hal : ALt t) (hll : ∀ c ∈ ll, c < 128) (r : Rm 4 A)
    (h : ∀ g' h' tk D ys nn, Sub g g' → Wk g' L h' (fun y => if y = "apart" then some (.ref D) else m y) mu → g'.get? D = some (listOf (List.toArray ys) nn) → All2 OneV ((t.zip ll).filter fun x => !okPair x.1 x.2) ys → Q .next { s with heap := h', toks := tk }) (st : Stmt) (hst : st = nth (bodyOf lawFor) 1) :
    wpAny (model prog w) A (exec st (lawEnv L)) Q E s := by
  subst hst
  have Bk := B.keeps W.keep
  refine zs_assign (env := lawEnv L) (x1 := ts t) (x2 := ts ll) (t1 := ut) (t2 := ul) OneV (fun x => !okPair x.1 x.2) W r.hd ?_ ?_ ?_ ?_ ?_ (by decide)
  · rw [tl_ts, tl_ts, List.length_zip]; lia
  · refine ev_callT2 (T := "zip") (fun Q' q => ldB (env := lawEnv L) Bk (Bk.fr _ (by decide)) (by rfl) q) (ld' (env := lawEnv L) W hmr (ld' (env := lawEnv L) W hml ?_))
    exact call_zs (asc_of fun c hc => (hal c hc).lt) (asc_of hll) fun h' Z hsz k => ⟨rfl, h', s.toks, rfl, Z, hsz, k⟩
  · intro C c1 c2 v1 v2 s₃ m₃ E' hv1 hv2 hn ha hb
    obtain ⟨u1, rfl⟩ := hv1
    obtain ⟨u2, rfl⟩ := hv2
    have e0 := okPair_is c1 c2
    refine isTrue_and (wpAny_isTrue_Compare1 (ldN (env := compEnvC _ _ C (lawEnv L)) hn ha (ldN (env := compEnvC _ _ C (lawEnv L)) hn hb (ne_sign (wpAny_truthy_bool ?_)))))
    cases h1 : (c1 != c2) with
    | false =>
      rw [if_neg (by decide)]
      rw [h1, Bool.false_and] at e0
      exact ⟨e0.symm, s₃.heap, s₃.toks, rfl, fun _ _ e => e⟩
    | true =>
      rw [h1, Bool.true_and] at e0
      rw [if_pos rfl]
      refine isTrue_and (isTrue_or (wpAny_isTrue_Compare1 (ldN (env := compEnvC _ _ C (lawEnv L)) hn hb (cst fun u3 t3 => ne_sign (b := 9) (wpAny_truthy_bool ?_)))))
      cases h2 : (c2 != 9) with
      | true =>
        rw [h2, Bool.true_or] at e0
        rw [if_pos rfl, if_pos rfl]
        exact isTrue_and_nil ⟨e0.symm, s₃.heap, t3, rfl, fun _ _ e => e⟩
      | false =>
        rw [h2, Bool.false_or] at e0
        rw [if_neg (by decide)]
        refine isTrue_or (wpAny_isTrue_Compare1 (ldN (env := compEnvC _ _ C (lawEnv L)) (s := { s₃ with toks := t3 }) hn ha (cst fun u4 t4 => notin_sign (y := ts [59, 32, 10]) (wpAny_truthy_bool ?_))))
        cases h3 : (!(tl (ts [59, 32, 10])).contains c1) with
        | true =>
          rw [h3] at e0
          rw [if_pos rfl, if_pos rfl]
          exact isTrue_and_nil ⟨e0.symm, s₃.heap, t4, rfl, fun _ _ e => e⟩
        | false =>
          rw [h3] at e0
          rw [if_neg (by decide)]
          refine isTrue_or_nil ?_
          rw [if_neg (by decide)]
          exact ⟨e0.symm, s₃.heap, t4, rfl, fun _ _ e => e⟩
  · intro C c1 c2 s₃ E'
    exact ev_int fun u tk => ⟨⟨u, rfl⟩, s₃.heap, tk, rfl, fun _ _ e => e⟩
  · intro g' h' tk D ys nn s1 W1 hD hF
    rw [tl_ts, tl_ts] at hF
    exact h g' h' tk D ys nn s1 W1 hD hF
end
end Mine
end

section
set_option autoImplicit false
set_option maxRecDepth 100000
set_option linter.unusedSimpArgs false
set_option linter.unusedVariables false
namespace Mine
open PySem PySem.W PySem.Calls PyProof.Rows PySem.Sre

section
variable {prog : Program} {w : World} {A : Around} {E : Value → Shared → Prop} {s : Shared} {P : Params} {mg mb : Str → Option Value} {g : Heap} {L : Addr} {m : Str → Option Value} {post : List (Addr × Obj)} {Q : Flow → Shared → Prop} {t : Txt} {ut ul : Tok} {Dl Da : Addr} {l : List (List Wd)} {lo nn : Nat} {ps : Array Value} {ys : List Value}
theorem law_if (W : Wk g L s.heap m ([] ++ (65, tabObj ps) :: post)) (B : Bs P mg mb g) (Tb : TabOk lamPos lamQ g ps) (hpost : ∀ p ∈ post, NoCode p.2) (hmr : m "rival" = some (.str (ts t) ut)) (hml : m "loose" = some (.str (ts (Ll l)) ul)) (hmd : m "lists" = some (.ref Dl)) (hma : m "apart" = some (.ref Da))
    (hl : ListsD lo g (.ref Dl) l) (hG : GoodL l) (ha : g.get? Da = some (listOf (List.toArray ys) nn)) (hys : All2 OneV ((t.zip (Ll l)).filter fun x => !okPair x.1 x.2) ys) (hal : ALt t) (hlen : t.length ≤ (Ll l).length) (hll : (Ll l).length < 900) (r : Rm 12 A)
    (h : ∀ g' h' tk ps', Sub g g' → TabOk lamPos lamQ g' ps' → Wk g' L h' m ([] ++ (65, tabObj ps') :: post) → Q .next { s with heap := h', toks := tk }) (st : Stmt) (hst : st = nth (bodyOf lawFor) 2) :
    wpAny (model prog w) A (exec st (lawEnv L)) Q E s := by
  subst hst
  have Bk := B.keeps W.keep
  obtain ⟨g2, s2, e2, W2⟩ := W.extPush (listOf (List.toArray [Value.str (ts t) ut]) 0) rfl
  refine wpAny_If (wpAny_isTrue_Compare1 (wpAny_Compare1 (ev_shw (post := post) (m := m) Bk B r hpost (ev_list (mapd_cons (ld' (env := lawEnv L) W hmr (mapd_nil ⟨by simp, ?_⟩)))))))
  refine ⟨_, [Value.str (ts t) ut], 0, [t], ps, g2, rfl, s2, W2, Tb.keeps s2, e2, .cons ⟨_, rfl⟩ .nil, ?_, ?_, fun g3 h3 t3 Dr ps3 lo3 s3 T3 W3 hL => ?_⟩
  · intro x hx
    rw [List.mem_singleton.mp hx]; lia
  · simp [lens]; lia
  have ef : [t].flatMap parse = parse t := by simp
  rw [ef] at hL
  have k3 := s2.trans s3
  have B3 := (B.keeps k3).keeps W3.keep
  refine ld' (env := lawEnv L) (s := { s with heap := h3, toks := t3 }) W3 hmd (eq_lists (s := { s with heap := h3, toks := t3 }) (hL.keep W3.keep) (hl.keep (k3.trans W3.keep)) (parse_small hal.sm) (good_sm hG) (r.le (by lia)) ?_)
  rw [law_eq hG hal hlen]
  have fin : ∀ (h4 : Heap) (t4 : Nat) (b : Bool), Wk g3 L h4 m ([] ++ (65, tabObj ps3) :: post) → b = (((t.length : Int) == ((Ll l).length : Int)) && ((t.zip (Ll l)).filter fun x => !okPair x.1 x.2).isEmpty) →
      wpAny (model prog w) A (compareOp .NotEq (.bool (((t.length : Int) == ((Ll l).length : Int)) && ((t.zip (Ll l)).filter fun x => !okPair x.1 x.2).isEmpty)) (.bool b)) (fun c s₃ => wpAny (model prog w) A (truthy c) (fun c s₃ => if c = true then wpAny (model prog w) A (execs [nth (bodyOf (nth (bodyOf lawFor) 2)) 0] (lawEnv L)) Q E s₃ else wpAny (model prog w) A (execs [] (lawEnv L)) Q E s₃) E s₃) E { s with heap := h4, toks := t4 } := by
    intro h4 t4 b W4 hb
    refine PyProof.Rows.ne_bool (wpAny_truthy_bool ?_)
    rw [hb, bne_self_eq_false, if_neg (by decide)]
    exact wpAny_execs_nil (h g3 h4 t4 ps3 k3 T3 W4)
  refine BoolOp_and (wpAny_Compare1 (ev_len (env := lawEnv L) (s := { s with heap := h3, toks := t3 }) B3 (ld' (env := lawEnv L) (s := { s with heap := h3, toks := t3 }) W3 hmr ⟨t, ut, rfl, by lia, fun u4 t4 => ?_⟩)))
  refine ev_len (env := lawEnv L) (s := { s with heap := h3, toks := t4 }) B3 (ld' (env := lawEnv L) (s := { s with heap := h3, toks := t4 }) W3 hml ⟨Ll l, ul, rfl, by lia, fun u5 t5 => ?_⟩)
  refine PyProof.Rows.eq_int (wpAny_truthy_bool ?_)
  cases hc : ((t.length : Int) == ((Ll l).length : Int)) with
  | false =>
    rw [if_neg (by decide)]
    have := fin h3 t5 false W3 (by rw [hc, Bool.false_and])
    rw [hc] at this
    exact this
  | true =>
    rw [if_pos rfl]
    refine BoolOp_one (wpAny_Compare1 (ld' (env := lawEnv L) (s := { s with heap := h3, toks := t5 }) W3 hma (ev_listNil (eq_ones (s := { s with heap := h3.push (listOf #[] 0), toks := t5 }) (Heap.get?_push_of_some _ (W3.keep _ _ (k3 _ _ ha))) hys (Heap.get?_push_size _ rfl) (r.le (by lia)) ?_))))
    have := fin (h3.push (listOf #[] 0)) t5 _ (W3.push _) (by rw [hc, Bool.true_and])
    rw [hc] at this
    exact this
end
end Mine
end

section
set_option autoImplicit false
set_option maxRecDepth 100000
set_option linter.unusedSimpArgs false
set_option linter.unusedVariables false
namespace Mine
open PySem PySem.W PySem.Calls PyProof.Rows PySem.Sre

structure LawK (g0 : Heap) (L Dl : Addr) (ul : Tok) (l : List (List Wd)) (e : Addr × Obj) (h : Heap) : Prop where
  ex : ∃ g m ps t u, Wk g L h m ([] ++ (65, tabObj ps) :: [e]) ∧ Sub g0 g ∧ TabOk lamPos lamQ g ps ∧ NoCode e.2 ∧ m "rival" = some (.str (ts t) u) ∧ ALt t ∧ t.length ≤ (Ll l).length ∧ m "lists" = some (.ref Dl) ∧ m "loose" = some (.str (ts (Ll l)) ul)

section
variable {prog : Program} {w : World} {A : Around} {E : Value → Shared → Prop} {s : Shared} {P : Params} {mg mb : Str → Option Value} {g g0 : Heap} {L Dl D : Addr} {m : Str → Option Value} {ul : Tok} {l : List (List Wd)} {lo nd : Nat} {ps : Array Value} {dv : List Value}
theorem law_turn {e : Addr × Obj} {v : Value} (K : LawK g0 L Dl ul l e s.heap) (B : Bs P mg mb g0) (hl : ListsD lo g0 (.ref Dl) l) (hG : GoodL l) (hll : (Ll l).length < 900) (hlt : ∀ c ∈ Ll l, c < 128) (hv : DrawnV v) (r : Rm 12 A) :
    wpAny (model prog w) A (storeName (lawEnv L) "n" v) (fun _ s₂ => wpAny (model prog w) A (execs (bodyOf lawFor) (lawEnv L)) (fun f s₃ => f = .next ∧ ∃ h' tk', s₃ = { s with heap := h', toks := tk' } ∧ LawK g0 L Dl ul l e h') E s₂) E s := by
  obtain ⟨g, m, ps, t, u, W, k0, Tb, hnc, hmr, hal, hlen, hmd, hml⟩ := K
  obtain ⟨k, ⟨uk, rfl⟩, hk⟩ := hv
  rw [lawFor_is]
  generalize hst0 : nth (bodyOf lawFor) 0 = st0
  generalize hst1 : nth (bodyOf lawFor) 1 = st1
  generalize hst2 : nth (bodyOf lawFor) 2 = st2
  refine st' (env := lawEnv L) W fun h1 W1 => ?_
  have B1 := B.keeps k0
  refine wpAny_execs_cons (law_change (s := { s with heap := h1, toks := s.toks + 1 }) W1 B1 hmr rfl (by lia) hal (by lia) r (fun h2 t2 u2 t' hl' hal' W2 => ?_) _ hst0.symm)
  refine wpAny_execs_cons (law_apart (s := { s with heap := h2, toks := t2 }) W2 B1 rfl hml (by lia) hal' hlt (r.le (by lia)) (fun g3 h3 t3 Da ys nn s3 W3 hDa hys => ?_) _ hst1.symm)
  have k3 := k0.trans s3
  refine wpAny_execs_cons (law_if (s := { s with heap := h3, toks := t3 }) W3 (B.keeps k3) (Tb.keeps s3) (fun p hp => by rw [List.mem_singleton.mp hp]; exact hnc) rfl hml hmd rfl (hl.keep k3) hG hDa hys hal' (by lia) hll r (fun g4 h4 t4 ps4 s4 T4 W4 => ?_) _ hst2.symm)
  exact wpAny_execs_nil ⟨rfl, h4, t4, rfl, g4, _, ps4, t', u2, W4, k3.trans s4, T4, hnc, rfl, hal', by lia, hmd, hml⟩
theorem law_for {t : Txt} {u : Tok} {Q : Flow → Shared → Prop} (W : Wk g L s.heap m ([] ++ (65, tabObj ps) :: [])) (B : Bs P mg mb g) (Tb : TabOk lamPos lamQ g ps) (X : Drw g L D dv nd) (hmr : m "rival" = some (.str (ts t) u)) (hal : ALt t) (hlen : t.length ≤ (Ll l).length) (hmd : m "lists" = some (.ref Dl)) (hml : m "loose" = some (.str (ts (Ll l)) ul))
    (hl : ListsD lo g (.ref Dl) l) (hG : GoodL l) (hll : (Ll l).length < 900) (hlt : ∀ c ∈ Ll l, c < 128) (r : Rm 12 A)
    (h : ∀ g' h' tk m' ps', Sub g g' → Wk g' L h' m' ([] ++ (65, tabObj ps') :: []) → Q .next { s with heap := h', toks := tk }) (st : Stmt) (hst : st = nth (bodyOf lawS) 8) :
    wpAny (model prog w) A (exec st (lawEnv L)) Q E s := by
  subst hst
  obtain ⟨od, c1, c2⟩ := (X.keep W.keep).c
  have hl8 := X.l
  refine for_listE (env := lawEnv L) r.hd (subList (ldCell (env := lawEnv L) ⟨od, c1, c2⟩ (by rfl) (evp_int (wpAny_pure (wpAny_pure ?_)))))
  refine ⟨D, dv, nd, some 5, none, none, rfl, W.keep _ _ X.d, by lia, .int _ _, .none, .none, by decide, fun h5 T k5 hTn gT => ?_⟩
  have e5 : slicePick (List.toArray dv) (some 5) none none = List.toArray (dv.drop 5) := slicePick_from' (List.toArray dv) 5
  rw [e5] at gT
  obtain ⟨g5, s5, q5, W5⟩ := W.ext k5
  have gT5 := q5 _ _ hTn gT
  have hl5 := hl.keep s5
  have B5 := B.keeps s5
  refine ⟨T, dv.drop 5, fun i e h => LawK g5 L Dl ul l e h, rfl, ⟨_, gT, rfl, 0, rfl⟩, fun oI it hf => ?_, ?_, ?_, ?_, ?_⟩
  · have W6 := (W5.pushMu oI hf).perm (mu' := [] ++ (65, tabObj ps) :: [(h5.objs.size, oI)]) (List.Perm.swap _ _ _)
    exact ⟨g5, m, ps, t, u, W6, Sub.refl _, Tb.keeps s5, it.noCode, hmr, hal, hlen, hmd, hml⟩
  · rintro i e h ⟨g6, m6, ps6, t6, u6, W6, k6, _⟩
    exact ⟨(W6.mus e (.tail _ (.head _))).1, ⟨_, W6.keep _ _ (k6 _ _ gT5), rfl, 0, rfl⟩⟩
  · rintro i j I oI oI' h h' ⟨g6, m6, ps6, t6, u6, W6, k6, T6, n6, q⟩ it hs' ho'
    exact ⟨g6, m6, ps6, t6, u6, Wk.turn (pre := [(65, tabObj ps6)]) (post := []) W6 hs'.extBut ho', k6, T6, it.noCode, q⟩
  · intro i v e h tk E' hv K
    exact law_turn (s := { s with heap := h, toks := tk }) K B5 hl5 hG hll hlt (X.v v (List.mem_of_mem_drop (List.mem_of_getElem? hv))) r
  · rintro I oI h6 h' tk ⟨g6, m6, ps6, t6, u6, W6, k6, _⟩ hx
    have W7 := Wk.drop (pre := [(65, tabObj ps6)]) (post := []) W6 hx
    exact h g6 h' tk m6 ps6 (s5.trans k6) W7
end
end Mine
end

section
set_option autoImplicit false
set_option maxRecDepth 100000
set_option linter.unusedSimpArgs false
set_option linter.unusedVariables false
namespace Mine
open PySem PySem.W PySem.Calls PyProof.Rows PySem.Sre

section
variable {prog : Program} {w : World} {A : Around} {E : Value → Shared → Prop} {s : Shared} {P : Params} {mg mb : Str → Option Value} {g : Heap} {L S : Addr} {m : Str → Option Value} {ps : Array Value} {sv : List Value} {n : Nat} {Q : Value → Shared → Prop}
theorem law_body {os ob od : Obj} (W : Wk g L s.heap m ((L + 1 + 1, ob) :: (L + 1 + 1 + 1, od) :: [(65, tabObj ps)])) (B : Bs P mg mb g) (Tb : TabOk lamPos lamQ g ps) (hob : ob.data = .cell none) (hod : od.data = .cell none)
    (hs : g.get? (L + 1) = some os) (hsd : os.data = .cell (some (.ref S))) (hS : g.get? S = some (listOf (List.toArray sv) n)) (hsv : ∀ v ∈ sv, AnyInt v) (hsl : sv.length ≤ 1000) (r : Rm 14 A)
    (hQ : ∀ g' h' tk m' ps', Sub g g' → Wk g' L h' m' ([] ++ (65, tabObj ps') :: []) → Q (.bool true) { s with heap := h', toks := tk }) (body : List Stmt) (hb : body = bodyOf lawS) :
    wpAny (model prog w) A (execs body (lawEnv L)) (fun f s' => ∃ v, f = .ret v ∧ Q v s') E s := by
  rw [hb, lawBody_is]
  generalize hst0 : nth (bodyOf lawS) 0 = st0
  generalize hst1 : nth (bodyOf lawS) 1 = st1
  generalize hst2 : nth (bodyOf lawS) 2 = st2
  generalize hst3 : nth (bodyOf lawS) 3 = st3
  generalize hst4 : nth (bodyOf lawS) 4 = st4
  generalize hst5 : nth (bodyOf lawS) 5 = st5
  generalize hst6 : nth (bodyOf lawS) 6 = st6
  generalize hst7 : nth (bodyOf lawS) 7 = st7
  generalize hst8 : nth (bodyOf lawS) 8 = st8
  generalize hst9 : nth (bodyOf lawS) 9 = st9
  have r4 : Rm 4 A := r.le (by lia)
  have r12 : Rm 12 A := r.le (by lia)
  refine wpAny_execs_cons (law_base W hob (fun g1 h1 t1 T bv ob' s1 W1 hbl hbv hT e1 d1 => ?_) _ hst0.symm)
  refine wpAny_execs_cons (law_drawn (s := { s with heap := h1, toks := t1 }) W1 (B.keeps s1) hod (s1 _ _ hs) hsd (s1 _ _ hS) hsv hsl e1 d1 hT hbl hbv r4 (fun g2 h2 t2 D dv nd od' s2 W2 hdl hdv hD e2 d2 => ?_) _ hst1.symm)
  have k2 := s1.trans s2
  have X2 : Drw g2 L D dv nd := ⟨⟨od', e2, d2⟩, hD, hdl, hdv⟩
  refine wpAny_execs_cons (law_lists (s := { s with heap := h2, toks := t2 }) W2 (B.keeps k2) X2 r (fun g3 h3 t3 Dl l lo s3 hl hG hw W3 => ?_) _ hst2.symm)
  have k3 := k2.trans s3
  refine wpAny_execs_cons (law_gaps (s := { s with heap := h3, toks := t3 }) W3 (B.keeps k3) (X2.keep s3) r4 (fun g4 h4 t4 G ug s4 hGl hGc W4 => ?_) _ hst3.symm)
  have k4 := k3.trans s4
  have B4 := B.keeps k4
  have hl4 := hl.keep s4
  refine wpAny_execs_cons (law_loose (s := { s with heap := h4, toks := t4 }) W4 B4 rfl hl4 hG hw r12 (fun h5 t5 u5 W5 => ?_) _ hst4.symm)
  refine wpAny_execs_cons (law_rival (s := { s with heap := h5, toks := t5 }) W5 B4 rfl hl4 hG hw r12 (fun h6 t6 u6 W6 => ?_) _ hst5.symm)
  have X4 := X2.keep (s3.trans s4)
  refine wpAny_execs_cons (law_texts (s := { s with heap := h6, toks := t6 }) W6 B4 X4 rfl hl4 hG hw rfl hGl rfl r12 (fun g7 h7 t7 T7 vs7 k s7 hT7 hv7 W7 => ?_) _ hst6.symm)
  have k7 := k4.trans s7
  have g1 := shG_gap (G := semis) rfl semis_gap hG hw
  have g2' := shG_gap hGl hGc hG hw
  have hlen := g1.mt.len
  have hl1 := g1.len
  have hl2 := g2'.len
  have hl3 := dreT_len k hG
  have hsm : ∀ t ∈ [dreT k l, shG semis l, shG G l], t.length < 1000 := by
    intro t ht
    simp only [List.mem_cons, List.not_mem_nil, or_false] at ht
    rcases ht with rfl | rfl | rfl <;> lia
  have hZ : lens [dreT k l, shG semis l, shG G l] ≤ 9000 := by
    simp only [lens, List.map_cons, List.map_nil, List.sum_cons, List.sum_nil]; lia
  have hp : [dreT k l, shG semis l, shG G l].flatMap parse = l ++ (l ++ l) := by
    simp [parse_dreT k hG, parse_fwd (good_vl hG) g1.mt, parse_fwd (good_vl hG) g2'.mt]
  refine wpAny_execs_cons (law_test (s := { s with heap := h7, toks := t7 }) W7 (B.keeps k7) (Tb.keeps k7) rfl (hl4.keep s7) hG hw rfl hT7 hv7 hsm hZ hp r12 (fun g8 h8 t8 ps8 s8 T8 W8 => ?_) _ hst7.symm)
  have k8 := k7.trans s8
  refine wpAny_execs_cons (law_for (s := { s with heap := h8, toks := t8 }) W8 (B.keeps k8) T8 (X4.keep (s7.trans s8)) rfl g1.al (by lia) rfl rfl (hl4.keep (s7.trans s8)) hG (by lia) (mt_lt g1.mt g1.al) r12 (fun g9 h9 t9 m9 ps9 s9 W9 => ?_) _ hst8.symm)
  refine wpAny_execs_cons ?_
  rw [← hst9]
  exact wpAny_Return_some (Constant_bool ⟨_, rfl, hQ g9 h9 _ m9 ps9 (k8.trans s9) W9⟩)
end

theorem get95 {P : Params} {g : Heap} (X : (hd.heap_39 P).In g) : ∃ prm body pm doc, g.get? 95 = some { cls := .type "function", data := .func (docDef "law" prm body lawSc pm (.ref 94) doc) } ∧ body = bodyOf lawS ∧ g.CodeRec (.ref 94) "law" ∧
    ∀ t, bindArgs (docDef "law" prm body lawSc pm (.ref 94) doc) ⟨[t], []⟩ = pure [(Str.ofString "script", t)] :=
  ⟨_, _, _, _, X 95 _ rfl, rfl, codeRec_of X (by rfl), fun _ => rfl⟩

section
variable {prog : Program} {w : World} {A : Around} {E : Value → Shared → Prop} {s : Shared} {P : Params} {mg mb : Str → Option Value} {S : Addr} {ps : Array Value} {sv : List Value} {n : Nat} {Q : Value → Shared → Prop}
/-- law -/
theorem call_law (B : Bs P mg mb s.heap) (h65 : s.heap.get? 65 = some (tabObj ps)) (T : TabOk lamPos lamQ s.heap ps) (r : Rm 15 A) (hS : s.heap.get? S = some (listOf (List.toArray sv) n)) (hsv : ∀ v ∈ sv, AnyInt v) (hsl : sv.length ≤ 1000)
    (hQ : ∀ h' tk ps', (∀ b o, b ≠ 65 → s.heap.get? b = some o → h'.get? b = some o) → h'.get? 65 = some (tabObj ps') → Q (.bool true) { s with heap := h', toks := tk }) :
    wpAny (model prog w) A (call (.ref 95) [.ref S]) Q E s := by
  obtain ⟨prm, body, pm, doc, hget, hbody, hcr, hbind⟩ := get95 B.K
  refine call_fnC (n := 14) [(65, tabObj ps)] (by simpa using h65) (by simp) r hget B.lim hcr (hbind _) ?_ fun A' g h₁ tk r' hs hg hkp W cel => ?_
  · intro x hx
    rw [List.mem_singleton.mp hx]
    exact Or.inr ⟨by rfl, by rfl⟩
  have k65 : ∀ b o, b ≠ 65 → s.heap.get? b = some o → g.get? b = some o := fun b o hb e => hg b o (by simpa using Ne.symm hb) e
  obtain ⟨cs1, cs2, cs5, os, cs3, cs4⟩ := cel "script" (s.heap.objs.size + 1) (by rfl)
  obtain ⟨cb1, cb2, cb5, ob, cb3, cb4⟩ := cel "base" (s.heap.objs.size + 1 + 1) (by rfl)
  obtain ⟨cd1, cd2, cd5, od, cd3, cd4⟩ := cel "drawn" (s.heap.objs.size + 1 + 1 + 1) (by rfl)
  have cs4' : os.data = .cell (some (.ref S)) := cs4
  have cb4' : ob.data = .cell none := cb4
  have cd4' : od.data = .cell none := cd4
  have Bg := B.hide h65 k65
  have Tg := T.hide h65 k65
  have hSg : g.get? S = some (listOf (List.toArray sv) n) := k65 _ _ (fun q => by rw [q, h65] at hS; cases hS) hS
  generalize hL : s.heap.objs.size = L at *
  have W1 := W.addMu cs3 (Nat.ne_of_gt cs1) cs2 cs5
  have W2 := W1.addMu cd3 (Nat.ne_of_gt cd1) cd2 (fun p hp => by
    rcases List.mem_cons.mp hp with rfl | hp
    · exact Nat.ne_of_lt (Nat.lt_succ_of_lt (Nat.lt_succ_self _))
    · exact cd5 p hp)
  have W3 := W2.addMu cb3 (Nat.ne_of_gt cb1) cb2 (fun p hp => by
    rcases List.mem_cons.mp hp with rfl | hp
    · exact Nat.ne_of_gt (Nat.lt_succ_self _)
    rcases List.mem_cons.mp hp with rfl | hp
    · exact Nat.ne_of_lt (Nat.lt_succ_self _)
    · exact cb5 p hp)
  obtain ⟨g1, s1, es, W4⟩ := Wk.settle (pre := [(L + 1 + 1, ob), (L + 1 + 1 + 1, od)]) (post := [(65, tabObj ps)]) W3
  refine law_body (L := L) (s := { s with heap := h₁, toks := tk }) W4 (Bg.keeps s1) (Tg.keeps s1) cb4' cd4' es cs4' (s1 _ _ hSg) hsv hsl r' (fun g' h' tk' m' ps' k W' => ?_) body hbody
  exact hQ h' tk' ps' (fun b o hb e => W'.keep _ _ (k _ _ (s1 _ _ (k65 _ _ hb e)))) (W'.mus (65, tabObj ps') (.head _)).1
end
end Mine
end

section
set_option autoImplicit false
set_option maxRecDepth 100000
set_option linter.unusedSimpArgs false
set_option linter.unusedVariables false
namespace Mine
open PySem PySem.W PySem.Calls PyProof.Rows PySem.Sre

theorem rm_caller : Rm 15 callerA := ⟨rfl, by decide +kernel, by decide +kernel⟩
theorem well_listAt {P : Params} {h : Heap} {S : Addr} {d : WData} {xs : List WData} {sv : List Value} (w1 : Well P h (.ref S) d) (hd : d = .list xs) (hL : h.IsList S sv.toArray) : ∃ n, h.get? S = some (listOf (List.toArray sv) n) := by
  subst hd
  cases w1 with
  | list e _ =>
    obtain ⟨o, e2, _, n, hd⟩ := hL
    rw [e] at e2
    cases e2
    injection hd with hd hn
    rw [← hd]
    exact ⟨_, e⟩
theorem oldK_of {h h' : Heap} {c : Addr} {ps : Array Value} (C : CodeHd h c 65) (h65 : h.get? 65 = some (tabObj #[])) (k : ∀ b o, b ≠ 65 → h.get? b = some o → h'.get? b = some o) (k65 : h'.get? 65 = some (tabObj ps)) : OldK h h' := by
  refine ⟨fun b o e => ?_, fun b o e => ?_⟩
  · by_cases hb : b = 65
    · subst hb
      rw [h65] at e
      cases e
      exact .inr (.inl ⟨(C.tab h65).isCodeTable, rfl, #[], ps, rfl, by rw [Array.empty_append]; exact k65⟩)
    · exact .inl (k b o hb e)
  · by_cases hb : b = 65
    · subst hb; exact ⟨_, k65⟩
    · exact ⟨o, k b o hb e⟩
set_option maxHeartbeats 4000000 in
theorem law_holds : PySem.Challenge.rw_oy0002_01.Holds := hd (by
  intro w s₀ s₁ mg mb G Y a o pm cd doc dV kV ho hdt hcd hD hmg hg args vals as hpre hlay hrd hwl hlo
  have KX := km_in_of Y
  have h65 := km_tabs_of Y 65 (by simp)
  have T := G.T
  have hm95 : mg "law" = some (.ref 95) := mg_of KX T.g (by rfl)
  have e95 : a = 95 := by
    have e : some (Value.ref 95) = some (Value.ref a) := hm95.symm.trans hmg
    injection e with e
    injection e with e
    exact e.symm
  clear ho hdt hcd hD hmg
  have fr : ∀ x : Str, x ∈ ["isinstance", "str", "sum", "range", "len", "zip"].map Str.ofString → mg x = none := by
    intro x hx
    simp only [List.map_cons, List.map_nil, List.mem_cons, List.not_mem_nil, or_false] at hx
    rcases hx with rfl | rfl | rfl | rfl | rfl | rfl <;> exact T.free _ (by decide +kernel) (by decide +kernel) (by decide +kernel) (by decide +kernel) (by decide +kernel)
  have B : Bs w.params mg mb s₁.heap := ⟨KX, T.g, T.b, T.nolimit, T.builtins, fr, T.bmain⟩
  wrow_args hpre hlay hrd hwl hlo
  rename_i ns _ _ _ _ _ _ _ S sv _ hL _ w1 _ hI _ hc _
  subst e95
  obtain ⟨n, hS⟩ := well_listAt w1 rfl hL
  have hlen : sv.length ≤ 1000 := by
    have h1 := IntsAre.length hI
    omega
  show wpAny _ _ (call (.ref 95) [.ref S]) _ _ _
  refine call_law B h65 (TabOk.empty _ _ _) rm_caller hS (fun v hv => IntsAre.all hI v hv) hlen fun h' tk ps' k k65 => ?_
  exact ⟨.inl ⟨.bool true, .bool true, [], rfl, fun cls => rfl, .bool _, by wrow_post, fun _ => ⟨List.nodup_nil, fun a ha => by cases ha⟩⟩, oldK_of (codeHd_of_K KX (by rfl) : CodeHd s₁.heap 69 65) h65 k k65, rfl, .of_eq hg⟩)
end Mine
end

theorem PySem.Challenge.cw_oy0002_01_holds : PySem.Challenge.rw_oy0002_01.Holds :=
  Mine.law_holds
