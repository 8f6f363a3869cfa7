import PyProof.Rows.All
import Wide.All
import OpenK.AllK
import Wide.FinOn
import PySem.Challenge.RW_dn0026_01
set_option Elab.async false
set_option maxRecDepth 100000
set_option maxHeartbeats 8000000

namespace Mine
section
open PySem PySem.W PyProof.Rows
open_top hd for PySem.Challenge.rw_dn0026_01
end
end Mine

section
open PySem PySem.W PyProof.Rows PySem.Calls
set_option maxRecDepth 100000
set_option maxHeartbeats 4000000
namespace Mine
theorem slot_search : Slot "re.Pattern" "search" "re.Pattern.search" :=
  .of (owner := "re.Pattern") (n := "search") (by rw [typeLookup_type, builtinLookup_eq_fast]; kernel_rfl) (by decide +kernel) (by decide +kernel) (by decide +kernel)
    (by first | exact .inl (by decide +kernel) | exact .inr (by decide +kernel)) (by rw [isSubtype_type]; kernel_rfl)
theorem entry_search : entryFor table "re.Pattern.search" = some Builtin.«re.Pattern.search» := entryFor_of_tree (by kernel_rfl)
theorem args_search (a b : Value) : argsOk "re.Pattern.search" ⟨[a, b], []⟩ := by unfold argsOk; kernel_rfl
theorem slot_full : Slot "re.Pattern" "fullmatch" "re.Pattern.fullmatch" :=
  .of (owner := "re.Pattern") (n := "fullmatch") (by rw [typeLookup_type, builtinLookup_eq_fast]; kernel_rfl) (by decide +kernel) (by decide +kernel) (by decide +kernel)
    (by first | exact .inl (by decide +kernel) | exact .inr (by decide +kernel)) (by rw [isSubtype_type]; kernel_rfl)
theorem entry_full : entryFor table "re.Pattern.fullmatch" = some Builtin.«re.Pattern.fullmatch» := entryFor_of_tree (by kernel_rfl)
theorem args_full (a b : Value) : argsOk "re.Pattern.fullmatch" ⟨[a, b], []⟩ := by unfold argsOk; kernel_rfl
theorem slot_sub : Slot "re.Pattern" "sub" "re.Pattern.sub" :=
  .of (owner := "re.Pattern") (n := "sub") (by rw [typeLookup_type, builtinLookup_eq_fast]; kernel_rfl) (by decide +kernel) (by decide +kernel) (by decide +kernel)
    (by first | exact .inl (by decide +kernel) | exact .inr (by decide +kernel)) (by rw [isSubtype_type]; kernel_rfl)
theorem entry_sub : entryFor table "re.Pattern.sub" = some Builtin.«re.Pattern.sub» := entryFor_of_tree (by kernel_rfl)
theorem args_sub (a b c : Value) : argsOk "re.Pattern.sub" ⟨[a, b, c], []⟩ := by unfold argsOk; kernel_rfl
theorem slot_subn : Slot "re.Pattern" "subn" "re.Pattern.subn" :=
  .of (owner := "re.Pattern") (n := "subn") (by rw [typeLookup_type, builtinLookup_eq_fast]; kernel_rfl) (by decide +kernel) (by decide +kernel) (by decide +kernel)
    (by first | exact .inl (by decide +kernel) | exact .inr (by decide +kernel)) (by rw [isSubtype_type]; kernel_rfl)
theorem entry_subn : entryFor table "re.Pattern.subn" = some Builtin.«re.Pattern.subn» := entryFor_of_tree (by kernel_rfl)
theorem args_subn (a b c : Value) : argsOk "re.Pattern.subn" ⟨[a, b, c], []⟩ := by unfold argsOk; kernel_rfl
theorem entry_loop : entryFor table "re.Pattern.sub.loop" = some Builtin.«re.Pattern.sub.loop» := entryFor_of_tree (by kernel_rfl)
theorem slot_group : Slot "re.Match" "group" "re.Match.group" :=
  .of (owner := "re.Match") (n := "group") (by rw [typeLookup_type, builtinLookup_eq_fast]; kernel_rfl) (by decide +kernel) (by decide +kernel) (by decide +kernel)
    (by first | exact .inl (by decide +kernel) | exact .inr (by decide +kernel)) (by rw [isSubtype_type]; kernel_rfl)
theorem entry_group : entryFor table "re.Match.group" = some Builtin.«re.Match.group» := entryFor_of_tree (by kernel_rfl)
theorem args_group (a b : Value) : argsOk "re.Match.group" ⟨[a, b], []⟩ := by unfold argsOk; kernel_rfl
theorem slot_span : Slot "re.Match" "span" "re.Match.span" :=
  .of (owner := "re.Match") (n := "span") (by rw [typeLookup_type, builtinLookup_eq_fast]; kernel_rfl) (by decide +kernel) (by decide +kernel) (by decide +kernel)
    (by first | exact .inl (by decide +kernel) | exact .inr (by decide +kernel)) (by rw [isSubtype_type]; kernel_rfl)
theorem entry_span : entryFor table "re.Match.span" = some Builtin.«re.Match.span» := entryFor_of_tree (by kernel_rfl)
theorem args_span (a b : Value) : argsOk "re.Match.span" ⟨[a, b], []⟩ := by unfold argsOk; kernel_rfl
end Mine
end

section
open PySem PySem.Sre
namespace Mine

/-- n steps of the machine -/
def iter : Nat → M → M
  | 0, m => m
  | n + 1, m => iter n m.step

theorem step_done {m : M} (h : m.outcome.isSome = true) : m.step = m := by
  unfold M.step; rw [if_pos h]

theorem iter_done {m : M} (h : m.outcome.isSome = true) : ∀ n, iter n m = m
  | 0 => rfl
  | n + 1 => by rw [iter, step_done h]; exact iter_done h n

theorem iter_add (m : M) : ∀ a b, iter (a + b) m = iter b (iter a m)
  | 0, b => by rw [Nat.zero_add]; rfl
  | a + 1, b => by
    rw [show a + 1 + b = (a + b) + 1 by omega]
    show iter (a + b) m.step = iter b (iter a m.step)
    exact iter_add m.step a b
theorem runFor_eq : ∀ n (m : M), M.runFor n m = iter n m
  | 0, _ => rfl
  | n + 1, m => by
    unfold M.runFor
    split
    · rename_i h; rw [iter_done h]
    · exact runFor_eq n m.step

/-- within k steps the machine comes to Q -/
def To (k : Nat) (m : M) (Q : M → Prop) : Prop := ∃ n, n ≤ k ∧ Q (iter n m)
theorem To.here {k : Nat} {m : M} {Q : M → Prop} (h : Q m) : To k m Q := ⟨0, Nat.zero_le _, h⟩
theorem To.one {k : Nat} {m : M} {Q : M → Prop} (h : To k m.step Q) : To (k + 1) m Q := by
  obtain ⟨n, hn, hq⟩ := h; exact ⟨n + 1, by omega, hq⟩
theorem To.stepTo {k : Nat} {m m' : M} {Q : M → Prop} (e : m.step = m') (h : To k m' Q) : To (k + 1) m Q := To.one (e ▸ h)
theorem To.trans {a b : Nat} {m : M} {P Q : M → Prop} (h : To a m P) (k : ∀ m', P m' → To b m' Q) : To (a + b) m Q := by
  obtain ⟨n, hn, hp⟩ := h
  obtain ⟨n', hn', hq⟩ := k _ hp
  exact ⟨n + n', by omega, by rw [iter_add]; exact hq⟩
theorem To.mono {a b : Nat} {m : M} {P Q : M → Prop} (h : To a m P) (hab : a ≤ b) (k : ∀ m', P m' → Q m') : To b m Q := by
  obtain ⟨n, hn, hp⟩ := h
  exact ⟨n, by omega, k _ hp⟩

/-- a machine at work -/
abbrev S (c t : Array Nat) (lim st ls : Nat) (wh mu : Bool) (pc pos hd : Nat) (ou : Bool) (mk : Array (Option Nat)) (lm li : Int)
    (lp : Array Sre.Loop) (inn : Option Nat) (fr : List Sre.Frame) (wt : Nat) (an : Option Bool) (sn : Seen) : M :=
  { code := c, text := t, lim := lim, start := st, lastStart := ls, wholeText := wh, mustAdvance := mu, pc := pc, pos := pos, handed := hd, outermost := ou, marks := mk,
    lastmark := lm, lastindex := li, loops := lp, inner := inn, frames := fr, weight := wt, answer := an, seen := sn, outcome := none }

section
variable {c t : Array Nat} {lim st ls : Nat} {wh mu : Bool} {pc pos hd : Nat} {ou : Bool} {mk : Array (Option Nat)} {lm li : Int}
    {lp : Array Sre.Loop} {inn : Option Nat} {fr : List Sre.Frame} {wt : Nat} {sn : Seen} {k : Nat} {Q : M → Prop}

/-- the item at i accepts ch (or not), whatever was seen -/
def Acc (c : Array Nat) (i ch : Nat) (b : Bool) : Prop := ∀ sn, ∃ sn', accepts c i ch sn = .ok (b, sn')

theorem to_ex {f : Seen → M} (hp : pc < c.size) (e : ∃ sn', M.exec (S c t lim st ls wh mu pc pos hd ou mk lm li lp inn fr wt none sn) = f sn') (h : ∀ sn', To k (f sn') Q) :
    To (k + 1) (S c t lim st ls wh mu pc pos hd ou mk lm li lp inn fr wt none sn) Q := by
  obtain ⟨sn', e⟩ := e
  refine To.one ?_
  have : M.step (S c t lim st ls wh mu pc pos hd ou mk lm li lp inn fr wt none sn) = f sn' := by
    unfold M.step
    simp only [Option.isSome_none, Bool.false_eq_true, if_false, if_pos hp]
    exact e
  rw [this]; exact h _

theorem to_at0 (h0 : c.getD pc 0 = 6) (h1 : c.getD (pc + 1) 0 = 0) (hp : pc < c.size) (hpos : pos = 0)
    (h : ∀ sn, To k (S c t lim st ls wh mu (pc + 2) pos hd ou mk lm li lp inn fr wt none sn) Q) :
    To (k + 1) (S c t lim st ls wh mu pc pos hd ou mk lm li lp inn fr wt none sn) Q := by
  refine to_ex hp ⟨(sn.add 6).add 43, ?_⟩ h
  subst hpos
  simp [M.exec, M.word, h0, h1, ops, M.isAt]

theorem to_at0_no (h0 : c.getD pc 0 = 6) (h1 : c.getD (pc + 1) 0 = 0) (hp : pc < c.size) (hpos : pos ≠ 0)
    (h : ∀ sn, To k (S c t lim st ls wh mu pc pos hd ou mk lm li lp inn fr wt (some false) sn) Q) :
    To (k + 1) (S c t lim st ls wh mu pc pos hd ou mk lm li lp inn fr wt none sn) Q := by
  refine to_ex hp ⟨(sn.add 6).add 43, ?_⟩ h
  simp [M.exec, M.word, h0, h1, ops, M.isAt, hpos, M.say]

theorem to_mark {i : Nat} (h0 : c.getD pc 0 = 17) (h1 : c.getD (pc + 1) 0 = i) (hp : pc < c.size) (hi : (i : Int) ≤ lm + 1)
    (h : ∀ sn, To k (S c t lim st ls wh mu (pc + 2) pos hd ou (mk.setIfInBounds i (some pos)) (max lm i) (if i % 2 == 1 then (i / 2 + 1 : Nat) else li) lp inn fr wt none sn) Q) :
    To (k + 1) (S c t lim st ls wh mu pc pos hd ou mk lm li lp inn fr wt none sn) Q := by
  refine to_ex hp ⟨(sn.add 17), ?_⟩ h
  simp [M.exec, M.word, h0, h1, ops, M.mark, hi]

theorem to_one {b : Bool} (hop : c.getD pc 0 = 2 ∨ c.getD pc 0 = 16 ∨ c.getD pc 0 = 13) (hp : pc < c.size) (hpos : pos < lim) (ha : Acc c pc (t.getD pos 0) b)
    (h : ∀ sn, To k (if b then S c t lim st ls wh mu (pc + itemWidth c pc) (pos + 1) hd ou mk lm li lp inn fr wt none sn else S c t lim st ls wh mu pc pos hd ou mk lm li lp inn fr wt (some false) sn) Q) :
    To (k + 1) (S c t lim st ls wh mu pc pos hd ou mk lm li lp inn fr wt none sn) Q := by
  obtain ⟨sn', e⟩ := ha (sn.add (c.getD pc 0))
  refine to_ex hp ⟨sn', ?_⟩ h
  have hnp : ¬ pos ≥ lim := by omega
  rcases hop with h0 | h0 | h0 <;> (rw [h0] at e; cases b <;> simp [M.exec, M.word, h0, ops, e, M.say, hnp, -Array.getD_eq_getD_getElem?])

theorem to_one_end (hop : c.getD pc 0 = 2 ∨ c.getD pc 0 = 16 ∨ c.getD pc 0 = 13) (hp : pc < c.size) (hpos : pos ≥ lim)
    (h : ∀ sn, To k (S c t lim st ls wh mu pc pos hd ou mk lm li lp inn fr wt (some false) sn) Q) :
    To (k + 1) (S c t lim st ls wh mu pc pos hd ou mk lm li lp inn fr wt none sn) Q := by
  refine to_ex hp ⟨sn.add (c.getD pc 0), ?_⟩ h
  rcases hop with h0 | h0 | h0 <;> simp [M.exec, M.word, h0, ops, M.say, hpos]

theorem to_success (h0 : c.getD pc 0 = 1) (hp : pc < c.size) (hw : wh = true → pos = lim) (hm : mu = true → pos ≠ st)
    (h : ∀ sn, To k (S c t lim st ls wh mu pc pos pos ou mk lm li lp inn fr wt (some true) sn) Q) :
    To (k + 1) (S c t lim st ls wh mu pc pos hd ou mk lm li lp inn fr wt none sn) Q := by
  refine to_ex hp ⟨sn.add 1, ?_⟩ h
  have : (ou && (wh && pos != lim || mu && pos == st)) = false := by
    cases wh <;> cases mu <;> simp_all
  simp only [M.exec, M.word, Nat.add_zero, h0]
  simp [ops, M.say]
  exact fun _ => ⟨hw, hm⟩

theorem ops24 : ops[24]? = some Op.REPEAT_ONE := rfl
/-- the number of signs from p on that f takes, n at most -/
def cnt (f : Nat → Bool) (t : Array Nat) : Nat → Nat → Nat
  | 0, _ => 0
  | n + 1, p => if f (t.getD p 0) then cnt f t n (p + 1) + 1 else 0

theorem run_eq {i : Nat} {f : Nat → Bool} (hf : ∀ ch, Acc c i ch (f ch)) : ∀ n p found sn, ∃ sn', Sre.run c t i n p found sn = .ok (found + cnt f t n p, sn')
  | 0, _, found, sn => ⟨sn, by simp [Sre.run, cnt]⟩
  | n + 1, p, found, sn => by
    obtain ⟨sn₁, e⟩ := hf (t.getD p 0) sn
    obtain ⟨sn₂, e₂⟩ := run_eq hf n (p + 1) (found + 1) sn₁
    unfold Sre.run cnt
    rw [e]
    cases hb : f (t.getD p 0) with
    | true => exact ⟨sn₂, by simp only [bind, Except.bind, if_true]; rw [e₂]; simp only [Except.ok.injEq, Prod.mk.injEq, and_true]; omega⟩
    | false => exact ⟨sn₁, by simp [bind, Except.bind, pure, Except.pure]⟩

/-- what is kept beside a frame -/
abbrev kp (inn : Option Nat) (mk : Array (Option Nat)) (lm li : Int) : Sre.Kept :=
  { lastmark := lm, lastindex := li, whole := inn.isSome, marks := if inn.isSome = true then mk.extract 0 (lm + 1).toNat else #[] }

theorem to_rep1 {f : Nat → Bool} {least most n skip : Nat} (h0 : c.getD pc 0 = 24) (h1 : c.getD (pc + 1) 0 = skip) (h2 : c.getD (pc + 2) 0 = least) (h3 : c.getD (pc + 3) 0 = most) (hp : pc < c.size)
    (hf : ∀ ch, Acc c (pc + 4) ch (f ch)) (hn : cnt f t (min most (lim - pos)) pos = n) (hl : pos ≤ lim) (hle : least ≤ n) (hnl : n ≤ lim - pos) (hw : wt + 1 + (kp inn mk lm li).marks.size ≤ 16777216)
    (h : ∀ sn, To k (S c t lim st ls wh mu (pc + 1 + skip) (pos + n) (pos + n) ou mk lm li lp inn ({ wait := .giveBack, pc := pc, pos := pos + n, outermost := ou, count := n, kept := kp inn mk lm li } :: fr) (wt + 1 + (kp inn mk lm li).marks.size) none sn) Q) :
    To (k + 1) (S c t lim st ls wh mu pc pos hd ou mk lm li lp inn fr wt none sn) Q := by
  obtain ⟨sn', e⟩ := run_eq (t := t) hf (min most (lim - pos)) pos 0 ((sn.add 24).add (c.getD (pc + 4) 0))
  rw [hn, Nat.zero_add] at e
  refine to_ex hp ⟨sn', ?_⟩ h
  have e1 : ((lim : Int) - pos).toNat = lim - pos := by omega
  have e2 : ¬ ((least : Int) > (lim : Int) - pos) := by omega
  have e3 : ¬ n < least := by omega
  have e4 : ¬ (wt + 1 + (kp inn mk lm li).marks.size > 16777216) := by omega
  simp only [M.exec, M.word, Nat.add_zero, h0, h1, h2, h3, ops24]
  show (if (least : Int) > (lim : Int) - pos then _ else _) = _
  rw [if_neg e2]
  simp only [e1]
  show (match Sre.run c t (pc + 4) (min most (lim - pos)) pos 0 ((sn.add 24).add (c.getD (pc + 4) 0)) with | .error why => _ | .ok (n, seen) => _) = _
  rw [e]
  simp only [e3, if_false]
  simp only [M.afterRun, M.attempt, M.frame, M.keep, M.word, h1]
  rw [if_neg e4]
  rfl

theorem to_rep1_no {f : Nat → Bool} {least most : Nat} (h0 : c.getD pc 0 = 24) (h2 : c.getD (pc + 2) 0 = least) (h3 : c.getD (pc + 3) 0 = most) (hp : pc < c.size)
    (hf : ∀ ch, Acc c (pc + 4) ch (f ch)) (hl : pos ≤ lim) (hle : lim - pos < least ∨ cnt f t (min most (lim - pos)) pos < least)
    (h : ∀ sn, To k (S c t lim st ls wh mu pc pos hd ou mk lm li lp inn fr wt (some false) sn) Q) :
    To (k + 1) (S c t lim st ls wh mu pc pos hd ou mk lm li lp inn fr wt none sn) Q := by
  by_cases hr : lim - pos < least
  · refine to_ex hp ⟨sn.add 24, ?_⟩ h
    have e2 : (least : Int) > (lim : Int) - pos := by omega
    simp only [M.exec, M.word, Nat.add_zero, h0, h2, h3, ops24]
    show (if (least : Int) > (lim : Int) - pos then _ else _) = _
    rw [if_pos e2]
    rfl
  · have hle := hle.resolve_left hr
    obtain ⟨sn', e⟩ := run_eq (t := t) hf (min most (lim - pos)) pos 0 ((sn.add 24).add (c.getD (pc + 4) 0))
    rw [Nat.zero_add] at e
    refine to_ex hp ⟨sn', ?_⟩ h
    have e1 : ((lim : Int) - pos).toNat = lim - pos := by omega
    have e2 : ¬ ((least : Int) > (lim : Int) - pos) := by omega
    simp only [M.exec, M.word, Nat.add_zero, h0, h2, h3, ops24]
    show (if (least : Int) > (lim : Int) - pos then _ else _) = _
    rw [if_neg e2]
    simp only [e1]
    show (match Sre.run c t (pc + 4) (min most (lim - pos)) pos 0 ((sn.add 24).add (c.getD (pc + 4) 0)) with | .error why => _ | .ok (n, seen) => _) = _
    rw [e]
    simp only [hle, if_true]
    rfl

/-! ### answers -/
theorem to_end {b : Bool} (h : Q { S c t lim st ls wh mu pc pos hd ou mk lm li lp inn [] wt (some b) sn with outcome := some (if b then .matched else .failed) }) :
    To (k + 1) (S c t lim st ls wh mu pc pos hd ou mk lm li lp inn [] wt (some b) sn) Q := To.one (To.here h)

theorem to_res {f : Sre.Frame} {b : Bool} (h : To k (M.resume (S c t lim st ls wh mu f.pc f.pos hd f.outermost mk lm li lp inn fr (wt - (1 + f.kept.marks.size)) none sn) f b) Q) :
    To (k + 1) (S c t lim st ls wh mu pc pos hd ou mk lm li lp inn (f :: fr) wt (some b) sn) Q := To.one h

theorem to_back_no {pc' pos' : Nat} {ou' : Bool} {n : Int} {kt : Sre.Kept} {lq : Nat} {bg : Option Nat} (hn : n - 1 < (c.getD (pc' + 2) 0 : Nat)) (hk : kt.whole = false)
    (h : To k (S c t lim st ls wh mu pc' pos' hd ou' mk kt.lastmark kt.lastindex lp inn fr (wt - (1 + kt.marks.size)) (some false) sn) Q) :
    To (k + 1) (S c t lim st ls wh mu pc pos hd ou mk lm li lp inn ({ wait := .giveBack, pc := pc', pos := pos', outermost := ou', count := n, kept := kt, loop := lq, began := bg } :: fr) wt (some false) sn) Q := by
  refine to_res ?_
  have e : M.resume (S c t lim st ls wh mu pc' pos' hd ou' mk lm li lp inn fr (wt - (1 + kt.marks.size)) none sn) { wait := .giveBack, pc := pc', pos := pos', outermost := ou', count := n, kept := kt, loop := lq, began := bg } false
      = S c t lim st ls wh mu pc' pos' hd ou' mk kt.lastmark kt.lastindex lp inn fr (wt - (1 + kt.marks.size)) (some false) sn := by
    refine (if_pos hn).trans ?_
    simp [M.putBack, hk, M.say]
  exact e ▸ h

/-- one sign is given back, and the tail is tried again -/
theorem to_back_more {pc' pos' : Nat} {ou' : Bool} {n : Nat} {kt : Sre.Kept} {lq : Nat} {bg : Option Nat} (hn : (c.getD (pc' + 2) 0) < n) (hk : kt.whole = false) (hkm : kt.marks.size = 0) (hw1 : 1 ≤ wt) (hw : wt ≤ 16777216)
    (h : To k (S c t lim st ls wh mu (pc' + 1 + c.getD (pc' + 1) 0) (pos' - 1) (pos' - 1) ou' mk kt.lastmark kt.lastindex lp inn ({ wait := .giveBack, pc := pc', pos := pos' - 1, outermost := ou', count := ((n - 1 : Nat) : Int), kept := kt } :: fr) wt none sn) Q) :
    To (k + 1) (S c t lim st ls wh mu pc pos hd ou mk lm li lp inn ({ wait := .giveBack, pc := pc', pos := pos', outermost := ou', count := (n : Int), kept := kt, loop := lq, began := bg } :: fr) wt (some false) sn) Q := by
  refine to_res ?_
  have e0 : ((n : Int) - 1) = ((n - 1 : Nat) : Int) := by omega
  have e1 : ¬ ((n : Int) - 1 < (c.getD (pc' + 2) 0 : Nat)) := by omega
  have e2 : ¬ (wt - (1 + kt.marks.size) + 1 + kt.marks.size > 16777216) := by omega
  have e3 : wt - (1 + kt.marks.size) + 1 + kt.marks.size = wt := by omega
  have e : M.resume (S c t lim st ls wh mu pc' pos' hd ou' mk lm li lp inn fr (wt - (1 + kt.marks.size)) none sn) { wait := .giveBack, pc := pc', pos := pos', outermost := ou', count := (n : Int), kept := kt, loop := lq, began := bg } false
      = S c t lim st ls wh mu (pc' + 1 + c.getD (pc' + 1) 0) (pos' - 1) (pos' - 1) ou' mk kt.lastmark kt.lastindex lp inn ({ wait := .giveBack, pc := pc', pos := pos' - 1, outermost := ou', count := ((n - 1 : Nat) : Int), kept := kt } :: fr) wt none sn := by
    refine (if_neg e1).trans ?_
    refine (if_neg e2).trans ?_
    simp only [M.putBack, M.frame, M.word, hk, Bool.false_eq_true, if_false]
    rw [e3, e0]
  exact e ▸ h

theorem to_next_end {s : Nat} {ou' : Bool} {pc' : Nat} (hs : ¬ s < ls)
    (h : To k (S c t lim st ls wh mu pc' s hd ou' mk lm li lp inn fr (wt - 1) (some false) sn) Q) :
    To (k + 1) (S c t lim st ls wh mu pc pos hd ou mk lm li lp inn ({ wait := .nextStart, pc := pc', pos := s, outermost := ou' } :: fr) wt (some false) sn) Q := by
  refine to_res ?_
  have e : M.resume (S c t lim st ls wh mu pc' s hd ou' mk lm li lp inn fr (wt - 1) none sn) { wait := .nextStart, pc := pc', pos := s, outermost := ou' } false
      = S c t lim st ls wh mu pc' s hd ou' mk lm li lp inn fr (wt - 1) (some false) sn := by
    exact (if_neg hs).trans rfl
  exact e ▸ h

theorem to_next {s : Nat} {ou' : Bool} {pc' : Nat} (hs : s < ls) (hfs : (c.getD 2 0 == 4) = false) (hw1 : 1 ≤ wt) (hw : wt ≤ 16777216)
    (h : To k (S c t lim (s + 1) ls wh false pc' (s + 1) (s + 1) false mk (-1) (-1) lp inn ({ wait := .nextStart, pc := pc', pos := s + 1, outermost := false } :: fr) wt none sn) Q) :
    To (k + 1) (S c t lim st ls wh mu pc pos hd ou mk lm li lp inn ({ wait := .nextStart, pc := pc', pos := s, outermost := ou' } :: fr) wt (some false) sn) Q := by
  refine to_res ?_
  have e2 : ¬ (wt - 1 + 1 > 16777216) := by omega
  have e3 : wt - 1 + 1 = wt := by omega
  have e : M.resume (S c t lim st ls wh mu pc' s hd ou' mk lm li lp inn fr (wt - 1) none sn) { wait := .nextStart, pc := pc', pos := s, outermost := ou' } false
      = S c t lim (s + 1) ls wh false pc' (s + 1) (s + 1) false mk (-1) (-1) lp inn ({ wait := .nextStart, pc := pc', pos := s + 1, outermost := false } :: fr) wt none sn := by
    refine (if_pos hs).trans ?_
    simp only [M.attemptFrom, M.hasFirstSet, hfs, Bool.and_false, Bool.not_false, if_true]
    refine (if_neg e2).trans ?_
    simp only [List.size_toArray, List.length_nil, Nat.add_zero, e3]
  exact e ▸ h
end

/-- frames that hand a yes on -/
def handsOn : Wait → Bool
  | .nextStart | .giveBack | .closeLoop | .maxMore | .maxTail => true
  | _ => false

/-- a machine that has matched -/
structure Won (m : M) (st hd : Nat) (mk : Array (Option Nat)) (lm li : Int) : Prop where
  outcome : m.outcome = some .matched
  start : m.start = st
  handed : m.handed = hd
  marks : m.marks = mk
  lastmark : m.lastmark = lm
  lastindex : m.lastindex = li

theorem to_won {c t : Array Nat} {lim st ls : Nat} {wh mu : Bool} {hd : Nat} {mk : Array (Option Nat)} {lm li : Int} : ∀ (fr : List Sre.Frame) {pc pos : Nat} {ou : Bool} {lp : Array Sre.Loop} {inn : Option Nat} {wt : Nat} {sn : Seen},
    (∀ f ∈ fr, handsOn f.wait = true) → To (fr.length + 1) (S c t lim st ls wh mu pc pos hd ou mk lm li lp inn fr wt (some true) sn) fun m => Won m st hd mk lm li
  | [], _, _, _, _, _, _, _, _ => to_end ⟨rfl, rfl, rfl, rfl, rfl, rfl⟩
  | f :: fr, _, _, _, _, _, _, _, hf => by
    have hw := hf f (.head _)
    obtain ⟨wait, pc', pos', ou', count, kt, lq, bg⟩ := f
    refine to_res ?_
    cases wait <;> first | cases hw | skip
    all_goals exact to_won fr fun f h => hf f (.tail _ h)
end Mine
end

section
open PySem PySem.Sre
set_option maxRecDepth 100000
namespace Mine
def natOf : PySem.Expr → Nat
  | .Constant (.int n) _ _ => n.toNat
  | _ => 0
/-- the words of the n-th statement's compiled pattern -/
def codeOf (n : Nat) : Array Nat := match PySem.Challenge.pw_dn0026_01.main.body[n]? with
  | some (.Assign _ (.Call _ (_ :: _ :: .List es _ :: _) _ _) _) => (es.map natOf).toArray
  | _ => #[]
def cJunk : Array Nat := codeOf 2
def cTok : Array Nat := codeOf 4
def cQuo : Array Nat := codeOf 5
def cVal : Array Nat := codeOf 6
def cEsc : Array Nat := codeOf 7
def cJTok : Array Nat := codeOf 9
def cJEsc : Array Nat := codeOf 10

/-! ### sets -/
def InS (c : Array Nat) (ch fuel i : Nat) (yes b : Bool) : Prop := ∀ sn, ∃ sn', inSet c ch fuel i yes sn = .ok (b, sn')
section
variable {c : Array Nat} {ch fuel i : Nat} {yes b : Bool}
theorem InS.fail (h : c.getD i 0 = 0) : InS c ch (fuel + 1) i yes (!yes) := fun sn => ⟨_, by unfold inSet; simp only [Nat.add_zero, h]; rfl⟩
theorem InS.neg (h : c.getD i 0 = 21) (k : InS c ch fuel (i + 1) (!yes) b) : InS c ch (fuel + 1) i yes b := fun sn => by
  obtain ⟨sn', e⟩ := k (sn.add 21)
  exact ⟨sn', by unfold inSet; simp only [Nat.add_zero, h]; exact e⟩
theorem InS.lit {x : Nat} (h : c.getD i 0 = 16) (h1 : c.getD (i + 1) 0 = x) (k : InS c ch fuel (i + 2) yes b) : InS c ch (fuel + 1) i yes (if ch == x then yes else b) := fun sn => by
  obtain ⟨sn', e⟩ := k (sn.add 16)
  unfold inSet
  simp only [Nat.add_zero, h, h1]
  by_cases hx : (ch == x) = true
  · exact ⟨_, (if_pos hx).trans (by rw [if_pos hx])⟩
  · exact ⟨_, (if_neg hx).trans (by rw [if_neg hx]; exact e)⟩
theorem InS.cat (h : c.getD i 0 = 8) (h1 : c.getD (i + 1) 0 = 12) (k : InS c ch fuel (i + 2) yes b) : InS c ch (fuel + 1) i yes (if Unicode.isSpace ch then yes else b) := fun sn => by
  obtain ⟨sn', e⟩ := k ((sn.add 8).add (55 + 12))
  unfold inSet
  simp only [Nat.add_zero, h, h1]
  have hc : category 12 ch = .ok (Unicode.isSpace ch) := by
    show Except.ok (Unicode.isSpace ch != (12 % 2 == 1)) = _
    simp
  have : ops[8]? = some Op.CATEGORY := rfl
  simp only [this, hc]
  cases hx : Unicode.isSpace ch with
  | true => exact ⟨_, rfl⟩
  | false => exact ⟨_, e⟩
theorem InS.set {f : Bool} (h : c.getD i 0 = 9) (hf : (decide (ch < 256) && (c.getD (i + (1 + ch / 32)) 0).testBit (ch % 32)) = f) (k : InS c ch fuel (i + 9) yes b) : InS c ch (fuel + 1) i yes (if f then yes else b) := fun sn => by
  obtain ⟨sn', e⟩ := k (sn.add 9)
  unfold inSet
  simp only [Nat.add_zero, h]
  have : ops[9]? = some Op.CHARSET := rfl
  simp only [this, hf]
  cases f with
  | true => exact ⟨_, rfl⟩
  | false => exact ⟨_, e⟩
theorem Acc.in_ (h : c.getD i 0 = 13) (k : InS c ch c.size (i + 2) true b) : Acc c i ch b := fun sn => by
  obtain ⟨sn', e⟩ := k sn
  exact ⟨sn', by unfold accepts; simp only [h]; exact e⟩
theorem Acc.lit {x : Nat} (h : c.getD i 0 = 16) (h1 : c.getD (i + 1) 0 = x) : Acc c i ch (ch == x) := fun sn => ⟨sn, by unfold accepts; simp only [h, h1]; rfl⟩
theorem Acc.any (h : c.getD i 0 = 2) : Acc c i ch (ch != 10) := fun sn => ⟨sn, by unfold accepts; simp only [h]; rfl⟩
end

/-! ### the signs -/
abbrev isSp (ch : Nat) : Bool := Unicode.isSpace ch
/-- a sign of a key -/
def isKey (ch : Nat) : Bool := !(ch == 44 || ch == 59 || ch == 61) && !isSp ch
/-- a sign of a plain value -/
def isPl (ch : Nat) : Bool := !isSp ch && !(ch == 59 || ch == 44)
def isJunk (ch : Nat) : Bool := ch == 61 || isSp ch || ch == 59
/-- a sign that needs no quotation marks -/
def isTok (ch : Nat) : Bool := decide (ch < 256) && (cJTok.getD (12 + ch / 32) 0).testBit (ch % 32)
/-- neither a quotation mark nor a backslash -/
def isQ (ch : Nat) : Bool := !(ch == 34 || ch == 92)

theorem acc_tok_sp (ch : Nat) : Acc cTok 11 ch (isSp ch) := by
  have h : InS cTok ch 42 13 true _ := InS.cat (by decide +kernel) (by decide +kernel) (InS.fail (by decide +kernel))
  have : Acc cTok 11 ch _ := Acc.in_ (by decide +kernel) (show InS cTok ch cTok.size 13 true _ by rw [show cTok.size = 42 by decide +kernel]; exact h)
  have e : (if Unicode.isSpace ch then true else !true) = isSp ch := by cases h : Unicode.isSpace ch <;> simp [isSp, h]
  exact e ▸ this
theorem bits_key : ∀ ch < 256, (cTok.getD (26 + (1 + ch / 32)) 0).testBit (ch % 32) = (ch == 44 || ch == 59 || ch == 61) := by decide +kernel
theorem acc_tok_key (ch : Nat) : Acc cTok 23 ch (isKey ch) := by
  have hb : (decide (ch < 256) && (cTok.getD (26 + (1 + ch / 32)) 0).testBit (ch % 32)) = (ch == 44 || ch == 59 || ch == 61) := by
    by_cases h : ch < 256
    · rw [bits_key ch h]; simp [h]
    · simp only [h, decide_false, Bool.false_and]
      have h1 : (ch == 44) = false := by simp; omega
      have h2 : (ch == 59) = false := by simp; omega
      have h3 : (ch == 61) = false := by simp; omega
      simp [h1, h2, h3]
  have h : InS cTok ch 42 25 true _ := InS.neg (by decide +kernel) (InS.set (by decide +kernel) hb (InS.cat (by decide +kernel) (by decide +kernel) (InS.fail (by decide +kernel))))
  have : Acc cTok 23 ch _ := Acc.in_ (by decide +kernel) (show InS cTok ch cTok.size 25 true _ by rw [show cTok.size = 42 by decide +kernel]; exact h)
  have e : (if (ch == 44 || ch == 59 || ch == 61) then !true else if Unicode.isSpace ch then !true else !(!true)) = isKey ch := by
    unfold isKey isSp
    cases (ch == 44 || ch == 59 || ch == 61) <;> cases Unicode.isSpace ch <;> rfl
  exact e ▸ this
end Mine
end

section
open PySem PySem.Sre
set_option maxRecDepth 100000
namespace Mine
def Lost (m : M) : Prop := m.outcome = some .failed

theorem cnt_eq {f : Nat → Bool} {t : Array Nat} : ∀ {n p m : Nat}, m ≤ n → (∀ i < m, f (t.getD (p + i) 0) = true) → (m = n ∨ f (t.getD (p + m) 0) = false) → cnt f t n p = m
  | 0, _, m, hm, _, _ => by have : m = 0 := by omega
                            subst this; rfl
  | n + 1, p, 0, _, _, he => by
    have := he.resolve_left (by omega)
    rw [Nat.add_zero] at this
    simp only [cnt, this]; rfl
  | n + 1, p, m + 1, hm, h, he => by
    have h0 := h 0 (by omega)
    rw [Nat.add_zero] at h0
    have ih := cnt_eq (f := f) (t := t) (n := n) (p := p + 1) (m := m) (by omega) (fun i hi => by have := h (i + 1) (by omega); rwa [show p + (i + 1) = p + 1 + i by omega] at this)
      (he.imp (by omega) (fun e => by rwa [show p + (m + 1) = p + 1 + m by omega] at e))
    simp only [cnt, h0, if_true, ih]

abbrev F0 (pc s : Nat) (ou : Bool) : Sre.Frame := { wait := .nextStart, pc := pc, pos := s, outermost := ou }

/-- the machine at its start -/
abbrev Z (c t : Array Nat) (g pos lim ls : Nat) (wh mu : Bool) : M :=
  S c t lim pos ls wh mu (header c).2 pos pos true (Array.replicate (2 * g) none) (-1) (-1) #[] none [] 0 none (if (header c).2 == 0 then {} else ({} : Seen).add 14)
theorem forSearch_eq (c t : Array Nat) (g pos lim : Nat) (mu : Bool) : forSearch c t g pos lim mu =
    if (decide (pos > lim) || decide (lim - pos < (header c).1)) = true then (Z c t g pos lim 0 false mu).say false
    else (Z c t g pos lim (if (decide ((header c).1 > 1) && !((header c).2 != 0 && (c.getD 2 0 &&& 5) != 0)) = true then max pos (lim - ((header c).1 - 1)) else lim) false mu).attemptFrom pos true := rfl

theorem forSearch_go {c t : Array Nat} {g pos lim least body ls : Nat} {mu : Bool} {Q : M → Prop} {k : Nat} (hh : header c = (least, body)) (hfs : (c.getD 2 0 == 4) = false) (hpos : pos ≤ lim) (hle : least ≤ lim - pos)
    (hls : (if (decide (least > 1) && !(body != 0 && (c.getD 2 0 &&& 5) != 0)) = true then max pos (lim - (least - 1)) else lim) = ls)
    (h : ∀ sn, To k (S c t lim pos ls false mu body pos pos true (Array.replicate (2 * g) none) (-1) (-1) #[] none [F0 body pos true] 1 none sn) Q) :
    To k (forSearch c t g pos lim mu) Q := by
  have e1 : (decide (pos > lim) || decide (lim - pos < least)) = false := by simp; omega
  rw [forSearch_eq, hh, if_neg (by simpa using e1)]
  simp only [hls, M.attemptFrom, M.hasFirstSet, hfs, Bool.and_false, Bool.not_false, if_true]
  unfold M.attemptAt M.attempt
  rw [if_neg (by show ¬ (0 + 1 + 0 > 16777216); omega)]
  simp only [hh]
  exact h _

theorem forSearch_no {c t : Array Nat} {g pos lim least body : Nat} {mu : Bool} {k : Nat} (hh : header c = (least, body)) (hle : pos > lim ∨ lim - pos < least) :
    To (k + 1) (forSearch c t g pos lim mu) Lost := by
  have e1 : (decide (pos > lim) || decide (lim - pos < least)) = true := by simp; omega
  rw [forSearch_eq, hh, if_pos e1]
  exact to_end rfl

section
variable {c t : Array Nat} {lim st ls : Nat} {wh mu : Bool} {pc pos hd : Nat} {ou ou' : Bool} {mk : Array (Option Nat)} {lm li : Int} {lp : Array Sre.Loop} {inn : Option Nat} {wt : Nat} {sn : Seen}
/-- an anchored pattern that has failed at s fails at every later start -/
theorem fail_rest {body : Nat} (h0 : c.getD body 0 = 6) (h1 : c.getD (body + 1) 0 = 0) (hp : body < c.size) (hfs : (c.getD 2 0 == 4) = false) (hw1 : 1 ≤ wt) (hw : wt ≤ 16777216) :
    ∀ (d s : Nat) {st pc pos hd : Nat} {ou ou' mu : Bool} {lm li : Int} {sn : Seen}, ls - s = d →
    To (2 * d + 2) (S c t lim st ls wh mu pc pos hd ou mk lm li lp inn [F0 body s ou'] wt (some false) sn) Lost
  | 0, s, _, _, _, _, _, _, _, _, _, _, hd => to_next_end (by omega) (to_end rfl)
  | d + 1, s, _, _, _, _, _, _, _, _, _, _, hd =>
    to_next (by omega) hfs hw1 hw (to_at0_no h0 h1 hp (by omega) fun _ => fail_rest h0 h1 hp hfs hw1 hw d (s + 1) (by omega))
end

theorem key_not_sp {ch : Nat} (h : isKey ch = true) : isSp ch = false := by
  unfold isKey at h; cases hs : isSp ch <;> simp_all

/-- a key is read -/
theorem tok_yes {t : Array Nat} {a b : Nat} (hT : t.size ≤ 16777216) (hab : a + b ≤ t.size) (hb : 1 ≤ b) (ha : ∀ i < a, isSp (t.getD i 0) = true) (hk : ∀ i < b, isKey (t.getD (a + i) 0) = true)
    (he : a + b = t.size ∨ isKey (t.getD (a + b) 0) = false) :
    To 20 (forSearch cTok t 1 0 t.size false) fun m => Won m 0 (a + b) #[some a, some (a + b)] 1 1 := by
  refine forSearch_go (least := 1) (body := 5) (by decide +kernel) (by decide +kernel) (by omega) (by omega) rfl fun sn => ?_
  refine to_at0 (k := 19) (by decide +kernel) (by decide +kernel) (by decide +kernel) rfl fun sn => ?_
  refine to_rep1 (k := 18) (f := isSp) (least := 0) (most := 4294967295) (n := a) (skip := 9) (by decide +kernel) (by decide +kernel) (by decide +kernel) (by decide +kernel) (by decide +kernel) acc_tok_sp ?_ (by omega) (by omega) (by omega) (by simp) fun sn => ?_
  · rw [show min 4294967295 (t.size - 0) = t.size by omega]
    refine cnt_eq (by omega) (fun i hi => by rw [Nat.zero_add]; exact ha i hi) (.inr ?_)
    rw [Nat.zero_add]
    exact key_not_sp (hk 0 (by omega))
  refine to_mark (k := 17) (i := 0) (by decide +kernel) (by decide +kernel) (by decide +kernel) (by decide) fun sn => ?_
  refine to_rep1 (k := 16) (f := isKey) (least := 1) (most := 4294967295) (n := b) (skip := 19) (by decide +kernel) (by decide +kernel) (by decide +kernel) (by decide +kernel) (by decide +kernel) acc_tok_key ?_ (by omega) (by omega) (by omega) (by simp) fun sn => ?_
  · rw [Nat.zero_add, show min 4294967295 (t.size - a) = t.size - a by omega]
    exact cnt_eq (by omega) hk (he.imp (by omega) id)
  refine to_mark (k := 15) (i := 1) (by decide +kernel) (by decide +kernel) (by decide +kernel) (by decide) fun sn => ?_
  refine to_success (k := 14) (by decide +kernel) (by decide +kernel) (by intro h; cases h) (by intro h; cases h) fun sn => ?_
  refine (to_won _ (by intro f hf; simp at hf; rcases hf with rfl | rfl | rfl <;> rfl)).mono (by simp) fun m h => ?_
  simp only [Nat.zero_add] at h
  exact h

theorem tok_no {t : Array Nat} (h : t.size = 0 ∨ (isKey (t.getD 0 0) = false ∧ isSp (t.getD 0 0) = false)) (hT : t.size ≤ 16777216) :
    To (2 * t.size + 20) (forSearch cTok t 1 0 t.size false) Lost := by
  by_cases hz : t.size = 0
  · exact (forSearch_no (k := 2 * t.size + 19) (least := 1) (body := 5) (by decide +kernel) (.inr (by omega)))
  have h := h.resolve_left hz
  refine (forSearch_go (k := 5 + (2 * t.size + 2)) (least := 1) (body := 5) (by decide +kernel) (by decide +kernel) (by omega) (by omega) rfl fun sn => ?_).mono (by omega) fun _ x => x
  rw [show 5 + (2 * t.size + 2) = (2 * t.size + 2 + 1 + 1 + 1 + 1) + 1 by omega]
  refine to_at0 (by decide +kernel) (by decide +kernel) (by decide +kernel) rfl fun sn => ?_
  refine to_rep1 (f := isSp) (least := 0) (most := 4294967295) (n := 0) (skip := 9) (by decide +kernel) (by decide +kernel) (by decide +kernel) (by decide +kernel) (by decide +kernel) acc_tok_sp ?_ (by omega) (by omega) (by omega) (by simp) fun sn => ?_
  · exact cnt_eq (by omega) (fun i hi => by omega) (.inr h.2)
  refine to_mark (i := 0) (by decide +kernel) (by decide +kernel) (by decide +kernel) (by decide) fun sn => ?_
  refine to_rep1_no (f := isKey) (least := 1) (most := 4294967295) (by decide +kernel) (by decide +kernel) (by decide +kernel) (by decide +kernel) acc_tok_key (by omega) (.inr ?_) fun sn => ?_
  · rw [cnt_eq (m := 0) (by omega) (fun i hi => by omega) (.inr h.1)]; omega
  refine to_back_no (n := (0 : Nat)) (by have : cTok.getD (7 + 2) 0 = 0 := by decide +kernel
                                         rw [this]; decide) rfl ?_
  exact fail_rest (by decide +kernel) (by decide +kernel) (by decide +kernel) (by decide +kernel) (by simp) (by simp) t.size 0 (by simp)

/-! ### the plain value -/
theorem acc_val_sp (i : Nat) (hi : i = 11 ∨ i = 23) (ch : Nat) : Acc cVal i ch (isSp ch) := by
  have e : (if Unicode.isSpace ch then true else !true) = isSp ch := by cases h : Unicode.isSpace ch <;> simp [isSp, h]
  rcases hi with rfl | rfl
  · have h : InS cVal ch 49 13 true _ := InS.cat (by decide +kernel) (by decide +kernel) (InS.fail (by decide +kernel))
    have : Acc cVal 11 ch _ := Acc.in_ (by decide +kernel) (show InS cVal ch cVal.size 13 true _ by rw [show cVal.size = 49 by decide +kernel]; exact h)
    exact e ▸ this
  · have h : InS cVal ch 49 25 true _ := InS.cat (by decide +kernel) (by decide +kernel) (InS.fail (by decide +kernel))
    have : Acc cVal 23 ch _ := Acc.in_ (by decide +kernel) (show InS cVal ch cVal.size 25 true _ by rw [show cVal.size = 49 by decide +kernel]; exact h)
    exact e ▸ this
theorem acc_val_pl (ch : Nat) : Acc cVal 35 ch (isPl ch) := by
  have h : InS cVal ch 49 37 true _ := InS.neg (by decide +kernel) (InS.cat (by decide +kernel) (by decide +kernel) (InS.lit (x := 59) (by decide +kernel) (by decide +kernel) (InS.lit (x := 44) (by decide +kernel) (by decide +kernel) (InS.fail (by decide +kernel)))))
  have : Acc cVal 35 ch _ := Acc.in_ (by decide +kernel) (show InS cVal ch cVal.size 37 true _ by rw [show cVal.size = 49 by decide +kernel]; exact h)
  have e : (if Unicode.isSpace ch then !true else if ch == 59 then !true else if ch == 44 then !true else !(!true)) = isPl ch := by
    unfold isPl isSp
    cases Unicode.isSpace ch <;> cases (ch == 59) <;> cases (ch == 44) <;> rfl
  exact e ▸ this

theorem sp61 : isSp 61 = false := by decide +kernel

/-- = and a plain value are read -/
theorem val_yes {t : Array Nat} {b : Nat} (hT : t.size ≤ 16777216) (hab : 1 + b ≤ t.size) (h0 : t.getD 0 0 = 61) (hk : ∀ i < b, isPl (t.getD (1 + i) 0) = true)
    (he : 1 + b = t.size ∨ isPl (t.getD (1 + b) 0) = false) (hs : b = 0 → 1 = t.size ∨ isSp (t.getD 1 0) = false) :
    To 20 (forSearch cVal t 1 0 t.size false) fun m => Won m 0 (1 + b) #[some 1, some (1 + b)] 1 1 := by
  refine forSearch_go (least := 1) (body := 5) (by decide +kernel) (by decide +kernel) (by omega) (by omega) rfl fun sn => ?_
  refine to_at0 (k := 19) (by decide +kernel) (by decide +kernel) (by decide +kernel) rfl fun sn => ?_
  refine to_rep1 (k := 18) (f := isSp) (least := 0) (most := 4294967295) (n := 0) (skip := 9) (by decide +kernel) (by decide +kernel) (by decide +kernel) (by decide +kernel) (by decide +kernel) (acc_val_sp 11 (.inl rfl)) ?_ (by omega) (by omega) (by omega) (by simp) fun sn => ?_
  · exact cnt_eq (by omega) (fun i hi => by omega) (.inr (by rw [h0]; exact sp61))
  refine to_one (k := 17) (b := true) (.inr (.inl (by decide +kernel))) (by decide +kernel) (by omega) (by rw [h0]; exact Acc.lit (x := 61) (by decide +kernel) (by decide +kernel)) fun sn => ?_
  simp only [if_true, show itemWidth cVal (7 + 1 + 9) = 2 by decide +kernel]
  refine to_rep1 (k := 16) (f := isSp) (least := 0) (most := 4294967295) (n := 0) (skip := 9) (by decide +kernel) (by decide +kernel) (by decide +kernel) (by decide +kernel) (by decide +kernel) (acc_val_sp 23 (.inr rfl)) ?_ (by omega) (by omega) (by omega) (by simp) fun sn => ?_
  · rw [show min 4294967295 (t.size - (0 + 0 + 1)) = t.size - 1 by omega]
    by_cases hb : b = 0
    · exact cnt_eq (by omega) (fun i hi => by omega) ((hs hb).imp (by omega) (fun x => x))
    · refine cnt_eq (by omega) (fun i hi => by omega) (.inr ?_)
      have := hk 0 (by omega)
      unfold isPl at this
      cases hq : isSp (t.getD 1 0) with
      | false => rfl
      | true => rw [Nat.add_zero, hq] at this; cases this
  refine to_mark (k := 15) (i := 0) (by decide +kernel) (by decide +kernel) (by decide +kernel) (by decide) fun sn => ?_
  refine to_rep1 (k := 14) (f := isPl) (least := 0) (most := 4294967295) (n := b) (skip := 14) (by decide +kernel) (by decide +kernel) (by decide +kernel) (by decide +kernel) (by decide +kernel) acc_val_pl ?_ (by omega) (by omega) (by omega) (by simp) fun sn => ?_
  · rw [show min 4294967295 (t.size - (0 + 0 + 1 + 0)) = t.size - 1 by omega, show 0 + 0 + 1 + 0 = 1 by omega]
    exact cnt_eq (by omega) hk (he.imp (by omega) id)
  refine to_mark (k := 13) (i := 1) (by decide +kernel) (by decide +kernel) (by decide +kernel) (by decide) fun sn => ?_
  refine to_success (k := 12) (by decide +kernel) (by decide +kernel) (by intro h; cases h) (by intro h; cases h) fun sn => ?_
  refine (to_won _ (by intro f hf; simp at hf; rcases hf with rfl | rfl | rfl | rfl <;> rfl)).mono (by simp) fun m h => ?_
  simp only [Nat.zero_add, Nat.add_zero] at h
  exact h

theorem val_no {t : Array Nat} (h : t.size = 0 ∨ (t.getD 0 0 ≠ 61 ∧ isSp (t.getD 0 0) = false)) (hT : t.size ≤ 16777216) :
    To (2 * t.size + 20) (forSearch cVal t 1 0 t.size false) Lost := by
  by_cases hz : t.size = 0
  · exact (forSearch_no (k := 2 * t.size + 19) (least := 1) (body := 5) (by decide +kernel) (.inr (by omega)))
  have h := h.resolve_left hz
  refine (forSearch_go (k := 5 + (2 * t.size + 2)) (least := 1) (body := 5) (by decide +kernel) (by decide +kernel) (by omega) (by omega) rfl fun sn => ?_).mono (by omega) fun _ x => x
  rw [show 5 + (2 * t.size + 2) = (2 * t.size + 2 + 1 + 1 + 1 + 1) + 1 by omega]
  refine to_at0 (by decide +kernel) (by decide +kernel) (by decide +kernel) rfl fun sn => ?_
  refine to_rep1 (f := isSp) (least := 0) (most := 4294967295) (n := 0) (skip := 9) (by decide +kernel) (by decide +kernel) (by decide +kernel) (by decide +kernel) (by decide +kernel) (acc_val_sp 11 (.inl rfl)) ?_ (by omega) (by omega) (by omega) (by simp) fun sn => ?_
  · exact cnt_eq (by omega) (fun i hi => by omega) (.inr h.2)
  refine to_one (b := false) (.inr (.inl (by decide +kernel))) (by decide +kernel) (by omega) ?_ fun sn => ?_
  · have := Acc.lit (c := cVal) (i := 17) (x := 61) (ch := t.getD 0 0) (by decide +kernel) (by decide +kernel)
    rw [show (t.getD 0 0 == 61) = false by simpa using h.1] at this
    exact this
  refine To.mono (a := 2 * t.size + 2 + 1) ?_ (by omega) fun _ x => x
  refine to_back_no (n := (0 : Nat)) (by have : cVal.getD (7 + 2) 0 = 0 := by decide +kernel
                                         rw [this]; decide) rfl ?_
  exact fail_rest (by decide +kernel) (by decide +kernel) (by decide +kernel) (by decide +kernel) (by simp) (by simp) t.size 0 (by simp)

/-! ### junk -/
theorem acc_junk (ch : Nat) : Acc cJunk 11 ch (isJunk ch) := by
  have h : InS cJunk ch 22 13 true _ := InS.lit (x := 61) (by decide +kernel) (by decide +kernel) (InS.cat (by decide +kernel) (by decide +kernel) (InS.lit (x := 59) (by decide +kernel) (by decide +kernel) (InS.fail (by decide +kernel))))
  have : Acc cJunk 11 ch _ := Acc.in_ (by decide +kernel) (show InS cJunk ch cJunk.size 13 true _ by rw [show cJunk.size = 22 by decide +kernel]; exact h)
  have e : (if ch == 61 then true else if Unicode.isSpace ch then true else if ch == 59 then true else !true) = isJunk ch := by
    unfold isJunk isSp
    cases Unicode.isSpace ch <;> cases (ch == 59) <;> cases (ch == 61) <;> rfl
  exact e ▸ this

theorem junk_yes {t : Array Nat} {a : Nat} (hT : t.size ≤ 16777216) (ha : a ≤ t.size) (hk : ∀ i < a, isJunk (t.getD i 0) = true) (he : a = t.size ∨ isJunk (t.getD a 0) = false) :
    To 20 (forSearch cJunk t 0 0 t.size false) fun m => Won m 0 a #[] (-1) (-1) := by
  refine forSearch_go (least := 0) (body := 5) (by decide +kernel) (by decide +kernel) (by omega) (by omega) rfl fun sn => ?_
  refine to_at0 (k := 19) (by decide +kernel) (by decide +kernel) (by decide +kernel) rfl fun sn => ?_
  refine to_rep1 (k := 18) (f := isJunk) (least := 0) (most := 4294967295) (n := a) (skip := 13) (by decide +kernel) (by decide +kernel) (by decide +kernel) (by decide +kernel) (by decide +kernel) acc_junk ?_ (by omega) (by omega) (by omega) (by simp) fun sn => ?_
  · rw [show min 4294967295 (t.size - 0) = t.size by omega]
    refine cnt_eq (by omega) (fun i hi => by rw [Nat.zero_add]; exact hk i hi) ?_
    rw [Nat.zero_add]; exact he
  refine to_success (k := 17) (by decide +kernel) (by decide +kernel) (by intro h; cases h) (by intro h; cases h) fun sn => ?_
  refine (to_won _ (by intro f hf; simp at hf; rcases hf with rfl | rfl <;> rfl)).mono (by simp) fun m h => ?_
  simp only [Nat.zero_add] at h
  exact h

/-- behind the first match nothing is found -/
theorem junk_no {t : Array Nat} {a : Nat} {mu : Bool} (ha : a ≤ t.size) (ha0 : a ≠ 0) (hT : t.size ≤ 16777216) :
    To (2 * t.size + 20) (forSearch cJunk t 0 a t.size mu) Lost := by
  refine (forSearch_go (k := (2 * (t.size - a) + 2) + 1) (least := 0) (body := 5) (by decide +kernel) (by decide +kernel) (by omega) (by omega) rfl fun sn => ?_).mono (by omega) fun _ x => x
  refine to_at0_no (by decide +kernel) (by decide +kernel) (by decide +kernel) ha0 fun sn => ?_
  exact fail_rest (by decide +kernel) (by decide +kernel) (by decide +kernel) (by decide +kernel) (by simp) (by simp) (t.size - a) a (by simp)
end Mine
end

section
open PySem PySem.Sre
set_option maxRecDepth 100000
namespace Mine
/-! ### fullmatch of a token -/
theorem forMatch_eq (c t : Array Nat) (g pos lim : Nat) (wh mu : Bool) : forMatch c t g pos lim wh mu =
    if ((header c).1 != 0 && decide (pos ≤ lim) && decide (lim - pos < (header c).1)) = true then (Z c t g pos lim 0 wh mu).say false else Z c t g pos lim 0 wh mu := rfl

theorem forMatch_go {c t : Array Nat} {g pos lim least body : Nat} {wh mu : Bool} {Q : M → Prop} {k : Nat} (hh : header c = (least, body)) (hle : least ≤ lim - pos)
    (h : ∀ sn, To k (S c t lim pos 0 wh mu body pos pos true (Array.replicate (2 * g) none) (-1) (-1) #[] none [] 0 none sn) Q) : To k (forMatch c t g pos lim wh mu) Q := by
  have hc : ¬ ((least != 0 && decide (pos ≤ lim) && decide (lim - pos < least)) = true) := by
    have : ¬ (lim - pos < least) := by omega
    simp [this]
  rw [forMatch_eq, hh, if_neg hc]
  unfold Z
  rw [hh]
  exact h _
theorem forMatch_no {c t : Array Nat} {g pos lim least body : Nat} {wh mu : Bool} {k : Nat} (hh : header c = (least, body)) (h0 : least ≠ 0) (hp : pos ≤ lim) (hle : lim - pos < least) : To (k + 1) (forMatch c t g pos lim wh mu) Lost := by
  have hc : (least != 0 && decide (pos ≤ lim) && decide (lim - pos < least)) = true := by simp [h0, hp, hle]
  rw [forMatch_eq, hh, if_pos hc]
  exact to_end rfl

theorem acc_jtok (ch : Nat) : Acc cJTok 9 ch (isTok ch) := by
  have h : InS cJTok ch 23 11 true _ := InS.set (f := isTok ch) (by decide +kernel) (by unfold isTok; rw [show 11 + (1 + ch / 32) = 12 + ch / 32 by omega]) (InS.fail (by decide +kernel))
  have : Acc cJTok 9 ch _ := Acc.in_ (by decide +kernel) (show InS cJTok ch cJTok.size 11 true _ by rw [show cJTok.size = 23 by decide +kernel]; exact h)
  have e : (if isTok ch then true else !true) = isTok ch := by cases isTok ch <;> rfl
  exact e ▸ this

theorem jtok_yes {t : Array Nat} (hT : t.size ≤ 16777216) (h1 : 1 ≤ t.size) (hk : ∀ i < t.size, isTok (t.getD i 0) = true) :
    To 20 (forMatch cJTok t 0 0 t.size true false) fun m => Won m 0 t.size #[] (-1) (-1) := by
  refine forMatch_go (least := 1) (body := 5) (by decide +kernel) (by omega) fun sn => ?_
  refine to_rep1 (k := 19) (f := isTok) (least := 1) (most := 4294967295) (n := t.size) (skip := 16) (by decide +kernel) (by decide +kernel) (by decide +kernel) (by decide +kernel) (by decide +kernel) acc_jtok ?_ (by omega) (by omega) (by omega) (by simp) fun sn => ?_
  · rw [show min 4294967295 (t.size - 0) = t.size by omega]
    exact cnt_eq (by omega) (fun i hi => by rw [Nat.zero_add]; exact hk i hi) (.inl rfl)
  refine to_success (k := 18) (by decide +kernel) (by decide +kernel) (by intro _; omega) (by intro h; cases h) fun sn => ?_
  refine (to_won _ (by intro f hf; simp at hf; subst hf; rfl)).mono (by simp) fun m h => ?_
  simp only [Nat.zero_add] at h
  exact h

theorem to_success_no {c t : Array Nat} {lim st ls : Nat} {mu : Bool} {pc pos hd : Nat} {mk : Array (Option Nat)} {lm li : Int} {lp : Array Sre.Loop} {inn : Option Nat} {fr : List Sre.Frame} {wt : Nat} {sn : Seen} {k : Nat} {Q : M → Prop}
    (h0 : c.getD pc 0 = 1) (hp : pc < c.size) (hne : pos ≠ lim)
    (h : ∀ sn, To k (S c t lim st ls true mu pc pos hd true mk lm li lp inn fr wt (some false) sn) Q) :
    To (k + 1) (S c t lim st ls true mu pc pos hd true mk lm li lp inn fr wt none sn) Q := by
  refine to_ex hp ⟨sn.add 1, ?_⟩ h
  simp only [M.exec, M.word, Nat.add_zero, h0]
  refine (if_pos ?_).trans rfl
  have : (pos != lim) = true := by simp [hne]
  simp [this]
theorem jtok7 : cJTok.getD (5 + 2) 0 = 1 := by decide +kernel
theorem jtok_back {t : Array Nat} {lim wt : Nat} {mk : Array (Option Nat)} {lp : Array Sre.Loop} (hw1 : 1 ≤ wt) (hw : wt ≤ 16777216) : ∀ (n : Nat) {hd pc pos : Nat} {lm li : Int} {sn : Seen}, n ≤ lim →
    To (2 * n + 2) (S cJTok t lim 0 0 true false pc pos hd true mk lm li lp none [{ wait := .giveBack, pc := 5, pos := n, outermost := true, count := (n : Int), kept := kp none mk (-1) (-1) }] wt (some false) sn) Lost
  | 0, _, _, _, _, _, _, _ => to_back_no (by rw [jtok7]; decide) rfl (to_end rfl)
  | 1, _, _, _, _, _, _, _ => To.mono (P := Lost) (to_back_no (k := 1) (by rw [jtok7]; decide) rfl (to_end rfl)) (by omega) fun _ x => x
  | n + 2, _, _, _, _, _, _, hn => by
    refine to_back_more (n := n + 2) (k := 2 * (n + 1) + 3) (by rw [jtok7]; omega) rfl rfl hw1 hw ?_
    rw [show cJTok.getD (5 + 1) 0 = 16 by decide +kernel]
    have h0 : cJTok.getD (5 + 1 + 16) 0 = 1 := by decide +kernel
    exact to_success_no (k := 2 * (n + 1) + 2) h0 (by decide +kernel) (by omega) fun sn => jtok_back hw1 hw (n + 1) (by omega)

theorem jtok_no {t : Array Nat} (hT : t.size ≤ 16777216) (hk : t.size = 0 ∨ ∃ i < t.size, isTok (t.getD i 0) = false) :
    To (2 * t.size + 20) (forMatch cJTok t 0 0 t.size true false) Lost := by
  by_cases hz : t.size = 0
  · exact (forMatch_no (k := 2 * t.size + 19) (least := 1) (body := 5) (by decide +kernel) (by omega) (by omega) (by omega))
  refine forMatch_go (least := 1) (body := 5) (by decide +kernel) (by omega) fun sn => ?_
  obtain ⟨i, hi, hf⟩ := hk.resolve_left hz
  -- the run ends ahead of the first sign that is none of the token's
  obtain ⟨n, hn, hall, hend⟩ : ∃ n, n < t.size ∧ (∀ j < n, isTok (t.getD j 0) = true) ∧ isTok (t.getD n 0) = false := by
    have : ∀ i, i < t.size → isTok (t.getD i 0) = false → ∃ n, n < t.size ∧ (∀ j < n, isTok (t.getD j 0) = true) ∧ isTok (t.getD n 0) = false := by
      intro i
      induction i using Nat.strongRecOn with
      | _ i ih =>
        intro hi hf
        by_cases h : ∃ j, j < i ∧ isTok (t.getD j 0) = false
        · obtain ⟨j, hj, hjf⟩ := h
          exact ih j hj (by omega) hjf
        · refine ⟨i, hi, fun j hj => ?_, hf⟩
          cases hq : isTok (t.getD j 0) with
          | true => rfl
          | false => exact absurd ⟨j, hj, hq⟩ h
    exact this i hi hf
  have hc : cnt isTok t (min 4294967295 (t.size - 0)) 0 = n := by
    rw [show min 4294967295 (t.size - 0) = t.size by omega]
    exact cnt_eq (by omega) (fun i hi => by rw [Nat.zero_add]; exact hall i hi) (.inr (by rw [Nat.zero_add]; exact hend))
  by_cases h1 : 1 ≤ n
  · refine (to_rep1 (k := 1 + (2 * n + 2)) (f := isTok) (least := 1) (most := 4294967295) (n := n) (skip := 16) (by decide +kernel) (by decide +kernel) (by decide +kernel) (by decide +kernel) (by decide +kernel) acc_jtok hc (by omega) (by omega) (by omega) (by simp) fun sn => ?_).mono (by omega) fun _ x => x
    rw [show 1 + (2 * n + 2) = (2 * n + 2) + 1 by omega]
    refine to_success_no (by decide +kernel) (by decide +kernel) (by omega) fun sn => ?_
    rw [Nat.zero_add]
    exact jtok_back (by simp) (by simp) n (by omega)
  · refine (to_rep1_no (k := 2 * t.size + 19) (f := isTok) (least := 1) (most := 4294967295) (by decide +kernel) (by decide +kernel) (by decide +kernel) (by decide +kernel) acc_jtok (by omega) (.inr (by rw [hc]; omega)) fun sn => ?_)
    exact to_end (k := 2 * t.size + 18) rfl

/-! ### the escape that join writes: the next quotation mark or backslash -/
theorem ins_jesc (i : Nat) (hi : i = 5 ∨ i = 14) (ch : Nat) : InS cJEsc ch cJEsc.size i true (!isQ ch) := by
  rw [show cJEsc.size = 22 by decide +kernel]
  have e : (if ch == 34 then true else if ch == 92 then true else !true) = !isQ ch := by
    unfold isQ
    cases (ch == 34) <;> cases (ch == 92) <;> rfl
  rcases hi with rfl | rfl
  · have h : InS cJEsc ch 22 5 true _ := InS.lit (x := 34) (by decide +kernel) (by decide +kernel) (InS.lit (x := 92) (by decide +kernel) (by decide +kernel) (InS.fail (by decide +kernel)))
    exact e ▸ h
  · have h : InS cJEsc ch 22 14 true _ := InS.lit (x := 34) (by decide +kernel) (by decide +kernel) (InS.lit (x := 92) (by decide +kernel) (by decide +kernel) (InS.fail (by decide +kernel)))
    exact e ▸ h

theorem admitted_some {m : M} (hc : m.code = cJEsc) {q : Nat} (hq : q < m.lim) (hn : isQ (m.text.getD q 0) = false) : ∀ (fuel s : Nat) (sn : Seen), s ≤ q → q - s < fuel → (∀ i, s ≤ i → i < q → isQ (m.text.getD i 0) = true) →
    ∃ sn', M.admitted m fuel s sn = .ok (some q, sn')
  | 0, _, _, _, hf, _ => by omega
  | fuel + 1, s, sn, hs, hf, hall => by
    unfold M.admitted
    obtain ⟨sn₁, e⟩ := ins_jesc 5 (.inl rfl) (m.text.getD s 0) sn
    rw [if_neg (by omega), hc, e]
    by_cases hsq : s = q
    · subst hsq
      rw [hn]
      exact ⟨sn₁, rfl⟩
    · rw [hall s (Nat.le_refl _) (by omega)]
      exact admitted_some hc hq hn fuel (s + 1) sn₁ (by omega) (by omega) fun i h1 h2 => hall i (by omega) h2
theorem admitted_none {m : M} (hc : m.code = cJEsc) : ∀ (fuel s : Nat) (sn : Seen), m.lim - s < fuel → (∀ i, s ≤ i → i < m.lim → isQ (m.text.getD i 0) = true) →
    ∃ sn', M.admitted m fuel s sn = .ok (none, sn')
  | 0, _, _, hf, _ => by omega
  | fuel + 1, s, sn, hf, hall => by
    unfold M.admitted
    by_cases hs : s ≥ m.lim
    · rw [if_pos hs]; exact ⟨sn, rfl⟩
    · obtain ⟨sn₁, e⟩ := ins_jesc 5 (.inl rfl) (m.text.getD s 0) sn
      rw [if_neg hs, hc, e, hall s (Nat.le_refl _) (by omega)]
      exact admitted_none hc fuel (s + 1) sn₁ (by omega) fun i h1 h2 => hall i (by omega) h2

theorem jesc_yes {t : Array Nat} {p q : Nat} {mu : Bool} (hq : q < t.size) (hpq : p ≤ q) (hall : ∀ i, p ≤ i → i < q → isQ (t.getD i 0) = true) (hn : isQ (t.getD q 0) = false) :
    To 20 (forSearch cJEsc t 1 p t.size mu) fun m => Won m q (q + 1) #[some q, some (q + 1)] 1 1 := by
  have hh : header cJEsc = (1, 10) := by decide +kernel
  rw [forSearch_eq, hh, if_neg (by simp; omega)]
  have hfs : ∀ ls, M.hasFirstSet (Z cJEsc t 1 p t.size ls false mu) = true := fun ls => by
    show ((match ops[cJEsc.getD 0 0]? with | some .INFO => true | _ => false) && cJEsc.getD 2 0 == 4) = true
    decide +kernel
  unfold M.attemptFrom
  rw [hfs]
  obtain ⟨sn', e⟩ := admitted_some (m := Z cJEsc t 1 p t.size (if (decide (1 > 1) && !((10 : Nat) != 0 && (cJEsc.getD 2 0 &&& 5) != 0)) = true then max p (t.size - (1 - 1)) else t.size) false mu) rfl hq hn (t.size + 1 - p) p
    (if (header cJEsc).2 == 0 then {} else ({} : Seen).add 14) hpq (by omega) hall
  simp only [Bool.not_true, Bool.false_eq_true, if_false]
  simp only [e]
  unfold M.attemptAt M.attempt
  rw [if_neg (by show ¬ (0 + 1 + 0 > 16777216); omega)]
  show To 20 (S cJEsc t t.size q _ false false (header cJEsc).2 q q true (Array.replicate (2 * 1) none) (-1) (-1) #[] none [F0 (header cJEsc).2 q true] (0 + 1 + 0) none sn') _
  rw [hh]
  refine to_mark (k := 19) (i := 0) (by decide +kernel) (by decide +kernel) (by decide +kernel) (by decide) fun sn => ?_
  refine to_one (k := 18) (b := true) (.inr (.inr (by decide +kernel))) (by decide +kernel) hq ?_ fun sn => ?_
  · refine Acc.in_ (by decide +kernel) ?_
    have := ins_jesc 14 (.inr rfl) (t.getD q 0)
    rw [hn] at this
    exact this
  simp only [if_true, show itemWidth cJEsc (10 + 2) = 7 by decide +kernel]
  refine to_mark (k := 17) (i := 1) (by decide +kernel) (by decide +kernel) (by decide +kernel) (by decide) fun sn => ?_
  refine to_success (k := 16) (by decide +kernel) (by decide +kernel) (by intro h; cases h) (by intro h; cases h) fun sn => ?_
  exact (to_won _ (by intro f hf; simp at hf; subst hf; rfl)).mono (by simp) fun m h => h

theorem jesc_no {t : Array Nat} {p : Nat} {mu : Bool} (hp : p ≤ t.size) (hall : ∀ i, p ≤ i → i < t.size → isQ (t.getD i 0) = true) : To 20 (forSearch cJEsc t 1 p t.size mu) Lost := by
  have hh : header cJEsc = (1, 10) := by decide +kernel
  by_cases hz : t.size - p < 1
  · exact forSearch_no (k := 19) hh (.inr hz)
  rw [forSearch_eq, hh, if_neg (by simp; omega)]
  have hfs : ∀ ls, M.hasFirstSet (Z cJEsc t 1 p t.size ls false mu) = true := fun ls => by
    show ((match ops[cJEsc.getD 0 0]? with | some .INFO => true | _ => false) && cJEsc.getD 2 0 == 4) = true
    decide +kernel
  unfold M.attemptFrom
  rw [hfs]
  obtain ⟨sn', e⟩ := admitted_none (m := Z cJEsc t 1 p t.size (if (decide (1 > 1) && !((10 : Nat) != 0 && (cJEsc.getD 2 0 &&& 5) != 0)) = true then max p (t.size - (1 - 1)) else t.size) false mu) rfl (t.size + 1 - p) p
    (if (header cJEsc).2 == 0 then {} else ({} : Seen).add 14) (by show t.size - p < _; omega) hall
  simp only [Bool.not_true, Bool.false_eq_true, if_false]
  simp only [e]
  exact to_end (k := 19) rfl

/-! ### the escape that split reads: the next backslash and a sign behind it -/
theorem esc_seek {t : Array Nat} {q : Nat} (hq : q + 2 ≤ t.size) (h1 : t.getD q 0 = 92) (h2 : t.getD (q + 1) 0 ≠ 10) : ∀ (d s : Nat) {mu ou : Bool} {sn : Seen} {mk : Array (Option Nat)}, mk.size = 2 → (mu = true → False) → q - s = d → s ≤ q → (∀ i, s ≤ i → i < q → t.getD i 0 ≠ 92) →
    To (2 * d + 10) (S cEsc t t.size s t.size false mu 9 s s ou mk (-1) (-1) #[] none [F0 9 s ou] 1 none sn) fun m => Won m q (q + 2) #[some (q + 1), some (q + 2)] 1 1
  | 0, s, _, _, _, mk, hmk, hmu, hd, hs, hall => by
    have : s = q := by omega
    subst this
    refine to_one (k := 9) (b := true) (.inr (.inl (by decide +kernel))) (by decide +kernel) (by omega) (by rw [h1]; exact Acc.lit (x := 92) (by decide +kernel) (by decide +kernel)) fun sn => ?_
    simp only [if_true, show itemWidth cEsc 9 = 2 by decide +kernel]
    refine to_mark (k := 8) (i := 0) (by decide +kernel) (by decide +kernel) (by decide +kernel) (by decide) fun sn => ?_
    refine to_one (k := 7) (b := true) (.inl (by decide +kernel)) (by decide +kernel) (by omega) ?_ fun sn => ?_
    · have := Acc.any (c := cEsc) (i := 13) (ch := t.getD (s + 1) 0) (by decide +kernel)
      rw [show (t.getD (s + 1) 0 != 10) = true by simpa using h2] at this
      exact this
    simp only [if_true, show itemWidth cEsc (9 + 2 + 2) = 1 by decide +kernel]
    refine to_mark (k := 6) (i := 1) (by decide +kernel) (by decide +kernel) (by decide +kernel) (by decide) fun sn => ?_
    refine to_success (k := 5) (by decide +kernel) (by decide +kernel) (by intro h; cases h) (by intro h; exact (hmu h).elim) fun sn => ?_
    refine (to_won _ (by intro f hf; simp at hf; subst hf; rfl)).mono (by simp) fun m h => ?_
    have e : (mk.setIfInBounds 0 (some (s + 1))).setIfInBounds 1 (some (s + 1 + 1)) = #[some (s + 1), some (s + 2)] := by
      rcases mk with ⟨l⟩
      rcases l with _ | ⟨x, _ | ⟨y, _ | ⟨z, r⟩⟩⟩ <;> simp at hmk
      rfl
    rw [e] at h
    exact h
  | d + 1, s, _, _, _, mk, hmk, hmu, hd, hs, hall => by
    have hne := hall s (Nat.le_refl _) (by omega)
    refine (to_one (k := 2 * d + 11) (b := false) (.inr (.inl (by decide +kernel))) (by decide +kernel) (by omega) ?_ fun sn => ?_)
    · have := Acc.lit (c := cEsc) (i := 9) (x := 92) (ch := t.getD s 0) (by decide +kernel) (by decide +kernel)
      rw [show (t.getD s 0 == 92) = false by simpa using hne] at this
      exact this
    refine to_next (k := 2 * d + 10) (by omega) (by decide +kernel) (by omega) (by omega) ?_
    exact esc_seek hq h1 h2 d (s + 1) hmk (fun h => by cases h) (by omega) (by omega) fun i h1 h2 => hall i (by omega) h2

theorem esc_yes {t : Array Nat} {p q : Nat} (hq : q + 2 ≤ t.size) (hpq : p ≤ q) (h1 : t.getD q 0 = 92) (h2 : t.getD (q + 1) 0 ≠ 10) (hall : ∀ i, p ≤ i → i < q → t.getD i 0 ≠ 92) :
    To (2 * t.size + 20) (forSearch cEsc t 1 p t.size false) fun m => Won m q (q + 2) #[some (q + 1), some (q + 2)] 1 1 := by
  refine forSearch_go (least := 2) (body := 9) (by decide +kernel) (by decide +kernel) (by omega) (by omega) (ls := t.size) (if_neg (by decide +kernel)) fun sn => ?_
  exact (esc_seek hq h1 h2 (q - p) p rfl (fun h => by cases h) rfl hpq hall).mono (by omega) fun _ x => x

theorem esc_lost {t : Array Nat} : ∀ (d s : Nat) {mu ou : Bool} {sn : Seen} {mk : Array (Option Nat)}, t.size - s = d → s ≤ t.size → (∀ i, s ≤ i → i < t.size → t.getD i 0 ≠ 92) →
    To (2 * d + 10) (S cEsc t t.size s t.size false mu 9 s s ou mk (-1) (-1) #[] none [F0 9 s ou] 1 none sn) Lost
  | 0, s, _, _, _, mk, hd, hs, hall => by
    refine to_one_end (k := 9) (.inr (.inl (by decide +kernel))) (by decide +kernel) (by omega) fun sn => ?_
    exact to_next_end (k := 8) (by omega) (to_end rfl)
  | d + 1, s, _, _, _, mk, hd, hs, hall => by
    have hne := hall s (Nat.le_refl _) (by omega)
    refine (to_one (k := 2 * d + 11) (b := false) (.inr (.inl (by decide +kernel))) (by decide +kernel) (by omega) ?_ fun sn => ?_)
    · have := Acc.lit (c := cEsc) (i := 9) (x := 92) (ch := t.getD s 0) (by decide +kernel) (by decide +kernel)
      rw [show (t.getD s 0 == 92) = false by simpa using hne] at this
      exact this
    refine to_next (k := 2 * d + 10) (by omega) (by decide +kernel) (by omega) (by omega) ?_
    exact esc_lost d (s + 1) (by omega) (by omega) fun i h1 h2 => hall i (by omega) h2

theorem esc_no {t : Array Nat} {p : Nat} (hp : p ≤ t.size) (hall : ∀ i, p ≤ i → i < t.size → t.getD i 0 ≠ 92) : To (2 * t.size + 20) (forSearch cEsc t 1 p t.size false) Lost := by
  by_cases hz : t.size - p < 2
  · exact forSearch_no (k := 2 * t.size + 19) (least := 2) (body := 9) (by decide +kernel) (.inr hz)
  refine forSearch_go (least := 2) (body := 9) (by decide +kernel) (by decide +kernel) (by omega) (by omega) (ls := t.size) (if_neg (by decide +kernel)) fun sn => ?_
  exact (esc_lost (t.size - p) p rfl hp hall).mono (by omega) fun _ x => x
end Mine
end

section
open PySem PySem.Sre
set_option maxRecDepth 100000
namespace Mine
/-! ### the quoted value -/
section
variable {c t : Array Nat} {lim st ls : Nat} {wh mu : Bool} {pc pos hd : Nat} {ou : Bool} {mk : Array (Option Nat)} {lm li : Int}
    {fr : List Sre.Frame} {wt : Nat} {sn : Seen} {k : Nat} {Q : M → Prop}

theorem to_repeat {skip : Nat} (h0 : c.getD pc 0 = 23) (h1 : c.getD (pc + 1) 0 = skip) (hp : pc < c.size) (hw : wt + 1 ≤ 16777216)
    (h : ∀ sn, To k (S c t lim st ls wh mu (pc + 1 + skip) pos pos ou mk lm li #[{ pc := pc, outer := none }] (some 0) ({ wait := .closeLoop, pc := pc, pos := pos, outermost := ou, loop := 0 } :: fr) (wt + 1) none sn) Q) :
    To (k + 1) (S c t lim st ls wh mu pc pos hd ou mk lm li #[] none fr wt none sn) Q := by
  refine to_ex hp ⟨sn.add 23, ?_⟩ h
  have hw' : ¬ (wt + 1 + 0 > 16777216) := by omega
  simp only [M.exec, M.word, Nat.add_zero, h0, h1, show ops[23]? = some Op.REPEAT from rfl]
  refine (if_neg hw').trans rfl

theorem to_until {lpc : Nat} {cn : Int} {bg : Option Nat} (h0 : c.getD pc 0 = 18) (hp : pc < c.size) (h2 : c.getD (lpc + 2) 0 = 0) (h3 : c.getD (lpc + 3) 0 = 4294967295) (hcn : -1 ≤ cn) (hb : (bg != some pos) = true)
    (hw : wt + 1 + (kp (some 0) mk lm li).marks.size ≤ 16777216)
    (h : ∀ sn, To k (S c t lim st ls wh mu (lpc + 4) pos pos ou mk lm li #[{ pc := lpc, count := cn + 1, began := some pos, outer := none }] (some 0)
      ({ wait := .maxMore, pc := pc + 1, pos := pos, outermost := ou, loop := 0, count := cn + 1, kept := kp (some 0) mk lm li, began := bg } :: fr) (wt + 1 + (kp (some 0) mk lm li).marks.size) none sn) Q) :
    To (k + 1) (S c t lim st ls wh mu pc pos hd ou mk lm li #[{ pc := lpc, count := cn, began := bg, outer := none }] (some 0) fr wt none sn) Q := by
  refine to_ex hp ⟨sn.add 18, ?_⟩ h
  have hw' : ¬ (wt + 1 + (kp (some 0) mk lm li).marks.size > 16777216) := by omega
  have e1 : ¬ (cn + 1 < ((0 : Nat) : Int)) := by omega
  simp only [M.exec, M.word, Nat.add_zero, h0, show ops[18]? = some Op.MAX_UNTIL from rfl]
  unfold M.until_
  simp only [M.loopAt]
  show (if cn + 1 < ((c.getD (lpc + 2) 0 : Nat) : Int) then _ else _) = _
  rw [h2, if_neg e1]
  show (if ((decide (cn + 1 < ((c.getD (lpc + 3) 0 : Nat) : Int)) || c.getD (lpc + 3) 0 == maxRepeat) && bg != some pos) = true then _ else _) = _
  rw [h3, hb, if_pos (by simp [maxRepeat])]
  exact (if_neg hw').trans rfl

theorem to_more_no {lpc pc' pos' : Nat} {ou' : Bool} {cn cn' : Int} {bg bg' : Option Nat} {kt : Sre.Kept} (hk : kt.whole = true) (hm : kt.marks ++ mk.extract kt.marks.size mk.size = mk) (hw : wt - (1 + kt.marks.size) + 1 ≤ 16777216)
    (h : To k (S c t lim st ls wh mu pc' pos' pos' ou' mk kt.lastmark kt.lastindex #[{ pc := lpc, count := cn' - 1, began := bg', outer := none }] none
      ({ wait := .maxTail, pc := pc', pos := pos', outermost := ou', loop := 0, count := cn', kept := kp none mk kt.lastmark kt.lastindex } :: fr) (wt - (1 + kt.marks.size) + 1) none sn) Q) :
    To (k + 1) (S c t lim st ls wh mu pc pos hd ou mk lm li #[{ pc := lpc, count := cn, began := bg, outer := none }] (some 0)
      ({ wait := .maxMore, pc := pc', pos := pos', outermost := ou', loop := 0, count := cn', kept := kt, began := bg' } :: fr) wt (some false) sn) Q := by
  refine to_res ?_
  have hw' : ¬ (wt - (1 + kt.marks.size) + 1 + 0 > 16777216) := by omega
  have e : M.resume (S c t lim st ls wh mu pc' pos' hd ou' mk lm li #[{ pc := lpc, count := cn, began := bg, outer := none }] (some 0) fr (wt - (1 + kt.marks.size)) none sn)
      { wait := .maxMore, pc := pc', pos := pos', outermost := ou', loop := 0, count := cn', kept := kt, began := bg' } false
      = S c t lim st ls wh mu pc' pos' pos' ou' mk kt.lastmark kt.lastindex #[{ pc := lpc, count := cn' - 1, began := bg', outer := none }] none
      ({ wait := .maxTail, pc := pc', pos := pos', outermost := ou', loop := 0, count := cn', kept := kp none mk kt.lastmark kt.lastindex } :: fr) (wt - (1 + kt.marks.size) + 1) none sn := by
    refine (if_neg hw').trans ?_
    have : (if kt.whole = true then kt.marks ++ mk.extract kt.marks.size mk.size else mk) = mk := by rw [if_pos hk]; exact hm
    show S c t lim st ls wh mu pc' pos' pos' ou' (if kt.whole = true then kt.marks ++ mk.extract kt.marks.size mk.size else mk) kt.lastmark kt.lastindex #[{ pc := lpc, count := cn' - 1, began := bg', outer := none }] none
      ({ wait := .maxTail, pc := pc', pos := pos', outermost := ou', loop := 0, count := cn', kept := kp none (if kt.whole = true then kt.marks ++ mk.extract kt.marks.size mk.size else mk) kt.lastmark kt.lastindex } :: fr) (wt - (1 + kt.marks.size) + 1) none sn = _
    rw [this]
  exact e ▸ h
end

theorem acc_quo_sp (i : Nat) (hi : i = 11 ∨ i = 23) (ch : Nat) : Acc cQuo i ch (isSp ch) := by
  have e : (if Unicode.isSpace ch then true else !true) = isSp ch := by cases h : Unicode.isSpace ch <;> simp [isSp, h]
  rcases hi with rfl | rfl
  · have h : InS cQuo ch 72 13 true _ := InS.cat (by decide +kernel) (by decide +kernel) (InS.fail (by decide +kernel))
    have : Acc cQuo 11 ch _ := Acc.in_ (by decide +kernel) (show InS cQuo ch cQuo.size 13 true _ by rw [show cQuo.size = 72 by decide +kernel]; exact h)
    exact e ▸ this
  · have h : InS cQuo ch 72 25 true _ := InS.cat (by decide +kernel) (by decide +kernel) (InS.fail (by decide +kernel))
    have : Acc cQuo 23 ch _ := Acc.in_ (by decide +kernel) (show InS cQuo ch cQuo.size 25 true _ by rw [show cQuo.size = 72 by decide +kernel]; exact h)
    exact e ▸ this
theorem acc_quo_q (i : Nat) (hi : i = 37 ∨ i = 57) (ch : Nat) : Acc cQuo i ch (isQ ch) := by
  have e : (if ch == 34 then !true else if ch == 92 then !true else !(!true)) = isQ ch := by
    unfold isQ
    cases (ch == 34) <;> cases (ch == 92) <;> rfl
  rcases hi with rfl | rfl
  · have h : InS cQuo ch 72 39 true _ := InS.neg (by decide +kernel) (InS.lit (x := 34) (by decide +kernel) (by decide +kernel) (InS.lit (x := 92) (by decide +kernel) (by decide +kernel) (InS.fail (by decide +kernel))))
    have : Acc cQuo 37 ch _ := Acc.in_ (by decide +kernel) (show InS cQuo ch cQuo.size 39 true _ by rw [show cQuo.size = 72 by decide +kernel]; exact h)
    exact e ▸ this
  · have h : InS cQuo ch 72 59 true _ := InS.neg (by decide +kernel) (InS.lit (x := 34) (by decide +kernel) (by decide +kernel) (InS.lit (x := 92) (by decide +kernel) (by decide +kernel) (InS.fail (by decide +kernel))))
    have : Acc cQuo 57 ch _ := Acc.in_ (by decide +kernel) (show InS cQuo ch cQuo.size 59 true _ by rw [show cQuo.size = 72 by decide +kernel]; exact h)
    exact e ▸ this

/-- from p on stand escaped signs, each with a run of plain ones behind it, up to the quotation mark at e -/
inductive QBody (t : Array Nat) (e : Nat) : Nat → Prop where
  | done : e < t.size → t.getD e 0 = 34 → QBody t e e
  | more {p n : Nat} : t.getD p 0 = 92 → t.getD (p + 1) 0 ≠ 10 → (∀ i < n, isQ (t.getD (p + 2 + i) 0) = true) → isQ (t.getD (p + 2 + n) 0) = false → QBody t e (p + 2 + n) → QBody t e p
theorem QBody.le {t : Array Nat} {e p : Nat} (h : QBody t e p) : p ≤ e ∧ e < t.size := by
  induction h with
  | done h _ => exact ⟨Nat.le_refl _, h⟩
  | more _ _ _ _ _ ih => omega

theorem quo_loop {t : Array Nat} {e q st : Nat} (hT : t.size ≤ 1000000) : ∀ (d p : Nat) {hd : Nat} {cn : Int} {bg : Option Nat} {fr : List Sre.Frame} {wt : Nat} {sn : Seen}, e - p = d → QBody t e p → -1 ≤ cn → (∀ b, bg = some b → b < p) → (∀ f ∈ fr, handsOn f.wait = true) → wt + 4 * (e - p) + 10 ≤ 16777216 →
    To (4 * (e - p) + fr.length + 20 + 2 * (e - p)) (S cQuo t t.size st (t.size - 2) false false 66 p hd true #[some q, none] 0 (-1) #[{ pc := 46, count := cn, began := bg, outer := none }] (some 0) fr wt none sn) fun m => Won m st (e + 1) #[some q, some e] 1 1 := by
  intro d
  induction d using Nat.strongRecOn with
  | _ d ih =>
    intro p hd cn bg fr wt sn hd' hB hcn hbg hfr hw
    have hle := hB.le
    have hb : (bg != some p) = true := by
      cases bg with
      | none => rfl
      | some b =>
        have : b ≠ p := by have := hbg b rfl; omega
        simpa using this
    have hks : (kp (some 0) #[some q, none] 0 (-1)).marks.size = 1 := rfl
    cases hB with
    | done he h34 =>
      refine To.mono (a := fr.length + 12) ?_ (by omega) fun _ x => x
      refine to_until (k := fr.length + 11) (by decide +kernel) (by decide +kernel) (by decide +kernel) (by decide +kernel) hcn hb (by rw [hks]; omega) fun sn => ?_
      refine to_one (k := fr.length + 10) (b := false) (.inr (.inl (by decide +kernel))) (by decide +kernel) (by omega) ?_ fun sn => ?_
      · have := Acc.lit (c := cQuo) (i := 50) (x := 92) (ch := t.getD e 0) (by decide +kernel) (by decide +kernel)
        rw [h34] at this ⊢
        exact this
      refine to_more_no (k := fr.length + 9) rfl rfl (by rw [hks]; omega) ?_
      refine to_mark (k := fr.length + 8) (i := 1) (by decide +kernel) (by decide +kernel) (by decide +kernel) (by show (1 : Int) ≤ 0 + 1; decide) fun sn => ?_
      refine to_one (k := fr.length + 7) (b := true) (.inr (.inl (by decide +kernel))) (by decide +kernel) (by omega) (by rw [h34]; exact Acc.lit (x := 34) (by decide +kernel) (by decide +kernel)) fun sn => ?_
      simp only [if_true, show itemWidth cQuo (66 + 1 + 2) = 2 by decide +kernel]
      refine to_success (k := fr.length + 6) (by decide +kernel) (by decide +kernel) (by intro h; cases h) (by intro h; cases h) fun sn => ?_
      refine (to_won _ ?_).mono (by simp) fun m h => h
      intro f hf
      rcases List.mem_cons.mp hf with rfl | hf
      · rfl
      · exact hfr f hf
    | @more _ n h92 h10 hrun hend hB' =>
      have hle' := hB'.le
      refine To.mono (a := (4 * (e - (p + 2 + n)) + (fr.length + 2) + 20 + 2 * (e - (p + 2 + n))) + 1 + 1 + 1 + 1) ?_ (by omega) fun _ x => x
      refine to_until (by decide +kernel) (by decide +kernel) (by decide +kernel) (by decide +kernel) hcn hb (by rw [hks]; omega) fun sn => ?_
      refine to_one (b := true) (.inr (.inl (by decide +kernel))) (by decide +kernel) (by omega) (by rw [h92]; exact Acc.lit (x := 92) (by decide +kernel) (by decide +kernel)) fun sn => ?_
      simp only [if_true, show itemWidth cQuo (46 + 4) = 2 by decide +kernel]
      refine to_one (b := true) (.inl (by decide +kernel)) (by decide +kernel) (by omega) ?_ fun sn => ?_
      · have := Acc.any (c := cQuo) (i := 52) (ch := t.getD (p + 1) 0) (by decide +kernel)
        rw [show (t.getD (p + 1) 0 != 10) = true by simpa using h10] at this
        exact this
      simp only [if_true, show itemWidth cQuo (46 + 4 + 2) = 1 by decide +kernel]
      refine to_rep1 (f := isQ) (least := 0) (most := 4294967295) (n := n) (skip := 12) (by decide +kernel) (by decide +kernel) (by decide +kernel) (by decide +kernel) (by decide +kernel) (acc_quo_q 57 (.inr rfl)) ?_ (by omega) (by omega) (by omega) (by rw [hks]; omega) fun sn => ?_
      · rw [show min 4294967295 (t.size - (p + 1 + 1)) = t.size - (p + 2) by omega]
        exact cnt_eq (by omega) hrun (.inr hend)
      refine To.mono (ih (e - (p + 2 + n)) (by omega) (p + 2 + n) rfl hB' ?_ ?_ ?_ ?_) ?_ fun _ x => x
      · omega
      · intro b hb; cases hb; omega
      · intro f hf
        rcases List.mem_cons.mp hf with rfl | hf
        · rfl
        rcases List.mem_cons.mp hf with rfl | hf
        · rfl
        exact hfr f hf
      · rw [hks]; omega
      · simp only [List.length_cons]; omega

/-- =, a quotation mark, escaped and plain signs, a quotation mark -/
theorem quo_yes {t : Array Nat} {e n : Nat} (hT : t.size ≤ 1000000) (h0 : t.getD 0 0 = 61) (h1 : t.getD 1 0 = 34) (hrun : ∀ i < n, isQ (t.getD (2 + i) 0) = true) (hend : isQ (t.getD (2 + n) 0) = false) (hB : QBody t e (2 + n)) :
    To (6 * t.size + 60) (forSearch cQuo t 1 0 t.size false) fun m => Won m 0 (e + 1) #[some 2, some e] 1 1 := by
  have hle := hB.le
  refine forSearch_go (least := 3) (body := 5) (ls := t.size - 2) (by decide +kernel) (by decide +kernel) (by omega) (by omega) (by rw [if_pos (by decide +kernel)]; omega) fun sn => ?_
  rw [show 6 * t.size + 60 = (6 * t.size + 51) + 1 + 1 + 1 + 1 + 1 + 1 + 1 + 1 + 1 by omega]
  refine to_at0 (by decide +kernel) (by decide +kernel) (by decide +kernel) rfl fun sn => ?_
  refine to_rep1 (f := isSp) (least := 0) (most := 4294967295) (n := 0) (skip := 9) (by decide +kernel) (by decide +kernel) (by decide +kernel) (by decide +kernel) (by decide +kernel) (acc_quo_sp 11 (.inl rfl)) ?_ (by omega) (by omega) (by omega) (by simp) fun sn => ?_
  · exact cnt_eq (by omega) (fun i hi => by omega) (.inr (by rw [h0]; exact sp61))
  refine to_one (b := true) (.inr (.inl (by decide +kernel))) (by decide +kernel) (by omega) (by rw [h0]; exact Acc.lit (x := 61) (by decide +kernel) (by decide +kernel)) fun sn => ?_
  simp only [if_true, show itemWidth cQuo (7 + 1 + 9) = 2 by decide +kernel]
  refine to_rep1 (f := isSp) (least := 0) (most := 4294967295) (n := 0) (skip := 9) (by decide +kernel) (by decide +kernel) (by decide +kernel) (by decide +kernel) (by decide +kernel) (acc_quo_sp 23 (.inr rfl)) ?_ (by omega) (by omega) (by omega) (by simp) fun sn => ?_
  · exact cnt_eq (by omega) (fun i hi => by omega) (.inr (by show isSp (t.getD 1 0) = false; rw [h1]; decide +kernel))
  refine to_one (b := true) (.inr (.inl (by decide +kernel))) (by decide +kernel) (by omega) (by rw [show 0 + 0 + 1 + 0 = 1 by rfl, h1]; exact Acc.lit (x := 34) (by decide +kernel) (by decide +kernel)) fun sn => ?_
  simp only [if_true, show itemWidth cQuo (7 + 1 + 9 + 2 + 1 + 9) = 2 by decide +kernel]
  refine to_mark (i := 0) (by decide +kernel) (by decide +kernel) (by decide +kernel) (by decide) fun sn => ?_
  refine to_rep1 (f := isQ) (least := 0) (most := 4294967295) (n := n) (skip := 12) (by decide +kernel) (by decide +kernel) (by decide +kernel) (by decide +kernel) (by decide +kernel) (acc_quo_q 37 (.inl rfl)) ?_ (by omega) (by omega) (by omega) (by simp) fun sn => ?_
  · rw [show min 4294967295 (t.size - (0 + 0 + 1 + 0 + 1)) = t.size - 2 by omega]
    exact cnt_eq (by omega) hrun (.inr hend)
  refine to_repeat (skip := 19) (by decide +kernel) (by decide +kernel) (by decide +kernel) (by simp) fun sn => ?_
  refine To.mono (quo_loop hT (e - (2 + n)) (2 + n) rfl hB (by decide) (fun b hb => by cases hb) ?_ ?_) ?_ fun _ x => x
  · intro f hf
    simp at hf
    rcases hf with rfl | rfl | rfl | rfl | rfl <;> rfl
  · simp; omega
  · simp; omega

theorem quo_no {t : Array Nat} (hT : t.size ≤ 16777216) (h : t.size < 3 ∨ (t.getD 0 0 ≠ 61 ∧ isSp (t.getD 0 0) = false) ∨ (t.getD 0 0 = 61 ∧ t.getD 1 0 ≠ 34 ∧ isSp (t.getD 1 0) = false)) :
    To (2 * t.size + 20) (forSearch cQuo t 1 0 t.size false) Lost := by
  by_cases hz : t.size < 3
  · exact (forSearch_no (k := 2 * t.size + 19) (least := 3) (body := 5) (by decide +kernel) (.inr (by omega)))
  have h := h.resolve_left hz
  refine (forSearch_go (k := 7 + (2 * (t.size - 2) + 2)) (least := 3) (body := 5) (ls := t.size - 2) (by decide +kernel) (by decide +kernel) (by omega) (by omega) (by rw [if_pos (by decide +kernel)]; omega) fun sn => ?_).mono (by omega) fun _ x => x
  rw [show 7 + (2 * (t.size - 2) + 2) = (2 * (t.size - 2) + 2 + 1 + 1 + 1 + 1 + 1) + 1 + 1 by omega]
  have c0 : cQuo.getD (7 + 2) 0 = 0 := by decide +kernel
  have c1 : cQuo.getD (19 + 2) 0 = 0 := by decide +kernel
  refine to_at0 (by decide +kernel) (by decide +kernel) (by decide +kernel) rfl fun sn => ?_
  refine to_rep1 (f := isSp) (least := 0) (most := 4294967295) (n := 0) (skip := 9) (by decide +kernel) (by decide +kernel) (by decide +kernel) (by decide +kernel) (by decide +kernel) (acc_quo_sp 11 (.inl rfl)) ?_ (by omega) (by omega) (by omega) (by simp) fun sn => ?_
  · refine cnt_eq (by omega) (fun i hi => by omega) (.inr ?_)
    rcases h with h | h
    · exact h.2
    · show isSp (t.getD 0 0) = false
      rw [h.1]; exact sp61
  rcases h with h | h
  · refine To.mono (a := (2 * (t.size - 2) + 2) + 1 + 1) ?_ (by omega) fun _ x => x
    refine to_one (b := false) (.inr (.inl (by decide +kernel))) (by decide +kernel) (by omega) ?_ fun sn => ?_
    · have := Acc.lit (c := cQuo) (i := 17) (x := 61) (ch := t.getD 0 0) (by decide +kernel) (by decide +kernel)
      rw [show (t.getD 0 0 == 61) = false by simpa using h.1] at this
      exact this
    refine to_back_no (n := (0 : Nat)) (by rw [c0]; decide) rfl ?_
    exact fail_rest (by decide +kernel) (by decide +kernel) (by decide +kernel) (by decide +kernel) (by simp) (by simp) (t.size - 2) 0 (by simp)
  · refine to_one (b := true) (.inr (.inl (by decide +kernel))) (by decide +kernel) (by omega) (by rw [h.1]; exact Acc.lit (x := 61) (by decide +kernel) (by decide +kernel)) fun sn => ?_
    simp only [if_true, show itemWidth cQuo (7 + 1 + 9) = 2 by decide +kernel]
    refine to_rep1 (f := isSp) (least := 0) (most := 4294967295) (n := 0) (skip := 9) (by decide +kernel) (by decide +kernel) (by decide +kernel) (by decide +kernel) (by decide +kernel) (acc_quo_sp 23 (.inr rfl)) ?_ (by omega) (by omega) (by omega) (by simp) fun sn => ?_
    · exact cnt_eq (by omega) (fun i hi => by omega) (.inr h.2.2)
    refine to_one (b := false) (.inr (.inl (by decide +kernel))) (by decide +kernel) (by omega) ?_ fun sn => ?_
    · have := Acc.lit (c := cQuo) (i := 29) (x := 34) (ch := t.getD 1 0) (by decide +kernel) (by decide +kernel)
      rw [show (t.getD 1 0 == 34) = false by simpa using h.2.1] at this
      exact this
    refine to_back_no (n := (0 : Nat)) (by rw [c1]; decide) rfl ?_
    refine to_back_no (n := (0 : Nat)) (by rw [c0]; decide) rfl ?_
    exact fail_rest (by decide +kernel) (by decide +kernel) (by decide +kernel) (by decide +kernel) (by simp) (by simp) (t.size - 2) 0 (by simp)
end Mine
end

section
open PySem PySem.W PyProof.Rows PySem.Calls
open PySem.Builtin.Re
set_option maxRecDepth 100000
set_option maxHeartbeats 4000000
namespace Mine
open PySem.Sre (M)

/-! ### the machine's run as a tree -/
theorem drive_to {Mo : Model} {A : Around} {E : Value → Shared → Prop} {s : Shared} {Q : Sre.M → Shared → Prop} : ∀ (turns n : Nat) (m : Sre.M), 1 ≤ turns → n ≤ 4 * turns → (iter n m).outcome.isSome = true → Q (iter n m) s →
    wpAny Mo A (reDrive turns m) Q E s
  | 0, _, _, h, _, _, _ => by omega
  | turns + 1, n, m, _, hn, ho, hq => by
    unfold reDrive
    rw [show reTurnSteps = 4 from rfl, runFor_eq]
    simp only []
    by_cases h4 : n ≤ 4
    · have e : iter 4 m = iter n m := by
        rw [show (4 : Nat) = n + (4 - n) by omega, iter_add, iter_done ho]
      rw [e, if_pos ho]
      exact wpAny_pure hq
    · have e : iter n m = iter (n - 4) (iter 4 m) := by rw [← iter_add]; congr 1; omega
      by_cases h : (iter 4 m).outcome.isSome = true
      · rw [if_pos h]
        rw [e, iter_done h] at hq
        exact wpAny_pure hq
      · rw [if_neg h]
        rw [e] at hq ho
        exact wpAny_bind (wpAny_rule (drive_to turns (n - 4) _ (by omega) (by omega) ho hq))

/-- a run that is known to end: what is asked behind it, told by the outcome -/
theorem run_end {Mo : Model} {A : Around} {E : Value → Shared → Prop} {s : Shared} {Q : Option Sre.M → Shared → Prop} {k : Nat} {m : Sre.M} {P : Sre.M → Prop} (h : To k m P) (hk : k ≤ 1000000000)
    (hP : ∀ m, P m → (m.outcome = some .matched ∧ Q (some m) s) ∨ (m.outcome = some .failed ∧ Q none s)) : wpAny Mo A (reRunToEnd m) Q E s := by
  obtain ⟨n, hn, hp⟩ := h
  have hso := hP _ hp
  unfold reRunToEnd
  refine wpAny_bind (drive_to (2 ^ 64) n m (by decide) (by omega) (by rcases hso with ⟨e, _⟩ | ⟨e, _⟩ <;> rw [e] <;> rfl) ?_)
  refine wpAny_bind (wpAny_mono (wpAny_forIn_list (Q := fun _ s' => s' = s) _ (fun _ _ s' => s' = s) ?turn (fun _ _ h => h) _ _ rfl) ?fin fun _ _ x => x)
  case turn =>
    rintro x rest b s' rfl
    split
    · exact wpAny_bind (wpAny_rule (wpAny_pure rfl))
    · exact wpAny_pure rfl
  case fin =>
    rintro _ s' rfl
    rcases hso with ⟨e, q⟩ | ⟨e, q⟩
    · rw [e]; exact wpAny_pure q
    · rw [e]; exact wpAny_pure q

theorem run_won {Mo : Model} {A : Around} {E : Value → Shared → Prop} {s : Shared} {Q : Option Sre.M → Shared → Prop} {k : Nat} {m : Sre.M} {st hd : Nat} {mk : Array (Option Nat)} {lm li : Int} (h : To k m fun m => Won m st hd mk lm li) (hk : k ≤ 1000000000)
    (hq : ∀ m, Won m st hd mk lm li → Q (some m) s) : wpAny Mo A (reRunToEnd m) Q E s :=
  run_end h hk fun m h => .inl ⟨h.outcome, hq m h⟩
theorem run_lost {Mo : Model} {A : Around} {E : Value → Shared → Prop} {s : Shared} {Q : Option Sre.M → Shared → Prop} {k : Nat} {m : Sre.M} (h : To k m Lost) (hk : k ≤ 1000000000)
    (hq : Q none s) : wpAny Mo A (reRunToEnd m) Q E s :=
  run_end h hk fun _ h => .inr ⟨h, hq⟩

/-! ### the objects -/
structure IsPat (h : Heap) (a : Addr) (code : Array Nat) (g : Nat) : Prop where
  ex : ∃ o fs ct oc items n, h.get? a = some o ∧ o.cls = .type "re.Pattern" ∧ o.dict = none ∧ o.data = .fields fs ∧ fs.getD 2 .none = .int g 0 ∧ fs.getD 5 .none = .ref ct ∧ fs.getD 6 .none = .int 0 0 ∧
    h.get? ct = some oc ∧ oc.data = .seq items n ∧ (items.map reRawOf).map (·.toNat) = code
structure IsMatch (h : Heap) (a : Addr) (x : Str) (spans : List Int) : Prop where
  ex : ∃ o fs tk tp ot items n, h.get? a = some o ∧ o.cls = .type "re.Match" ∧ o.dict = none ∧ o.data = .fields fs ∧ fs[0]? = some (.str x tk) ∧ fs.getD 5 .none = .ref tp ∧
    h.get? tp = some ot ∧ ot.data = .seq items n ∧ items.map reRawOf = spans.toArray
theorem IsPat.keeps {h h' : Heap} {a : Addr} {c : Array Nat} {g : Nat} (x : IsPat h a c g) (k : ∀ b o, h.get? b = some o → h'.get? b = some o) : IsPat h' a c g := by
  obtain ⟨o, fs, ct, oc, items, n, h1, h2, h3, h4, h5, h6, h7, h8, r⟩ := x.ex
  exact ⟨o, fs, ct, oc, items, n, k _ _ h1, h2, h3, h4, h5, h6, h7, k _ _ h8, r⟩
theorem IsMatch.keeps {h h' : Heap} {a : Addr} {x : Str} {l : List Int} (m : IsMatch h a x l) (k : ∀ b o, h.get? b = some o → h'.get? b = some o) : IsMatch h' a x l := by
  obtain ⟨o, fs, tk, tp, ot, items, n, h1, h2, h3, h4, h5, h6, h7, r⟩ := m.ex
  exact ⟨o, fs, tk, tp, ot, items, n, k _ _ h1, h2, h3, h4, h5, h6, k _ _ h7, r⟩
theorem IsPat.type {s : Shared} {a : Addr} {c : Array Nat} {g : Nat} (x : IsPat s.heap a c g) : s.TypeIs (.ref a) "re.Pattern" := by
  obtain ⟨o, fs, ct, oc, items, n, h1, h2, r⟩ := x.ex
  exact ⟨o, h1, h2⟩
theorem IsMatch.type {s : Shared} {a : Addr} {x : Str} {l : List Int} (m : IsMatch s.heap a x l) : s.TypeIs (.ref a) "re.Match" := by
  obtain ⟨o, fs, tk, tp, ot, items, n, h1, h2, r⟩ := m.ex
  exact ⟨o, h1, h2⟩

section
variable {prog : Program} {w : World} {A : Around} {E : Value → Shared → Prop} {s : Shared} {a : Addr} {c : Array Nat} {g : Nat} {x : Str} {tk : Tok}

theorem rawItems {Mo : Model} {ct : Addr} {oc : Obj} {items : Array Value} {n : Nat} {Q : Array Int → Shared → Prop} (h1 : s.heap.get? ct = some oc) (h2 : oc.data = .seq items n) (h : Q (items.map reRawOf) s) : wpAny Mo A (reRawItems (.ref ct)) Q E s := by
  unfold reRawItems
  exact wpAny_bind (wpAny_seqItems h1 h2 (wpAny_pure h))

theorem named3 (id f : String) (v : Value) : reNamed id f ["string", "pos", "endpos"] 1 [v] [] = pure [some v, none, none] := by rfl

theorem target {id f : String} {Q : ReTarget → Shared → Prop} (hp : IsPat s.heap a c g) (hx : x.cps.size ≤ 1000000)
    (h : Q { pattern := .ref a, string := .str x tk, code := c, text := x.cps, kind := 0, groups := g, pos := 0, lim := x.cps.size } s) :
    wpAny (model prog w) A (reTarget id f ⟨[.ref a, .str x tk], []⟩) Q E s := by
  obtain ⟨o, fs, ct, oc, items, n, h1, h2, h3, h4, h5, h6, h7, h8, h9, rfl⟩ := hp.ex
  unfold reTarget
  simp only [named3]
  refine wpAny_bind (wpAny_pure ?_)
  refine wpAny_bind (wpAny_pure ?_)
  refine wpAny_bind (wpAny_pure ?_)
  refine wpAny_bind (wpAny_fieldsOf h1 h4 ?_)
  refine wpAny_bind (m := reTextOf (.str x tk)) (wpAny_of_eq (a := (x.cps, 0)) rfl ?_)
  simp only [h7, h6, h5]
  show wpAny _ _ (reNoCollectionInside (.str x tk) 0 >>= _) _ _ _
  refine wpAny_bind (wpAny_of_eq (a := ()) rfl ?_)
  refine wpAny_bind (rawItems h8 h9 ?_)
  refine wpAny_pure ?_
  have e1 : min (0 : Int).toNat x.cps.size = 0 := by simp
  have e2 : min ((2 : Int) ^ 63 - 1).toNat x.cps.size = x.cps.size := by
    have : ((2 : Int) ^ 63 - 1).toNat = 9223372036854775807 := by decide
    omega
  show Q { pattern := .ref a, string := .str x tk, code := (items.map reRawOf).map (·.toNat), text := x.cps, kind := 0, groups := reRawNat (.int g 0), pos := min (0 : Int).toNat x.cps.size, lim := min ((2 : Int) ^ 63 - 1).toNat x.cps.size } s
  rw [e1, e2]
  exact h
end
end Mine
end

section
open PySem PySem.W PyProof.Rows PySem.Calls
open PySem.Builtin.Re
set_option maxRecDepth 100000
set_option maxHeartbeats 4000000
namespace Mine
open PySem.Sre (M)

abbrev tupO (vs : List Value) : Obj := { cls := .type "tuple", data := .seq vs.toArray }
abbrev lisO (vs : List Value) (n : Nat) : Obj := { cls := .type "list", data := .seq vs.toArray n }
abbrev matO (x : Str) (tk : Tok) (pat : Addr) (lim : Nat) (li : Int) (tp : Addr) : Obj :=
  { cls := .type "re.Match", data := .fields #[.str x tk, .ref pat, .int 0 0, .int lim 0, .int li 0, .ref tp] }
/-- a match's spans, as the tuple holds them -/
abbrev spanO (l : List Nat) : Obj := tupO (l.map fun (n : Nat) => Value.int n 0)
/-- the heap behind a new match -/
abbrev mHeap (h : Heap) (x : Str) (tk : Tok) (pat : Addr) (lim : Nat) (li : Int) (l : List Nat) : Heap := (h.push (spanO l)).push (matO x tk pat lim li h.objs.size)

theorem isMatch_of {h : Heap} {a tp pat : Addr} {x : Str} {tk : Tok} {lim : Nat} {li : Int} {l : List Nat} (h1 : h.get? a = some (matO x tk pat lim li tp)) (h2 : h.get? tp = some (spanO l)) : IsMatch h a x (l.map fun (n : Nat) => (n : Int)) :=
  ⟨_, _, tk, tp, _, _, _, h1, rfl, rfl, rfl, rfl, rfl, h2, rfl, by simp [reRawOf]⟩

section
variable {prog : Program} {w : World} {A : Around} {E : Value → Shared → Prop} {s : Shared} {a : Addr} {c : Array Nat} {g : Nat} {x : Str} {tk : Tok}

theorem newMatch1 {Mo : Model} {lim st hd b e : Nat} {m : M} {li : Int} {Q : Value → Shared → Prop} (hm : Won m st hd #[some b, some e] 1 li) (hbe : b ≤ e)
    (h : Q (.ref (s.heap.objs.size + 1)) { s with heap := mHeap s.heap x tk a lim li [st, hd, b, e] }) : wpAny Mo A (reNewMatch (.ref a) (.str x tk) 1 0 lim m) Q E s := by
  unfold reNewMatch
  have e1 : (decide (((2 * 0 + 1 : Nat) : Int) ≤ 1) && decide (e < b) || false) = false := by
    simp; omega
  simp only [hm.marks, hm.lastmark, hm.start, hm.handed, hm.lastindex]
  split
  · rename_i h'
    exact absurd (e1.symm.trans h') Bool.false_ne_true
  refine wpAny_bind (wpAny_newObj_type ?_ (by show _ ≤ _; simp [sizeLine]))
  refine wpAny_newObj_type ?_ (by show _ ≤ _; simp [sizeLine])
  rw [Heap.size_push]
  exact h

theorem newMatch0 {Mo : Model} {lim st hd : Nat} {m : M} {lm li : Int} {Q : Value → Shared → Prop} (hm : Won m st hd #[] lm li)
    (h : Q (.ref (s.heap.objs.size + 1)) { s with heap := mHeap s.heap x tk a lim li [st, hd] }) : wpAny Mo A (reNewMatch (.ref a) (.str x tk) 0 0 lim m) Q E s := by
  unfold reNewMatch
  simp only [hm.start, hm.handed, hm.lastindex]
  rw [if_neg (by exact Bool.false_ne_true)]
  refine wpAny_bind (wpAny_newObj_type ?_ (by show _ ≤ _; simp [sizeLine]))
  refine wpAny_newObj_type ?_ (by show _ ≤ _; simp [sizeLine])
  rw [Heap.size_push]
  exact h

/-! ### search, fullmatch -/
theorem search_won {k st hd b e : Nat} {li : Int} {Q : Value → Shared → Prop} (hp : IsPat s.heap a c 1) (hx : x.cps.size ≤ 1000000) (hr : To k (Sre.forSearch c x.cps 1 0 x.cps.size false) fun m => Won m st hd #[some b, some e] 1 li) (hk : k ≤ 1000000000) (hbe : b ≤ e)
    (h : Q (.ref (s.heap.objs.size + 1)) { s with heap := mHeap s.heap x tk a x.cps.size li [st, hd, b, e] }) :
    wpAny (model prog w) A (call (.builtin "re.Pattern.search") [.ref a, .str x tk]) Q E s := by
  refine wpAny_call_entry slot_search hp.type entry_search ?_ (args_search _ _)
  unfold Builtin.«re.Pattern.search»
  refine wpAny_bind (target hp hx ?_)
  unfold reAnswer
  refine wpAny_bind (run_won hr hk fun m hm => ?_)
  exact wpAny_bind (newMatch1 hm hbe (wpAny_pure ⟨_, rfl, h⟩))
theorem search_lost {k : Nat} {Q : Value → Shared → Prop} (hp : IsPat s.heap a c g) (hx : x.cps.size ≤ 1000000) (hr : To k (Sre.forSearch c x.cps g 0 x.cps.size false) Lost) (hk : k ≤ 1000000000)
    (h : Q .none s) : wpAny (model prog w) A (call (.builtin "re.Pattern.search") [.ref a, .str x tk]) Q E s := by
  refine wpAny_call_entry slot_search hp.type entry_search ?_ (args_search _ _)
  unfold Builtin.«re.Pattern.search»
  refine wpAny_bind (target hp hx ?_)
  unfold reAnswer
  refine wpAny_bind (run_lost hr hk ?_)
  exact wpAny_pure ⟨_, rfl, h⟩
theorem full_won {k st hd : Nat} {lm li : Int} {Q : Value → Shared → Prop} (hp : IsPat s.heap a c 0) (hx : x.cps.size ≤ 1000000) (hr : To k (Sre.forMatch c x.cps 0 0 x.cps.size true false) fun m => Won m st hd #[] lm li) (hk : k ≤ 1000000000)
    (h : Q (.ref (s.heap.objs.size + 1)) { s with heap := mHeap s.heap x tk a x.cps.size li [st, hd] }) :
    wpAny (model prog w) A (call (.builtin "re.Pattern.fullmatch") [.ref a, .str x tk]) Q E s := by
  refine wpAny_call_entry slot_full hp.type entry_full ?_ (args_full _ _)
  unfold Builtin.«re.Pattern.fullmatch»
  refine wpAny_bind (target hp hx ?_)
  unfold reAnswer
  refine wpAny_bind (run_won hr hk fun m hm => ?_)
  exact wpAny_bind (newMatch0 hm (wpAny_pure ⟨_, rfl, h⟩))
theorem full_lost {k : Nat} {Q : Value → Shared → Prop} (hp : IsPat s.heap a c g) (hx : x.cps.size ≤ 1000000) (hr : To k (Sre.forMatch c x.cps g 0 x.cps.size true false) Lost) (hk : k ≤ 1000000000)
    (h : Q .none s) : wpAny (model prog w) A (call (.builtin "re.Pattern.fullmatch") [.ref a, .str x tk]) Q E s := by
  refine wpAny_call_entry slot_full hp.type entry_full ?_ (args_full _ _)
  unfold Builtin.«re.Pattern.fullmatch»
  refine wpAny_bind (target hp hx ?_)
  unfold reAnswer
  refine wpAny_bind (run_lost hr hk ?_)
  exact wpAny_pure ⟨_, rfl, h⟩
end
end Mine
end

section
open PySem PySem.W PyProof.Rows PySem.Calls
open PySem.Builtin.Re
set_option maxRecDepth 100000
set_option maxHeartbeats 4000000
namespace Mine
open PySem.Sre (M)
theorem pa_match : PlainAttrs "re.Match" :=
  ⟨⟨"object.__getattribute__", by rw [typeLookup_type, builtinLookup_eq_fast]; kernel_rfl, by decide +kernel⟩, by rw [typeLookup_type, builtinLookup_eq_fast]; kernel_rfl⟩
theorem pa_pat : PlainAttrs "re.Pattern" :=
  ⟨⟨"object.__getattribute__", by rw [typeLookup_type, builtinLookup_eq_fast]; kernel_rfl, by decide +kernel⟩, by rw [typeLookup_type, builtinLookup_eq_fast]; kernel_rfl⟩
theorem ty_search : typeOf (.builtin "re.Pattern.search") = pure (.type "method_descriptor") := by show builtinType _ = _; rw [builtinType_eq_fast]; kernel_rfl
theorem ty_full : typeOf (.builtin "re.Pattern.fullmatch") = pure (.type "method_descriptor") := by show builtinType _ = _; rw [builtinType_eq_fast]; kernel_rfl
theorem ty_sub : typeOf (.builtin "re.Pattern.sub") = pure (.type "method_descriptor") := by show builtinType _ = _; rw [builtinType_eq_fast]; kernel_rfl
theorem ty_subn : typeOf (.builtin "re.Pattern.subn") = pure (.type "method_descriptor") := by show builtinType _ = _; rw [builtinType_eq_fast]; kernel_rfl
theorem ty_group : typeOf (.builtin "re.Match.group") = pure (.type "method_descriptor") := by show builtinType _ = _; rw [builtinType_eq_fast]; kernel_rfl
theorem ty_span : typeOf (.builtin "re.Match.span") = pure (.type "method_descriptor") := by show builtinType _ = _; rw [builtinType_eq_fast]; kernel_rfl
theorem ty_string : typeOf (.builtin "re.Match.string") = pure (.type "member_descriptor") := by show builtinType _ = _; rw [builtinType_eq_fast]; kernel_rfl

theorem slot_ga : Slot "re.Match" "__getattribute__" "object.__getattribute__" :=
  .of (owner := "object") (n := "__getattribute__") (by rw [typeLookup_type, builtinLookup_eq_fast]; kernel_rfl) (by decide +kernel) (by decide +kernel) (by decide +kernel)
    (by first | exact .inl (by decide +kernel) | exact .inr (by decide +kernel)) (by rw [isSubtype_type]; kernel_rfl)
theorem entry_ga : entryFor table "object.__getattribute__" = some Builtin.«object.__getattribute__» := entryFor_of_tree (by kernel_rfl)
theorem args_ga (a b : Value) : argsOk "object.__getattribute__" ⟨[a, b], []⟩ := by unfold argsOk; kernel_rfl
theorem lk_string : typeLookup (.type "re.Match") "string" = pure (some (.builtin "re.Match.string")) := by rw [typeLookup_type, builtinLookup_eq_fast]; kernel_rfl
theorem entry_string : entryFor table "re.Match.string" = some Builtin.«re.Match.string» := entryFor_of_tree (by kernel_rfl)
theorem lk_mem_set : typeLookup (.type "member_descriptor") "__set__" = pure (some (.builtin "member_descriptor.__set__")) := by rw [typeLookup_type, builtinLookup_eq_fast]; kernel_rfl
theorem owner_string : Builtin.Getset_descriptor.descrOwnerAndName "re.Match.string" = ("re.Match", "string") := by decide +kernel
theorem sub_mm : isSubtype (.type "re.Match") (.type "re.Match") = pure true := by rw [isSubtype_type]; kernel_rfl

section
variable {prog : Program} {w : World} {A : Around} {E : Value → Shared → Prop} {h : Heap} {g : Array GenState} {d : Drawn} {t : Nat} {os : OsState} {a : Addr} {o : Obj} {fs : Array Value} {v : Value}
theorem string_get {R : Result → Shared → Prop} (hx : h.get? a = some o) (hc : o.cls = .type "re.Match") (hf : o.data = .fields fs) (hv : fs[0]? = some v) (hq : R (.ok (.ret v)) ⟨h, g, d, t, os⟩) :
    codeAny (model prog w) A (.call (.builtin "member_descriptor.__get__") ⟨[.builtin "re.Match.string", .ref a, .type "re.Match"], []⟩) R ⟨h, g, d, t, os⟩ := by
  have hT : (⟨h, g, d, t, os⟩ : Shared).TypeIs (.ref a) "re.Match" := ⟨_, hx, hc⟩
  have hT5 : (⟨h, g, d, t, os⟩ : Shared).TypeIs (.builtin "re.Match.string") "member_descriptor" := ty_string
  have f8 : isSubtype (.type "re.Match") (.type (".".intercalate ("re.Match.string".cutAt '.').dropLast)) = pure true := by
    rw [show ".".intercalate ("re.Match.string".cutAt '.').dropLast = "re.Match" by decide +kernel]; exact sub_mm
  refine codeAny_call_builtin KF.slot_mem.plain KF.entry_mem (KF.slot_mem.check _ _ _ _ _ _ _ _ hT5 (KF.args_mem _ _ _) ?_)
  repeat (any_goals (first | assumption | wp_step))
  refine ⟨Code.quiet_builtin _ (by decide +kernel), codeAny_builtin entry_string ?_⟩
  unfold Builtin.«re.Match.string»
  exact wpAny_bind (wpAny_field hx hf hv (wpAny_pure hq))
end
end Mine
end

section
open PySem PySem.W PyProof.Rows PySem.Calls
open PySem.Builtin.Re
set_option maxRecDepth 100000
set_option maxHeartbeats 4000000
namespace Mine
open PySem.Sre (M)
section
variable {prog : Program} {w : World} {A : Around} {E : Value → Shared → Prop} {h : Heap} {g : Array GenState} {d : Drawn} {t : Nat} {os : OsState} {a : Addr} {o : Obj} {fs : Array Value} {v : Value}
theorem string_entry {tk : Tok} {Q : Fin → Shared → Prop} (hx : h.get? a = some o) (hc : o.cls = .type "re.Match") (hf : o.data = .fields fs) (hv : fs[0]? = some v) (hq : Q (.done (.ret v)) ⟨h, g, d, t, os⟩) :
    wpAny (model prog w) A (Builtin.«object.__getattribute__» ⟨[.ref a, .str "string" tk], []⟩) Q E ⟨h, g, d, t, os⟩ := by
  have hT : (⟨h, g, d, t, os⟩ : Shared).TypeIs (.ref a) "re.Match" := ⟨_, hx, hc⟩
  have hT5 : (⟨h, g, d, t, os⟩ : Shared).TypeIs (.builtin "re.Match.string") "member_descriptor" := ty_string
  have f4 := lk_string
  have f5 := ty_string
  have f6 := KF.slot_mem.lookup
  have f7 := KF.slot_mset.lookup
  repeat (any_goals (first | assumption | wp_step))
  refine string_get hx hc hf hv ?_
  repeat (any_goals (first | assumption | wp_step))

theorem string_call {tk : Tok} {R : Result → Shared → Prop} (hx : h.get? a = some o) (hc : o.cls = .type "re.Match") (hf : o.data = .fields fs) (hv : fs[0]? = some v) (hq : R (.ok (.ret v)) ⟨h, g, d, t, os⟩) :
    codeAny (model prog w) A (.call (.builtin "object.__getattribute__") ⟨[.ref a, .str "string" tk], []⟩) R ⟨h, g, d, t, os⟩ :=
  codeAny_call_builtin slot_ga.plain entry_ga (slot_ga.check _ _ _ _ _ _ _ _ (show (⟨h, g, d, t, os⟩ : Shared).TypeIs (.ref a) "re.Match" from ⟨_, hx, hc⟩) (args_ga _ _) (string_entry hx hc hf hv hq))

theorem string_attr {ex : Bool} {x : Str} {tk : Tok} {Q : Value → Shared → Prop} (hx : h.get? a = some o) (hc : o.cls = .type "re.Match") (hf : o.data = .fields fs) (hv : fs[0]? = some (.str x tk)) (hq : Q (.str x tk) ⟨h, g, d, t + 1, os⟩) :
    wpAny (model prog w) A (getAttr (.ref a) "string" ex) Q E ⟨h, g, d, t, os⟩ := by
  have hT : (⟨h, g, d, t + 1, os⟩ : Shared).TypeIs (.ref a) "re.Match" := ⟨_, hx, hc⟩
  have f2 := slot_ga.lookup
  have f3 := slot_ga.bind (.ref a)
  unfold getAttr getAttrBy getAttrByItsOwn callGetattribute
  refine wpAny_bind (wpAny_mkText ?_)
  refine wpAny_holding (wpAny_bind (wpAny_typeOf hT (wpAny_bind (wpAny_of_eq f2 ?_))))
  show wpAny _ _ (hookBefore (.type "re.Match") >>= _) _ _ _
  refine wpAny_bind (wpAny_pure ?_)
  refine wpAny_bind (wpAny_attempt (wpAny_holding ?_))
  rw [if_neg (by cases ex <;> simp [onTheHeap])]
  unfold boundAndCalled
  refine wpAny_bind (wpAny_of_eq f3 ?_)
  refine wpAny_call (string_call hx hc hf hv ?_)
  show wpAny _ _ (handedOut (.str x tk)) _ _ _
  exact wpAny_pure hq
end

section
variable {prog : Program} {w : World} {A : Around} {E : Value → Shared → Prop} {s : Shared} {a : Addr} {c : Array Nat} {g : Nat} {x : Str} {tk : Tok}

theorem attr_string {ex : Bool} {l : List Int} {Q : Value → Shared → Prop} (hm : IsMatch s.heap a x l) (h : ∀ tk, Q (.str x tk) { s with toks := s.toks + 1 }) : wpAny (model prog w) A (getAttr (.ref a) "string" ex) Q E s := by
  obtain ⟨o, fs, tk, tp, ot, items, n, h1, h2, h3, h4, h5, r⟩ := hm.ex
  obtain ⟨hh, gg, dd, t, os⟩ := s
  exact string_attr h1 h2 h4 h5 (h tk)

theorem group1 {n b e : Nat} {st hd : Int} {tk' : Tok} {Q : Value → Shared → Prop} (hm : IsMatch s.heap a x [st, hd, b, e]) (hx : x.cps.size ≤ 1000000) (hn : n = 1)
    (h : Q (.str ⟨x.cps.extract b e⟩ s.toks) { s with toks := s.toks + 1 }) : wpAny (model prog w) A (call (.builtin "re.Match.group") [.ref a, .int n tk']) Q E s := by
  subst hn
  refine wpAny_call_entry slot_group hm.type entry_group ?_ (args_group _ _)
  obtain ⟨o, fs, tk, tp, ot, items, n, h1, h2, h3, h4, h5, h6, h7, h8, h9⟩ := hm.ex
  unfold Builtin.«re.Match.group»
  refine wpAny_bind (wpAny_of_eq (a := ()) rfl ?_)
  unfold reFound
  refine wpAny_bind (wpAny_bind (wpAny_fieldsOf h1 h4 ?_))
  rw [h6]
  refine wpAny_bind (rawItems h7 h8 (wpAny_pure ?_))
  rw [h9]
  refine wpAny_bind (m := reGroupNumber _ _) (wpAny_of_eq (a := 1) rfl ?_)
  have e0 : fs.getD 0 .none = .str x tk := by rw [Array.getD_eq_getD_getElem?, h5]; rfl
  unfold reGroupText
  show wpAny _ _ ((if (decide ((b : Int) < 0) || decide ((e : Int) < 0)) = true then pure .none else _) >>= _) _ _ _
  rw [if_neg (by simp), e0]
  refine wpAny_bind (wpAny_bind (m := reTextOf (.str x tk)) (wpAny_of_eq (a := (x.cps, 0)) rfl ?_))
  show wpAny _ _ (mkStr ⟨x.cps.extract (b : Int).toNat (e : Int).toNat⟩) _ _ _
  simp only [Int.toNat_natCast]
  refine wpAny_mkStr (wpAny_pure ⟨_, rfl, h⟩) ?_
  show (x.cps.extract b e).size ≤ sizeLine
  rw [Array.size_extract, sizeLine_eq]; omega

theorem span0 {n : Nat} {st hd : Int} {l : List Int} {tk' : Tok} {Q : Value → Shared → Prop} (hm : IsMatch s.heap a x (st :: hd :: l)) (hn : n = 0)
    (h : Q (.ref s.heap.objs.size) { s with heap := s.heap.push (tupO [.int st s.toks, .int hd (s.toks + 1)]), toks := s.toks + 1 + 1 }) : wpAny (model prog w) A (call (.builtin "re.Match.span") [.ref a, .int n tk']) Q E s := by
  subst hn
  refine wpAny_call_entry slot_span hm.type entry_span ?_ (args_span _ _)
  obtain ⟨o, fs, tk, tp, ot, items, n, h1, h2, h3, h4, h5, h6, h7, h8, h9⟩ := hm.ex
  unfold Builtin.«re.Match.span» reOneGroup
  refine wpAny_bind (wpAny_bind (m := selfAndSome _ _ _ _ _) (wpAny_of_eq (a := (.ref a, [.int (0 : Nat) tk'])) rfl ?_))
  unfold reFound
  refine wpAny_bind (wpAny_bind (wpAny_fieldsOf h1 h4 ?_))
  rw [h6]
  refine wpAny_bind (rawItems h7 h8 (wpAny_pure ?_))
  rw [h9]
  refine wpAny_bind (m := reGroupNumber _ _) (wpAny_of_eq (a := 0) rfl (wpAny_pure ?_))
  refine wpAny_bind (wpAny_mkInt ?_)
  refine wpAny_bind (wpAny_mkInt ?_)
  refine wpAny_bind (wpAny_newObj_type (wpAny_pure ⟨_, rfl, h⟩) (by show _ ≤ _; simp [sizeLine]))
end
end Mine
end

section
open PySem PySem.W PyProof.Rows PySem.Calls
open PySem.Builtin.Re
set_option maxRecDepth 100000
set_option maxHeartbeats 4000000
namespace Mine
open PySem.Sre (M)

theorem lk_m_bool : typeLookup (.type "re.Match") "__bool__" = pure none := by rw [typeLookup_type, builtinLookup_eq_fast]; kernel_rfl
theorem lk_m_len : typeLookup (.type "re.Match") "__len__" = pure none := by rw [typeLookup_type, builtinLookup_eq_fast]; kernel_rfl
theorem lk_f_call : typeLookup (.type "function") "__call__" = pure (some (.builtin "function.__call__")) := by rw [typeLookup_type, builtinLookup_eq_fast]; kernel_rfl
theorem lk_s_call : typeLookup (.type "str") "__call__" = pure none := by rw [typeLookup_type, builtinLookup_eq_fast]; kernel_rfl
theorem sub_str_ba : isSubtype (.type "str") (.type "bytearray") = pure false := by rw [isSubtype_type]; kernel_rfl

/-- all that stood stands as it was -/
abbrev Grown (h h' : Heap) : Prop := ∀ b o, h.get? b = some o → h'.get? b = some o
theorem Grown.refl (h : Heap) : Grown h h := fun _ _ e => e
theorem Grown.trans {h h' h'' : Heap} (a : Grown h h') (b : Grown h' h'') : Grown h h'' := fun c o e => b c o (a c o e)
theorem Grown.push (h : Heap) (o : Obj) : Grown h (h.push o) := fun _ _ e => Heap.get?_push_of_some _ e

section
variable {prog : Program} {w : World} {A : Around} {E : Value → Shared → Prop} {s : Shared} {a : Addr} {c : Array Nat} {g : Nat} {x : Str} {tk : Tok}

theorem truthy_match {l : List Int} {Q : Bool → Shared → Prop} (hm : IsMatch s.heap a x l) (h : Q true s) : wpAny (model prog w) A (truthy (.ref a)) Q E s := by
  unfold truthy callSpecial?
  refine wpAny_bind (wpAny_bind (wpAny_specialOf hm.type lk_m_bool (wpAny_pure ?_)))
  exact wpAny_bind (wpAny_specialOf hm.type lk_m_len (wpAny_pure h))

theorem glued_empty : ∀ (l : List Str), Builtin.Str.glued (Str.mk #[]) l = ⟨(l.map (fun p => p.cps.toList)).flatten.toArray⟩ := by
  have H : ∀ (l : List Str) (acc : Array Nat), l.foldl (fun acc p => acc ++ (Str.mk #[]).cps ++ p.cps) acc = acc ++ (l.map (fun p => p.cps.toList)).flatten.toArray := by
    intro l
    induction l with
    | nil => intro acc; simp
    | cons p l ih =>
      intro acc
      rw [List.foldl_cons, ih]
      apply Array.toList_inj.mp
      simp
  intro l
  unfold Builtin.Str.glued
  rw [H]
  cases l with
  | nil => simp [Str.empty]
  | cons p l => simp

theorem join_call {sep : Str} {l : List (Str × Tok)} {Q : Value → Shared → Prop} (hl : s.heap.IsList a (strValues l).toArray) (hz : (l.map (·.1)).toArray.foldl (· + ·.length + sep.length) 0 ≤ sizeLine) (hz2 : (Builtin.Str.glued sep (l.map (·.1))).length ≤ sizeLine)
    (h : ∀ tk' tks, Q (.str (Builtin.Str.glued sep (l.map (·.1))) tk') { s with toks := tks }) : wpAny (model prog w) A (call (.builtin "str.join") [.str sep tk, .ref a]) Q E s := by
  refine call_meets F.slot_str_join (show s.TypeIs (.str sep tk) "str" from rfl) F.entry_str_join (F.args_str_join_2 _ _) (meets_str_join_list sep tk a l (by unfold Builtin.Str.tooLong; exact decide_eq_false (by omega))) ⟨hl, ?_⟩
  match l, h, hz2 with
  | [], h, hz2 => exact ⟨hz2, h s.toks (s.toks + 1)⟩
  | [p], h, _ =>
    have := h p.2 s.toks
    have e : Builtin.Str.glued sep [p.1] = p.1 := rfl
    rw [List.map_cons, List.map_nil, e] at this
    exact this
  | p :: q :: r, h, hz2 => exact ⟨hz2, h s.toks (s.toks + 1)⟩

theorem foldl_len (l : List (Str × Tok)) : (l.map (·.1)).toArray.foldl (fun n p => n + p.length + (Str.mk #[]).length) 0 = (l.map (fun p => p.1.cps.toList)).flatten.length := by
  have H : ∀ (l : List Str) (n : Nat), l.foldl (fun n p => n + p.length + (Str.mk #[]).length) n = n + (l.map (fun p => p.cps.toList)).flatten.length := by
    intro l
    induction l with
    | nil => intro n; simp
    | cons p l ih =>
      intro n
      rw [List.foldl_cons, ih]
      simp only [List.map_cons, List.flatten_cons, List.length_append]
      show n + p.cps.size + 0 + _ = n + (p.cps.toList.length + _)
      simp; omega
  have := H (l.map (·.1)) 0
  simpa [List.map_map, Function.comp_def] using this

theorem whole_target {Q : ReTarget → Shared → Prop} (hp : IsPat s.heap a c g)
    (h : Q { pattern := .ref a, string := .str x tk, code := c, text := x.cps, kind := 0, groups := g, pos := 0, lim := x.cps.size } s) :
    wpAny (model prog w) A (reWholeTarget (.ref a) (.str x tk)) Q E s := by
  obtain ⟨o, fs, ct, oc, items, n, h1, h2, h3, h4, h5, h6, h7, h8, h9, rfl⟩ := hp.ex
  unfold reWholeTarget
  refine wpAny_bind (wpAny_fieldsOf h1 h4 ?_)
  refine wpAny_bind (m := reTextOf (.str x tk)) (wpAny_of_eq (a := (x.cps, 0)) rfl ?_)
  simp only [h7, h6, h5]
  show wpAny _ _ (reNoCollectionInside (.str x tk) 0 >>= _) _ _ _
  refine wpAny_bind (wpAny_of_eq (a := ()) rfl ?_)
  refine wpAny_bind (rawItems h8 h9 ?_)
  exact wpAny_pure h

theorem append_seq {P : Addr} {items : Array Value} {v : Value} {Q : Unit → Shared → Prop} (hl : s.heap.PlainList P items) (hsz : items.size ≤ sizeLine)
    (h : ∀ h', h'.PlainList P (items.push v) → Heap.SameBut P s.heap h' → Q () { s with heap := h' }) : wpAny (model prog w) A (updateSeq P (·.push v)) Q E s := by
  obtain ⟨n, ho⟩ := hl
  refine wpAny_updateSeq ho rfl (h _ ⟨n + 1, ?_⟩ (Heap.SameBut.update ..)) hsz (by simp; omega)
  rw [Heap.get?_update_self _ ho (by rw [Obj.mapSeq_push_plain]; rfl), Obj.mapSeq_push_plain]

theorem slice0 {b e : Nat} {Q : Value → Shared → Prop} (hx : x.cps.size ≤ 1000000) (h : Q (.str ⟨x.cps.extract b e⟩ s.toks) { s with toks := s.toks + 1 }) : wpAny (model prog w) A (reSlice x.cps 0 b e) Q E s := by
  show wpAny _ _ (mkStr ⟨x.cps.extract b e⟩) _ _ _
  refine wpAny_mkStr h ?_
  show (x.cps.extract b e).size ≤ sizeLine
  rw [Array.size_extract, sizeLine_eq]; omega
end

theorem mHeap_get1 (h : Heap) (x : Str) (tk : Tok) (pat : Addr) (lim : Nat) (li : Int) (l : List Nat) : (mHeap h x tk pat lim li l).get? (h.objs.size + 1) = some (matO x tk pat lim li h.objs.size) := by
  have := Heap.get?_push_size (o := matO x tk pat lim li h.objs.size) (h.push (spanO l)) rfl
  rwa [Heap.size_push] at this
theorem mHeap_get2 (h : Heap) (x : Str) (tk : Tok) (pat : Addr) (lim : Nat) (li : Int) (l : List Nat) : (mHeap h x tk pat lim li l).get? h.objs.size = some (spanO l) :=
  Heap.get?_push_of_some _ (Heap.get?_push_size _ rfl)
theorem mHeap_match (h : Heap) (x : Str) (tk : Tok) (pat : Addr) (lim : Nat) (li : Int) (l : List Nat) : IsMatch (mHeap h x tk pat lim li l) (h.objs.size + 1) x (l.map fun (n : Nat) => (n : Int)) :=
  isMatch_of (mHeap_get1 h x tk pat lim li l) (mHeap_get2 h x tk pat lim li l)
theorem mHeap_grown (h : Heap) (x : Str) (tk : Tok) (pat : Addr) (lim : Nat) (li : Int) (l : List Nat) : Grown h (mHeap h x tk pat lim li l) := (Grown.push _ _).trans (Grown.push _ _)

/-- what the callback of sub makes of the group from b to e -/
def CB (prog : Program) (w : World) (A : Around) (base : Heap) (f : Addr) (x : Str) (cb : Nat → Nat → List Nat) : Prop :=
  ∀ (s : Shared) (q : Addr) (st hd : Int) (b e : Nat) (Q : Value → Shared → Prop) (E : Value → Shared → Prop), Grown base s.heap → IsMatch s.heap q x [st, hd, b, e] → b ≤ e → e ≤ x.cps.size →
    (∀ h' tk tks, Grown s.heap h' → Q (.str ⟨(cb b e).toArray⟩ tk) { s with heap := h', toks := tks }) → wpAny (model prog w) A (call (.ref f) [.ref q]) Q E s

/-- what sub makes of the text from p on -/
inductive Sub (c t : Array Nat) (cb : Nat → Nat → List Nat) : Nat → List Nat → Prop where
  | stop {p k : Nat} : To k (Sre.forSearch c t 1 p t.size false) Lost → k ≤ 1000000000 → p ≤ t.size → Sub c t cb p (t.extract p t.size).toList
  | next {p k st hd b e : Nat} {li : Int} {out : List Nat} : To k (Sre.forSearch c t 1 p t.size false) (fun m => Won m st hd #[some b, some e] 1 li) → k ≤ 1000000000 → p ≤ st → st < hd → hd ≤ t.size → b ≤ e → e ≤ t.size →
      Sub c t cb hd out → Sub c t cb p ((t.extract p st).toList ++ (cb b e ++ out))

/-- the signs of the pieces -/
abbrev flat (l : List (Str × Tok)) : List Nat := (l.map fun p => p.1.cps.toList).flatten
theorem flat_snoc (l : List (Str × Tok)) (y : Str) (t : Tok) : flat (l ++ [(y, t)]) = flat l ++ y.cps.toList := by simp [flat]
theorem strValues_snoc (l : List (Str × Tok)) (y : Str) (t : Tok) : (strValues l).toArray.push (.str y t) = (strValues (l ++ [(y, t)])).toArray := by simp [strValues]

section
variable {prog : Program} {w : World} {A : Around} {s : Shared} {a f P : Addr} {c : Array Nat} {x : Str} {tk : Tok} {base : Heap} {cb : Nat → Nat → List Nat} {R : Result → Shared → Prop}

theorem quiet_loop (args : Args) : (Code.builtin "re.Pattern.sub.loop" args).quiet = true := Code.quiet_builtin _ (by decide +kernel)

/-- the end of sub -/
theorem sub_tail {Mk : Value → Sem Fin} {Q : Fin → Shared → Prop} {E : Value → Shared → Prop} {l : List (Str × Tok)} (hx : x.cps.size ≤ 1000000) (hl : s.heap.PlainList P (strValues l).toArray) (hz : (flat l).length ≤ 10000000)
    (h : ∀ tk' tks, wpAny (model prog w) A (Mk (.str ⟨(flat l).toArray⟩ tk')) Q E { s with toks := tks }) :
    wpAny (model prog w) A (do
      let joiner ← reSlice x.cps 0 0 0
      let it ← seqItems? (.ref P)
      if (it.getD #[]).isEmpty = true then (do
        let text ← pure joiner
        Mk text) else (do
        let text ← call (.builtin (if ((0 : Nat) == 0) = true then "str.join" else "bytes.join")) [joiner, .ref P]
        Mk text)) Q E s := by
  refine wpAny_bind (slice0 hx ?_)
  obtain ⟨n, ho⟩ := id hl
  refine wpAny_bind (wpAny_seqItems ho rfl ?_)
  have e0 : x.cps.extract 0 0 = #[] := by simp
  rw [e0]
  cases l with
  | nil =>
    exact wpAny_bind (wpAny_pure (h _ _))
  | cons p r =>
    rw [if_neg (by simp [strValues])]
    refine wpAny_bind (join_call (sep := ⟨#[]⟩) (l := p :: r) hl.isList ?_ ?_ fun tk' tks => ?_)
    · rw [foldl_len, sizeLine_eq]; exact Nat.le_trans hz (by decide)
    · rw [glued_empty, sizeLine_eq]
      refine Nat.le_trans ?_ (Nat.le_trans hz (by decide))
      show (List.toArray _).size ≤ _
      simp [flat, List.map_map, Function.comp_def]
    · rw [glued_empty]
      have := h tk' tks
      simpa [flat, List.map_map, Function.comp_def] using this

theorem sub_loop (hx : x.cps.size ≤ 1000000) (hp : IsPat base a c 1) (hcb : CB prog w A.in1 base f x cb) (hP : base.get? P = none) : ∀ {p : Nat} {out : List Nat}, Sub c x.cps cb p out → ∀ {l : List (Str × Tok)} {n : Int} {s : Shared},
    Grown base s.heap → s.heap.PlainList P (strValues l).toArray → l.length ≤ 2 * p → (flat l ++ out).length ≤ 10000000 →
    (∀ h' tk' tks, Grown base h' → R (.ok (.ret (.str ⟨(flat l ++ out).toArray⟩ tk'))) { s with heap := h', toks := tks }) →
    codeAny (model prog w) A (.builtin "re.Pattern.sub.loop" ⟨[.ref a, .str x tk, .ref f, .int 1 0, .int 0 0, .int n 0, .int p 0, .int p 0, .bool false, .ref P, .bool false], []⟩) R s := by
  intro p out H
  induction H with
  | @stop p k hr hk hps =>
    intro l n s hb hl hll hz h
    refine codeAny_builtin entry_loop ?_
    rw [Around.under_plainId (by decide +kernel)]
    unfold Builtin.«re.Pattern.sub.loop»
    simp only []
    refine wpAny_bind (whole_target (hp.keeps hb) ?_)
    dsimp only
    rw [if_neg (by decide), if_neg (by simp)]
    simp only [Int.toNat_natCast]
    refine wpAny_bind (run_lost hr hk ?_)
    dsimp only
    split
    · rename_i hlt
      refine wpAny_bind (slice0 hx ?_)
      refine wpAny_bind (append_seq hl ?_ fun h' hl' hs' => ?_)
      · simp [strValues, sizeLine_eq]; omega
      · rw [strValues_snoc] at hl'
        refine sub_tail (l := l ++ [(_, _)]) hx hl' ?_ fun tk' tks => ?_
        · rw [flat_snoc]; exact hz
        · rw [flat_snoc]
          rw [if_neg (by decide)]
          exact wpAny_pure (h _ _ _ fun b o e => hs'.2 b (fun q => by rw [q, hP] at e; cases e) ▸ hb b o e)
    · rename_i hge
      have e1 : (x.cps.extract p x.cps.size).toList = [] := by simp; omega
      refine sub_tail (l := l) hx hl ?_ fun tk' tks => ?_
      · rw [e1, List.append_nil] at hz; exact hz
      · rw [if_neg (by decide)]
        have := h s.heap tk' tks hb
        rw [e1, List.append_nil] at this
        exact wpAny_pure this
  | @next p k st hd b e li out hr hk h1 h2 h3 h4 h5 _ ih =>
    intro l n s hb hl hll hz h
    refine codeAny_builtin entry_loop ?_
    rw [Around.under_plainId (by decide +kernel)]
    unfold Builtin.«re.Pattern.sub.loop»
    simp only []
    refine wpAny_bind (whole_target (hp.keeps hb) ?_)
    dsimp only
    rw [if_neg (by decide), if_neg (by simp)]
    simp only [Int.toNat_natCast]
    refine wpAny_bind (run_won hr hk fun m hm => ?_)
    dsimp only
    -- behind the piece ahead of the match
    have rest : ∀ (l' : List (Str × Tok)) (s' : Shared), s'.gens = s.gens → s'.drawn = s.drawn → s'.os = s.os → Grown base s'.heap → s'.heap.PlainList P (strValues l').toArray → flat l' = flat l ++ (x.cps.extract p st).toList → l'.length ≤ 2 * p + 1 →
        wpAny (model prog w) A.in1 (do
          let found ← reNewMatch (Value.ref a) (Value.str x tk) 1 0 x.cps.size m
          let item ← holding [found] (if ((1 : Int) == 1) = true then call (Value.ref f) [found] else do
            let r ← reFound found
            reExpand (Value.ref f) r)
          if (item != Value.none) = true then do
            updateSeq P fun x => x.push item
            again (Code.builtin "re.Pattern.sub.loop" { pos := [Value.ref a, Value.str x tk, Value.ref f, rawInt 1, rawInt 0, rawInt (n + 1), rawInt m.handed, rawInt m.handed, Value.bool (m.handed == m.start), Value.ref P, Value.bool false] })
          else again (Code.builtin "re.Pattern.sub.loop" { pos := [Value.ref a, Value.str x tk, Value.ref f, rawInt 1, rawInt 0, rawInt (n + 1), rawInt m.handed, rawInt m.handed, Value.bool (m.handed == m.start), Value.ref P, Value.bool false] }))
        (fun fin s' => match fin with | .done f => R (.ok f) s' | .again c' => c'.quiet = true ∧ codeAny (model prog w) A c' R s') (fun e s' => R (.error e) s') s' := by
      intro l' s' q1 q2 q3 hb' hl' hfl hll'
      refine wpAny_bind (newMatch1 hm h4 ?_)
      refine wpAny_bind (wpAny_holding ?_)
      rw [if_pos (by decide)]
      have gr : Grown s'.heap (mHeap s'.heap x tk a x.cps.size li [st, hd, b, e]) := mHeap_grown _ _ _ _ _ _ _
      refine hcb _ _ st hd b e _ _ (hb'.trans gr) ?_ h4 h5 fun h'' tk'' tks'' gr' => ?_
      · exact mHeap_match _ _ _ _ _ _ _
      · rw [if_pos (by rfl)]
        have hl'' : h''.PlainList P (strValues l').toArray := hl'.at fun o e => gr' _ _ (gr _ _ e)
        refine wpAny_bind (append_seq hl'' ?_ fun h3' hl3 hs3 => ?_)
        · simp [strValues, sizeLine_eq]; omega
        · rw [strValues_snoc] at hl3
          have hns : (m.handed == m.start) = false := by rw [hm.handed, hm.start]; simp; omega
          rw [hns, hm.handed]
          refine wpAny_pure ⟨quiet_loop _, ?_⟩
          refine ih (l := l' ++ [(_, _)]) ?_ hl3 ?_ ?_ ?_
          · intro c' o' e'
            exact hs3.2 c' (fun q => by rw [q, hP] at e'; cases e') ▸ gr' _ _ (gr _ _ (hb' c' o' e'))
          · simp; omega
          · rw [flat_snoc, hfl]
            simpa [List.append_assoc] using hz
          · intro h4' tk4 tks4 hg4
            have := h h4' tk4 tks4 hg4
            rw [flat_snoc, hfl]
            simp only [List.toList_toArray, List.append_assoc] at this ⊢
            rw [q1, q2, q3]
            exact this
    rw [hm.start]
    split
    · rename_i hlt
      refine wpAny_bind (slice0 hx ?_)
      refine wpAny_bind (append_seq hl ?_ fun h' hl' hs' => ?_)
      · simp [strValues, sizeLine_eq]; omega
      · rw [strValues_snoc] at hl'
        rw [if_neg (by decide)]
        rw [← hm.start]
        refine rest (l ++ [(_, _)]) _ rfl rfl rfl ?_ hl' ?_ ?_
        · exact fun b o e => hs'.2 b (fun q => by rw [q, hP] at e; cases e) ▸ hb b o e
        · rw [flat_snoc]
        · simp; omega
    · rename_i hge
      rw [if_neg (by decide)]
      rw [← hm.start]
      have e1 : (x.cps.extract p st).toList = [] := by simp; omega
      exact rest l s rfl rfl rfl hb hl (by rw [e1, List.append_nil]) (by omega)

theorem named_sub (id f : String) (r v : Value) : reNamed id f ["repl", "string", "count"] 2 [r, v] [] = pure [some r, some v, none] := by rfl

/-- pattern.sub(f, x) for a function f -/
theorem sub_call {E : Value → Shared → Prop} {Q : Value → Shared → Prop} {out : List Nat} {of : Obj} (hx : x.cps.size ≤ 1000000) (hp : IsPat s.heap a c 1) (hf : s.heap.get? f = some of) (hfc : of.cls = .type "function")
    (hcb : CB prog w A.in1 s.heap f x cb) (hS : Sub c x.cps cb 0 out) (hz : out.length ≤ 10000000)
    (h : ∀ h' tk' tks, Grown s.heap h' → Q (.str ⟨out.toArray⟩ tk') { s with heap := h', toks := tks }) :
    wpAny (model prog w) A (call (.builtin "re.Pattern.sub") [.ref a, .ref f, .str x tk]) Q E s := by
  refine wpAny_call (codeAny_call_builtin slot_sub.plain entry_sub (slot_sub.check _ _ _ _ _ _ _ _ hp.type (args_sub _ _ _) ?_))
  have hT : s.TypeIs (.ref f) "function" := ⟨_, hf, hfc⟩
  unfold Builtin.«re.Pattern.sub» reSubstitute
  simp only [named_sub]
  refine wpAny_bind (wpAny_pure ?_)
  refine wpAny_bind (wpAny_pure ?_)
  refine wpAny_bind (wpAny_specialOf hT lk_f_call ?_)
  simp only [Option.isSome_some, if_true]
  refine wpAny_bind (wpAny_pure ?_)
  refine wpAny_bind (wpAny_pure ?_)
  refine wpAny_bind (wpAny_holding (whole_target hp ?_))
  dsimp only
  rw [if_pos (by decide)]
  unfold reNotHeld
  refine wpAny_bind (wpAny_bind (wpAny_isInstance (T := "str") rfl sub_str_ba ?_))
  simp only [Bool.false_eq_true, if_false]
  refine wpAny_pure ?_
  refine wpAny_bind (wpAny_newObj_type ?_ (by show _ ≤ _; simp [sizeLine]))
  refine wpAny_pure ⟨quiet_loop _, ?_⟩
  have hP : s.heap.get? s.heap.objs.size = none := by
    cases q : s.heap.get? s.heap.objs.size with
    | none => rfl
    | some o => exact absurd (Heap.lt_size q) (Nat.lt_irrefl _)
  refine sub_loop (base := s.heap) (l := []) hx hp hcb hP hS (Grown.push _ _) ⟨0, Heap.get?_push_size _ rfl⟩ (by simp) (by simpa using hz) fun h' tk' tks hg => ?_
  exact h h' tk' tks hg

/-- the junk ahead is taken away, once -/
theorem subn_call {E : Value → Shared → Prop} {Q : Value → Shared → Prop} {n k k' : Nat} {tk0 : Tok} (hx : x.cps.size ≤ 1000000) (hp : IsPat s.heap a c 0) (hn : 0 < n) (hnx : n ≤ x.cps.size)
    (hr : To k (Sre.forSearch c x.cps 0 0 x.cps.size false) fun m => Won m 0 n #[] (-1) (-1)) (hk : k ≤ 1000000000) (hr' : To k' (Sre.forSearch c x.cps 0 n x.cps.size false) Lost) (hk' : k' ≤ 1000000000)
    (h : ∀ h' q tk' tk'' tks, Grown s.heap h' → h'.get? q = some (tupO [.str ⟨x.cps.extract n x.cps.size⟩ tk', .int 1 tk'']) → s.heap.get? q = none → q < h'.objs.size → Q (.ref q) { s with heap := h', toks := tks }) :
    wpAny (model prog w) A (call (.builtin "re.Pattern.subn") [.ref a, .str ⟨#[]⟩ tk0, .str x tk]) Q E s := by
  refine wpAny_call (codeAny_call_builtin slot_subn.plain entry_subn (slot_subn.check _ _ _ _ _ _ _ _ hp.type (args_subn _ _ _) ?_))
  unfold Builtin.«re.Pattern.subn» reSubstitute
  simp only [named_sub]
  refine wpAny_bind (wpAny_pure ?_)
  refine wpAny_bind (wpAny_pure ?_)
  refine wpAny_bind (wpAny_specialOf (T := "str") rfl lk_s_call ?_)
  simp only [Option.isSome_none, Bool.false_eq_true, if_false]
  refine wpAny_bind (m := asStr? _) (wpAny_of_eq (a := some ⟨#[]⟩) rfl ?_)
  refine wpAny_bind (wpAny_pure ?_)
  rw [if_pos (by simp)]
  refine wpAny_bind (wpAny_pure ?_)
  refine wpAny_bind (wpAny_holding (whole_target hp ?_))
  rw [if_neg (show ¬ ((0 : Int) == 1) = true by decide)]
  refine wpAny_bind (wpAny_newObj_type ?_ (by show _ ≤ _; simp [sizeLine]))
  refine wpAny_pure ⟨quiet_loop _, ?_⟩
  have hP : s.heap.get? s.heap.objs.size = none := by
    cases q : s.heap.get? s.heap.objs.size with
    | none => rfl
    | some o => exact absurd (Heap.lt_size q) (Nat.lt_irrefl _)
  -- the first turn: the junk is found
  refine codeAny_builtin entry_loop ?_
  rw [Around.under_plainId (by decide +kernel)]
  unfold Builtin.«re.Pattern.sub.loop»
  simp only [rawInt]
  refine wpAny_bind (whole_target (hp.keeps (Grown.push _ _)) ?_)
  dsimp only
  rw [if_pos (by decide)]
  refine wpAny_bind (m := reLiteralCannotBeTurned _) (wpAny_of_eq (a := ()) rfl ?_)
  rw [if_neg (by decide)]
  refine wpAny_bind (run_won hr hk fun m hm => ?_)
  dsimp only
  rw [hm.start, if_neg (by decide), if_pos (by decide)]
  refine wpAny_bind (wpAny_pure ?_)
  rw [if_pos (by rfl)]
  have hl0 : (s.heap.push { cls := .type "list", data := .seq ([] : List Value).toArray }).PlainList s.heap.objs.size (strValues []).toArray := ⟨0, Heap.get?_push_size _ rfl⟩
  refine wpAny_bind (append_seq hl0 (by simp [strValues]) fun h1 hl1 hs1 => ?_)
  rw [strValues_snoc] at hl1
  have hne : (m.handed == 0) = false := by rw [hm.handed]; simp; omega
  rw [hne, hm.handed]
  refine wpAny_pure ⟨quiet_loop _, ?_⟩
  have hg1 : Grown s.heap h1 := fun b o e => hs1.2 b (fun q => by rw [q, hP] at e; cases e) ▸ Grown.push _ _ b o e
  -- the second turn: nothing more
  refine codeAny_builtin entry_loop ?_
  rw [Around.under_plainId (by decide +kernel)]
  unfold Builtin.«re.Pattern.sub.loop»
  simp only [rawInt]
  refine wpAny_bind (whole_target (hp.keeps hg1) ?_)
  dsimp only
  rw [if_pos (by decide)]
  refine wpAny_bind (m := reLiteralCannotBeTurned _) (wpAny_of_eq (a := ()) rfl ?_)
  rw [if_neg (by simp)]
  simp only [Int.toNat_natCast]
  refine wpAny_bind (run_lost hr' hk' ?_)
  dsimp only
  have fin : ∀ (h2 : Heap) (tks : Nat) (l : List (Str × Tok)), Grown s.heap h2 → h2.PlainList s.heap.objs.size (strValues l).toArray → flat l = (x.cps.extract n x.cps.size).toList → ∀ (tk' : Tok) (tks' : Nat),
      wpAny (model prog w) A.in1 (if true = true then do
          let t ← holding [Value.str ⟨(flat l).toArray⟩ tk'] (do
            let i ← mkInt (0 + 1)
            newTuple [Value.str ⟨(flat l).toArray⟩ tk', i])
          ret t
        else ret (Value.str ⟨(flat l).toArray⟩ tk')) (fun fin s' => match fin with | .done f => (match f with | .ret v => Q v s' | _ => False) | .again c' => c'.quiet = true ∧ codeAny (model prog w) A c' (fun r s' => match r with | .ok (.ret v) => Q v s' | .ok _ => False | .error e => E e s') s') (fun e s' => E e s')
        { s with heap := h2, toks := tks' } := by
    intro h2 tks l hg hl hfl tk' tks'
    rw [if_pos rfl]
    refine wpAny_bind (wpAny_holding (wpAny_bind (wpAny_mkInt (wpAny_newObj_type (wpAny_pure ?_) (by show _ ≤ _; simp [sizeLine])))))
    rw [hfl]
    refine h _ _ _ _ _ (hg.trans (Grown.push _ _)) (Heap.get?_push_size _ rfl) ?_ (by rw [Heap.size_push]; exact Nat.lt_succ_self _)
    cases q : s.heap.get? h2.objs.size with
    | none => rfl
    | some o => exact absurd (Heap.lt_size (hg _ _ q)) (Nat.lt_irrefl _)
  split
  · rename_i hlt
    refine wpAny_bind (slice0 hx ?_)
    refine wpAny_bind (append_seq hl1 (by simp [strValues, sizeLine_eq]) fun h2 hl2 hs2 => ?_)
    rw [strValues_snoc] at hl2
    have e : flat (([] ++ [((⟨#[]⟩ : Str), tk0)]) ++ [((⟨x.cps.extract n x.cps.size⟩ : Str), s.toks)]) = (x.cps.extract n x.cps.size).toList := by simp [flat]
    refine sub_tail hx hl2 ?_ fun tk' tks => ?_
    · simp [flat]; omega
    · exact fin h2 0 _ (fun b o e => hs2.2 b (fun q => by rw [q, hP] at e; cases e) ▸ hg1 b o e) hl2 (by simp [flat]) tk' tks
  · rename_i hge
    have e : flat ([] ++ [((⟨#[]⟩ : Str), tk0)]) = (x.cps.extract n x.cps.size).toList := by
      have : (x.cps.extract n x.cps.size).toList = [] := by simp; omega
      rw [this]; simp [flat]
    refine sub_tail hx hl1 ?_ fun tk' tks => ?_
    · simp [flat]
    · exact fin h1 0 _ hg1 hl1 e tk' tks
end
end Mine
end

section
open PySem PySem.Sre
set_option maxRecDepth 100000
namespace Mine

/-! ### places in a text -/
theorem getD_head {α : Type} (pre : List α) (c : α) (post : List α) (d : α) : (pre ++ c :: post).toArray.getD pre.length d = c := by
  rw [Array.getD_eq_getD_getElem?]; simp
theorem getD_mid {pre mid post : List Nat} {f : Nat → Bool} {b : Bool} (h : ∀ c ∈ mid, f c = b) : ∀ i < mid.length, f ((pre ++ (mid ++ post)).toArray.getD (pre.length + i) 0) = b := by
  intro i hi
  have : (pre ++ (mid ++ post)).toArray.getD (pre.length + i) 0 = mid[i] := by
    rw [Array.getD_eq_getD_getElem?]
    simp [List.getElem?_append_right, List.getElem?_append_left hi, List.getElem?_eq_getElem hi]
  rw [this]
  exact h _ (List.getElem_mem hi)
theorem getD_fst {mid post : List Nat} {f : Nat → Bool} {b : Bool} (h : ∀ c ∈ mid, f c = b) : ∀ i < mid.length, f ((mid ++ post).toArray.getD i 0) = b := by
  have := getD_mid (pre := []) (post := post) h
  simpa using this

/-- either nothing, or a sign that f does not take -/
def Stops (f : Nat → Bool) (l : List Nat) : Prop := l = [] ∨ ∃ c r, l = c :: r ∧ f c = false
theorem Stops.at {f : Nat → Bool} {l : List Nat} (h : Stops f l) (pre : List Nat) {n : Nat} (hn : n = pre.length) : n = (pre ++ l).toArray.size ∨ f ((pre ++ l).toArray.getD n 0) = false := by
  subst hn
  rcases h with rfl | ⟨c, r, rfl, hc⟩
  · left; simp
  · right; rw [getD_head]; exact hc

/-! ### reading -/
theorem tok_read {sp k rest : List Nat} (hT : (sp ++ (k ++ rest)).length ≤ 1000000) (hsp : ∀ c ∈ sp, isSp c = true) (hk0 : k ≠ []) (hk : ∀ c ∈ k, isKey c = true) (hr : Stops isKey rest) :
    To 20 (forSearch cTok (sp ++ (k ++ rest)).toArray 1 0 (sp ++ (k ++ rest)).toArray.size false) fun m => Won m 0 (sp.length + k.length) #[some sp.length, some (sp.length + k.length)] 1 1 := by
  have h1 : 1 ≤ k.length := by cases k with | nil => exact absurd rfl hk0 | cons => simp
  simp only [List.length_append] at hT
  refine tok_yes (by simp; omega) (by simp) h1 (getD_fst hsp) (getD_mid hk) ?_
  have := hr.at (sp ++ k) (n := sp.length + k.length) (by simp)
  rw [List.append_assoc] at this
  exact this

theorem tok_none {T : List Nat} (hT : T.length ≤ 1000000) (h : T = [] ∨ ∃ c r, T = c :: r ∧ (c = 44 ∨ c = 59)) : To (2 * T.length + 20) (forSearch cTok T.toArray 1 0 T.toArray.size false) Lost := by
  have := tok_no (t := T.toArray) ?_ (by simp; omega)
  · simpa using this
  · rcases h with rfl | ⟨c, r, rfl, hc⟩
    · left; rfl
    · right
      rw [show (c :: r).toArray.getD 0 0 = c from getD_head [] c r 0]
      rcases hc with rfl | rfl <;> exact ⟨by decide +kernel, by decide +kernel⟩

theorem val_read {v rest : List Nat} (hT : (61 :: (v ++ rest)).length ≤ 1000000) (hv : ∀ c ∈ v, isPl c = true) (hv0 : v ≠ []) (hr : Stops isPl rest) :
    To 20 (forSearch cVal (61 :: (v ++ rest)).toArray 1 0 (61 :: (v ++ rest)).toArray.size false) fun m => Won m 0 (1 + v.length) #[some 1, some (1 + v.length)] 1 1 := by
  have h1 : 1 ≤ v.length := by cases v with | nil => exact absurd rfl hv0 | cons => simp
  simp only [List.length_cons, List.length_append] at hT
  refine val_yes (by simp; omega) (by simp; omega) (getD_head [] 61 _ 0) (getD_mid (pre := [61]) hv) ?_ (fun h => by omega)
  have := hr.at (61 :: v) (n := 1 + v.length) (by simp; omega)
  exact this

theorem val_none {T : List Nat} (hT : T.length ≤ 1000000) (h : T = [] ∨ ∃ c r, T = c :: r ∧ (c = 44 ∨ c = 59)) : To (2 * T.length + 20) (forSearch cVal T.toArray 1 0 T.toArray.size false) Lost := by
  have := val_no (t := T.toArray) ?_ (by simp; omega)
  · simpa using this
  · rcases h with rfl | ⟨c, r, rfl, hc⟩
    · left; rfl
    · right
      rw [show (c :: r).toArray.getD 0 0 = c from getD_head [] c r 0]
      rcases hc with rfl | rfl <;> exact ⟨by decide, by decide +kernel⟩

theorem quo_none {T : List Nat} (hT : T.length ≤ 1000000) (h : T = [] ∨ (∃ c r, T = c :: r ∧ (c = 44 ∨ c = 59)) ∨ ∃ c r, T = 61 :: c :: r ∧ c ≠ 34 ∧ isSp c = false) : To (2 * T.length + 20) (forSearch cQuo T.toArray 1 0 T.toArray.size false) Lost := by
  have := quo_no (t := T.toArray) (by simp; omega) ?_
  · simpa using this
  · rcases h with rfl | ⟨c, r, rfl, hc⟩ | ⟨c, r, rfl, h1, h2⟩
    · left; decide
    · right; left
      rw [show (c :: r).toArray.getD 0 0 = c from getD_head [] c r 0]
      rcases hc with rfl | rfl <;> exact ⟨by decide, by decide +kernel⟩
    · right; right
      rw [show (61 :: c :: r).toArray.getD 0 0 = 61 from getD_head [] 61 _ 0, show (61 :: c :: r).toArray.getD 1 0 = c from getD_head [61] c r 0]
      exact ⟨rfl, h1, h2⟩

theorem junk_read {j rest : List Nat} (hT : (j ++ rest).length ≤ 1000000) (hj : ∀ c ∈ j, isJunk c = true) (hr : Stops isJunk rest) :
    To 20 (forSearch cJunk (j ++ rest).toArray 0 0 (j ++ rest).toArray.size false) fun m => Won m 0 j.length #[] (-1) (-1) := by
  simp only [List.length_append] at hT
  exact junk_yes (by simp; omega) (by simp) (getD_fst hj) (hr.at j rfl)
theorem junk_none {j rest : List Nat} (hT : (j ++ rest).length ≤ 1000000) (hj : j ≠ []) :
    To (2 * (j ++ rest).length + 20) (forSearch cJunk (j ++ rest).toArray 0 j.length (j ++ rest).toArray.size false) Lost := by
  have h1 : j.length ≠ 0 := by simpa using hj
  have := junk_no (t := (j ++ rest).toArray) (a := j.length) (mu := false) (by simp) h1 (by simp at hT ⊢; omega)
  simpa using this

/-! ### tokens, escapes -/
def escL (v : List Nat) : List Nat := v.flatMap fun c => if isQ c then [c] else [92, c]
theorem escL_nil : escL [] = [] := rfl
theorem escL_cons (c : Nat) (v : List Nat) : escL (c :: v) = (if isQ c then [c] else [92, c]) ++ escL v := by simp [escL]
theorem escL_append (u v : List Nat) : escL (u ++ v) = escL u ++ escL v := by simp [escL]
theorem escL_plain {v : List Nat} (h : ∀ c ∈ v, isQ c = true) : escL v = v := by
  induction v with
  | nil => rfl
  | cons c v ih =>
    rw [escL_cons, h c (.head _), ih fun d hd => h d (.tail _ hd)]; rfl
theorem escL_length (v : List Nat) : (escL v).length ≤ 2 * v.length := by
  induction v with
  | nil => simp [escL]
  | cons c v ih =>
    rw [escL_cons]
    split <;> simp <;> omega

theorem isQ_false {c : Nat} (h : isQ c = false) : c = 34 ∨ c = 92 := by
  unfold isQ at h
  simp at h
  by_cases h1 : c = 34
  · exact .inl h1
  · exact .inr (h h1)

theorem split_run (f : Nat → Bool) (l : List Nat) : ∃ run rest, l = run ++ rest ∧ (∀ c ∈ run, f c = true) ∧ Stops f rest := by
  induction l with
  | nil => exact ⟨[], [], rfl, by simp, .inl rfl⟩
  | cons c l ih =>
    by_cases h : f c = true
    · obtain ⟨run, rest, rfl, h1, h2⟩ := ih
      refine ⟨c :: run, rest, rfl, ?_, h2⟩
      intro d hd
      rcases List.mem_cons.mp hd with rfl | hd
      · exact h
      · exact h1 d hd
    · exact ⟨[], c :: l, rfl, by simp, .inr ⟨c, l, rfl, by simpa using h⟩⟩

theorem toList_extract (l : List Nat) (a b : Nat) : (l.toArray.extract a b).toList = (l.drop a).take (b - a) := by simp
theorem extract_run (pre run rest : List Nat) (b : Nat) (hb : b = pre.length + run.length) : ((pre ++ (run ++ rest)).toArray.extract pre.length b).toList = run := by
  subst hb
  rw [toList_extract]; simp

/-- what join writes for an escaped sign: a backslash and the sign -/
abbrev cbE (t : Array Nat) (b e : Nat) : List Nat := 92 :: (t.extract b e).toList
/-- what split reads: the sign alone -/
abbrev cbU (t : Array Nat) (b e : Nat) : List Nat := (t.extract b e).toList

theorem sub_esc : ∀ (n : Nat) (pre suf : List Nat), suf.length = n → Sub cJEsc (pre ++ suf).toArray (cbE (pre ++ suf).toArray) pre.length (escL suf) := by
  intro n
  induction n using Nat.strongRecOn with
  | _ n ih =>
    intro pre suf hn
    obtain ⟨run, rest, rfl, hrun, hrest⟩ := split_run isQ suf
    rcases hrest with rfl | ⟨c, r, rfl, hc⟩
    · have e : escL (run ++ []) = ((pre ++ (run ++ [])).toArray.extract pre.length (pre ++ (run ++ [])).toArray.size).toList := by
        rw [extract_run _ _ _ _ (by simp), escL_append, escL_plain hrun]; simp [escL]
      rw [e]
      refine .stop (k := 20) (jesc_no (by simp) fun i h1 h2 => ?_) (by decide) (by simp)
      have := getD_mid (pre := pre) (post := []) hrun (i - pre.length) (by simp at h2; omega)
      rwa [show pre.length + (i - pre.length) = i by omega] at this
    · have e : escL (run ++ c :: r) = ((pre ++ (run ++ c :: r)).toArray.extract pre.length (pre.length + run.length)).toList ++ (cbE (pre ++ (run ++ c :: r)).toArray (pre.length + run.length) (pre.length + run.length + 1) ++ escL r) := by
        rw [extract_run _ _ _ _ rfl, escL_append, escL_plain hrun, escL_cons, hc]
        have : ((pre ++ (run ++ c :: r)).toArray.extract (pre.length + run.length) (pre.length + run.length + 1)).toList = [c] := by
          rw [toList_extract, show pre ++ (run ++ c :: r) = (pre ++ run) ++ c :: r by simp, show pre.length + run.length = (pre ++ run).length by simp]
          simp
        simp only [cbE, this]; simp
      rw [e]
      have hq : (pre ++ (run ++ c :: r)).toArray.getD (pre.length + run.length) 0 = c := by
        rw [show pre ++ (run ++ c :: r) = (pre ++ run) ++ c :: r by simp, show pre.length + run.length = (pre ++ run).length by simp]
        exact getD_head _ _ _ _
      refine .next (k := 20) (jesc_yes (q := pre.length + run.length) (by simp) (by omega) (fun i h1 h2 => ?_) (by rw [hq]; exact hc)) (by decide) (by omega) (by omega) (by simp; omega) (by omega) (by simp; omega) ?_
      · have := getD_mid (pre := pre) (post := c :: r) hrun (i - pre.length) (by omega)
        rwa [show pre.length + (i - pre.length) = i by omega] at this
      · have := ih r.length (by simp at hn; omega) (pre ++ run ++ [c]) r rfl
        rw [show pre ++ run ++ [c] ++ r = pre ++ (run ++ c :: r) by simp, show (pre ++ run ++ [c]).length = pre.length + run.length + 1 by simp; omega] at this
        exact this

theorem sub_unesc : ∀ (n : Nat) (pre suf : List Nat), suf.length = n → (pre ++ escL suf).length ≤ 1000000 → Sub cEsc (pre ++ escL suf).toArray (cbU (pre ++ escL suf).toArray) pre.length suf := by
  intro n
  induction n using Nat.strongRecOn with
  | _ n ih =>
    intro pre suf hn hz
    obtain ⟨run, rest, rfl, hrun, hrest⟩ := split_run isQ suf
    have h92 : ∀ c ∈ run, (c != 92) = true := fun c hc => by
      have := hrun c hc
      unfold isQ at this
      simp at this ⊢
      exact this.2
    rcases hrest with rfl | ⟨c, r, rfl, hc⟩
    · have ee : escL (run ++ []) = run ++ [] := by rw [escL_append, escL_plain hrun]; rfl
      rw [ee] at hz ⊢
      have e : run ++ [] = ((pre ++ (run ++ [])).toArray.extract pre.length (pre ++ (run ++ [])).toArray.size).toList := by
        rw [extract_run _ _ _ _ (by simp)]; simp
      have st : Sub cEsc (pre ++ (run ++ [])).toArray (cbU (pre ++ (run ++ [])).toArray) pre.length ((pre ++ (run ++ [])).toArray.extract pre.length (pre ++ (run ++ [])).toArray.size).toList := by
        refine .stop (k := 2 * (pre ++ (run ++ [])).toArray.size + 20) (esc_no (by simp) fun i h1 h2 => ?_) (by simp at hz ⊢; omega) (by simp)
        have := getD_mid (pre := pre) (post := []) h92 (i - pre.length) (by simp at h2; omega)
        rw [show pre.length + (i - pre.length) = i by omega] at this
        simpa using this
      rw [← e] at st
      exact st
    · have ee : escL (run ++ c :: r) = run ++ 92 :: c :: escL r := by rw [escL_append, escL_plain hrun, escL_cons, hc]; rfl
      rw [ee] at hz ⊢
      have e1 : pre ++ (run ++ 92 :: c :: escL r) = (pre ++ run) ++ 92 :: c :: escL r := by simp
      have e2 : pre ++ (run ++ 92 :: c :: escL r) = (pre ++ run ++ [92]) ++ c :: escL r := by simp
      have e : run ++ c :: r = ((pre ++ (run ++ 92 :: c :: escL r)).toArray.extract pre.length (pre.length + run.length)).toList ++ (cbU (pre ++ (run ++ 92 :: c :: escL r)).toArray (pre.length + run.length + 1) (pre.length + run.length + 2) ++ r) := by
        rw [extract_run _ _ _ _ rfl]
        have : ((pre ++ (run ++ 92 :: c :: escL r)).toArray.extract (pre.length + run.length + 1) (pre.length + run.length + 2)).toList = [c] := by
          rw [toList_extract, e2, show pre.length + run.length + 1 = (pre ++ run ++ [92]).length by simp; omega]
          rw [List.drop_left]
          have e9 : pre.length + run.length + 2 - (pre ++ run ++ [92]).length = 1 := by simp; omega
          rw [e9]; rfl
        simp only [cbU, this]; simp
      rw [e]
      have hq : (pre ++ (run ++ 92 :: c :: escL r)).toArray.getD (pre.length + run.length) 0 = 92 := by
        rw [e1, show pre.length + run.length = (pre ++ run).length by simp]
        exact getD_head _ _ _ _
      have hq1 : (pre ++ (run ++ 92 :: c :: escL r)).toArray.getD (pre.length + run.length + 1) 0 = c := by
        rw [e2, show pre.length + run.length + 1 = (pre ++ run ++ [92]).length by simp; omega]
        exact getD_head _ _ _ _
      refine .next (k := 2 * (pre ++ (run ++ 92 :: c :: escL r)).toArray.size + 20) (esc_yes (q := pre.length + run.length) (by simp; omega) (by omega) hq (by rw [hq1]; rcases isQ_false hc with rfl | rfl <;> decide) fun i h1 h2 => ?_) (by simp at hz ⊢; omega) (by omega) (by omega) (by simp; omega) (by omega) (by simp; omega) ?_
      · have := getD_mid (pre := pre) (post := 92 :: c :: escL r) h92 (i - pre.length) (by omega)
        rw [show pre.length + (i - pre.length) = i by omega] at this
        simpa using this
      · have := ih r.length (by simp at hn; omega) (pre ++ run ++ [92, c]) r rfl (by simpa using hz)
        rw [show pre ++ run ++ [92, c] ++ escL r = pre ++ (run ++ 92 :: c :: escL r) by simp, show (pre ++ run ++ [92, c]).length = pre.length + run.length + 2 by simp; omega] at this
        exact this

/-- the body of a quoted value -/
theorem qbody : ∀ (v pre post : List Nat), ∃ n, (∀ i < n, isQ ((pre ++ (escL v ++ 34 :: post)).toArray.getD (pre.length + i) 0) = true) ∧ isQ ((pre ++ (escL v ++ 34 :: post)).toArray.getD (pre.length + n) 0) = false ∧
    QBody (pre ++ (escL v ++ 34 :: post)).toArray (pre.length + (escL v).length) (pre.length + n) := by
  intro v
  induction v with
  | nil =>
    intro pre post
    have h : (pre ++ (escL [] ++ 34 :: post)).toArray.getD pre.length 0 = 34 := getD_head _ _ _ _
    refine ⟨0, fun i hi => by omega, ?_, ?_⟩
    · rw [Nat.add_zero, h]; decide
    · exact .done (by simp [escL]) h
  | cons c v ih =>
    intro pre post
    cases hc : isQ c with
    | true =>
      have e : pre ++ (escL (c :: v) ++ 34 :: post) = (pre ++ [c]) ++ (escL v ++ 34 :: post) := by rw [escL_cons, hc]; simp
      have el : (escL (c :: v)).length = (escL v).length + 1 := by rw [escL_cons, hc]; simp
      obtain ⟨n, h1, h2, h3⟩ := ih (pre ++ [c]) post
      rw [e, el]
      have ep : (pre ++ [c]).length = pre.length + 1 := by simp
      rw [ep] at h1 h2 h3
      refine ⟨n + 1, fun i hi => ?_, ?_, ?_⟩
      · cases i with
        | zero =>
          rw [Nat.add_zero]
          have : ((pre ++ [c]) ++ (escL v ++ 34 :: post)).toArray.getD pre.length 0 = c := by
            rw [List.append_assoc]; exact getD_head _ _ _ _
          rw [this]; exact hc
        | succ i => have := h1 i (by omega); rwa [show pre.length + (i + 1) = pre.length + 1 + i by omega]
      · rwa [show pre.length + (n + 1) = pre.length + 1 + n by omega]
      · rwa [show pre.length + (n + 1) = pre.length + 1 + n by omega, show pre.length + ((escL v).length + 1) = pre.length + 1 + (escL v).length by omega]
    | false =>
      have e : pre ++ (escL (c :: v) ++ 34 :: post) = (pre ++ [92, c]) ++ (escL v ++ 34 :: post) := by rw [escL_cons, hc]; simp
      have el : (escL (c :: v)).length = (escL v).length + 2 := by rw [escL_cons, hc]; simp
      obtain ⟨n, h1, h2, h3⟩ := ih (pre ++ [92, c]) post
      rw [e, el]
      have ep : (pre ++ [92, c]).length = pre.length + 2 := by simp
      rw [ep] at h1 h2 h3
      have g0 : ((pre ++ [92, c]) ++ (escL v ++ 34 :: post)).toArray.getD pre.length 0 = 92 := by
        rw [List.append_assoc]; exact getD_head _ _ _ _
      have g1 : ((pre ++ [92, c]) ++ (escL v ++ 34 :: post)).toArray.getD (pre.length + 1) 0 = c := by
        rw [show (pre ++ [92, c]) ++ (escL v ++ 34 :: post) = (pre ++ [92]) ++ c :: (escL v ++ 34 :: post) by simp, show pre.length + 1 = (pre ++ [92]).length by simp]
        exact getD_head _ _ _ _
      refine ⟨0, fun i hi => by omega, ?_, ?_⟩
      · rw [Nat.add_zero, g0]; decide
      · rw [Nat.add_zero, show pre.length + ((escL v).length + 2) = pre.length + 2 + (escL v).length by omega]
        exact .more g0 (by rw [g1]; rcases isQ_false hc with rfl | rfl <;> decide) h1 h2 h3

theorem quo_read {v rest : List Nat} (hT : (61 :: 34 :: (escL v ++ 34 :: rest)).length ≤ 1000000) :
    To (6 * (61 :: 34 :: (escL v ++ 34 :: rest)).length + 60) (forSearch cQuo (61 :: 34 :: (escL v ++ 34 :: rest)).toArray 1 0 (61 :: 34 :: (escL v ++ 34 :: rest)).toArray.size false)
      fun m => Won m 0 (2 + (escL v).length + 1) #[some 2, some (2 + (escL v).length)] 1 1 := by
  obtain ⟨n, h1, h2, h3⟩ := qbody v [61, 34] rest
  have := quo_yes (t := (61 :: 34 :: (escL v ++ 34 :: rest)).toArray) (by simpa using hT) (getD_head [] _ _ _) (getD_head [61] _ _ _) h1 h2 h3
  simpa using this
end Mine
end

section
open PySem PySem.W PyProof.Rows PySem.Calls
open PySem.Builtin.Re
set_option maxRecDepth 100000
set_option maxHeartbeats 4000000
namespace Mine


/-- what is around a call: nothing is being handled -/
abbrev AA (d : Nat) (fr : Option (List Env)) (gs : Option (List Code)) (u : Nat) : Around := ⟨none, d, fr, gs, u⟩
/-- the ground that every call stands on -/
structure Gd (w : World) (P : Program) (loose : List Str) (mean : ExcName → Option Value) (mg mb : Str → Option Value) (h : Heap) : Prop where
  X : (hd.heap_39 w.params).In h
  T : Top P loose mean mg mb h
theorem Gd.keeps {w : World} {P : Program} {loose : List Str} {mean : ExcName → Option Value} {mg mb : Str → Option Value} {h h' : Heap} (G : Gd w P loose mean mg mb h) (k : Grown h h') : Gd w P loose mean mg mb h' := ⟨G.X.keeps k, G.T.keeps k⟩

theorem Fr.more {h₀ h h' : Heap} {L : Addr} {m : Str → Option Value} (F : Fr h₀ L h m) (k : Grown h h') : Fr h₀ L h' m := PyProof.Rows.Fr.kept F k
theorem News.more' {h₀ h h' : Heap} {L : Addr} {news : List (Addr × Obj)} (N : News h₀ L h news) (k : Grown h h') : News h₀ L h' news := fun p hp => ⟨k _ _ (N p hp).1, (N p hp).2⟩

section
variable {prog : Program} {w : World} {A : Around} {s : Shared} {P : Program} {loose : List Str} {mean : ExcName → Option Value} {mg mb : Str → Option Value} {R : Result → Shared → Prop}

/-- into a def's body: all that stands is its ground -/
theorem enterK {f : Addr} {name qual : Str} {params : Arguments} {body : List Stmt} {scope : Scope} {dV kV doc pm cdv ct oc : Value} {an od : Option Addr} {osl : Array (Option Value)} {args : Args} {binds : List (Str × Value)}
    (G : Gd w P loose mean mg mb s.heap) (ho : (hd.heap_39 w.params).lookup f = some ⟨oc, od, .func (fnOf name qual params body scope dV kV doc pm an cdv ct), osl⟩) (hcd : codeIn (hd.heap_39 w.params) cdv qual = true) (hroom : A.depth < recursionLimit)
    (hbind : BindsTo s (fnOf name qual params body scope dV kV doc pm an cdv ct) args binds) (hloc : ∀ y ∈ binds, scope.names.lookup y.1 = some .local)
    (hco : scope.isCoroutine = false) (hgen : scope.isGenerator = false) (hk : scope.kind = .function) (hcell : ∀ x ∈ scope.names, x.2 ≠ .cell)
    (h : ∀ h₁, Fr s.heap s.heap.objs.size h₁ (fun y => binds.reverse.lookup y) → News s.heap s.heap.objs.size h₁ [] →
      wpAny (model prog w) (A.deeper (envOf qual scope s.heap.objs.size f cdv)) (execs body (envOf qual scope s.heap.objs.size f cdv))
        (fun fl s' => R (.ok (.ret (match fl with | .ret v => v | _ => .none))) s') (fun _ _ => False) { s with heap := h₁, toks := s.toks + binds.length }) :
    codeAny (model prog w) A (.call (.ref f) args) R s := by
  refine codeAny_call_def (fd := fnOf name qual params body scope dV kV doc pm an cdv ct) (body := body) (binds := binds) hroom (G.X _ _ ho) rfl G.T.nolimit (codeRec_of G.X hcd) rfl hbind hcell hloc (fun h₁ hns hk₁ => ?_) hco hgen hk
  exact wpAny_mono (h h₁ ⟨hns, hk₁, Nat.le_refl _⟩ News.nil) (fun _ _ x => x) fun _ _ x => x.elim

/-- into a def's body: some objects that stand may turn -/
theorem enterH {f : Addr} {name qual : Str} {params : Arguments} {body : List Stmt} {scope : Scope} {dV kV doc pm cdv ct oc : Value} {an od : Option Addr} {osl : Array (Option Value)} {args : Args} {binds : List (Str × Value)} {hid : List (Addr × Obj)}
    (G : Gd w P loose mean mg mb (hideAll s.heap (hid.map (·.1)))) (hh : ∀ p ∈ hid, s.heap.get? p.1 = some p.2) (ho : (hd.heap_39 w.params).lookup f = some ⟨oc, od, .func (fnOf name qual params body scope dV kV doc pm an cdv ct), osl⟩) (hcd : codeIn (hd.heap_39 w.params) cdv qual = true) (hroom : A.depth < recursionLimit)
    (hbind : BindsTo s (fnOf name qual params body scope dV kV doc pm an cdv ct) args binds) (hloc : ∀ y ∈ binds, scope.names.lookup y.1 = some .local)
    (hco : scope.isCoroutine = false) (hgen : scope.isGenerator = false) (hk : scope.kind = .function) (hcell : ∀ x ∈ scope.names, x.2 ≠ .cell)
    (h : ∀ h₁, Fr (hideAll s.heap (hid.map (·.1))) s.heap.objs.size h₁ (fun y => binds.reverse.lookup y) → News (hideAll s.heap (hid.map (·.1))) s.heap.objs.size h₁ hid →
      wpAny (model prog w) (A.deeper (envOf qual scope s.heap.objs.size f cdv)) (execs body (envOf qual scope s.heap.objs.size f cdv))
        (fun fl s' => R (.ok (.ret (match fl with | .ret v => v | _ => .none))) s') (fun _ _ => False) { s with heap := h₁, toks := s.toks + binds.length }) :
    codeAny (model prog w) A (.call (.ref f) args) R s := by
  have st : Grown (hideAll s.heap (hid.map (·.1))) s.heap := fun b o e => of_hideAll _ e
  have X' := G.X.keeps st
  refine codeAny_call_def (fd := fnOf name qual params body scope dV kV doc pm an cdv ct) (body := body) (binds := binds) hroom (X' _ _ ho) rfl (G.T.nolimit.keeps st) (codeRec_of X' hcd) rfl hbind hcell hloc (fun h₁ hns hk₁ => ?_) hco hgen hk
  exact wpAny_mono (h h₁ ⟨hns, fun b o e => hk₁ b o (of_hideAll _ e), Nat.le_of_eq (hideAll_size _ _)⟩
    (fun p hp => ⟨hk₁ _ _ (hh p hp), Nat.ne_of_lt (Heap.lt_size (hh p hp)), hideAll_none _ (List.mem_map_of_mem hp)⟩)) (fun _ _ x => x) fun _ _ x => x.elim

/-- the sign that a number of the script stands for -/
def signC (n : Int) : Nat :=
  if n.fmod 1112074 < 10 then (Txt.item (Str.ofString ",;\"\\\n =aB1") (n.fmod 1112074)).cps.getD 0 0
  else if n.fmod 1112074 - 10 ≥ 55296 then (n.fmod 1112074 - 10 + 2048).toNat else (n.fmod 1112074 - 10).toNat

theorem one_cp {x : Str} (h : x.length = 1) : x = ⟨#[x.cps.getD 0 0]⟩ := by
  obtain ⟨⟨l⟩⟩ := x
  have h : l.length = 1 := h
  match l, h with
  | [c], _ => rfl

theorem sign_call {d u : Nat} {fr : Option (List Env)} {gs : Option (List Code)} {n : Int} {t : Tok} (G : Gd w P loose mean mg mb s.heap) (hd : d < recursionLimit)
    (h : ∀ h' tk tks, Grown s.heap h' → R (.ok (.ret (.str ⟨#[signC n]⟩ tk))) { s with heap := h', toks := tks }) :
    codeAny (model prog w) (AA d fr gs u) (.call (.ref 94) ⟨[.int n t], []⟩) R s := by
  have X₀ := G.X
  have T₀ := G.T
  refine enterK (binds := [("n", .int n t)]) G rfl (by rfl) hd (BindsTo.of_eq rfl) (locs rfl) rfl rfl rfl (by decide) fun h₁ F N => ?_
  repeat' (first | walk1 | (dsimp only; walk1))
  all_goals (with_reducible rename Fr _ _ _ _ => F')
  · have e : Txt.item (Str.ofString ",;\"\\\n =aB1") (n.fmod 1112074) = ⟨#[signC n]⟩ := (one_cp (by assumption)).trans (by unfold signC; rw [if_pos (by assumption)])
    dsimp only
    rw [e]
    exact h _ _ _ F'.keep
  · have e : signC n = (n.fmod 1112074 - 10 + 2048).toNat := by unfold signC; rw [if_neg (by assumption), if_pos (by assumption)]
    dsimp only
    rw [← e]
    exact h _ _ _ F'.keep
  · have e : signC n = (n.fmod 1112074 - 10).toNat := by unfold signC; rw [if_neg (by assumption), if_neg (by assumption)]
    dsimp only
    rw [← e]
    exact h _ _ _ F'.keep
end
end Mine
end

section
open PySem PySem.W PyProof.Rows PySem.Calls
open PySem.Builtin.Re
set_option maxRecDepth 100000
set_option maxHeartbeats 4000000
namespace Mine
section
variable {M : Model} {A : Around} {E : Value → Shared → Prop} {s : Shared} {q : Addr} {x : Str} {l : List Int} {c : Array Nat} {g : Nat} {pl : Sem Bool} {Q : Value × List Value → Shared → Prop}
theorem IsMatch.noDict (hm : IsMatch s.heap q x l) : ∀ a, Value.ref q = .ref a → ∃ o, s.heap.get? a = some o ∧ o.dict = none := by
  intro a ha
  cases ha
  obtain ⟨o, fs, tk, tp, ot, items, n, h1, h2, h3, r⟩ := hm.ex
  exact ⟨o, h1, h3⟩
theorem IsPat.noDict (hp : IsPat s.heap q c g) : ∀ a, Value.ref q = .ref a → ∃ o, s.heap.get? a = some o ∧ o.dict = none := by
  intro a ha
  cases ha
  obtain ⟨o, fs, ct, oc, items, n, h1, h2, h3, r⟩ := hp.ex
  exact ⟨o, h1, h3⟩
theorem gm_span (hm : IsMatch s.heap q x l) (h : Q (.builtin "re.Match.span", [.ref q]) s) : wpAny M A (getMethod (.ref q) "span" pl) Q E s := getMethod_builtin hm.type pa_match slot_span ty_span hm.noDict h
theorem gm_group (hm : IsMatch s.heap q x l) (h : Q (.builtin "re.Match.group", [.ref q]) s) : wpAny M A (getMethod (.ref q) "group" pl) Q E s := getMethod_builtin hm.type pa_match slot_group ty_group hm.noDict h
theorem gm_search (hp : IsPat s.heap q c g) (h : Q (.builtin "re.Pattern.search", [.ref q]) s) : wpAny M A (getMethod (.ref q) "search" pl) Q E s := getMethod_builtin hp.type pa_pat slot_search ty_search hp.noDict h
theorem gm_full (hp : IsPat s.heap q c g) (h : Q (.builtin "re.Pattern.fullmatch", [.ref q]) s) : wpAny M A (getMethod (.ref q) "fullmatch" pl) Q E s := getMethod_builtin hp.type pa_pat slot_full ty_full hp.noDict h
theorem gm_sub (hp : IsPat s.heap q c g) (h : Q (.builtin "re.Pattern.sub", [.ref q]) s) : wpAny M A (getMethod (.ref q) "sub" pl) Q E s := getMethod_builtin hp.type pa_pat slot_sub ty_sub hp.noDict h
theorem gm_subn (hp : IsPat s.heap q c g) (h : Q (.builtin "re.Pattern.subn", [.ref q]) s) : wpAny M A (getMethod (.ref q) "subn" pl) Q E s := getMethod_builtin hp.type pa_pat slot_subn ty_subn hp.noDict h
end
section
variable {prog : Program} {w : World} {A : Around} {E : Value → Shared → Prop} {s : Shared} {h₀ : Heap} {L q : Addr} {m : Str → Option Value} {news : List (Addr × Obj)} {x : Str} {l : List Int}
theorem span_F {st hd : Int} {tk' : Tok} {Q : Value → Shared → Prop} (F : Fr h₀ L s.heap m) (N : News h₀ L s.heap news) (hm : IsMatch s.heap q x (st :: hd :: l))
    (h : ∀ h', Fr h₀ L h' m → News h₀ L h' ((s.heap.objs.size, tupO [.int st s.toks, .int hd (s.toks + 1)]) :: news) → Q (.ref s.heap.objs.size) { s with heap := h', toks := s.toks + 1 + 1 }) :
    wpAny (model prog w) A (call (.builtin "re.Match.span") [.ref q, .int 0 tk']) Q E s := span0 (n := 0) hm rfl (h _ (F.push _) (N.push F _))
end
-- a match that stands in the ground
local macro_rules | `(tactic| walk_at "call builtin:re.Match.span") => `(tactic| (k_here; refine span_F (by k_asm) (by k_asm) (IsMatch.keeps (by assumption) (Fr.keep (by k_asm))) ?_; intro h' F' N'; (try dsimp only at F' N')))
local macro_rules | `(tactic| walk_at "getMethod ref") => `(tactic| (k_here; first | refine gm_span (IsMatch.keeps (by assumption) (Fr.keep (by k_asm))) ?_ | refine gm_group (IsMatch.keeps (by assumption) (Fr.keep (by k_asm))) ?_))
local macro_rules | `(tactic| walk_at "getAttr ref") => `(tactic| (k_here; refine attr_string (IsMatch.keeps (by assumption) (Fr.keep (by k_asm))) ?_; intro _))
section
variable {prog : Program} {w : World} {A : Around} {s : Shared} {P : Program} {loose : List Str} {mean : ExcName → Option Value} {mg mb : Str → Option Value} {R : Result → Shared → Prop}

theorem unmatched_call {d u : Nat} {fr : Option (List Env)} {gs : Option (List Code)} {q : Addr} {x : Str} {e : Nat} {l : List Int} (G : Gd w P loose mean mg mb s.heap) (hd : d < recursionLimit) (hm : IsMatch s.heap q x (0 :: e :: l)) (he : e ≤ x.cps.size) (hx : x.cps.size ≤ 1000000)
    (h : ∀ h' tk tks, Grown s.heap h' → R (.ok (.ret (.str ⟨x.cps.extract e x.cps.size⟩ tk))) { s with heap := h', toks := tks }) :
    codeAny (model prog w) (AA d fr gs u) (.call (.ref 43) ⟨[.ref q], []⟩) R s := by
  have X₀ := G.X
  have T₀ := G.T
  have hx' : x.length ≤ 1000000 := hx
  refine enterK (binds := [("match", .ref q)]) G rfl (by rfl) hd (BindsTo.of_eq rfl) (locs rfl) rfl rfl rfl (by decide) fun h₁ F N => ?_
  repeat' (first | walk1 | (dsimp only; walk1))
  all_goals (with_reducible rename Fr _ _ _ _ => F')
  have e1 : (Txt.slice x none (some 0)) ++ (Txt.slice x (some (e : Int)) none) = ⟨x.cps.extract e x.cps.size⟩ := by
    have a1 : Txt.slice x none (some 0) = ⟨((x.cps.toList.drop 0).take ((0 : Int) - 0).toNat).toArray⟩ := StrLaws.sliceText_to ⟨Int.le_refl _, by simp⟩
    have a2 : Txt.slice x (some (e : Int)) none = ⟨((x.cps.toList.drop (e : Int).toNat).take ((x.cps.toList.length : Int) - e).toNat).toArray⟩ := StrLaws.sliceText_from ⟨by omega, by simpa using he⟩
    rw [a1, a2]
    apply Str.ext'
    rw [Str.cps_append]
    apply Array.toList_inj.mp
    simp
  try dsimp only
  rw [e1]
  exact h _ _ _ F'.keep
end
end Mine
end

section
open PySem PySem.W PyProof.Rows PySem.Calls
open PySem.Builtin.Re
set_option maxRecDepth 100000
set_option maxHeartbeats 4000000
namespace Mine

/-- a list's iterator at place i -/
def IsIt (o : Obj) (l : Addr) (i : Nat) : Prop := o.cls = .type "list_iterator" ∧ o.data = .fields #[.ref l, .int i 0]

theorem no_noted {M : Model} {A : Around} {E : Value → Shared → Prop} {α : Type} {t : Sem α} {Q : α → Shared → Prop} {s : Shared} (h : wpAny M A t Q (fun _ _ => False) s) : wpAny M A t Q E s :=
  wpAny_mono h (fun _ _ x => x) fun _ _ x => x.elim

section
variable {prog : Program} {w : World} {A : Around} {s : Shared} {env : Env} {h₀ : Heap} {L : Addr} {m : Str → Option Value} {news : List (Addr × Obj)}

/-- the end of a turn -/
def TurnEnd (s : Shared) (h₀ : Heap) (L it : Addr) (io : Obj) (J : (Str → Option Value) → List (Addr × Obj) → Prop) (Q : Flow → Shared → Prop) (f : Flow) (s' : Shared) : Prop :=
  match f with
  | .ret v => Q (.ret v) s'
  | .brk => Q .next s'
  | _ => ∃ h' tk' m' news', s' = { s with heap := h', toks := tk' } ∧ Fr h₀ L h' m' ∧ News h₀ L h' ((it, io) :: news') ∧ (∀ p ∈ news', p.1 ≠ it) ∧ J m' news'

theorem for_list {target iter : Expr} {body : List Stmt} {pos : Pos} {l : Addr} {vs : List Value} {Q : Flow → Shared → Prop} (J : Nat → (Str → Option Value) → List (Addr × Obj) → Prop)
    (hh : A.handled = none) (F : Fr h₀ L s.heap m) (N : News h₀ L s.heap news) (j0 : J 0 m news)
    (hiter : ∀ Q', Q' (.ref l) s → wpAny (model prog w) A (eval iter env) Q' (fun _ _ => False) s)
    (hl : ∀ i m₁ news₁ h, J i m₁ news₁ → Fr h₀ L h m₁ → News h₀ L h news₁ → h.IsList l vs.toArray)
    (turn : ∀ i v m₁ news₁ h tk it io, vs[i]? = some v → J i m₁ news₁ → Fr h₀ L h m₁ → News h₀ L h ((it, io) :: news₁) → (∀ p ∈ news₁, p.1 ≠ it) → it ≠ L →
      wpAny (model prog w) A (assign target env v) (fun _ s₂ => wpAny (model prog w) A (execs body env) (TurnEnd s h₀ L it io (J (i + 1)) Q) (fun _ _ => False) s₂) (fun _ _ => False) { s with heap := h, toks := tk })
    (done : ∀ m₁ news₁ h tk, J vs.length m₁ news₁ → Fr h₀ L h m₁ → News h₀ L h news₁ → Q .next { s with heap := h, toks := tk })
    (hs : ∀ x, foldedSetIterable iter env x = pure x := by intro _; rfl)
    (ht : ∀ (I : Addr) (v : Value) (i : Nat) (s' : Shared) (Q' : Unit → Shared → Prop), v ∈ vs → s'.heap.IsListIter I l i → Q' () s' → wpAny (model prog w) A (letOwnedTupleGo target (.ref I) v) Q' (fun _ _ => False) s' := by intro _ _ _ _ _ _ _ h; exact wpAny_of_eq rfl h) :
    wpAny (model prog w) A (exec (.For target iter body [] pos) env) Q (fun _ _ => False) s := by
  have hls := hl 0 m news s.heap j0 F N
  refine wpAny_For (hiter _ (wpAny_pyIter_list hls ?_)) hs
  have hnew : ∀ b o, s.heap.get? b = some o → b ≠ s.heap.objs.size := fun b o e => Nat.ne_of_lt (Heap.lt_size e)
  have hLlt := F.ns.lt
  have h0none : h₀.get? s.heap.objs.size = none := by
    cases q : h₀.get? s.heap.objs.size with
    | none => rfl
    | some o => exact absurd (Heap.lt_size (F.keep _ _ q)) (Nat.lt_irrefl _)
  refine codeAny_forLoop_any (fun n s' => ∃ i h tk m₁ news₁ io, n = vs.length + 1 - i ∧ i ≤ vs.length ∧ s' = { s with heap := h, toks := tk } ∧ Fr h₀ L h m₁ ∧ News h₀ L h ((s.heap.objs.size, io) :: news₁) ∧ IsIt io l i ∧ (∀ p ∈ news₁, p.1 ≠ s.heap.objs.size) ∧ J i m₁ news₁)
    ?_ (vs.length + 1) ⟨0, _, s.toks, m, news, { cls := .type "list_iterator", data := .fields #[.ref l, .int 0 0] }, rfl, Nat.zero_le _, rfl, F.push _, ?_, ⟨rfl, rfl⟩, fun p hp => hnew _ _ (N p hp).1, j0⟩
  · rintro n s' ⟨i, h, tk, m₁, news₁, io, rfl, hi, rfl, F₁, N₁, hio, hne, hJ⟩
    have Nj : News h₀ L h news₁ := fun p hp => N₁ p (.tail _ hp)
    have hit := N₁ _ (List.mem_cons_self ..)
    have hl₁ := hl i m₁ news₁ h hJ F₁ Nj
    have hIt : h.IsListIter s.heap.objs.size l i := ⟨_, hit.1, hio.1, hio.2⟩
    cases hv : vs.toArray[i]? with
    | none =>
      have hsz : i = vs.length := Nat.le_antisymm hi (by simpa using hv)
      refine wpAny_pyNext_list_end hh hIt hl₁ hv fun h₁ he₁ => wpAny_execs_nil ?_
      have F₂ : Fr h₀ L h₁ m₁ := ⟨F₁.ns.extBut he₁ hit.2.1.symm, fun b o e => he₁ b o (fun q => by rw [q, h0none] at e; cases e) (F₁.keep b o e), F₁.above⟩
      exact done m₁ news₁ h₁ tk (hsz ▸ hJ) F₂ fun p hp => ⟨he₁ _ _ (hne p hp) (Nj p hp).1, (Nj p hp).2⟩
    | some v =>
      have hlt : i < vs.length := by simpa using (Array.getElem?_eq_some_iff.mp hv).1
      have hv' : vs[i]? = some v := by simpa using hv
      refine wpAny_pyNext_list_item hIt hl₁ hv fun h₁ hit₁ hs₁ => ?_
      have hs₁' : ∀ b o, b ≠ s.heap.objs.size → h.get? b = some o → h₁.get? b = some o := hs₁.extBut
      have F₂ : Fr h₀ L h₁ m₁ := ⟨F₁.ns.extBut hs₁.extBut hit.2.1.symm, fun b o e => hs₁' b o (fun q => by rw [q, h0none] at e; cases e) (F₁.keep b o e), F₁.above⟩
      obtain ⟨io', hio', hc', hd'⟩ := id hit₁
      have N₂ : News h₀ L h₁ ((s.heap.objs.size, io') :: news₁) := fun p hp => by
        rcases List.mem_cons.mp hp with rfl | hp
        · exact ⟨hio', hit.2⟩
        · exact ⟨hs₁' _ _ (hne p hp) (Nj p hp).1, (Nj p hp).2⟩
      have T := turn i v m₁ news₁ h₁ tk s.heap.objs.size io' hv' hJ F₂ N₂ hne hit.2.1
      refine no_noted (ht _ _ _ _ _ (List.mem_of_getElem? hv') hit₁ ?_)
      refine no_noted (wpAny_mono T (fun _ s₂ h₂ => no_noted (wpAny_mono h₂ (fun f s₃ h₃ => ?_) fun _ _ x => x)) fun _ _ x => x)
      have fin : (∃ h' tk' m' news', s₃ = { s with heap := h', toks := tk' } ∧ Fr h₀ L h' m' ∧ News h₀ L h' ((s.heap.objs.size, io') :: news') ∧ (∀ p ∈ news', p.1 ≠ s.heap.objs.size) ∧ J (i + 1) m' news') →
          ∃ k, k < vs.length + 1 - i ∧ ∃ i h tk m₁ news₁ io, k = vs.length + 1 - i ∧ i ≤ vs.length ∧ s₃ = { s with heap := h, toks := tk } ∧ Fr h₀ L h m₁ ∧ News h₀ L h ((s.heap.objs.size, io) :: news₁) ∧ IsIt io l i ∧ (∀ p ∈ news₁, p.1 ≠ s.heap.objs.size) ∧ J i m₁ news₁ := by
        rintro ⟨h', tk', m', news', e, F', N', hne', hJ'⟩
        exact ⟨vs.length + 1 - (i + 1), by omega, i + 1, h', tk', m', news', io', rfl, hlt, e, F', N', ⟨hc', hd'⟩, hne', hJ'⟩
      cases f with
      | next => exact fin h₃
      | cont => exact fin h₃
      | brk => exact h₃
      | ret v => exact h₃
  · intro p hp
    rcases List.mem_cons.mp hp with rfl | hp
    · exact ⟨Heap.get?_push_size _ rfl, Nat.ne_of_gt hLlt, h0none⟩
    · exact ⟨Heap.get?_push_of_some _ (N p hp).1, (N p hp).2⟩
end
end Mine
end

section
open PySem PySem.W PyProof.Rows PySem.Calls
open PySem.Builtin.Re
set_option maxRecDepth 100000
set_option maxHeartbeats 4000000
namespace Mine
/-! ### the data: a key, and a value or none -/
abbrev Pr := List Nat × Option (List Nat)
inductive All2 {α β : Type} (R : α → β → Prop) : List α → List β → Prop where
  | nil : All2 R [] []
  | cons {a : α} {b : β} {l : List α} {r : List β} : R a b → All2 R l r → All2 R (a :: l) (b :: r)
theorem All2.mono {α β : Type} {R S : α → β → Prop} {l : List α} {r : List β} (h : All2 R l r) (k : ∀ a b, R a b → S a b) : All2 S l r := by
  induction h with
  | nil => exact .nil
  | cons h _ ih => exact .cons (k _ _ h) ih
theorem All2.snoc {α β : Type} {R : α → β → Prop} {l : List α} {r : List β} {a : α} {b : β} (h : All2 R l r) (k : R a b) : All2 R (l ++ [a]) (r ++ [b]) := by
  induction h with
  | nil => exact .cons k .nil
  | cons h _ ih => exact .cons h ih
theorem All2.append {α β : Type} {R : α → β → Prop} {l l' : List α} {r r' : List β} (h : All2 R l r) (k : All2 R l' r') : All2 R (l ++ l') (r ++ r') := by
  induction h with
  | nil => exact k
  | cons h _ ih => exact .cons h ih
theorem All2.length {α β : Type} {R : α → β → Prop} {l : List α} {r : List β} (h : All2 R l r) : l.length = r.length := by
  induction h with
  | nil => rfl
  | cons _ _ ih => simp [ih]
theorem All2.get {α β : Type} {R : α → β → Prop} {l : List α} {r : List β} (h : All2 R l r) {i : Nat} {a : α} (e : l[i]? = some a) : ∃ b, r[i]? = some b ∧ R a b := by
  induction h generalizing i with
  | nil => simp at e
  | cons h _ ih =>
    cases i with
    | zero => simp at e ⊢; exact e ▸ h
    | succ i => simpa using ih (by simpa using e)

def ValIs (v : Value) : Option (List Nat) → Prop
  | none => v = .none
  | some x => ∃ t, v = .str ⟨x.toArray⟩ t
/-- read off a map of objects -/
def PairAt (o : Addr → Obj → Prop) (v : Value) (p : Pr) : Prop := ∃ a tk vo, v = .ref a ∧ o a (tupO [.str ⟨p.1.toArray⟩ tk, vo]) ∧ ValIs vo p.2
def ListAt (o : Addr → Obj → Prop) (v : Value) (ps : List Pr) : Prop := ∃ a us n, v = .ref a ∧ o a (lisO us n) ∧ All2 (PairAt o) us ps
def ListsAt (o : Addr → Obj → Prop) (v : Value) (ls : List (List Pr)) : Prop := ∃ a us n, v = .ref a ∧ o a (lisO us n) ∧ All2 (ListAt o) us ls
abbrev inH (h : Heap) : Addr → Obj → Prop := fun a o => h.get? a = some o
abbrev inN (news : List (Addr × Obj)) : Addr → Obj → Prop := fun a o => (a, o) ∈ news
theorem PairAt.mono {o o' : Addr → Obj → Prop} {v : Value} {p : Pr} (h : PairAt o v p) (k : ∀ a x, o a x → o' a x) : PairAt o' v p := by
  obtain ⟨a, tk, vo, e, m, x⟩ := h; exact ⟨a, tk, vo, e, k _ _ m, x⟩
theorem ListAt.mono {o o' : Addr → Obj → Prop} {v : Value} {p : List Pr} (h : ListAt o v p) (k : ∀ a x, o a x → o' a x) : ListAt o' v p := by
  obtain ⟨a, us, n, e, m, x⟩ := h; exact ⟨a, us, n, e, k _ _ m, x.mono fun _ _ y => y.mono k⟩
theorem ListsAt.mono {o o' : Addr → Obj → Prop} {v : Value} {p : List (List Pr)} (h : ListsAt o v p) (k : ∀ a x, o a x → o' a x) : ListsAt o' v p := by
  obtain ⟨a, us, n, e, m, x⟩ := h; exact ⟨a, us, n, e, k _ _ m, x.mono fun _ _ y => y.mono k⟩

/-- one name of a frame -/
abbrev upd (x : Str) (v : Value) (m : Str → Option Value) : Str → Option Value := fun y => if y = x then some v else m y
theorem upd_eq {x : Str} {v : Value} {m : Str → Option Value} (h : m x = some v) : upd x v m = m := funext fun y => by
  unfold upd
  by_cases q : y = x
  · rw [if_pos q, q, h]
  · rw [if_neg q]

/-! ### what _law_lists builds -/
def keyOf (n : Int) : List Nat := match ((-1 - n).fdiv 6).fmod 5 with
  | 0 => [97]
  | 1 => [116, 101, 120, 116, 47, 104, 116, 109, 108]
  | 2 => [34, 113]
  | 3 => [120, 92, 121]
  | _ => [49]
/-- one more pair to the last list -/
def addP (ls : List (List Pr)) (p : Pr) : List (List Pr) := ls.dropLast ++ [(ls.getLast?.getD []) ++ [p]]
/-- one more sign to the last value -/
def addC (ls : List (List Pr)) (c : Nat) : List (List Pr) :=
  ls.dropLast ++ [((ls.getLast?.getD []).dropLast ++ [(((ls.getLast?.getD []).getLast?.getD ([], none)).1, some ((((ls.getLast?.getD []).getLast?.getD ([], none)).2.getD []) ++ [c]))])]
def stepL (st : List (List Pr) × Bool) (n : Int) : List (List Pr) × Bool :=
  if n < 0 then
    let op := (-1 - n).fmod 2 == 0
    let ls := if ((-1 - n).fdiv 2).fmod 3 == 0 || st.1.isEmpty then st.1 ++ [[]] else st.1
    (addP ls (keyOf n, if op then some [] else none), op)
  else if st.2 then (addC st.1 (signC n), true) else st
def buildL (ns : List Int) : List (List Pr) × Bool := ns.foldl stepL ([], false)

/-! ### rules for lists of the ledger -/
section
variable {prog : Program} {w : World} {A : Around} {E : Value → Shared → Prop} {s : Shared} {h₀ : Heap} {L D : Addr} {m : Str → Option Value} {news news' : List (Addr × Obj)} {vs : List Value} {v x : Value} {n : Nat}
theorem append_L {Q : Value → Shared → Prop} (F : Fr h₀ L s.heap m) (N : News h₀ L s.heap news) (U : Upd D (lisO vs n) (lisO (vs ++ [x]) (n + 1)) news news') (hsz : vs.length ≤ 1000000)
    (h : ∀ h', Fr h₀ L h' m → News h₀ L h' news' → Q .none { s with heap := h' }) : wpAny (model prog w) A (call (.builtin "list.append") [.ref D, x]) Q E s :=
  append_K (its := vs.toArray) F N (by rw [List.push_toArray]; exact U) h (by rw [List.size_toArray, sizeLine_eq]; omega)
theorem last_L {value slice : Expr} {t : Tok} {Q : Value → Shared → Prop} (N : News h₀ L s.heap news) (hm : (D, lisO (vs ++ [v]) n) ∈ news) (hsz : vs.length ≤ 1000000) (h : Q v s)
    (hs : subscripted slice false (.ref D) (.int (-1) t) = operate [.ref D, .int (-1) t] (getItem (.ref D) (.int (-1) t)) := by with_unfolding_all rfl) :
    wpAny (model prog w) A (subscriptTail value slice (.ref D) (.int (-1) t)) Q E s := by
  have hl : s.heap.IsList D (vs ++ [v]).toArray := ⟨_, N.get hm, rfl, n, rfl⟩
  refine tail_any hl.typeIs slot_list_getitem.lookup (wpAny_getItem_list_neg hl (by decide) (by simp; omega) (by decide) ?_ h) hs
  have : (-1 + ((vs ++ [v]).toArray.size : Int)).toNat = vs.length := by simp; omega
  rw [this]; simp
theorem setLast_heap {t : Tok} {Q : Unit → Shared → Prop} (ho : s.heap.get? D = some (lisO (vs ++ [v]) n)) (hsz : vs.length ≤ 1000000)
    (hQ : ∀ h', h'.get? D = some (lisO (vs ++ [x]) n) → Heap.SameBut D s.heap h' → Q () { s with heap := h' }) : wpAny (model prog w) A (setItem (.ref D) (.int (-1) t) x) Q E s := by
  have i : (-1 + ((vs ++ [v]).toArray.size : Int)).toNat = vs.length := by simp; omega
  have e : Obj.mapSeq (·.setIfInBounds vs.length x) (lisO (vs ++ [v]) n) = lisO (vs ++ [x]) n := by
    unfold Obj.mapSeq
    simp
  refine PySem.W.ki_setBack (items := (vs ++ [v]).toArray) (n := n) ho (by decide) (by simp; omega) (by decide) (hQ _ ?_ (Heap.SameBut.update ..))
  rw [i, Heap.get?_update_self _ ho (by rw [e]; rfl), e]
theorem setLast_L {t : Tok} {Q : Unit → Shared → Prop} (F : Fr h₀ L s.heap m) (N : News h₀ L s.heap news) (U : Upd D (lisO (vs ++ [v]) n) (lisO (vs ++ [x]) n) news news') (hsz : vs.length ≤ 1000000)
    (h : ∀ h', Fr h₀ L h' m → News h₀ L h' news' → Q () { s with heap := h' }) : wpAny (model prog w) A (setItem (.ref D) (.int (-1) t) x) Q E s := by
  obtain ⟨pre, post, rfl, rfl, a, b⟩ := U.split
  have z := N (D, lisO (vs ++ [v]) n) (List.mem_append.mpr (.inr (.head _)))
  exact setLast_heap z.1 hsz fun h' ho' hs => h h' (F.change hs z.2.1 z.2.2) (news_set N a b hs ho')
theorem truthy_L {Q : Bool → Shared → Prop} (N : News h₀ L s.heap news) (hm : (D, lisO vs n) ∈ news) (hsz : vs.length ≤ 2000000) (h : ∀ tks, Q (!vs.isEmpty) { s with toks := tks }) : wpAny (model prog w) A (truthy (.ref D)) Q E s := by
  have hl : s.heap.IsList D vs.toArray := ⟨_, N.get hm, rfl, n, rfl⟩
  refine wpAny_truthy_list hl (by simp; omega) ?_
  have e : vs.toArray.isEmpty = vs.isEmpty := by cases vs <;> rfl
  rw [e]
  exact h _
theorem truthy_snoc {Q : Bool → Shared → Prop} (N : News h₀ L s.heap news) (hm : (D, lisO (vs ++ [v]) n) ∈ news) (hsz : vs.length ≤ 1000000) (h : ∀ tks, Q true { s with toks := tks }) : wpAny (model prog w) A (truthy (.ref D)) Q E s :=
  truthy_L N hm (by simp; omega) fun tks => by
    have e : (!(vs ++ [v]).isEmpty) = true := by cases vs <;> rfl
    rw [e]; exact h tks
theorem key_item {value slice : Expr} {k : Int} {u t0 t1 t2 t3 t4 : Tok} {x0 x1 x2 x3 x4 : Str} {c : Int} {Q : Value → Shared → Prop} (N : News h₀ L s.heap news) (hm : (D, W.listOf #[.str x0 t0, .str x1 t1, .str x2 t2, .str x3 t3, .str x4 t4] n) ∈ news)
    (hk : k = ((-1 - c).fdiv 6).fmod 5) (h0 : x0 = ⟨#[97]⟩) (h1 : x1 = ⟨#[116, 101, 120, 116, 47, 104, 116, 109, 108]⟩) (h2 : x2 = ⟨#[34, 113]⟩) (h3 : x3 = ⟨#[120, 92, 121]⟩) (h4 : x4 = ⟨#[49]⟩) (h : ∀ t, Q (.str ⟨(keyOf c).toArray⟩ t) s)
    (hs : subscripted slice false (.ref D) (.int k u) = operate [.ref D, .int k u] (getItem (.ref D) (.int k u)) := by with_unfolding_all rfl) :
    wpAny (model prog w) A (subscriptTail value slice (.ref D) (.int k u)) Q E s := by
  have hl : s.heap.IsList D #[.str x0 t0, .str x1 t1, .str x2 t2, .str x3 t3, .str x4 t4] := ⟨_, N.get hm, rfl, n, rfl⟩
  have hb : 0 ≤ k ∧ k < 5 := by
    rw [hk]
    exact ⟨Int.fmod_nonneg_of_pos _ (by decide), Int.fmod_lt_of_pos _ (by decide)⟩
  subst h0 h1 h2 h3 h4
  have key : ∃ t, (#[.str ⟨#[97]⟩ t0, .str ⟨#[116, 101, 120, 116, 47, 104, 116, 109, 108]⟩ t1, .str ⟨#[34, 113]⟩ t2, .str ⟨#[120, 92, 121]⟩ t3, .str ⟨#[49]⟩ t4] : Array Value)[k.toNat]? = some (.str ⟨(keyOf c).toArray⟩ t) := by
    unfold keyOf
    rw [← hk]
    clear hs hk
    rcases (show k = 0 ∨ k = 1 ∨ k = 2 ∨ k = 3 ∨ k = 4 by omega) with rfl | rfl | rfl | rfl | rfl
    · exact ⟨_, rfl⟩
    · exact ⟨_, rfl⟩
    · exact ⟨_, rfl⟩
    · exact ⟨_, rfl⟩
    · exact ⟨_, rfl⟩
  obtain ⟨t, ht⟩ := key
  exact tail_any hl.typeIs slot_list_getitem.lookup (wpAny_getItem_list hl hb.1 (by omega) ht (h t)) hs
end

end Mine
end

section
open PySem PySem.W PyProof.Rows PySem.Calls
open PySem.Builtin.Re
set_option maxRecDepth 100000
set_option maxHeartbeats 4000000
namespace Mine
theorem allLt_ne {d : Nat} : ∀ {l : List (Addr × Obj)}, AllLt d l → ∀ p ∈ l, p.1 ≠ d
  | [], _ => fun _ h => by cases h
  | _ :: _, h => fun p hp => by
    rcases List.mem_cons.mp hp with rfl | hp
    · exact Nat.ne_of_lt h.1
    · exact allLt_ne h.2 p hp
def Shape (news : List (Addr × Obj)) (lo : Addr) (ls : List (List Pr)) : Prop :=
  (ls = [] ∧ ∃ n, news = [(lo, lisO [] n)]) ∨
  ∃ init last vs us li n n' fro, ls = init ++ [last] ∧ last ≠ [] ∧ news = (lo, lisO (vs ++ [.ref li]) n) :: (li, lisO us n') :: fro ∧ All2 (ListAt (inN fro)) vs init ∧ All2 (PairAt (inN fro)) us last ∧ lo ≠ li ∧ (∀ p ∈ fro, p.1 ≠ lo) ∧ ∀ p ∈ fro, p.1 ≠ li


/-! ### pure facts of what is built -/
theorem stepL_neg {ls : List (List Pr)} {op : Bool} {n : Int} (hn : n < 0) : stepL (ls, op) n =
    (addP (if ((-1 - n).fdiv 2).fmod 3 == 0 || ls.isEmpty then ls ++ [[]] else ls) (keyOf n, if (-1 - n).fmod 2 == 0 then some [] else none), (-1 - n).fmod 2 == 0) := by
  unfold stepL; rw [if_pos hn]
theorem addP_snoc (init : List (List Pr)) (last : List Pr) (p : Pr) : addP (init ++ [last]) p = init ++ [last ++ [p]] := by simp [addP]
theorem addC_snoc (init : List (List Pr)) (ps : List Pr) (k v : List Nat) (c : Nat) : addC (init ++ [ps ++ [(k, some v)]]) c = init ++ [ps ++ [(k, some (v ++ [c]))]] := by simp [addC]

def OpOk (st : List (List Pr) × Bool) : Prop := (st.2 = true → ∃ init ps k v, st.1 = init ++ [ps ++ [(k, some v)]]) ∧ ∀ l ∈ st.1, l ≠ []
def Small (n : Nat) (ls : List (List Pr)) : Prop := ls.length ≤ n ∧ ∀ l ∈ ls, l.length ≤ n ∧ ∀ p ∈ l, (p.2.getD []).length ≤ n
theorem snoc_cases {α : Type} (l : List α) : l = [] ∨ ∃ i a, l = i ++ [a] := by
  rcases List.eq_nil_or_concat l with h | ⟨i, a, h⟩
  · exact .inl h
  · exact .inr ⟨i, a, by simpa using h⟩
theorem step_cases (ls : List (List Pr)) (n : Int) : ∃ init last, (if ((-1 - n).fdiv 2).fmod 3 == 0 || ls.isEmpty then ls ++ [[]] else ls) = init ++ [last] ∧ ((init = ls ∧ last = []) ∨ ls = init ++ [last]) := by
  by_cases h : (((-1 - n).fdiv 2).fmod 3 == 0 || ls.isEmpty) = true
  · rw [if_pos h]; exact ⟨ls, [], rfl, .inl ⟨rfl, rfl⟩⟩
  · rw [if_neg h]
    rcases snoc_cases ls with rfl | ⟨i, a, rfl⟩
    · simp at h
    · exact ⟨i, a, rfl, .inr rfl⟩
theorem opOk_step {st : List (List Pr) × Bool} (h : OpOk st) (n : Int) : OpOk (stepL st n) := by
  obtain ⟨ls, op⟩ := st
  by_cases hn : n < 0
  · rw [stepL_neg hn]
    obtain ⟨init, last, e, hc⟩ := step_cases ls n
    rw [e, addP_snoc]
    refine ⟨fun q => ?_, fun l hl => ?_⟩
    · dsimp only at q ⊢
      rw [q]
      exact ⟨init, last, keyOf n, [], rfl⟩
    · rcases List.mem_append.mp hl with hl | hl
      · rcases hc with ⟨rfl, _⟩ | rfl
        · exact h.2 l hl
        · exact h.2 l (List.mem_append_left _ hl)
      · rw [List.mem_singleton.mp hl]; simp
  · unfold stepL
    rw [if_neg hn]
    dsimp only
    cases op with
    | false => exact h
    | true =>
      obtain ⟨init, ps, k, v, e⟩ := h.1 rfl
      dsimp only at e
      subst e
      rw [if_pos rfl, addC_snoc]
      refine ⟨fun _ => ⟨init, ps, k, _, rfl⟩, fun l hl => ?_⟩
      rcases List.mem_append.mp hl with hl | hl
      · exact h.2 l (List.mem_append_left _ hl)
      · rw [List.mem_singleton.mp hl]; simp
theorem small_step {st : List (List Pr) × Bool} {k : Nat} (ho : OpOk st) (h : Small k st.1) (n : Int) : Small (k + 1) (stepL st n).1 := by
  obtain ⟨ls, op⟩ := st
  dsimp only at h
  have h1 : Small (k + 1) ls := ⟨by have := h.1; omega, fun l hl => ⟨by have := (h.2 l hl).1; omega, fun p hp => by have := (h.2 l hl).2 p hp; omega⟩⟩
  by_cases hn : n < 0
  · rw [stepL_neg hn]
    obtain ⟨init, last, e, hc⟩ := step_cases ls n
    rw [e, addP_snoc]
    rcases hc with ⟨rfl, rfl⟩ | rfl
    · refine ⟨by have := h.1; simp; omega, fun l hl => ?_⟩
      rcases List.mem_append.mp hl with hl | hl
      · exact h1.2 l hl
      · rw [List.mem_singleton.mp hl]
        refine ⟨by simp, fun p hp => ?_⟩
        simp at hp
        subst hp
        dsimp only
        split <;> simp
    · refine ⟨by have := h1.1; simpa using this, fun l hl => ?_⟩
      rcases List.mem_append.mp hl with hl | hl
      · exact h1.2 l (List.mem_append_left _ hl)
      · rw [List.mem_singleton.mp hl]
        have h2 := h.2 last (by simp)
        refine ⟨by have := h2.1; simp; omega, fun p hp => ?_⟩
        rcases List.mem_append.mp hp with hp | hp
        · have := h2.2 p hp; omega
        · simp at hp
          subst hp
          dsimp only
          split <;> simp
  · unfold stepL
    rw [if_neg hn]
    dsimp only
    cases op with
    | false => exact h1
    | true =>
      obtain ⟨init, ps, k', v, e⟩ := ho.1 rfl
      dsimp only at e
      subst e
      rw [if_pos rfl, addC_snoc]
      refine ⟨by have := h1.1; simpa using this, fun l hl => ?_⟩
      rcases List.mem_append.mp hl with hl | hl
      · exact h1.2 l (List.mem_append_left _ hl)
      · rw [List.mem_singleton.mp hl]
        have h2 := h.2 (ps ++ [(k', some v)]) (by simp)
        refine ⟨by have := h2.1; simp at this ⊢; omega, fun p hp => ?_⟩
        rcases List.mem_append.mp hp with hp | hp
        · have := h2.2 p (List.mem_append_left _ hp); omega
        · simp at hp
          subst hp
          have := h2.2 (k', some v) (by simp)
          simp at this ⊢
          omega
theorem buildL_snoc (ns : List Int) (n : Int) : buildL (ns ++ [n]) = stepL (buildL ns) n := by unfold buildL; rw [List.foldl_append]; rfl
theorem build_ok (ns : List Int) : OpOk (buildL ns) ∧ Small ns.length (buildL ns).1 := by
  generalize hk : ns.length = k
  induction k generalizing ns with
  | zero =>
    have : ns = [] := List.length_eq_zero_iff.mp hk
    subst this
    exact ⟨⟨fun h => (by cases h), fun l hl => (by cases hl)⟩, ⟨Nat.le_refl _, fun l hl => (by cases hl)⟩⟩
  | succ k ih =>
    rcases snoc_cases ns with rfl | ⟨i, a, rfl⟩
    · simp at hk
    · have hi : i.length = k := by simpa using hk
      have := ih i hi
      rw [buildL_snoc]
      exact ⟨opOk_step this.1 a, small_step this.1 this.2 a⟩

theorem All2.snoc_inv {α β : Type} {R : α → β → Prop} {us : List α} : ∀ {ps : List β} {q : β}, All2 R us (ps ++ [q]) → ∃ us' u, us = us' ++ [u] ∧ All2 R us' ps ∧ R u q := by
  induction us with
  | nil => intro ps q h; cases ps <;> cases h
  | cons a us ih =>
    intro ps q h
    cases ps with
    | nil =>
      cases h with
      | cons h1 h2 => cases h2; exact ⟨[], a, rfl, .nil, h1⟩
    | cons p ps =>
      cases h with
      | cons h1 h2 =>
        obtain ⟨us', u, rfl, h3, h4⟩ := ih h2
        exact ⟨a :: us', u, rfl, .cons h1 h3, h4⟩

/-- what holds between the turns of _law_lists -/
def JL (l : Addr) (st : List (List Pr) × Bool) (m : Str → Option Value) (news : List (Addr × Obj)) : Prop :=
  ∃ lo, m "lists" = some (.ref lo) ∧ m "script" = some (.ref l) ∧ m "open_value" = some (.bool st.2) ∧ Shape news lo st.1

theorem turn_end {s : Shared} {h₀ h h'' : Heap} {L it l lo li : Addr} {io : Obj} {Q : Flow → Shared → Prop} {m : Str → Option Value} {tk tk'' : Nat} {vs us : List Value} {n1 n2 : Nat} {news fro : List (Addr × Obj)} {init : List (List Pr)} {last : List Pr} {st : List (List Pr) × Bool}
    (F : Fr h₀ L h m) (N : News h₀ L h news) (e1 : m "lists" = some (.ref lo)) (e2 : m "script" = some (.ref l)) (e3 : m "open_value" = some (.bool st.2))
    (m1 : (lo, lisO (vs ++ [.ref li]) n1) ∈ news) (m2 : (li, lisO us n2) ∈ news) (m3 : (it, io) ∈ news) (m4 : ∀ p ∈ fro, p ∈ news)
    (hA : All2 (ListAt (inN fro)) vs init) (hB : All2 (PairAt (inN fro)) us last) (d1 : @Ne Nat lo li) (d2 : ∀ p ∈ fro, p.1 ≠ lo) (d3 : ∀ p ∈ fro, p.1 ≠ li) (d4 : @Ne Nat lo it) (d5 : @Ne Nat li it) (d6 : ∀ p ∈ fro, p.1 ≠ it)
    (hst : st.1 = init ++ [last]) (hlast : last ≠ []) :
    TurnEnd { s with heap := h'', toks := tk'' } h₀ L it io (JL l st) Q .next { s with heap := h, toks := tk } := by
  refine ⟨h, tk, m, (lo, lisO (vs ++ [.ref li]) n1) :: (li, lisO us n2) :: fro, rfl, F, fun p hp => ?_, fun p hp => ?_, lo, e1, e2, e3, .inr ⟨init, last, vs, us, li, n1, n2, fro, hst, hlast, rfl, hA, hB, d1, d2, d3⟩⟩
  · rcases List.mem_cons.mp hp with rfl | hp
    · exact N _ m3
    rcases List.mem_cons.mp hp with rfl | hp
    · exact N _ m1
    rcases List.mem_cons.mp hp with rfl | hp
    · exact N _ m2
    · exact N _ (m4 p hp)
  · rcases List.mem_cons.mp hp with rfl | hp
    · exact d4
    rcases List.mem_cons.mp hp with rfl | hp
    · exact d5
    · exact d6 p hp

theorem turn_add {s : Shared} {h₀ h h'' : Heap} {L it l lo li D : Addr} {io : Obj} {Q : Flow → Shared → Prop} {m : Str → Option Value} {tk tk'' : Nat} {vs us : List Value} {n1 n2 : Nat} {news fro : List (Addr × Obj)} {init : List (List Pr)} {last : List Pr} {st : List (List Pr) × Bool}
    {k : List Nat} {o : Option (List Nat)} {t : Tok} {vo : Value}
    (F : Fr h₀ L h m) (N : News h₀ L h news) (e1 : m "lists" = some (.ref lo)) (e2 : m "script" = some (.ref l)) (e3 : m "open_value" = some (.bool st.2))
    (m1 : (lo, lisO (vs ++ [.ref li]) n1) ∈ news) (m2 : (li, lisO (us ++ [.ref D]) n2) ∈ news) (m5 : (D, tupO [.str ⟨k.toArray⟩ t, vo]) ∈ news) (hv : ValIs vo o) (m3 : (it, io) ∈ news) (m4 : ∀ p ∈ fro, p ∈ news)
    (hA : All2 (ListAt (inN fro)) vs init) (hB : All2 (PairAt (inN fro)) us last) (d1 : @Ne Nat lo li) (d2 : ∀ p ∈ fro, p.1 ≠ lo) (d3 : ∀ p ∈ fro, p.1 ≠ li) (d4 : @Ne Nat lo it) (d5 : @Ne Nat li it) (d6 : ∀ p ∈ fro, p.1 ≠ it)
    (d7 : @Ne Nat D lo) (d8 : @Ne Nat D li) (d9 : @Ne Nat D it) (hst : st.1 = init ++ [last ++ [(k, o)]]) :
    TurnEnd { s with heap := h'', toks := tk'' } h₀ L it io (JL l st) Q .next { s with heap := h, toks := tk } := by
  have sub : ∀ a x, inN fro a x → inN ((D, tupO [.str ⟨k.toArray⟩ t, vo]) :: fro) a x := fun a x y => .tail _ y
  have all : ∀ {b : Addr}, @Ne Nat D b → (∀ p ∈ fro, p.1 ≠ b) → ∀ p ∈ ((D, tupO [.str ⟨k.toArray⟩ t, vo]) :: fro), p.1 ≠ b := fun hb hf p hp => by
    rcases List.mem_cons.mp hp with rfl | hp
    · exact hb
    · exact hf p hp
  refine turn_end F N e1 e2 e3 m1 m2 m3 (fro := (D, tupO [.str ⟨k.toArray⟩ t, vo]) :: fro) (fun p hp => ?_) (hA.mono fun _ _ y => y.mono sub) ((hB.mono fun _ _ y => y.mono sub).snoc ⟨D, t, vo, rfl, .head _, hv⟩) d1 (all d7 d2) (all d8 d3) d4 d5 (all d9 d6) hst (by simp)
  rcases List.mem_cons.mp hp with rfl | hp
  · exact m5
  · exact m4 p hp
theorem allLt_mem {d : Nat} {l : List (Addr × Obj)} (h : AllLt d l) {b : Nat} (hb : d ≤ b) : ∀ p ∈ l, p.1 ≠ b := by
  induction l with
  | nil => intro p hp; cases hp
  | cons a l ih =>
    intro p hp
    rcases List.mem_cons.mp hp with rfl | hp
    · have := h.1; exact Nat.ne_of_lt (Nat.lt_of_lt_of_le this hb)
    · exact ih h.2 p hp
theorem cons_ne {a : Addr} {o : Obj} {fro : List (Addr × Obj)} {b : Addr} (h : @Ne Nat a b) (k : ∀ p ∈ fro, p.1 ≠ b) : ∀ p ∈ ((a, o) :: fro), p.1 ≠ b := fun p hp => by
  rcases List.mem_cons.mp hp with rfl | hp
  · exact h
  · exact k p hp
theorem step_new {init : List (List Pr)} {last : List Pr} {op : Bool} {n : Int} (hn : n < 0) (hc : ((-1 - n).fdiv 2).fmod 3 = 0) :
    (stepL (init ++ [last], op) n).1 = (init ++ [last]) ++ [[] ++ [(keyOf n, if (-1 - n).fmod 2 == 0 then some [] else none)]] := by
  rw [stepL_neg hn, if_pos (by simp [hc])]
  exact addP_snoc _ _ _
theorem step_same {init : List (List Pr)} {last : List Pr} {op : Bool} {n : Int} (hn : n < 0) (hc : ((-1 - n).fdiv 2).fmod 3 ≠ 0) :
    (stepL (init ++ [last], op) n).1 = init ++ [last ++ [(keyOf n, if (-1 - n).fmod 2 == 0 then some [] else none)]] := by
  have e : (((-1 - n).fdiv 2).fmod 3 == 0 || (init ++ [last]).isEmpty) = false := by
    have e1 : (init ++ [last]).isEmpty = false := by cases init <;> rfl
    have e2 : (((-1 - n).fdiv 2).fmod 3 == 0) = false := by simpa using hc
    rw [e1, e2]; rfl
  rw [stepL_neg hn, e]
  exact addP_snoc _ _ _
theorem step_off {ls : List (List Pr)} {n : Int} (hn : ¬ n < 0) : stepL (ls, false) n = (ls, false) := by unfold stepL; rw [if_neg hn]; rfl
theorem step_on {init : List (List Pr)} {ps : List Pr} {k v : List Nat} {n : Int} (hn : ¬ n < 0) : stepL (init ++ [ps ++ [(k, some v)]], true) n = (init ++ [ps ++ [(k, some (v ++ [signC n]))]], true) := by
  unfold stepL; rw [if_neg hn]; dsimp only; rw [if_pos rfl, addC_snoc]
theorem sign_F {prog : Program} {w : World} {s : Shared} {P : Program} {loose : List Str} {mean : ExcName → Option Value} {mg mb : Str → Option Value} {E : Value → Shared → Prop} {h₀ : Heap} {L : Addr} {m : Str → Option Value} {news : List (Addr × Obj)}
    {d u : Nat} {fr : Option (List Env)} {gs : Option (List Code)} {n : Int} {t : Tok} {Q : Value → Shared → Prop} (G : Gd w P loose mean mg mb h₀) (F : Fr h₀ L s.heap m) (N : News h₀ L s.heap news) (hd : d < recursionLimit)
    (h : ∀ h' tk tks, Fr h₀ L h' m → News h₀ L h' news → Q (.str ⟨#[signC n]⟩ tk) { s with heap := h', toks := tks }) : wpAny (model prog w) (AA d fr gs u) (call (.ref 94) [.int n t]) Q E s :=
  wpAny_call (sign_call (G.keeps F.keep) hd fun h' tk tks gr => h h' tk tks (Fr.more F gr) (News.more' N gr))
theorem shape_lists {h₀ h : Heap} {L lo : Addr} {news : List (Addr × Obj)} {ls : List (List Pr)} (N : News h₀ L h news) (S : Shape news lo ls) : ListsAt (inH h) (.ref lo) ls := by
  rcases S with ⟨rfl, n, rfl⟩ | ⟨init, last, vs, us, li, n, n', fro, rfl, _, rfl, hA, hB, _⟩
  · exact ⟨lo, [], n, rfl, (N _ (.head _)).1, .nil⟩
  · have sub : ∀ a x, inN fro a x → inH h a x := fun a x y => (N _ (.tail _ (.tail _ y))).1
    exact ⟨lo, vs ++ [.ref li], n, rfl, (N _ (.head _)).1, (hA.mono fun _ _ y => y.mono sub).snoc ⟨li, us, n', rfl, (N _ (.tail _ (.head _))).1, hB.mono fun _ _ y => y.mono sub⟩⟩
theorem mk_append (v : List Nat) (c : Nat) : (Str.mk v.toArray) ++ (Str.mk #[c]) = ⟨(v ++ [c]).toArray⟩ := by
  apply Str.ext'
  rw [Str.cps_append]
  simp
theorem ints_get {vs : List Value} {ns : List Int} (hi : IntsAre vs ns) {i : Nat} {v : Value} (hv : vs[i]? = some v) : ∃ n t, v = .int n t ∧ ns[i]? = some n := by
  have hlt : i < ns.length := by
    have h1 : i < vs.length := (List.getElem?_eq_some_iff.mp hv).1
    rw [← hi.length]; exact h1
  obtain ⟨t, ht⟩ := hi.get i ns[i] (by simp [hlt])
  rw [hv] at ht
  exact ⟨ns[i], t, Option.some.inj ht, by simp [hlt]⟩
end Mine
end

section
open PySem PySem.W PyProof.Rows PySem.Calls
open PySem.Builtin.Re
set_option maxRecDepth 100000
set_option maxHeartbeats 4000000
namespace Mine

/-- an object of h' that was not there in h -/
abbrev newAt (h h' : Heap) : Addr → Obj → Prop := fun a o => h'.get? a = some o ∧ h.get? a = none
theorem shape_new {h₀ h : Heap} {L lo : Addr} {news : List (Addr × Obj)} {ls : List (List Pr)} (N : News h₀ L h news) (S : Shape news lo ls) : ListsAt (newAt h₀ h) (.ref lo) ls := by
  have sub : ∀ a x, inN news a x → newAt h₀ h a x := fun a x y => ⟨(N _ y).1, (N _ y).2.2⟩
  rcases S with ⟨rfl, n, rfl⟩ | ⟨init, last, vs, us, li, n, n', fro, rfl, _, rfl, hA, hB, _⟩
  · exact ⟨lo, [], n, rfl, sub _ _ (.head _), .nil⟩
  · have sub' : ∀ a x, inN fro a x → newAt h₀ h a x := fun a x y => sub _ _ (.tail _ (.tail _ y))
    exact ⟨lo, vs ++ [.ref li], n, rfl, sub _ _ (.head _), (hA.mono fun _ _ y => y.mono sub').snoc ⟨li, us, n', rfl, sub _ _ (.tail _ (.head _)), hB.mono fun _ _ y => y.mono sub'⟩⟩

local macro_rules | `(tactic| walk_at "my_go") => `(tactic| (
  (fail_if_success (with_reducible show wpAny _ _ (exec (Stmt.For _ _ _ _ _) _) _ _ _))
  (fail_if_success (with_reducible show wpAny _ _ (exec (Stmt.While _ _ _ _) _) _ _ _))
  (fail_if_success (with_reducible show wpAny _ _ (eval (Expr.Lambda _ _ _ _) _) _ _ _))
  (fail_if_success (with_reducible show wpAny _ _ (call (Value.builtin "re.Pattern.sub") _) _ _ _))
  first | walk1 | (dsimp only; walk1)))
local macro_rules | `(tactic| k_mem) => `(tactic| assumption)
local macro_rules | `(tactic| walk_at "my_ne") => `(tactic| first | assumption | exact allLt_ne (And.right (And.right (And.right (by assumption)))) | exact allLt_ne (And.right (And.right (And.right (And.right (by assumption))))) | exact allLt_ne (And.right (And.right (And.right (And.right (And.right (by assumption)))))))
local macro_rules | `(tactic| k_all) => `(tactic| first | assumption | exact allLt_ne (by assumption) | exact allLt_ne (And.right (by assumption)))
local macro_rules | `(tactic| walk_at "call builtin:list.append") => `(tactic| (k_here; k_dflt (refine' append_L ?F ?N ?U ?z ?_; (case F => k_asm); (case N => k_asm); (case U => k_upd); (case z => first | (simp only [List.length_nil, List.length_append, List.length_cons]; omega) | omega)); intro h' F' N'; (try dsimp only at N'); (try k_sweep)))
local macro_rules | `(tactic| walk_at "subscriptTail") => `(tactic| (k_here; k_dflt (refine' last_L ?N ?m ?z ?_ ?s; (case N => k_asm); (case m => k_mem); (case z => first | (simp only [List.length_nil, List.length_append, List.length_cons]; omega) | omega); (case s => with_unfolding_all rfl))))
local macro_rules | `(tactic| walk_at "subscriptTail") => `(tactic| (k_here; (with_reducible show wpAny _ _ (subscriptTail (Expr.List _ _) _ (Value.ref _) (Value.int _ _)) _ _ _); k_dflt (refine' key_item ?N ?m ?k ?a ?b ?c ?d ?e ?_ ?s; (case N => k_asm); (case m => k_mem); (case k => rfl); (case a => decide +kernel); (case b => decide +kernel); (case c => decide +kernel); (case d => decide +kernel); (case e => decide +kernel); (case s => with_unfolding_all rfl)); intro _))
local macro_rules | `(tactic| walk_at "call ref") => `(tactic| (k_here; k_dflt (refine' sign_F ?G ?F ?N ?d ?_; (case G => assumption); (case F => k_asm); (case N => k_asm); (case d => first | omega | (dsimp only [AA]; omega))); intro h' tk' tks' F' N'; (try dsimp only at N'); (try k_sweep)))
local macro_rules | `(tactic| walk_at "truthy ref") => `(tactic| (k_here; k_dflt (refine' truthy_snoc ?N ?m ?z ?_; (case N => k_asm); (case m => k_mem); (case z => omega)); intro _))
local macro_rules | `(tactic| walk_at "setItem ref int") => `(tactic| (k_here; k_dflt (refine' setLast_L ?F ?N ?U ?z ?_; (case F => k_asm); (case N => k_asm); (case U => k_upd); (case z => first | (simp only [List.length_nil, List.length_append, List.length_cons]; omega) | omega)); intro h' F' N'; (try dsimp only at N'); (try k_sweep)))

section
variable {prog : Program} {w : World} {A : Around} {s : Shared} {P : Program} {loose : List Str} {mean : ExcName → Option Value} {mg mb : Str → Option Value} {R : Result → Shared → Prop}

theorem lists_call {d u : Nat} {fr : Option (List Env)} {gs : Option (List Code)} {l : Addr} {vs : List Value} {ns : List Int} (G : Gd w P loose mean mg mb s.heap) (hd : d + 2 < recursionLimit) (hl : s.heap.IsList l vs.toArray) (hi : IntsAre vs ns) (hn : ns.length ≤ 63)
    (h : ∀ h' v tks, Grown s.heap h' → ListsAt (newAt s.heap h') v (buildL ns).1 → R (.ok (.ret v)) { s with heap := h', toks := tks }) :
    codeAny (model prog w) (AA d fr gs u) (.call (.ref 101) ⟨[.ref l], []⟩) R s := by
  have X₀ := G.X
  have T₀ := G.T
  refine enterK (binds := [("script", .ref l)]) G rfl (by rfl) (show d < recursionLimit by omega) (BindsTo.of_eq rfl) (locs rfl) rfl rfl rfl (by decide) fun h₁ F N => ?_
  repeat' (walk_at "my_go")
  (with_reducible rename Fr _ _ _ _ => F')
  (with_reducible rename News _ _ _ _ => N')

  refine for_list (l := l) (vs := vs) (fun i m news => JL l (buildL (ns.take i)) m news) rfl F' N' ?j0 ?hiter ?hl ?turn ?done
  case j0 => exact ⟨_, rfl, rfl, rfl, .inl ⟨rfl, _, rfl⟩⟩
  case hiter => exact fun Q' q => ld F' rfl q
  case hl => exact fun i m₁ news₁ h' _ F₁ _ => hl.at fun o e => F₁.keep _ _ e
  case turn =>
    clear N' F'
    rintro i v m₁ news₁ h' tk it io hv ⟨lo, h1, h2, h3, hS⟩ F₁ N₁ hne hitL
    obtain ⟨n, t, rfl, hn⟩ := ints_get hi hv
    have hst : buildL (ns.take (i + 1)) = stepL (buildL (ns.take i)) n := by
      unfold buildL
      rw [List.take_add_one, hn, List.foldl_append]
      rfl
    rw [hst]
    clear hst
    have hok := build_ok (ns.take i)
    have hi63 : (ns.take i).length ≤ 63 := by rw [List.length_take]; omega
    generalize buildL (ns.take i) = st at *
    generalize (ns.take i).length = i0 at *
    obtain ⟨ls, op⟩ := st
    obtain ⟨hop, hsm⟩ := hok
    dsimp only at h3 hS hsm
    obtain ⟨r, rfl⟩ : ∃ r, m₁ = upd "lists" (.ref lo) (upd "script" (.ref l) (upd "open_value" (.bool op) r)) := ⟨m₁, by rw [upd_eq h3, upd_eq h2, upd_eq h1]⟩
    clear h1 h2 h3
    rcases hS with ⟨rfl, n0, rfl⟩ | ⟨init, last, vs', us, li, n0, n', fro, rfl, hlast, rfl, hA, hB, hlo, hf1, hf2⟩
    · have hop' : op = false := by
        cases op with
        | false => rfl
        | true => obtain ⟨a, b, c, e, q⟩ := hop.1 rfl; simp at q
      subst hop'
      clear hop h
      have hne' := neN (hne _ (.head _))
      dsimp only at hne'
      repeat' (first | walk1 | (dsimp only; walk1))
      iterate 4
        · (with_reducible rename Fr _ _ _ _ => F9)
          (with_reducible rename News _ _ _ _ => N9)
          refine turn_add (o := if (-1 - n).fmod 2 == 0 then some [] else none) (fro := []) F9 N9 rfl rfl ?_ (by k_mem) (by k_mem) (by k_mem) ?_ (by k_mem) (fun _ q => by cases q) .nil .nil (by omega) (fun _ q => by cases q) (fun _ q => by cases q) (by omega) (by omega) (fun _ q => by cases q) (by omega) (by omega) (by omega) ?_
          · rw [stepL_neg (by assumption)]; rfl
          · first | (rw [if_pos (by simpa using (by assumption))]; exact ⟨_, rfl⟩) | (rw [if_neg (by simpa using (by assumption))]; exact rfl)
          · rw [stepL_neg (by assumption)]; rw [show (List.isEmpty ([] : List (List Pr))) = true from rfl, Bool.or_true]; rfl
      · (with_reducible rename Fr _ _ _ _ => F9)
        (with_reducible rename News _ _ _ _ => N9)
        have e : stepL ([], false) n = ([], false) := by unfold stepL; rw [if_neg (by assumption)]; rfl
        rw [e]
        exact ⟨_, _, _, [(lo, lisO [] n0)], rfl, F9, N9, hne, lo, rfl, rfl, rfl, .inl ⟨rfl, n0, rfl⟩⟩
    · have hz1 : vs'.length ≤ 63 := by have := hA.length; have := hsm.1; simp at this; omega
      have hz2 : us.length ≤ 63 := by have := hB.length; have := (hsm.2 last (by simp)).1; omega
      have q1 := neN (hne _ (.head _))
      have q2 := neN (hne _ (.tail _ (.head _)))
      have q3 := neN hlo
      have q4 : ∀ p ∈ fro, p.1 ≠ it := fun p hp => hne p (.tail _ (.tail _ hp))
      dsimp only at q1 q2
      clear h
      by_cases hneg : n < 0
      · clear hop
        repeat' (first | walk1 | (dsimp only; walk1))
        iterate 2
          · (with_reducible rename Fr _ _ _ _ => F9)
            (with_reducible rename News _ _ _ _ => N9)
            refine turn_add (o := if (-1 - n).fmod 2 == 0 then some [] else none) (fro := (li, lisO us n') :: fro) (vs := vs' ++ [.ref li]) (init := init ++ [last]) (last := []) F9 N9 rfl rfl ?_ (by k_mem) (by k_mem) (by k_mem) ?_ (by k_mem) ?_ ?_ .nil (by omega) ?_ ?_ (by omega) (by omega) ?_ (by omega) (by omega) (by omega) (step_new (by assumption) (by assumption))
            · rw [stepL_neg (by assumption)]; rfl
            · first | (rw [if_pos (by simpa using (by assumption))]; exact ⟨_, rfl⟩) | (rw [if_neg (by simpa using (by assumption))]; exact rfl)
            · intro p hp
              rcases List.mem_cons.mp hp with rfl | hp <;> k_mem
            · exact (hA.mono fun _ _ y => y.mono fun _ _ z => .tail _ z).snoc ⟨li, us, n', rfl, .head _, hB.mono fun _ _ y => y.mono fun _ _ z => .tail _ z⟩
            · exact cons_ne (by omega) hf1
            · exact cons_ne (by omega) (by walk_at "my_ne")
            · exact cons_ne (by omega) q4
        iterate 2
          · (with_reducible rename Fr _ _ _ _ => F9)
            (with_reducible rename News _ _ _ _ => N9)
            refine turn_add (o := if (-1 - n).fmod 2 == 0 then some [] else none) (fro := fro) (vs := vs') (init := init) (last := last) F9 N9 rfl rfl ?_ (by k_mem) (by k_mem) (by k_mem) ?_ (by k_mem) ?_ hA hB (by omega) hf1 hf2 (by omega) (by omega) q4 (by omega) (by omega) (by omega) (step_same (by assumption) (by assumption))
            · rw [stepL_neg (by assumption)]; rfl
            · first | (rw [if_pos (by simpa using (by assumption))]; exact ⟨_, rfl⟩) | (rw [if_neg (by simpa using (by assumption))]; exact rfl)
            · intro p hp
              k_mem
      · cases op with
        | false =>
          clear hop
          repeat' (first | walk1 | (dsimp only; walk1))
          (with_reducible rename Fr _ _ _ _ => F9)
          (with_reducible rename News _ _ _ _ => N9)
          rw [step_off hneg]
          exact turn_end F9 N9 rfl rfl rfl (by k_mem) (by k_mem) (by k_mem) (fun p hp => by k_mem) hA hB (by omega) hf1 hf2 (by omega) (by omega) q4 rfl hlast
        | true =>
          obtain ⟨init', ps, k, v, e⟩ := hop.1 rfl
          obtain ⟨rfl, e2⟩ := List.append_inj' e rfl
          have e2 : last = ps ++ [(k, some v)] := by simpa using e2
          subst e2
          obtain ⟨us', u0, rfl, hB', ⟨ta, tk1, vo, rfl, hmem, tv, rfl⟩⟩ := hB.snoc_inv
          have hz3 : (Str.mk v.toArray).length ≤ 63 := by
            have := (hsm.2 (ps ++ [(k, some v)]) (by simp)).2 (k, some v) (by simp)
            show v.toArray.size ≤ 63
            simp at this ⊢; omega
          simp at hz2
          clear hop
          rw [step_on hneg]
          repeat' (first | walk1 | (dsimp only; walk1))
          (with_reducible rename Fr _ _ _ _ => F9)
          (with_reducible rename News _ _ _ _ => N9)
          rw [mk_append] at N9
          exact turn_add (o := some (v ++ [signC n])) (fro := fro) (vs := vs') (init := init) (last := ps) F9 N9 rfl rfl rfl (by k_mem) (by k_mem) (by k_mem) ⟨_, rfl⟩ (by k_mem) (fun p hp => by k_mem) hA hB' (by omega) hf1 hf2 (by omega) (by omega) q4 (by omega) (by omega) (by omega) rfl
  case done =>
    clear N' F'
    rintro m₁ news₁ h' tk ⟨lo, h1, h2, h3, hS⟩ F₁ N₁
    have hlen : ns.take vs.length = ns := by rw [hi.length, List.take_length]
    rw [hlen] at hS
    obtain ⟨r, rfl⟩ : ∃ r, m₁ = upd "lists" (.ref lo) r := ⟨m₁, by rw [upd_eq h1]⟩
    repeat' (first | walk1 | (dsimp only; walk1))
    dsimp only
    exact h _ _ _ F₁.keep (shape_new N₁ hS)
end
end Mine
end

section
open PySem PySem.W PyProof.Rows PySem.Calls
open PySem.Builtin.Re
set_option maxRecDepth 100000
set_option maxHeartbeats 4000000
namespace Mine
section
variable {prog : Program} {w : World} {A : Around} {E : Value → Shared → Prop} {s : Shared} {h₀ : Heap} {L b : Addr} {m : Str → Option Value} {news : List (Addr × Obj)} {n : Nat}
theorem fmt_quote {v : List Nat} {t u : Tok} {Q : Value → Shared → Prop} (X₀ : (hd.heap_39 w.params).In h₀) (hx : (Str.mk v.toArray).length ≤ 10000) (h : ∀ t' k, Q (.str ⟨(34 :: (v ++ [34])).toArray⟩ t') { s with toks := k }) :
    wpAny (model prog w) A (binaryOp .Mod (.str (Str.ofString "\"%s\"") t) (.str ⟨v.toArray⟩ u)) Q E s := by
  walk1
  have e : Str.ofString "\"" ++ (Str.mk v.toArray) ++ Str.ofString "\"" = ⟨(34 :: (v ++ [34])).toArray⟩ := by
    have q : Str.ofString "\"" = ⟨#[34]⟩ := by decide +kernel
    rw [q]
    apply Str.ext'
    rw [Str.cps_append, Str.cps_append]
    simp
  rw [e]
  exact h _ _
theorem fmt_eq {k v : List Nat} {t u u' : Tok} {Q : Value → Shared → Prop} (N : News h₀ L s.heap news) (hm : (b, tupO [.str ⟨k.toArray⟩ u, .str ⟨v.toArray⟩ u']) ∈ news) (hx : (Str.mk k.toArray).length ≤ 10000) (hy : (Str.mk v.toArray).length ≤ 10000)
    (h : ∀ t' tks, Q (.str ⟨(k ++ 61 :: v).toArray⟩ t') { s with toks := tks }) :
    wpAny (model prog w) A (binaryOp .Mod (.str (Str.ofString "%s=%s") t) (.ref b)) Q E s := by
  refine' KPt.mod_tuple ?kptN ?kptb ?kptF ?kptm ?_
  (case kptN => k_asm)
  (case kptb => exact hm)
  (case kptF => kpt_eq)
  (case kptm => kpt_run)
  intro _ _
  have e : (Str.mk k.toArray) ++ Str.ofString "=" ++ (Str.mk v.toArray) = ⟨(k ++ 61 :: v).toArray⟩ := by
    have q : Str.ofString "=" = ⟨#[61]⟩ := by decide +kernel
    rw [q]
    apply Str.ext'
    rw [Str.cps_append, Str.cps_append]
    simp
  rw [e]
  exact h _ _
end

/-! ### the patterns of the text -/
section
variable {w : World} {h : Heap}
theorem pat36 (X : (hd.heap_39 w.params).In h) : IsPat h 36 cJunk 0 := ⟨_, _, _, _, _, _, X 36 _ rfl, rfl, rfl, rfl, rfl, rfl, rfl, X 35 _ rfl, rfl, by decide +kernel⟩
theorem pat48 (X : (hd.heap_39 w.params).In h) : IsPat h 48 cTok 1 := ⟨_, _, _, _, _, _, X 48 _ rfl, rfl, rfl, rfl, rfl, rfl, rfl, X 47 _ rfl, rfl, by decide +kernel⟩
theorem pat53 (X : (hd.heap_39 w.params).In h) : IsPat h 53 cQuo 1 := ⟨_, _, _, _, _, _, X 53 _ rfl, rfl, rfl, rfl, rfl, rfl, rfl, X 52 _ rfl, rfl, by decide +kernel⟩
theorem pat58 (X : (hd.heap_39 w.params).In h) : IsPat h 58 cVal 1 := ⟨_, _, _, _, _, _, X 58 _ rfl, rfl, rfl, rfl, rfl, rfl, rfl, X 57 _ rfl, rfl, by decide +kernel⟩
theorem pat63 (X : (hd.heap_39 w.params).In h) : IsPat h 63 cEsc 1 := ⟨_, _, _, _, _, _, X 63 _ rfl, rfl, rfl, rfl, rfl, rfl, rfl, X 62 _ rfl, rfl, by decide +kernel⟩
theorem pat75 (X : (hd.heap_39 w.params).In h) : IsPat h 75 cJTok 0 := ⟨_, _, _, _, _, _, X 75 _ rfl, rfl, rfl, rfl, rfl, rfl, rfl, X 74 _ rfl, rfl, by decide +kernel⟩
theorem pat80 (X : (hd.heap_39 w.params).In h) : IsPat h 80 cJEsc 1 := ⟨_, _, _, _, _, _, X 80 _ rfl, rfl, rfl, rfl, rfl, rfl, rfl, X 79 _ rfl, rfl, by decide +kernel⟩
end

/-! ### lambdas: the code is made once and kept in the def's table -/
def CodeIn (h₀ : Heap) (news : List (Addr × Obj)) (c : Addr) (qual : Str) : Prop := ∃ oc vs t, ((c, oc) ∈ news ∨ h₀.get? c = some oc) ∧ oc.data = .fields vs ∧ vs[1]? = some (.str qual t)
def TabN (h₀ : Heap) (news : List (Addr × Obj)) (qual : Str) (ps : Array Value) : Prop :=
  TriplesOk ps.toList ∧ ∀ pos c, codeAmong pos ps.toList = some c → ∃ c', c = .ref c' ∧ CodeIn h₀ news c' qual
theorem CodeIn.mono {h₀ : Heap} {news news' : List (Addr × Obj)} {c : Addr} {q : Str} (h : CodeIn h₀ news c q) (k : ∀ p ∈ news, p ∈ news') : CodeIn h₀ news' c q := by
  obtain ⟨oc, vs, t, m, r⟩ := h
  exact ⟨oc, vs, t, m.imp (k _) id, r⟩
theorem TabN.mono {h₀ : Heap} {news news' : List (Addr × Obj)} {q : Str} {ps : Array Value} (h : TabN h₀ news q ps) (k : ∀ p ∈ news, p ∈ news') : TabN h₀ news' q ps :=
  ⟨h.1, fun pos c e => let ⟨c', e', x⟩ := h.2 pos c e; ⟨c', e', x.mono k⟩⟩
theorem among_snoc {pos : Pos} {a b : Int} {v x : Value} : ∀ (l : List Value), TriplesOk l → codeAmong pos (l ++ [rawInt a, rawInt b, v]) = some x → codeAmong pos l = some x ∨ x = v
  | [], _, h => by
    unfold codeAmong at h
    simp only [List.nil_append, rawInt] at h
    split at h
    · exact .inr (Option.some.inj h).symm
    · simp [codeAmong] at h
  | .int a1 t1 :: .int a2 t2 :: c :: rest, ht, h => by
    simp only [List.cons_append] at h
    unfold codeAmong at h ⊢
    by_cases q : (a1 == ↑pos.line && a2 == ↑pos.col) = true
    · rw [if_pos q] at h ⊢; exact .inl h
    · rw [if_neg q] at h ⊢; exact among_snoc rest ht h
theorem CodeIn.rec {h₀ h : Heap} {L : Addr} {m : Str → Option Value} {news : List (Addr × Obj)} {c : Addr} {q : Str} (x : CodeIn h₀ news c q) (F : Fr h₀ L h m) (N : News h₀ L h news) : h.CodeRec (.ref c) q := by
  obtain ⟨oc, vs, t, hm, hd, hv⟩ := x
  exact ⟨c, oc, vs, t, rfl, hm.elim (fun y => (N _ y).1) fun y => F.keep _ _ y, hd, hv⟩
theorem triples_snoc : ∀ (l : List Value) (a b : Int) (v : Value), TriplesOk l → TriplesOk (l ++ [rawInt a, rawInt b, v])
  | [], _, _, _, _ => trivial
  | .int _ _ :: .int _ _ :: _ :: rest, a, b, v, h => triples_snoc rest a b v h

section
variable {M : Model} {A : Around} {E : Value → Shared → Prop} {s : Shared} {h₀ : Heap} {L a c P : Addr} {m mg mb : Str → Option Value} {cn : Str} {cs : Scope} {ccd : Value} {news : List (Addr × Obj)}
  {p : Program} {loose : List Str} {mean : ExcName → Option Value} {params : Arguments} {body : Expr} {scope : Scope} {ps : Array Value} {pos : Pos}
theorem lam_eval {Q : Value → Shared → Prop} (F : Fr h₀ L s.heap m) (N : News h₀ L s.heap ((P, tabObj ps) :: news)) (T : Top p loose mean mg mb h₀) (C : CodeHd h₀ c P) (hcd : ccd = .ref c) {cod : List (Addr × Obj)} {gc : Heap} (hP : ∀ q ∈ news, q.1 ≠ P)
    (ht : TabN gc cod ((envX cn cs L a ccd []).qual ++ "<lambda>") ps) (hdef : defaultsOf params (envX cn cs L a ccd []) = ([], [])) (hcl : closureFor scope (envX cn cs L a ccd []) = pure [])
    (h : ∀ f c' ctv h' tk ps' more, Fr h₀ L h' m → News h₀ L h' ((P, tabObj ps') :: (f, kla_obj "<lambda>" ((envX cn cs L a ccd []).qual ++ "<lambda>") params body scope [] ((mg "__name__").getD .none) c' ctv) :: (more ++ news)) →
      (∀ q ∈ (P, tabObj ps) :: news, q.1 < f) → (∀ r ∈ more, ∀ q ∈ (P, tabObj ps) :: news, q.1 < r.1) →
      TabN gc (more ++ cod) ((envX cn cs L a ccd []).qual ++ "<lambda>") ps' → CodeIn gc (more ++ cod) c' ((envX cn cs L a ccd []).qual ++ "<lambda>") → Q (.ref f) { s with heap := h', toks := tk }) :
    wpAny M A (eval (.Lambda params body scope pos) (envX cn cs L a ccd [])) Q E s := by
  refine kla_eval hdef ?_
  cases hn : codeAmong pos ps.toList with
  | none =>
    refine kla_nest F N T C hcd (UpdF.head hP) ht.1 hn hcl fun f c' oc vs t ctv h' tk F' N' hd hv l1 l2 => ?_
    refine h f c' ctv h' tk (ps ++ #[rawInt pos.line, rawInt pos.col, .ref c']) [(c', oc)] F' (fun q hq => ?_) (fun q hq => Nat.lt_trans (l1 q hq) l2) (fun r hr q hq => ?_) ⟨?_, fun pos' v hv' => ?_⟩ ?_
    · refine N' q ?_
      rcases List.mem_cons.mp hq with rfl | hq
      · exact .tail _ (.tail _ (.head _))
      rcases List.mem_cons.mp hq with rfl | hq
      · exact .head _
      rcases List.mem_cons.mp hq with rfl | hq
      · exact .tail _ (.head _)
      · exact .tail _ (.tail _ (.tail _ hq))
    · rw [List.mem_singleton.mp hr]; exact l1 q hq
    · rw [Array.toList_append]; exact triples_snoc _ _ _ _ ht.1
    · rw [Array.toList_append] at hv'
      rcases among_snoc _ ht.1 hv' with e | rfl
      · obtain ⟨c₂, e2, x⟩ := ht.2 pos' v e
        exact ⟨c₂, e2, x.mono fun q hq => .tail _ hq⟩
      · exact ⟨c', rfl, oc, vs, t, .inl (.head _), hd, hv⟩
    · exact ⟨oc, vs, t, .inl (.head _), hd, hv⟩
  | some v =>
    obtain ⟨c₁, rfl, hci⟩ := ht.2 pos v hn
    refine kla_hit F N T C hcd (.head _) ht.1 hn hcl fun f ctv h' tk F' N' l1 => ?_
    refine h f c₁ ctv h' tk ps [] F' (fun q hq => ?_) l1 (fun r hr => by cases hr) ht hci
    refine N' q ?_
    rcases List.mem_cons.mp hq with rfl | hq
    · exact .tail _ (.head _)
    rcases List.mem_cons.mp hq with rfl | hq
    · exact .head _
    · exact .tail _ (.tail _ hq)
end

section
variable {prog : Program} {w : World} {A : Around} {base : Heap} {f c' : Addr} {P : Program} {loose : List Str} {mean : ExcName → Option Value} {mg mb : Str → Option Value} {name qual : Str} {params : Arguments} {body : Expr} {scope : Scope} {pm ctv : Value} {x : Str} {cb : Nat → Nat → List Nat}
/-- into a lambda of one parameter, called with a match -/
theorem cb_enter {v : Str} (G : Gd w P loose mean mg mb base) (ho : base.get? f = some (kla_obj name qual params body scope [] pm c' ctv)) (hcd : base.CodeRec (.ref c') qual) (hroom : A.depth < recursionLimit)
    (hbind : ∀ q, bindArgs (kla_fn name qual params body scope [] pm (.ref c') ctv) ⟨[.ref q], []⟩ = pure [(v, .ref q)]) (hloc : scope.names.lookup v = some .local)
    (hco : scope.isCoroutine = false) (hgen : scope.isGenerator = false) (hk : scope.kind = .function) (hcell : ∀ x ∈ scope.names, x.2 ≠ .cell)
    (h : ∀ (s : Shared) (q : Addr) (st hd : Int) (b e : Nat) (Q : Value → Shared → Prop) (h₁ : Heap), Gd w P loose mean mg mb s.heap → IsMatch s.heap q x [st, hd, b, e] → b ≤ e → e ≤ x.cps.size →
      (∀ h' tk tks, Grown s.heap h' → Q (.str ⟨(cb b e).toArray⟩ tk) { s with heap := h', toks := tks }) →
      Fr s.heap s.heap.objs.size h₁ (fun y => [(v, Value.ref q)].reverse.lookup y) → News s.heap s.heap.objs.size h₁ [] →
      wpAny (model prog w) (A.deeper (envX qual scope s.heap.objs.size f (.ref c') [])) (eval body (envX qual scope s.heap.objs.size f (.ref c') [])) Q (fun _ _ => False) { s with heap := h₁, toks := s.toks + 1 }) :
    CB prog w A base f x cb := by
  intro s q st hd b e Q E hb hm hbe hex hq
  have G' := G.keeps hb
  obtain ⟨cc, oc, vs, t, e1, e2, e3, e4⟩ := hcd
  refine wpAny_call (kla_callFunE hroom (hb _ _ ho) rfl hco hgen rfl ⟨cc, oc, vs, t, e1, hb _ _ e2, e3, e4⟩ ?_)
  rw [hbind q]
  refine wpAny_pure (wpAny_newFunctionEnv hcell (fun y hy => by rw [List.mem_singleton.mp hy]; exact hloc) (fun h₁ hns hsb => ⟨(G'.T.nolimit).fresh _ hsb, ?_⟩) hk)
  show codeAny _ _ (.expr body (envX qual scope s.heap.objs.size f (.ref c') [])) _ _
  have hk₁ : Grown s.heap h₁ := fun b o e => hsb.extBut b o (Nat.ne_of_lt (Heap.lt_size e)) (Heap.get?_push_of_some _ e)
  refine kla_codeExpr (wpAny_mono (h s q st hd b e (fun v s' => Q v s') h₁ G' hm hbe hex hq ⟨hns, hk₁, Nat.le_refl _⟩ News.nil) (fun _ _ y => y) fun _ _ y => y.elim)
end

/-! ### the table between the calls -/
def TabH (h : Heap) (P : Addr) (qual : Str) : Prop := ∃ ps, h.get? P = some (tabObj ps) ∧ TabN (hideAll h [P]) [] qual ps
theorem CodeIn.up {g g' : Heap} {news : List (Addr × Obj)} {c : Addr} {q : Str} (x : CodeIn g news c q) (k : ∀ b o, g.get? b = some o → g'.get? b = some o) : CodeIn g' news c q := by
  obtain ⟨oc, vs, t, m, r⟩ := x
  exact ⟨oc, vs, t, m.imp id (k _ _), r⟩
theorem TabN.up {g g' : Heap} {news : List (Addr × Obj)} {q : Str} {ps : Array Value} (h : TabN g news q ps) (k : ∀ b o, g.get? b = some o → g'.get? b = some o) : TabN g' news q ps :=
  ⟨h.1, fun pos c e => let ⟨c', e', x⟩ := h.2 pos c e; ⟨c', e', x.up k⟩⟩
/-- the same, and no code lies in X -/
def TabX (h : Heap) (P : Addr) (qual : Str) (X : List Addr) : Prop := ∃ ps, h.get? P = some (tabObj ps) ∧ TabN (hideAll h (P :: X)) [] qual ps
theorem TabX.of {h h₀ h' : Heap} {L P : Addr} {m : Str → Option Value} {news : List (Addr × Obj)} {qual : Str} {ps : Array Value} {X : List Addr} (hg : hideAll h [P] = h₀) (F : Fr h₀ L h' m) (N : News h₀ L h' ((P, tabObj ps) :: news)) (hP : ∀ q ∈ news, q.1 ≠ P)
    (hX : ∀ a ∈ X, ∃ o, h.get? a = some o) (ht : TabN (hideAll h (P :: X)) news qual ps) : TabX h' P qual X := by
  have z := N _ (.head _)
  subst hg
  refine ⟨ps, z.1, ht.1, fun pos c e => ?_⟩
  obtain ⟨c', e', oc, vs, t, hm, hd, hv⟩ := ht.2 pos c e
  refine ⟨c', e', oc, vs, t, .inr ?_, hd, hv⟩
  rcases hm with hm | hm
  · refine hideAll_get _ (N _ (.tail _ hm)).1 fun q => ?_
    rcases List.mem_cons.mp q with q | q
    · exact hP _ hm q
    · obtain ⟨o, ho⟩ := hX _ q
      have := hideAll_get [P] ho (by simpa using hP _ hm)
      rw [(N _ (.tail _ hm)).2.2] at this; cases this
  · have h1 : c' ∉ P :: X := fun q => by rw [hideAll_none _ q] at hm; cases hm
    exact hideAll_get _ (F.keep _ _ (hideAll_get _ (of_hideAll _ hm) (fun q => h1 (by rw [List.mem_singleton.mp q]; exact .head _)))) h1
theorem TabH.of {h₀ h : Heap} {L P : Addr} {m : Str → Option Value} {news : List (Addr × Obj)} {qual : Str} {ps : Array Value} (F : Fr h₀ L h m) (N : News h₀ L h ((P, tabObj ps) :: news)) (hP : ∀ q ∈ news, q.1 ≠ P) (ht : TabN h₀ news qual ps) : TabH h P qual := by
  have z := N _ (.head _)
  refine ⟨ps, z.1, ht.1, fun pos c e => ?_⟩
  obtain ⟨c', e', oc, vs, t, hm, hd, hv⟩ := ht.2 pos c e
  refine ⟨c', e', oc, vs, t, .inr ?_, hd, hv⟩
  rcases hm with hm | hm
  · exact hideAll_get _ (N _ (.tail _ hm)).1 (by simp; exact hP _ hm)
  · exact hideAll_get _ (F.keep _ _ hm) (by simp; intro q; rw [q, z.2.2] at hm; cases hm)
end Mine
end

section
open PySem PySem.Sre
set_option maxRecDepth 100000
namespace Mine
/-- the pieces with sep between them -/
def sepJ (sep : List Nat) : List (List Nat) → List Nat
  | [] => []
  | x :: r => x ++ (r.map (sep ++ ·)).flatten
def tokV (v : List Nat) : Bool := !v.isEmpty && v.all isTok
def valL (v : List Nat) : List Nat := if tokV v then v else 34 :: (escL v ++ [34])
def pairL (p : Pr) : List Nat := match p.2 with
  | none => p.1
  | some v => p.1 ++ 61 :: valL v
def listL (l : List Pr) : List Nat := sepJ [59, 32] (l.map pairL)
def wholeL (ls : List (List Pr)) : List Nat := sepJ [44, 32] (ls.map listL)
abbrev mkS (l : List Nat) : Str := ⟨l.toArray⟩

theorem strValues_app (l : List (Str × Tok)) (y : Str) (t : Tok) : strValues (l ++ [(y, t)]) = strValues l ++ [.str y t] := by simp [strValues]
theorem take_snoc {α : Type} {l : List α} {i : Nat} {a : α} (h : l[i]? = some a) : l.take (i + 1) = l.take i ++ [a] := by rw [List.take_add_one, h]; rfl
theorem fmt_text (k v : List Nat) : Str.empty ++ mkS k ++ Str.ofString "=" ++ mkS v = mkS (k ++ 61 :: v) := by
  have q : Str.ofString "=" = ⟨#[61]⟩ := by decide +kernel
  rw [q, Str.empty_append]
  apply Str.ext'
  rw [Str.cps_append, Str.cps_append]
  simp
theorem glued_sep (sep : List Nat) (l : List (List Nat)) : Builtin.Str.glued (mkS sep) (l.map mkS) = mkS (sepJ sep l) := by
  have H : ∀ (l : List (List Nat)) (acc : Array Nat), (l.map mkS).foldl (fun acc p => acc ++ (mkS sep).cps ++ p.cps) acc = acc ++ ((l.map (sep ++ ·)).flatten).toArray := by
    intro l
    induction l with
    | nil => intro acc; simp
    | cons p l ih =>
      intro acc
      rw [List.map_cons, List.foldl_cons, ih]
      apply Array.toList_inj.mp
      simp
  unfold Builtin.Str.glued
  cases l with
  | nil => rfl
  | cons p l =>
    simp only [List.map_cons, List.drop_one, List.tail_cons, List.headD_cons]
    rw [H]
    unfold sepJ
    apply Str.ext'
    apply Array.toList_inj.mp
    simp
theorem sepJ_length (sep : List Nat) (l : List (List Nat)) : (sepJ sep l).length ≤ (l.map (fun x => x.length + sep.length)).sum := by
  cases l with
  | nil => simp [sepJ]
  | cons p l =>
    unfold sepJ
    have : ((l.map (sep ++ ·)).flatten).length = (l.map (fun x => x.length + sep.length)).sum := by
      induction l with
      | nil => rfl
      | cons a l ih => simp only [List.map_cons, List.flatten_cons, List.length_append, List.sum_cons, ih]; omega
    simp only [List.length_append, this, List.map_cons, List.sum_cons]
    omega
theorem foldl_sum (sep : Str) (l : List Str) : ∀ n, l.foldl (fun n p => n + p.length + sep.length) n = n + (l.map (fun x => x.length + sep.length)).sum := by
  induction l with
  | nil => intro n; simp
  | cons p l ih => intro n; rw [List.foldl_cons, ih]; simp only [List.map_cons, List.sum_cons]; omega
end Mine
end

section
open PySem PySem.W PyProof.Rows PySem.Calls
open PySem.Builtin.Re
set_option maxRecDepth 100000
set_option maxHeartbeats 4000000
namespace Mine
section
variable {prog : Program} {w : World} {A : Around} {E : Value → Shared → Prop} {s : Shared} {h₀ : Heap} {L a f : Addr} {m : Str → Option Value} {news : List (Addr × Obj)} {n : Nat} {c : Array Nat} {g : Nat} {x : Str} {tk : Tok}
theorem join_F {sepS : Str} {sep : List Nat} {l : List (Str × Tok)} {Q : Value → Shared → Prop} (N : News h₀ L s.heap news) (hm : (a, lisO (strValues l) n) ∈ news) (hsep : sepS = mkS sep) (xs : List (List Nat)) (hx : l.map (·.1) = xs.map mkS) (hz : (xs.map (fun x => x.length + sep.length)).sum ≤ 1000000)
    (h : ∀ tk' tks, Q (.str (mkS (sepJ sep xs)) tk') { s with toks := tks }) : wpAny (model prog w) A (call (.builtin "str.join") [.str sepS tk, .ref a]) Q E s := by
  subst hsep
  have e1 : (l.map (·.1)).toArray.foldl (fun n p => n + p.length + (mkS sep).length) 0 = (xs.map (fun x => x.length + sep.length)).sum := by
    rw [hx]
    have := foldl_sum (mkS sep) (xs.map mkS) 0
    simp only [List.foldl_toArray, this, List.map_map, Nat.zero_add]
    congr 1
  refine join_call (l := l) ⟨_, N.get hm, rfl, n, rfl⟩ ?_ ?_ fun tk' tks => ?_
  · rw [e1, sizeLine_eq]; omega
  · rw [hx, glued_sep, sizeLine_eq]
    have := sepJ_length sep xs
    show (sepJ sep xs).toArray.size ≤ _
    rw [List.size_toArray]; omega
  · rw [hx, glued_sep]; exact h _ _
theorem full_won_F {k st hd : Nat} {lm li : Int} {Q : Value → Shared → Prop} (F : Fr h₀ L s.heap m) (N : News h₀ L s.heap news) (hp : IsPat h₀ a c 0) (hx : x.cps.size ≤ 1000000) (hr : To k (Sre.forMatch c x.cps 0 0 x.cps.size true false) fun m => Won m st hd #[] lm li) (hk : k ≤ 1000000000)
    (h : ∀ h' q, Fr h₀ L h' m → News h₀ L h' news → IsMatch h' q x [(st : Int), (hd : Int)] → Q (.ref q) { s with heap := h' }) : wpAny (model prog w) A (call (.builtin "re.Pattern.fullmatch") [.ref a, .str x tk]) Q E s :=
  full_won (hp.keeps F.keep) hx hr hk (h _ _ (Fr.more F (mHeap_grown _ _ _ _ _ _ _)) (News.more' N (mHeap_grown _ _ _ _ _ _ _)) (mHeap_match _ _ _ _ _ _ [st, hd]))
theorem full_lost_F {k : Nat} {Q : Value → Shared → Prop} (F : Fr h₀ L s.heap m) (hp : IsPat h₀ a c g) (hx : x.cps.size ≤ 1000000) (hr : To k (Sre.forMatch c x.cps g 0 x.cps.size true false) Lost) (hk : k ≤ 1000000000)
    (h : Q .none s) : wpAny (model prog w) A (call (.builtin "re.Pattern.fullmatch") [.ref a, .str x tk]) Q E s := full_lost (hp.keeps F.keep) hx hr hk h
theorem search_won_F {k st hd b e : Nat} {li : Int} {Q : Value → Shared → Prop} (F : Fr h₀ L s.heap m) (N : News h₀ L s.heap news) (hp : IsPat h₀ a c 1) (hx : x.cps.size ≤ 1000000) (hr : To k (Sre.forSearch c x.cps 1 0 x.cps.size false) fun m => Won m st hd #[some b, some e] 1 li) (hk : k ≤ 1000000000) (hbe : b ≤ e)
    (h : ∀ h' q r, Fr h₀ L h' m → News h₀ L h' ((q, matO x tk a x.cps.size li r) :: (r, spanO [st, hd, b, e]) :: news) → (∀ p ∈ news, p.1 < r) → r < q → Q (.ref q) { s with heap := h' }) :
    wpAny (model prog w) A (call (.builtin "re.Pattern.search") [.ref a, .str x tk]) Q E s := by
  refine search_won (hp.keeps F.keep) hx hr hk hbe (h _ _ _ ((F.push _).push _) ?_ (fun p hp => Heap.lt_size (N p hp).1) (Nat.lt_succ_self _))
  have := News.push (F.push (spanO [st, hd, b, e])) (News.push F N (spanO [st, hd, b, e])) (matO x tk a x.cps.size li s.heap.objs.size)
  rwa [Heap.size_push] at this
theorem search_lost_F {k : Nat} {Q : Value → Shared → Prop} (F : Fr h₀ L s.heap m) (hp : IsPat h₀ a c g) (hx : x.cps.size ≤ 1000000) (hr : To k (Sre.forSearch c x.cps g 0 x.cps.size false) Lost) (hk : k ≤ 1000000000)
    (h : Q .none s) : wpAny (model prog w) A (call (.builtin "re.Pattern.search") [.ref a, .str x tk]) Q E s := search_lost (hp.keeps F.keep) hx hr hk h
theorem sub_F {cb : Nat → Nat → List Nat} {out : List Nat} {of : Obj} {Q : Value → Shared → Prop} (F : Fr h₀ L s.heap m) (N : News h₀ L s.heap news) (hp : IsPat h₀ a c 1) (hf : (f, of) ∈ news) (hfc : of.cls = .type "function") (hx : x.cps.size ≤ 1000000)
    (hcb : CB prog w A.in1 s.heap f x cb) (hS : Sub c x.cps cb 0 out) (hz : out.length ≤ 10000000)
    (h : ∀ h' tk' tks, Fr h₀ L h' m → News h₀ L h' news → Q (.str (mkS out) tk') { s with heap := h', toks := tks }) :
    wpAny (model prog w) A (call (.builtin "re.Pattern.sub") [.ref a, .ref f, .str x tk]) Q E s :=
  sub_call hx (hp.keeps F.keep) (N.get hf) hfc hcb hS hz fun h' tk' tks gr => h h' tk' tks (Fr.more F gr) (News.more' N gr)
theorem truthy_ne {vs : List Value} {Q : Bool → Shared → Prop} (N : News h₀ L s.heap news) (hm : (a, lisO vs n) ∈ news) (hne : vs ≠ []) (hsz : vs.length ≤ 1000000) (h : ∀ tks, Q true { s with toks := tks }) : wpAny (model prog w) A (truthy (.ref a)) Q E s :=
  truthy_L N hm (by omega) fun tks => by
    have e : (!vs.isEmpty) = true := by cases vs with | nil => exact absurd rfl hne | cons => rfl
    rw [e]; exact h tks
end

theorem sub_cons {α : Type} {a : α} {l l' : List α} (h : a ∈ l') (k : ∀ p ∈ l, p ∈ l') : ∀ p ∈ a :: l, p ∈ l' := fun p hp => by
  rcases List.mem_cons.mp hp with rfl | hp
  · exact h
  · exact k p hp
theorem sub_nil {α : Type} {l' : List α} : ∀ p ∈ ([] : List α), p ∈ l' := fun p hp => by cases hp
theorem sub_app {α : Type} {l r l' : List α} (h : ∀ p ∈ l, p ∈ l') (k : ∀ p ∈ r, p ∈ l') : ∀ p ∈ l ++ r, p ∈ l' := fun p hp => (List.mem_append.mp hp).elim (h p) (k p)
theorem News.re {h₀ h : Heap} {L : Addr} {news news' : List (Addr × Obj)} (N : News h₀ L h news) (k : ∀ p ∈ news', p ∈ news) : News h₀ L h news' := fun p hp => N p (k p hp)
theorem app_ne {l r : List (Addr × Obj)} {b : Addr} (h : ∀ p ∈ l, p.1 ≠ b) (k : ∀ p ∈ r, p.1 ≠ b) : ∀ p ∈ l ++ r, p.1 ≠ b := fun p hp => (List.mem_append.mp hp).elim (h p) (k p)

/-! ### sizes of the texts -/
def szL (l : List Pr) : Nat := (l.map fun p => (pairL p).length + 2).sum
def szLs (ls : List (List Pr)) : Nat := (ls.map fun l => szL l + 2).sum
theorem mem_sum {l : List Nat} {x : Nat} (h : x ∈ l) : x ≤ l.sum := by
  induction l with
  | nil => cases h
  | cons a l ih =>
    rw [List.sum_cons]
    rcases List.mem_cons.mp h with rfl | h
    · omega
    · have := ih h; omega
theorem szL_mem {l : List Pr} {p : Pr} (h : p ∈ l) : (pairL p).length + 2 ≤ szL l := mem_sum (List.mem_map.mpr ⟨p, h, rfl⟩)
theorem szLs_mem {ls : List (List Pr)} {l : List Pr} (h : l ∈ ls) : szL l + 2 ≤ szLs ls := mem_sum (List.mem_map.mpr ⟨l, h, rfl⟩)
theorem listL_length (l : List Pr) : (listL l).length ≤ szL l := by
  have := sepJ_length [59, 32] (l.map pairL)
  simpa [szL, listL, Function.comp_def] using this
theorem sum_le_of {α : Type} (l : List α) (f g : α → Nat) (h : ∀ x ∈ l, f x ≤ g x) : (l.map f).sum ≤ (l.map g).sum := by
  induction l with
  | nil => simp
  | cons a l ih =>
    have h1 := h a (.head _)
    have h2 := ih fun x hx => h x (.tail _ hx)
    simp only [List.map_cons, List.sum_cons]; omega
theorem wholeL_sum (ls : List (List Pr)) : ((ls.map listL).map (fun x => x.length + 2)).sum ≤ szLs ls := by
  rw [List.map_map]
  exact sum_le_of ls _ _ fun l _ => by have := listL_length l; simp only [Function.comp]; omega
theorem wholeL_length (ls : List (List Pr)) : (wholeL ls).length ≤ szLs ls := Nat.le_trans (sepJ_length [44, 32] (ls.map listL)) (wholeL_sum ls)
theorem len_szL (l : List Pr) : l.length ≤ szL l := by
  unfold szL
  induction l with
  | nil => simp
  | cons a l ih => simp only [List.map_cons, List.sum_cons, List.length_cons]; omega
theorem len_szLs (ls : List (List Pr)) : ls.length ≤ szLs ls := by
  unfold szLs
  induction ls with
  | nil => simp
  | cons a l ih => simp only [List.map_cons, List.sum_cons, List.length_cons]; omega
theorem escL_ge (v : List Nat) : v.length ≤ (escL v).length := by
  induction v with
  | nil => simp [escL]
  | cons c v ih =>
    rw [escL_cons]
    split <;> simp <;> omega
theorem valL_ge (v : List Nat) : v.length ≤ (valL v).length := by
  unfold valL
  split
  · exact Nat.le_refl _
  · have := escL_ge v; simp; omega
theorem tok_full {v : List Nat} (hv : v.length ≤ 1000000) (h : tokV v = true) : To 20 (Sre.forMatch cJTok (mkS v).cps 0 0 (mkS v).cps.size true false) fun m => Won m 0 v.length #[] (-1) (-1) := by
  unfold tokV at h
  simp only [Bool.and_eq_true, Bool.not_eq_true', List.all_eq_true] at h
  have h0 : v ≠ [] := by rintro rfl; exact absurd h.1 (by decide)
  have h1 : 1 ≤ v.length := by cases v with | nil => exact absurd rfl h0 | cons => simp
  have := jtok_yes (t := v.toArray) (by simp; omega) (by simpa using h1) (fun i hi => by
    have := getD_fst (mid := v) (post := []) (f := isTok) (b := true) h.2 i (by simpa using hi)
    simpa using this)
  simpa using this
theorem tok_full_no {v : List Nat} (hv : v.length ≤ 1000000) (h : tokV v = false) : To (2 * v.length + 20) (Sre.forMatch cJTok (mkS v).cps 0 0 (mkS v).cps.size true false) Lost := by
  have := jtok_no (t := v.toArray) (by simp; omega) ?_
  · simpa using this
  · unfold tokV at h
    cases v with
    | nil => left; rfl
    | cons c r =>
      right
      simp only [List.isEmpty_cons, Bool.not_false, Bool.true_and] at h
      obtain ⟨x, hx, hf⟩ : ∃ x ∈ c :: r, isTok x = false := by
        have : ¬ (∀ x ∈ c :: r, isTok x = true) := fun q => by rw [List.all_eq_true.mpr q] at h; cases h
        by_cases hq : ∃ x ∈ c :: r, isTok x = false
        · exact hq
        · exact absurd (fun x hx => by
            cases hb : isTok x with
            | true => rfl
            | false => exact absurd ⟨x, hx, hb⟩ hq) this
      obtain ⟨i, hi, rfl⟩ := List.getElem_of_mem hx
      refine ⟨i, by simpa using hi, ?_⟩
      rw [Array.getD_eq_getD_getElem?]
      simpa [List.getElem?_eq_getElem hi] using hf
end Mine
end

section
open PySem PySem.W PyProof.Rows PySem.Calls
open PySem.Builtin.Re
set_option maxRecDepth 100000
set_option maxHeartbeats 4000000
namespace Mine

section
variable {prog : Program} {w : World} {A : Around} {E : Value → Shared → Prop} {s : Shared} {h₀ : Heap} {L b : Addr} {m : Str → Option Value} {news : List (Addr × Obj)} {n : Nat}
theorem fmt_quote' {v : List Nat} {t u : Tok} {Q : Value → Shared → Prop} (X₀ : (hd.heap_39 w.params).In h₀) (hx : (Str.mk v.toArray).length ≤ 9000) (h : ∀ y, y = mkS (34 :: (v ++ [34])) → y.length ≤ 10000 → ∀ t' k, Q (.str y t') { s with toks := k }) :
    wpAny (model prog w) A (binaryOp .Mod (.str (Str.ofString "\"%s\"") t) (.str ⟨v.toArray⟩ u)) Q E s :=
  fmt_quote X₀ (by omega) fun t' k => h _ rfl (by have : v.toArray.size ≤ 9000 := hx; show (34 :: (v ++ [34])).toArray.size ≤ _; simp at this ⊢; omega) t' k
theorem group1' {n b e : Nat} {st hd : Int} {a : Addr} {x : Str} {tk' : Tok} {Q : Value → Shared → Prop} (hm : IsMatch s.heap a x [st, hd, b, e]) (hx : x.length ≤ 9000) (hn : n = 1)
    (h : ∀ y, y = ⟨x.cps.extract b e⟩ → y.length ≤ 9000 → Q (.str y s.toks) { s with toks := s.toks + 1 }) : wpAny (model prog w) A (call (.builtin "re.Match.group") [.ref a, .int n tk']) Q E s := by
  have hx' : x.cps.size ≤ 9000 := hx
  refine group1 hm (by omega) hn (h _ rfl ?_)
  show (x.cps.extract b e).size ≤ _
  rw [Array.size_extract]; omega
end
theorem bs_text {t : Array Nat} {b e : Nat} {y : Str} (h : y = ⟨t.extract b e⟩) : Str.ofString "\\" ++ y = ⟨(cbE t b e).toArray⟩ := by
  have q : Str.ofString "\\" = ⟨#[92]⟩ := by decide +kernel
  subst h
  rw [q]
  apply Str.ext'
  apply Array.toList_inj.mp
  rw [Str.cps_append]
  simp [cbE]
theorem bs_none {t : Array Nat} {b e : Nat} {y : Str} (h : y = ⟨t.extract b e⟩) (h0 : (y.length : Int) = 0) : Str.ofString "\\" ++ Str.ofString "" = ⟨(cbE t b e).toArray⟩ := by
  have h1 : y.cps.size = 0 := by have : y.length = 0 := by omega
                                 exact this
  have h2 : y = Str.ofString "" := by apply Str.ext'; rw [Array.eq_empty_of_size_eq_zero h1]; decide +kernel
  rw [← h2]; exact bs_text h
local macro_rules | `(tactic| walk_at "my_go") => `(tactic| (
  (fail_if_success (with_reducible show wpAny _ _ (exec (Stmt.For _ _ _ _ _) _) _ _ _))
  (fail_if_success (with_reducible show wpAny _ _ (exec (Stmt.While _ _ _ _) _) _ _ _))
  (fail_if_success (with_reducible show wpAny _ _ (eval (Expr.Lambda _ _ _ _) _) _ _ _))
  (fail_if_success (with_reducible show wpAny _ _ (call (Value.builtin "re.Pattern.sub") _) _ _ _))
  first | walk1 | (dsimp only; walk1)))
local macro_rules | `(tactic| k_mem) => `(tactic| assumption)
local macro_rules | `(tactic| k_all) => `(tactic| assumption)
local macro_rules | `(tactic| walk_at "my_sub") => `(tactic| first | exact sub_nil | (refine sub_cons (by k_mem) ?_; walk_at "my_sub") | (intro p hp; k_mem))
local macro_rules | `(tactic| walk_at "getMethod ref") => `(tactic| (k_here; first | refine gm_full (IsPat.keeps (pat75 (by assumption)) (Fr.keep (by k_asm))) ?_ | refine gm_sub (IsPat.keeps (pat80 (by assumption)) (Fr.keep (by k_asm))) ?_))
local macro_rules | `(tactic| walk_at "getMethod ref") => `(tactic| (k_here; refine gm_group (IsMatch.keeps (by assumption) (Fr.keep (by k_asm))) ?_))
local macro_rules | `(tactic| walk_at "call builtin:re.Match.group") => `(tactic| (k_here; k_dflt (refine' group1' (IsMatch.keeps ?m (Fr.keep ?F)) ?x (Eq.refl 1) ?_; (case m => assumption); (case F => k_asm); (case x => assumption)); intro y' hy' hl'))
local macro_rules | `(tactic| walk_at "truthy ref") => `(tactic| (k_here; refine truthy_match (by assumption) ?_))
local macro_rules | `(tactic| walk_at "call builtin:list.append") => `(tactic| (k_here; k_dflt (refine' append_L ?F ?N ?U ?z ?_; (case F => k_asm); (case N => k_asm); (case U => k_upd); (case z => omega)); intro h' F' N'; (try dsimp only at N'); (try k_sweep)))

local macro_rules | `(tactic| walk_at "call builtin:re.Pattern.fullmatch") => `(tactic| (k_here; first
  | (k_dflt (refine' full_won_F ?F ?N ?p ?x ?r ?k ?_; (case F => k_asm); (case N => k_asm); (case p => exact pat75 (by assumption)); (case x => assumption); (case r => assumption); (case k => decide)); intro h' q' F' N' im'; (try k_sweep))
  | (k_dflt (refine' full_lost_F ?F ?p ?x ?r ?k ?_; (case F => k_asm); (case p => exact pat75 (by assumption)); (case x => assumption); (case r => assumption); (case k => omega)))))
local macro_rules | `(tactic| walk_at "binaryOp Mod str ref") => `(tactic| (k_here; k_dflt (refine' fmt_eq ?N ?m ?x ?y ?_; (case N => k_asm); (case m => k_mem); (case x => assumption); (case y => assumption)); intro _ _))
local macro_rules | `(tactic| walk_at "binaryOp Mod str str") => `(tactic| (k_here; k_dflt (refine' fmt_quote' ?X ?x ?_; (case X => assumption); (case x => assumption)); intro y' hy' hl' _ _))

local macro_rules | `(tactic| walk_at "call builtin:str.join") => `(tactic| (k_here; k_dflt (refine' join_F ?N ?m ?s _ ?x ?z ?_; (case N => k_asm); (case m => k_mem); (case s => assumption); (case x => assumption); (case z => assumption)); intro _ _))
local macro_rules | `(tactic| walk_at "truthy ref") => `(tactic| (k_here; k_dflt (refine' truthy_ne ?N ?m ?n ?z ?_; (case N => k_asm); (case m => k_mem); (case n => assumption); (case z => omega)); intro _))
abbrev qualJ : Str := Str.ofString "join_header_words" ++ ".<locals>." ++ "<lambda>"

/-- between the turns of join's outer loop -/
def JO (gc : Heap) (lo : Addr) (ls : List (List Pr)) (i : Nat) (m : Str → Option Value) (news : List (Addr × Obj)) : Prop :=
  ∃ hl n hs ps cod, m "lists" = some (.ref lo) ∧ m "headers" = some (.ref hl) ∧ news = (82, tabObj ps) :: (hl, lisO (strValues hs) n) :: cod ∧ hs.map (·.1) = ((ls.take i).map listL).map mkS ∧ TabN gc cod qualJ ps ∧ @Ne Nat hl 82 ∧ (∀ q ∈ cod, q.1 ≠ 82) ∧ ∀ q ∈ cod, q.1 ≠ hl
/-- between the turns of its inner loop -/
def JI (gc : Heap) (lo hl al it : Addr) (io : Obj) (hs : List (Str × Tok)) (nh : Nat) (lp : List Pr) (j : Nat) (m : Str → Option Value) (news : List (Addr × Obj)) : Prop :=
  ∃ as n ps cod, m "lists" = some (.ref lo) ∧ m "headers" = some (.ref hl) ∧ m "attr" = some (.ref al) ∧ news = (82, tabObj ps) :: (al, lisO (strValues as) n) :: (it, io) :: (hl, lisO (strValues hs) nh) :: cod ∧
    as.map (·.1) = ((lp.take j).map pairL).map mkS ∧ TabN gc cod qualJ ps ∧ (∀ q ∈ cod, q.1 ≠ 82) ∧ (∀ q ∈ cod, q.1 ≠ al) ∧ (∀ q ∈ cod, q.1 ≠ it) ∧ ∀ q ∈ cod, q.1 ≠ hl

theorem ji_close {s : Shared} {g gc h h'' : Heap} {L lo hl al it it2 : Addr} {io io2 : Obj} {hs as : List (Str × Tok)} {nh n' : Nat} {lp : List Pr} {j : Nat} {p : Pr} {m : Str → Option Value} {news cod : List (Addr × Obj)} {ps : Array Value} {X : Str} {t : Tok} {tk tk'' : Nat} {Q : Flow → Shared → Prop}
    (F : Fr g L h m) (N : News g L h news) (hp : lp[j]? = some p) (has : as.map (·.1) = ((lp.take j).map pairL).map mkS) (hX : X = mkS (pairL p)) (e1 : m "lists" = some (.ref lo)) (e2 : m "headers" = some (.ref hl)) (e3 : m "attr" = some (.ref al))
    (m0 : (it2, io2) ∈ news) (m1 : (82, tabObj ps) ∈ news) (m2 : (al, lisO (strValues as ++ [.str X t]) n') ∈ news) (m3 : (it, io) ∈ news) (m4 : (hl, lisO (strValues hs) nh) ∈ news) (m5 : ∀ q ∈ cod, q ∈ news) (ht : TabN gc cod qualJ ps)
    (c1 : ∀ q ∈ cod, q.1 ≠ 82) (c2 : ∀ q ∈ cod, q.1 ≠ al) (c3 : ∀ q ∈ cod, q.1 ≠ it) (c4 : ∀ q ∈ cod, q.1 ≠ hl) (c5 : ∀ q ∈ cod, q.1 ≠ it2) (d1 : @Ne Nat 82 it2) (d2 : @Ne Nat al it2) (d3 : @Ne Nat it it2) (d4 : @Ne Nat hl it2) :
    TurnEnd { s with heap := h'', toks := tk'' } g L it2 io2 (JI gc lo hl al it io hs nh lp (j + 1)) Q .next { s with heap := h, toks := tk } := by
  subst hX
  rw [← strValues_app] at m2
  refine ⟨h, tk, m, (82, tabObj ps) :: (al, lisO (strValues (as ++ [(mkS (pairL p), t)])) n') :: (it, io) :: (hl, lisO (strValues hs) nh) :: cod, rfl, F, News.re N (sub_cons m0 (sub_cons m1 (sub_cons m2 (sub_cons m3 (sub_cons m4 m5))))), cons_ne d1 (cons_ne d2 (cons_ne d3 (cons_ne d4 c5))),
    as ++ [(mkS (pairL p), t)], n', ps, cod, e1, e2, e3, rfl, ?_, ht, c1, c2, c3, c4⟩
  rw [take_snoc hp, List.map_append, List.map_append, List.map_append, has]; rfl

theorem jo_close {s : Shared} {g gc h h'' : Heap} {L lo hl it2 : Addr} {io2 : Obj} {hs : List (Str × Tok)} {n' : Nat} {ls : List (List Pr)} {i : Nat} {lp : List Pr} {m : Str → Option Value} {news cod : List (Addr × Obj)} {ps : Array Value} {X : Str} {t : Tok} {tk tk'' : Nat} {Q : Flow → Shared → Prop}
    (F : Fr g L h m) (N : News g L h news) (hp : ls[i]? = some lp) (has : hs.map (·.1) = ((ls.take i).map listL).map mkS) (hX : X = mkS (listL lp)) (e1 : m "lists" = some (.ref lo)) (e2 : m "headers" = some (.ref hl))
    (m0 : (it2, io2) ∈ news) (m1 : (82, tabObj ps) ∈ news) (m2 : (hl, lisO (strValues hs ++ [.str X t]) n') ∈ news) (m5 : ∀ q ∈ cod, q ∈ news) (ht : TabN gc cod qualJ ps) (q1 : @Ne Nat hl 82)
    (c1 : ∀ q ∈ cod, q.1 ≠ 82) (c4 : ∀ q ∈ cod, q.1 ≠ hl) (c5 : ∀ q ∈ cod, q.1 ≠ it2) (d1 : @Ne Nat 82 it2) (d4 : @Ne Nat hl it2) :
    TurnEnd { s with heap := h'', toks := tk'' } g L it2 io2 (JO gc lo ls (i + 1)) Q .next { s with heap := h, toks := tk } := by
  subst hX
  rw [← strValues_app] at m2
  refine ⟨h, tk, m, (82, tabObj ps) :: (hl, lisO (strValues (hs ++ [(mkS (listL lp), t)])) n') :: cod, rfl, F, News.re N (sub_cons m0 (sub_cons m1 (sub_cons m2 m5))), cons_ne d1 (cons_ne d4 c5),
    hl, n', hs ++ [(mkS (listL lp), t)], ps, cod, e1, e2, rfl, ?_, ht, q1, c1, c4⟩
  rw [take_snoc hp, List.map_append, List.map_append, List.map_append, has]; rfl

section
variable {prog : Program} {w : World} {A : Around} {s : Shared} {P : Program} {loose : List Str} {mean : ExcName → Option Value} {mg mb : Str → Option Value} {R : Result → Shared → Prop}

theorem joinw_call {d u : Nat} {fr : Option (List Env)} {gs : Option (List Code)} {v : Value} {ls : List (List Pr)} (G : Gd w P loose mean mg mb (hideAll s.heap [82])) {X : List Addr} (hT : TabX s.heap 82 qualJ X) (hXs : ∀ a ∈ X, ∃ o, s.heap.get? a = some o) (hd : d + 4 < recursionLimit) (hv : ListsAt (inH (hideAll s.heap [82])) v ls)
    (hne : ∀ l ∈ ls, l ≠ []) (hsz : szLs ls ≤ 5000)
    (h : ∀ h' tk tks, Grown (hideAll s.heap [82]) h' → TabX h' 82 qualJ X → R (.ok (.ret (.str (mkS (wholeL ls)) tk))) { s with heap := h', toks := tks }) :
    codeAny (model prog w) (AA d fr gs u) (.call (.ref 87) ⟨[v], []⟩) R s := by
  have X₀ := G.X
  have T₀ := G.T
  have C₀ : CodeHd (hideAll s.heap [82]) 86 82 := codeHd_of_K X₀ rfl
  obtain ⟨ps, hps, htab⟩ := hT
  obtain ⟨lo, us, no, rfl, hlo, hus⟩ := hv
  refine enterH (hid := [(82, tabObj ps)]) (binds := [("lists", .ref lo)]) G (fun p hp => by rw [List.mem_singleton.mp hp]; exact hps) rfl (by rfl) (show d < recursionLimit by omega) (BindsTo.of_eq rfl) (locs rfl) rfl rfl rfl (by decide) fun h₁ F N => ?_
  replace F : Fr (hideAll s.heap [82]) s.heap.objs.size h₁ _ := F
  replace N : News (hideAll s.heap [82]) s.heap.objs.size h₁ [(82, tabObj ps)] := N
  have hgc : ∀ b o, (hideAll s.heap (82 :: X)).get? b = some o → (hideAll s.heap [82]).get? b = some o := fun b o e => hideAll_get _ (of_hideAll _ e) (fun q => by rw [List.mem_singleton.mp q, hideAll_none _ (.head _)] at e; cases e)
  generalize hg : hideAll s.heap [82] = g at *
  generalize hgg : hideAll s.heap (82 :: X) = gc at *
  repeat' (walk_at "my_go")
  (with_reducible rename Fr _ _ _ _ => F')
  (with_reducible rename News _ _ _ _ => N')
  rename_i hl1 _ hl1lt _
  refine for_list (l := lo) (vs := us) (news := [(82, tabObj ps), (hl1, lisO (strValues []) 0)]) (fun i m news => JO gc lo ls i m news) rfl F' ?N ?j0 ?hiter ?hl ?turn ?done
  case N => exact News.re N' (by walk_at "my_sub")
  case j0 => exact ⟨hl1, 0, [], ps, [], rfl, rfl, rfl, rfl, htab, by omega, fun q hq => (by cases hq), fun q hq => (by cases hq)⟩
  case hiter => exact fun Q' q => ld F' rfl q
  case hl => exact fun i m₁ news₁ h' _ F₁ _ => ⟨_, F₁.keep _ _ hlo, rfl, no, rfl⟩
  case turn =>
    clear N' F'
    rintro i v m₁ news₁ h' tk it io hv ⟨hl, n, hs, ps', cod, h1, h2, rfl, hhs, htab', q1, q2, q3⟩ F₁ N₁ hne1 hitL
    obtain ⟨lp, hlp, la, ws, nw, rfl, hla, hws⟩ := hus.get hv
    obtain ⟨r, rfl⟩ : ∃ r, m₁ = upd "lists" (.ref lo) (upd "headers" (.ref hl) r) := ⟨m₁, by rw [upd_eq h2, upd_eq h1]⟩
    clear h1 h2
    have q4 := neN (hne1 _ (.head _))
    have q5 := neN (hne1 _ (.tail _ (.head _)))
    dsimp only at q4 q5
    repeat' (walk_at "my_go")
    (with_reducible rename Fr _ _ _ _ => F2)
    (with_reducible rename News _ _ _ _ => N2)
    rename_i al _ hlt _
    have hlpm : lp ∈ ls := List.mem_of_getElem? hlp
    have z1 := szLs_mem hlpm
    have hq6 : ∀ q ∈ cod, q.1 ≠ al := allLt_ne hlt.2.2.2
    have hq7 : ∀ q ∈ cod, q.1 ≠ it := fun q hq => hne1 q (.tail _ (.tail _ hq))
    obtain ⟨hlt1, hlt2, hlt3, _⟩ := hlt
    refine for_list (l := la) (vs := ws) (news := (82, tabObj ps') :: (al, lisO (strValues []) 0) :: (it, io) :: (hl, lisO (strValues hs) n) :: cod) (fun j m news => JI gc lo hl al it io hs n lp j m news) rfl F2 ?N2 ?j1 ?hiter2 ?hl2 ?turn2 ?done2 ?hs2 ?ht2
    case N2 => exact News.re N2 (by walk_at "my_sub")
    case j1 => exact ⟨[], 0, ps', cod, rfl, rfl, rfl, rfl, rfl, htab', q2, hq6, hq7, q3⟩
    case hiter2 => exact fun Q' q => ld F2 rfl q
    case hl2 => exact fun i m₁ news₁ h' _ F₁ _ => ⟨_, F₁.keep _ _ hla, rfl, nw, rfl⟩
    case hs2 => exact fun _ => rfl
    case ht2 =>
      intro I v i s' Q' hv hit q
      obtain ⟨j, hj, rfl⟩ := List.getElem_of_mem hv
      obtain ⟨p, _, ta, tk, vo, e, _⟩ := hws.get (i := j) (by rw [List.getElem?_eq_getElem hj])
      rw [e]
      exact wpAny_letOwnedTupleGo_listiter hit q
    case turn2 =>
      clear N2 F2
      rintro j v m₁ news₁ h' tk it2 io2 hv2 ⟨as, na, ps2, cod2, h1, h2, h3, rfl, has, htab2, c1, c2, c3, c4⟩ F₁ N₁ hne2 hitL2
      obtain ⟨⟨kk, oo⟩, hpp, ta, tkk, vo, rfl, hta, hvo⟩ := hws.get hv2
      obtain ⟨r2, rfl⟩ : ∃ r, m₁ = upd "lists" (.ref lo) (upd "headers" (.ref hl) (upd "attr" (.ref al) r)) := ⟨m₁, by rw [upd_eq h3, upd_eq h2, upd_eq h1]⟩
      clear h1 h2 h3
      have htup : IsTup g ta #[.str ⟨kk.toArray⟩ tkk, vo] := ⟨_, hta, rfl, _, rfl⟩
      have hpm : (kk, oo) ∈ lp := List.mem_of_getElem? hpp
      have z2 := szL_mem hpm
      have d1 := neN (hne2 _ (.head _))
      have d2 := neN (hne2 _ (.tail _ (.head _)))
      have d3 := neN (hne2 _ (.tail _ (.tail _ (.head _))))
      have d4 := neN (hne2 _ (.tail _ (.tail _ (.tail _ (.head _)))))
      have d5 : ∀ q ∈ cod2, q.1 ≠ it2 := fun q hq => hne2 q (.tail _ (.tail _ (.tail _ (.tail _ hq))))
      dsimp only at d1 d2 d3 d4
      have z3 : (strValues as).length ≤ 5000 := by
        have e1 := congrArg List.length has
        simp only [List.length_map, List.length_take] at e1
        have := len_szL lp
        simp [strValues]; omega
      cases oo with
      | none =>
        have hvo : vo = .none := hvo
        subst hvo
        clear h
        repeat' (first | walk1 | (dsimp only; walk1))
        (with_reducible rename Fr _ _ _ _ => F9)
        (with_reducible rename News _ _ _ _ => N9)
        exact ji_close F9 N9 hpp has rfl rfl rfl rfl (by k_mem) (by k_mem) (by k_mem) (by k_mem) (by k_mem) (fun q hq => by k_mem) htab2 c1 c2 c3 c4 d5 d1 d2 d3 d4
      | some v =>
        obtain ⟨tv, rfl⟩ := hvo
        have zv : (pairL (kk, some v)).length = kk.length + 1 + (valL v).length := by show (kk ++ 61 :: valL v).length = _; simp; omega
        have zv2 := valL_ge v
        have hvs : (mkS v).cps.size ≤ 1000000 := by show v.toArray.size ≤ _; simp; omega
        have hks : (mkS kk).length ≤ 10000 := by show kk.toArray.size ≤ _; simp; omega
        clear h
        cases htok : tokV v with
        | true =>
          have hvl : (mkS v).length ≤ 10000 := by show v.toArray.size ≤ _; simp; omega
          have hfull := tok_full (by omega) htok
          repeat' (first | walk1 | (dsimp only; walk1))
          (with_reducible rename Fr _ _ _ _ => F9)
          (with_reducible rename News _ _ _ _ => N9)
          have eX : Str.empty ++ mkS kk ++ Str.ofString "=" ++ mkS v = mkS (pairL (kk, some v)) := by
            have e1 : pairL (kk, some v) = kk ++ 61 :: v := by show kk ++ 61 :: valL v = _; unfold valL; rw [if_pos htok]
            rw [e1]
            exact fmt_text kk v
          exact ji_close F9 N9 hpp has eX rfl rfl rfl (by k_mem) (by k_mem) (by k_mem) (by k_mem) (by k_mem) (fun q hq => by k_mem) htab2 c1 c2 c3 c4 d5 d1 d2 d3 d4
        | false =>
          have hfull := tok_full_no (by omega) htok
          have zq : (valL v).length = (escL v).length + 2 := by unfold valL; rw [if_neg (by rw [htok]; exact Bool.false_ne_true)]; simp
          repeat' (walk_at "my_go")
          (with_reducible rename Fr _ _ _ _ => F3)
          (with_reducible rename News _ _ _ _ => N3)
          replace N3 := News.re (news' := (82, tabObj ps2) :: (it2, io2) :: (al, lisO (strValues as) na) :: (it, io) :: (hl, lisO (strValues hs) n) :: cod2) N3 (by walk_at "my_sub")
          refine lam_eval F3 N3 T₀ C₀ rfl (cod := cod2) (cons_ne (by omega) (cons_ne (by omega) (cons_ne (by omega) (cons_ne (by omega) c1)))) htab2 rfl rfl fun f c' ctv h4 tk4 ps4 more F4 N4 o1 o2 htab4 hci4 => ?_
          clear F3 N3
          have o3 : (82 : Nat) < f := o1 _ (.head _)
          have o4 : @LT.lt Nat _ it2 f := o1 _ (.tail _ (.head _))
          have o5 : @LT.lt Nat _ al f := o1 _ (.tail _ (.tail _ (.head _)))
          have o6 : @LT.lt Nat _ it f := o1 _ (.tail _ (.tail _ (.tail _ (.head _))))
          have o7 : @LT.lt Nat _ hl f := o1 _ (.tail _ (.tail _ (.tail _ (.tail _ (.head _)))))
          have e1 : ∀ q ∈ more ++ cod2, q.1 ≠ 82 := app_ne (fun r hr => Nat.ne_of_gt (o2 r hr _ (.head _))) c1
          have e2 : ∀ q ∈ more ++ cod2, q.1 ≠ al := app_ne (fun r hr => Nat.ne_of_gt (o2 r hr _ (.tail _ (.tail _ (.head _))))) c2
          have e3 : ∀ q ∈ more ++ cod2, q.1 ≠ it := app_ne (fun r hr => Nat.ne_of_gt (o2 r hr _ (.tail _ (.tail _ (.tail _ (.head _)))))) c3
          have e4 : ∀ q ∈ more ++ cod2, q.1 ≠ hl := app_ne (fun r hr => Nat.ne_of_gt (o2 r hr _ (.tail _ (.tail _ (.tail _ (.tail _ (.head _))))))) c4
          have e5 : ∀ q ∈ more ++ cod2, q.1 ≠ it2 := app_ne (fun r hr => Nat.ne_of_gt (o2 r hr _ (.tail _ (.head _)))) d5
          replace N4 := News.re (news' := (82, tabObj ps4) :: (it2, io2) :: (al, lisO (strValues as) na) :: (it, io) :: (hl, lisO (strValues hs) n) :: (f, _) :: (more ++ cod2)) N4
            (sub_cons (.head _) (sub_cons (.tail _ (.tail _ (List.mem_append_right _ (.head _)))) (sub_cons (.tail _ (.tail _ (List.mem_append_right _ (.tail _ (.head _))))) (sub_cons (.tail _ (.tail _ (List.mem_append_right _ (.tail _ (.tail _ (.head _)))))) (sub_cons (.tail _ (.tail _ (List.mem_append_right _ (.tail _ (.tail _ (.tail _ (.head _)))))))
              (sub_cons (.tail _ (.head _)) (sub_app (fun p hp => .tail _ (.tail _ (List.mem_append_left _ hp))) (fun p hp => .tail _ (.tail _ (List.mem_append_right _ (.tail _ (.tail _ (.tail _ (.tail _ hp))))))))))))))
          clear htab2 c1 c2 c3 c4 d5 o1 o2
          generalize more ++ cod2 = cod4 at *
          repeat' (walk_at "my_go")
          (with_reducible rename Fr _ _ _ _ => F5)
          (with_reducible rename News _ _ _ _ => N5)
          refine sub_F F5 N5 (pat80 X₀) (.tail _ (.tail _ (.tail _ (.tail _ (.tail _ (.head _)))))) rfl hvs ?cb (sub_esc _ [] v rfl) ?hz fun h6 tk6 tks6 F6 N6 => ?_
          case hz => omega
          case cb =>
            refine cb_enter (G.keeps F5.keep) (N5.get (.tail _ (.tail _ (.tail _ (.tail _ (.tail _ (.head _))))))) (CodeIn.rec (hci4.up hgc) F5 (News.re N5 fun p hp => .tail _ (.tail _ (.tail _ (.tail _ (.tail _ (.tail _ hp))))))) ?_ (fun q => rfl) rfl rfl rfl rfl (by decide) ?_
            · show d + 1 < recursionLimit; omega
            · clear F5 N5 X₀ T₀ C₀
              intro s' q st hd' b e Q h₁ G' hm hbe hex hq F7 N7
              have X₇ := G'.X
              have T₇ := G'.T
              have hvl : (mkS v).length ≤ 9000 := by show v.toArray.size ≤ _; simp; omega
              repeat' (first | walk1 | (dsimp only; walk1))
              · rw [bs_text (by assumption)]; exact hq _ _ _ F7.keep
              · rw [bs_none (by assumption) (by assumption)]; exact hq _ _ _ F7.keep
          clear F5 N5
          have hel : (Str.mk (escL v).toArray).length ≤ 9000 := by show (escL v).toArray.size ≤ _; simp; omega
          repeat' (first | walk1 | (dsimp only; walk1))
          (with_reducible rename Fr _ _ _ _ => F9)
          (with_reducible rename News _ _ _ _ => N9)
          rename (_ = mkS (34 :: (escL v ++ [34]))) => hy
          have eX : Str.empty ++ mkS kk ++ Str.ofString "=" ++ mkS (34 :: (escL v ++ [34])) = mkS (pairL (kk, some v)) := by
            have e1 : pairL (kk, some v) = kk ++ 61 :: (34 :: (escL v ++ [34])) := by show kk ++ 61 :: valL v = _; unfold valL; rw [if_neg (by rw [htok]; exact Bool.false_ne_true)]
            rw [e1]
            exact fmt_text kk _
          rw [← hy] at eX
          exact ji_close F9 N9 hpp has eX rfl rfl rfl (by k_mem) (by k_mem) (by k_mem) (by k_mem) (by k_mem) (fun q hq => by k_mem) htab4 e1 e2 e3 e4 e5 d1 d2 d3 d4
    case done2 =>
      clear N2 F2
      rintro m₁ news₁ h' tk ⟨as, na, ps2, cod2, h1, h2, h3, rfl, has, htab2, c1, c2, c3, c4⟩ F₁ N₁
      obtain ⟨r2, rfl⟩ : ∃ r, m₁ = upd "lists" (.ref lo) (upd "headers" (.ref hl) (upd "attr" (.ref al) r)) := ⟨m₁, by rw [upd_eq h3, upd_eq h2, upd_eq h1]⟩
      clear h1 h2 h3
      have hwl : ws.length = lp.length := hws.length
      rw [hwl, List.take_length] at has
      have z4 := len_szL lp
      have z3 : (strValues as).length ≤ 5000 := by
        have e1 := congrArg List.length has
        simp only [List.length_map] at e1
        simp [strValues]; omega
      have hne3 : strValues as ≠ [] := by
        have e1 := congrArg List.length has
        simp only [List.length_map] at e1
        have := hne lp hlpm
        intro q
        have q := congrArg List.length q
        simp [strValues] at q
        exact this (List.eq_nil_of_length_eq_zero (by rw [← e1, q]; rfl))
      have z5 : (strValues hs).length ≤ 5000 := by
        have e1 := congrArg List.length hhs
        simp only [List.length_map, List.length_take] at e1
        have := len_szLs ls
        simp [strValues]; omega
      have z6 : ((lp.map pairL).map (fun x => x.length + [59, 32].length)).sum ≤ 1000000 := by
        have : ((lp.map pairL).map (fun x => x.length + [59, 32].length)).sum = szL lp := by rw [List.map_map]; rfl
        omega
      have hsep : Str.ofString "; " = mkS [59, 32] := by decide +kernel
      clear h
      repeat' (first | walk1 | (dsimp only; walk1))
      (with_reducible rename Fr _ _ _ _ => F9)
      (with_reducible rename News _ _ _ _ => N9)
      exact jo_close F9 N9 hlp hhs rfl rfl rfl (by k_mem) (by k_mem) (by k_mem) (fun q hq => by k_mem) htab2 q1 c1 c4 c3 (by omega) (by omega)
  case done =>
    rintro m₁ news₁ h' tk ⟨hl, n, hs, ps', cod, h1, h2, rfl, hhs, htab', q1, q2, q3⟩ F₁ N₁
    obtain ⟨r, rfl⟩ : ∃ r, m₁ = upd "lists" (.ref lo) (upd "headers" (.ref hl) r) := ⟨m₁, by rw [upd_eq h2, upd_eq h1]⟩
    clear h1 h2
    have hul : us.length = ls.length := hus.length
    rw [hul, List.take_length] at hhs
    have z6 : ((ls.map listL).map (fun x => x.length + [44, 32].length)).sum ≤ 1000000 := Nat.le_trans (wholeL_sum ls) (by omega)
    have hsep : Str.ofString ", " = mkS [44, 32] := by decide +kernel
    repeat' (first | walk1 | (dsimp only; walk1))
    subst hgg
    exact h _ _ _ F₁.keep (TabX.of hg F₁ N₁ (cons_ne q1 q2) hXs (htab'.mono fun p hp => .tail _ hp))
end
end Mine
end

section
open PySem PySem.Sre PyProof.Rows
set_option maxRecDepth 100000
namespace Mine
/-! ### what is left to read -/
def tailP (ps : List Pr) : List Nat := (ps.map fun p => 59 :: 32 :: pairL p).flatten
def tailR (R : List (List Pr)) : List Nat := (R.map fun l => 44 :: 32 :: listL l).flatten
theorem tailP_cons (p : Pr) (ps : List Pr) : tailP (p :: ps) = 59 :: 32 :: (pairL p ++ tailP ps) := by simp [tailP]
theorem listL_cons (p : Pr) (ps : List Pr) : listL (p :: ps) = pairL p ++ tailP ps := by
  unfold listL sepJ tailP
  simp only [List.map_cons, List.map_map]
  rfl
theorem tailR_cons (p : Pr) (ps : List Pr) (R : List (List Pr)) : tailR ((p :: ps) :: R) = 44 :: 32 :: (pairL p ++ (tailP ps ++ tailR R)) := by
  unfold tailR
  simp only [List.map_cons, List.flatten_cons, listL_cons]
  simp
theorem wholeL_cons (p : Pr) (ps : List Pr) (R : List (List Pr)) : wholeL ((p :: ps) :: R) = pairL p ++ (tailP ps ++ tailR R) := by
  unfold wholeL sepJ
  simp only [List.map_cons, listL_cons, List.map_map, List.append_assoc]
  rfl
/-- at a separator, or at the end -/
def AtSep (T : List Nat) : Prop := T = [] ∨ ∃ c r, T = c :: r ∧ (c = 44 ∨ c = 59)
theorem atSep_tail (ps : List Pr) (R : List (List Pr)) : AtSep (tailP ps ++ tailR R) := by
  cases ps with
  | cons p ps => rw [tailP_cons]; exact .inr ⟨59, _, rfl, .inr rfl⟩
  | nil =>
    cases R with
    | nil => exact .inl rfl
    | cons l R => exact .inr ⟨44, _, by simp [tailP, tailR]; rfl, .inl rfl⟩
theorem AtSep.stopsKey {T : List Nat} (h : AtSep T) : Stops isKey T := by
  rcases h with rfl | ⟨c, r, rfl, rfl | rfl⟩
  · exact .inl rfl
  · exact .inr ⟨_, _, rfl, by decide +kernel⟩
  · exact .inr ⟨_, _, rfl, by decide +kernel⟩
theorem AtSep.stopsPl {T : List Nat} (h : AtSep T) : Stops isPl T := by
  rcases h with rfl | ⟨c, r, rfl, rfl | rfl⟩
  · exact .inl rfl
  · exact .inr ⟨_, _, rfl, by decide +kernel⟩
  · exact .inr ⟨_, _, rfl, by decide +kernel⟩

/-- a search that finds -/
def Hit (c : Array Nat) (x y z : Str) : Prop := ∃ k b e hd, To k (forSearch c x.cps 1 0 x.cps.size false) (fun m => Won m 0 hd #[some b, some e] 1 1) ∧ k ≤ 1000000000 ∧ b ≤ e ∧ e ≤ x.cps.size ∧ hd ≤ x.cps.size ∧ Str.mk (x.cps.extract b e) = y ∧ Str.mk (x.cps.extract hd x.cps.size) = z
/-- a search that finds nothing -/
def Miss (c : Array Nat) (x : Str) : Prop := ∃ k, To k (forSearch c x.cps 1 0 x.cps.size false) Lost ∧ k ≤ 1000000000
/-- the junk ahead of a text -/
def Junk (x z : Str) : Prop := ∃ n k k', 0 < n ∧ n ≤ x.cps.size ∧ To k (forSearch cJunk x.cps 0 0 x.cps.size false) (fun m => Won m 0 n #[] (-1) (-1)) ∧ k ≤ 1000000000 ∧ To k' (forSearch cJunk x.cps 0 n x.cps.size false) Lost ∧ k' ≤ 1000000000 ∧ Str.mk (x.cps.extract n x.cps.size) = z
theorem ext_mid (pre mid post : List Nat) (b e : Nat) (hb : b = pre.length) (he : e = pre.length + mid.length) : Str.mk ((pre ++ (mid ++ post)).toArray.extract b e) = mkS mid := by
  subst hb he
  apply Str.ext'
  apply Array.toList_inj.mp
  rw [toList_extract]; simp
theorem ext_end (pre post : List Nat) (b : Nat) (hb : b = pre.length) : Str.mk ((pre ++ post).toArray.extract b (pre ++ post).toArray.size) = mkS post := by
  subst hb
  apply Str.ext'
  apply Array.toList_inj.mp
  rw [toList_extract]; simp
theorem hit_tok {sp k rest : List Nat} (hT : (sp ++ (k ++ rest)).length ≤ 1000000) (hsp : ∀ c ∈ sp, isSp c = true) (hk0 : k ≠ []) (hk : ∀ c ∈ k, isKey c = true) (hr : Stops isKey rest) : Hit cTok (mkS (sp ++ (k ++ rest))) (mkS k) (mkS rest) := by
  refine ⟨20, sp.length, sp.length + k.length, sp.length + k.length, tok_read hT hsp hk0 hk hr, by decide, by omega, (by simp only [List.size_toArray, List.length_append]; omega), (by simp only [List.size_toArray, List.length_append]; omega), ext_mid sp k rest _ _ rfl rfl, ?_⟩
  have := ext_end (sp ++ k) rest (sp.length + k.length) (by simp)
  rw [List.append_assoc] at this; exact this
theorem hit_val {v rest : List Nat} (hT : (61 :: (v ++ rest)).length ≤ 1000000) (hv : ∀ c ∈ v, isPl c = true) (hv0 : v ≠ []) (hr : Stops isPl rest) : Hit cVal (mkS (61 :: (v ++ rest))) (mkS v) (mkS rest) := by
  refine ⟨20, 1, 1 + v.length, 1 + v.length, val_read hT hv hv0 hr, by decide, by omega, (by simp only [List.size_toArray, List.length_cons, List.length_append]; omega), (by simp only [List.size_toArray, List.length_cons, List.length_append]; omega), ext_mid [61] v rest _ _ rfl rfl, ?_⟩
  exact ext_end (61 :: v) rest (1 + v.length) (by simp; omega)
theorem hit_quo {v rest : List Nat} (hT : (61 :: 34 :: (escL v ++ 34 :: rest)).length ≤ 1000000) : Hit cQuo (mkS (61 :: 34 :: (escL v ++ 34 :: rest))) (mkS (escL v)) (mkS rest) := by
  refine ⟨_, 2, 2 + (escL v).length, 2 + (escL v).length + 1, quo_read hT, by omega, by omega, by simp; omega, by simp; omega, ext_mid [61, 34] (escL v) (34 :: rest) _ _ rfl rfl, ?_⟩
  have := ext_end (61 :: 34 :: (escL v ++ [34])) rest (2 + (escL v).length + 1) (by simp; omega)
  simpa using this
theorem miss_tok {T : List Nat} (hT : T.length ≤ 1000000) (h : AtSep T) : Miss cTok (mkS T) := ⟨_, tok_none hT h, by omega⟩
theorem miss_val {T : List Nat} (hT : T.length ≤ 1000000) (h : AtSep T) : Miss cVal (mkS T) := ⟨_, val_none hT h, by omega⟩
theorem miss_quo {T : List Nat} (hT : T.length ≤ 1000000) (h : AtSep T) : Miss cQuo (mkS T) := ⟨_, quo_none hT (h.imp id .inl), by omega⟩
theorem miss_quo' {c : Nat} {r : List Nat} (hT : (61 :: c :: r).length ≤ 1000000) (h : c ≠ 34) (h' : isSp c = false) : Miss cQuo (mkS (61 :: c :: r)) := ⟨_, quo_none hT (.inr (.inr ⟨c, r, rfl, h, h'⟩)), by omega⟩
theorem junk_semi {rest : List Nat} (hT : (59 :: 32 :: rest).length ≤ 1000000) (hr : Stops isJunk rest) : Junk (mkS (59 :: 32 :: rest)) (mkS rest) :=
  ⟨2, 20, _, by decide, by simp, junk_read (j := [59, 32]) hT (by decide +kernel) hr, by decide, junk_none (j := [59, 32]) hT (by simp), by simp at hT ⊢; omega, ext_end [59, 32] rest 2 rfl⟩

/-- signs that need no quotation marks -/
theorem tok_facts : ∀ c, isTok c = true → isPl c = true ∧ c ≠ 34 ∧ isSp c = false := by
  have h : ∀ c < 256, isTok c = true → isPl c = true ∧ c ≠ 34 ∧ isSp c = false := by decide +kernel
  intro c hc
  refine h c ?_ hc
  unfold isTok at hc
  simp only [Bool.and_eq_true, decide_eq_true_eq] at hc
  exact hc.1
theorem key_facts {c : Nat} (h : isKey c = true) : isJunk c = false := by
  unfold isKey at h
  unfold isJunk
  simp at h ⊢
  exact ⟨⟨h.1.2, h.2⟩, h.1.1.2⟩

/-! ### the white signs at the ends -/
theorem strSub_all (x : Str) : Builtin.Str.strSub x 0 x.length = x := by
  apply Str.ext'
  show x.cps.extract 0 x.cps.size = x.cps
  simp
theorem lstrip_keep {c : Nat} {r : List Nat} (h : isSp c = false) : Txt.lstrip (mkS (c :: r)) = mkS (c :: r) := by
  unfold Txt.lstrip
  rw [stripBy_eq]
  have e : stripLo Unicode.isSpace true (mkS (c :: r)) = 0 := by
    have h' : Unicode.isSpace c = false := h
    unfold stripLo
    simp [h']
  rw [e]
  exact strSub_all _
theorem rstrip_keep {v : List Nat} (h : ∀ c ∈ v, isSp c = false) : Txt.rstrip (mkS v) = mkS v := by
  unfold Txt.rstrip
  rw [stripBy_eq]
  have e : stripHi Unicode.isSpace true (mkS v) 0 = (mkS v).length := by
    unfold stripHi
    have : (List.takeWhile Unicode.isSpace (List.drop 0 (mkS v).cps.toList).reverse) = [] := by
      cases hr : (List.drop 0 (mkS v).cps.toList).reverse with
      | nil => rfl
      | cons a l =>
        have : a ∈ v := by
          have q : a ∈ (List.drop 0 (mkS v).cps.toList).reverse := by rw [hr]; exact .head _
          simpa using q
        have q : Unicode.isSpace a = false := h _ this
        rw [List.takeWhile_cons, q]; rfl
    rw [this]; simp
  have e0 : stripLo Unicode.isSpace false (mkS v) = 0 := rfl
  rw [e0, e]
  exact strSub_all _
theorem starts_comma (r : List Nat) : Txt.startswith (mkS (44 :: r)) (Str.ofString ",") = true := by
  have q : Str.ofString "," = ⟨#[44]⟩ := by decide +kernel
  rw [q]
  unfold Txt.startswith Builtin.Str.subAt
  simp [Str.length]
theorem starts_semi (r : List Nat) : Txt.startswith (mkS (59 :: r)) (Str.ofString ",") = false := by
  have q : Str.ofString "," = ⟨#[44]⟩ := by decide +kernel
  rw [q]
  unfold Txt.startswith Builtin.Str.subAt
  simp [Str.length]
theorem slice_one (c : Nat) (r : List Nat) : Txt.slice (mkS (c :: r)) (some 1) none = mkS r := by
  have a2 : Txt.slice (mkS (c :: r)) (some (1 : Int)) none = ⟨(((mkS (c :: r)).cps.toList.drop (1 : Int).toNat).take (((mkS (c :: r)).cps.toList.length : Int) - 1).toNat).toArray⟩ := StrLaws.sliceText_from ⟨by decide, by simp; omega⟩
  rw [a2]
  apply Str.ext'
  apply Array.toList_inj.mp
  simp
end Mine
end

section
open PySem PySem.Sre PyProof.Rows
set_option maxRecDepth 100000
namespace Mine
def KeyOk (p : Pr) : Prop := p.1 ≠ [] ∧ ∀ c ∈ p.1, isKey c = true
theorem mkS_len (l : List Nat) : (mkS l).length = l.length := by show l.toArray.size = _; simp
theorem pair_head {p : Pr} (hk : KeyOk p) (tl : List Nat) : ∃ c r, pairL p ++ tl = c :: r ∧ isKey c = true := by
  obtain ⟨k, o⟩ := p
  obtain ⟨hk0, hk1⟩ := hk
  cases k with
  | nil => exact absurd rfl hk0
  | cons c k =>
    cases o with
    | none => exact ⟨c, k ++ tl, rfl, hk1 c (.head _)⟩
    | some v => exact ⟨c, k ++ 61 :: valL v ++ tl, by show (c :: k) ++ 61 :: valL v ++ tl = _; simp, hk1 c (.head _)⟩
theorem semi_facts {p : Pr} {ps : List Pr} {R : List (List Pr)} {T : List Nat} (hk : KeyOk p) (hT : T = tailP (p :: ps) ++ tailR R) (hz : T.length ≤ 9000) :
    (pairL p ++ (tailP ps ++ tailR R)).length < T.length ∧ Miss cTok (mkS T) ∧ Txt.lstrip (mkS T) = mkS T ∧ Txt.startswith (mkS T) (Str.ofString ",") = false ∧ Junk (mkS T) (mkS (pairL p ++ (tailP ps ++ tailR R))) ∧ 0 < (mkS T).length := by
  have hT1 : T = 59 :: 32 :: (pairL p ++ (tailP ps ++ tailR R)) := by rw [hT, tailP_cons]; simp
  obtain ⟨c, r, e, hc⟩ := pair_head hk (tailP ps ++ tailR R)
  have hl : T.length = (pairL p ++ (tailP ps ++ tailR R)).length + 2 := by rw [hT1]; simp
  refine ⟨by omega, miss_tok (by omega) (hT ▸ atSep_tail _ _), ?_, ?_, ?_, ?_⟩
  · rw [hT1]; exact lstrip_keep (by decide +kernel)
  · rw [hT1]; exact starts_semi _
  · rw [hT1]; exact junk_semi (by rw [← hT1]; omega) (.inr ⟨c, r, e, key_facts hc⟩)
  · rw [mkS_len]; omega
theorem comma_facts {p : Pr} {ps : List Pr} {R : List (List Pr)} {T : List Nat} (hT : T = tailP [] ++ tailR ((p :: ps) :: R)) (hz : T.length ≤ 9000) :
    ([32] ++ (pairL p ++ (tailP ps ++ tailR R))).length < T.length ∧ Miss cTok (mkS T) ∧ Txt.lstrip (mkS T) = mkS T ∧ Txt.startswith (mkS T) (Str.ofString ",") = true ∧ Txt.slice (mkS T) (some 1) none = mkS ([32] ++ (pairL p ++ (tailP ps ++ tailR R))) ∧ 0 < (mkS T).length := by
  have hT1 : T = 44 :: 32 :: (pairL p ++ (tailP ps ++ tailR R)) := by rw [hT, tailR_cons]; rfl
  have hl : T.length = ([32] ++ (pairL p ++ (tailP ps ++ tailR R))).length + 1 := by rw [hT1]; rfl
  refine ⟨by omega, miss_tok (by omega) (hT ▸ atSep_tail _ _), ?_, ?_, ?_, ?_⟩
  · rw [hT1]; exact lstrip_keep (by decide +kernel)
  · rw [hT1]; exact starts_comma _
  · rw [hT1]; exact slice_one _ _
  · rw [mkS_len]; omega
theorem sp_of_32 {sp : List Nat} (h : ∀ c ∈ sp, c = 32) : ∀ c ∈ sp, isSp c = true := fun c hc => by rw [h c hc]; decide +kernel
theorem none_facts {sp k tl T : List Nat} (hsp : ∀ c ∈ sp, c = 32) (hk : KeyOk (k, none)) (hs : AtSep tl) (hT : T = sp ++ (pairL (k, none) ++ tl)) (hz : T.length ≤ 9000) :
    tl.length < T.length ∧ Hit cTok (mkS T) (mkS k) (mkS tl) ∧ Miss cQuo (mkS tl) ∧ Miss cVal (mkS tl) ∧ 0 < (mkS T).length := by
  have hT1 : T = sp ++ (k ++ tl) := hT
  have hk0 : 0 < k.length := by cases hq : k with | nil => exact absurd hq hk.1 | cons => simp
  have hl : T.length = sp.length + (k.length + tl.length) := by rw [hT1]; simp
  refine ⟨by omega, ?_, miss_quo (by omega) hs, miss_val (by omega) hs, by rw [mkS_len]; omega⟩
  rw [hT1]
  exact hit_tok (by rw [← hT1]; omega) (sp_of_32 hsp) hk.1 hk.2 hs.stopsKey
theorem tokv_facts {sp k v tl T : List Nat} (hsp : ∀ c ∈ sp, c = 32) (hk : KeyOk (k, some v)) (hs : AtSep tl) (hv : tokV v = true) (hT : T = sp ++ (pairL (k, some v) ++ tl)) (hz : T.length ≤ 9000) :
    tl.length < T.length ∧ Hit cTok (mkS T) (mkS k) (mkS (61 :: (v ++ tl))) ∧ Miss cQuo (mkS (61 :: (v ++ tl))) ∧ Hit cVal (mkS (61 :: (v ++ tl))) (mkS v) (mkS tl) ∧ 0 < (mkS T).length ∧ (mkS (61 :: (v ++ tl))).length ≤ 9000 ∧ (mkS v).length ≤ 9000 ∧ Txt.rstrip (mkS v) = mkS v := by
  have e1 : pairL (k, some v) = k ++ 61 :: v := by show k ++ 61 :: valL v = _; unfold valL; rw [if_pos hv]
  have hT1 : T = sp ++ (k ++ (61 :: (v ++ tl))) := by rw [hT, e1]; simp
  have hl : T.length = sp.length + (k.length + (v.length + tl.length + 1)) := by rw [hT1]; simp
  unfold tokV at hv
  simp only [Bool.and_eq_true, Bool.not_eq_true', List.all_eq_true] at hv
  have h0 : v ≠ [] := by rintro rfl; exact absurd hv.1 (by decide)
  refine ⟨by omega, ?_, ?_, hit_val (by simp; omega) (fun c hc => (tok_facts c (hv.2 c hc)).1) h0 hs.stopsPl, by rw [mkS_len]; omega, by rw [mkS_len]; simp; omega, by rw [mkS_len]; omega, rstrip_keep fun c hc => (tok_facts c (hv.2 c hc)).2.2⟩
  · rw [hT1]
    exact hit_tok (by rw [← hT1]; omega) (sp_of_32 hsp) hk.1 hk.2 (.inr ⟨61, _, rfl, by decide +kernel⟩)
  · cases v with
    | nil => exact absurd rfl h0
    | cons c v =>
      have := tok_facts c (hv.2 c (.head _))
      exact miss_quo' (by simp at hl ⊢; omega) this.2.1 this.2.2
theorem quov_facts {sp k v tl T : List Nat} (hsp : ∀ c ∈ sp, c = 32) (hk : KeyOk (k, some v)) (hs : AtSep tl) (hv : tokV v = false) (hT : T = sp ++ (pairL (k, some v) ++ tl)) (hz : T.length ≤ 9000) :
    tl.length < T.length ∧ Hit cTok (mkS T) (mkS k) (mkS (61 :: 34 :: (escL v ++ 34 :: tl))) ∧ Hit cQuo (mkS (61 :: 34 :: (escL v ++ 34 :: tl))) (mkS (escL v)) (mkS tl) ∧ 0 < (mkS T).length ∧ (mkS (61 :: 34 :: (escL v ++ 34 :: tl))).length ≤ 9000 ∧ (escL v).length ≤ 9000 ∧ v.length ≤ 9000 := by
  have e1 : pairL (k, some v) = k ++ 61 :: 34 :: (escL v ++ [34]) := by show k ++ 61 :: valL v = _; unfold valL; rw [if_neg (by rw [hv]; exact Bool.false_ne_true)]
  have hT1 : T = sp ++ (k ++ (61 :: 34 :: (escL v ++ 34 :: tl))) := by rw [hT, e1]; simp
  have hl : T.length = sp.length + (k.length + ((escL v).length + (tl.length + 1) + 1 + 1)) := by rw [hT1]; simp
  have := escL_ge v
  refine ⟨by omega, ?_, hit_quo (by simp; omega), by rw [mkS_len]; omega, by rw [mkS_len]; simp; omega, by omega, by omega⟩
  rw [hT1]
  exact hit_tok (by rw [← hT1]; omega) (sp_of_32 hsp) hk.1 hk.2 (.inr ⟨61, _, rfl, by decide +kernel⟩)
end Mine
end

section
open PySem PySem.Sre PyProof.Rows
set_option maxRecDepth 100000
namespace Mine
/-- a pair that _law_lists may build -/
def PrOk (p : Pr) : Prop := KeyOk p ∧ (∀ c ∈ p.1, c < 1114112) ∧ ∀ c ∈ p.2.getD [], c < 1114112
def wP (p : Pr) : Nat := p.1.length + 2 * (p.2.getD []).length + 5
def wL (l : List Pr) : Nat := (l.map wP).sum
def wLs (ls : List (List Pr)) : Nat := (ls.map fun l => wL l + 2).sum
theorem valL_length (v : List Nat) : (valL v).length ≤ 2 * v.length + 2 := by
  unfold valL
  split
  · omega
  · have := escL_length v; simp; omega
theorem pairL_wP (p : Pr) : (pairL p).length + 2 ≤ wP p := by
  obtain ⟨k, o⟩ := p
  cases o with
  | none => show k.length + 2 ≤ k.length + 2 * 0 + 5; omega
  | some v =>
    have := valL_length v
    show (k ++ 61 :: valL v).length + 2 ≤ k.length + 2 * v.length + 5
    simp; omega
theorem szL_wL (l : List Pr) : szL l ≤ wL l := sum_le_of l _ _ fun p _ => pairL_wP p
theorem szLs_wLs (ls : List (List Pr)) : szLs ls ≤ wLs ls := sum_le_of ls _ _ fun l _ => by have := szL_wL l; omega
theorem wL_snoc (l : List Pr) (p : Pr) : wL (l ++ [p]) = wL l + wP p := by simp [wL]
theorem wLs_snoc (ls : List (List Pr)) (l : List Pr) : wLs (ls ++ [l]) = wLs ls + (wL l + 2) := by simp [wLs]
theorem keyOf_ok (n : Int) : (keyOf n ≠ [] ∧ (∀ c ∈ keyOf n, isKey c = true)) ∧ (∀ c ∈ keyOf n, c < 1114112) ∧ (keyOf n).length ≤ 9 := by
  unfold keyOf
  split <;> exact ⟨⟨by decide, by decide +kernel⟩, by decide, by decide⟩
theorem signC_lt (n : Int) : signC n < 1114112 := by
  unfold signC
  have h0 : 0 ≤ n.fmod 1112074 := Int.fmod_nonneg_of_pos _ (by decide)
  have h1 : n.fmod 1112074 < 1112074 := Int.fmod_lt_of_pos _ (by decide)
  generalize n.fmod 1112074 = k at *
  split
  · rename_i h
    rcases (show k = 0 ∨ k = 1 ∨ k = 2 ∨ k = 3 ∨ k = 4 ∨ k = 5 ∨ k = 6 ∨ k = 7 ∨ k = 8 ∨ k = 9 by omega) with rfl | rfl | rfl | rfl | rfl | rfl | rfl | rfl | rfl | rfl <;> decide +kernel
  · split <;> omega
def Good (st : List (List Pr) × Bool) (n : Nat) : Prop := (∀ l ∈ st.1, ∀ p ∈ l, PrOk p) ∧ wLs st.1 ≤ 16 * n
theorem good_step {st : List (List Pr) × Bool} {k : Nat} (ho : OpOk st) (h : Good st k) (n : Int) : Good (stepL st n) (k + 1) := by
  obtain ⟨ls, op⟩ := st
  obtain ⟨h1, h2⟩ := h
  dsimp only at h1 h2
  by_cases hn : n < 0
  · rw [stepL_neg hn]
    obtain ⟨init, last, e, hc⟩ := step_cases ls n
    rw [e, addP_snoc]
    have hk := keyOf_ok n
    have hp : PrOk (keyOf n, if (-1 - n).fmod 2 == 0 then some [] else none) := ⟨hk.1, hk.2.1, by dsimp only; split <;> simp⟩
    have hw : wP (keyOf n, if (-1 - n).fmod 2 == 0 then some [] else none) ≤ 14 := by
      have := hk.2.2
      unfold wP
      dsimp only
      split <;> simp <;> omega
    rcases hc with ⟨rfl, rfl⟩ | rfl
    · refine ⟨fun l hl p hp' => ?_, ?_⟩
      · rcases List.mem_append.mp hl with hl | hl
        · exact h1 l hl p hp'
        · rw [List.mem_singleton.mp hl] at hp'
          rw [List.mem_singleton.mp hp']; exact hp
      · show wLs (init ++ [[] ++ [_]]) ≤ _
        rw [wLs_snoc, wL_snoc]
        have : wL [] = 0 := rfl
        omega
    · refine ⟨fun l hl p hp' => ?_, ?_⟩
      · rcases List.mem_append.mp hl with hl | hl
        · exact h1 l (List.mem_append_left _ hl) p hp'
        · rw [List.mem_singleton.mp hl] at hp'
          rcases List.mem_append.mp hp' with hp' | hp'
          · exact h1 last (by simp) p hp'
          · rw [List.mem_singleton.mp hp']; exact hp
      · show wLs (init ++ [last ++ [_]]) ≤ _
        rw [wLs_snoc] at h2
        rw [wLs_snoc, wL_snoc]
        omega
  · unfold stepL
    rw [if_neg hn]
    dsimp only
    cases op with
    | false => exact ⟨h1, by show wLs ls ≤ _; omega⟩
    | true =>
      obtain ⟨init, ps, k', v, e⟩ := ho.1 rfl
      dsimp only at e
      subst e
      rw [if_pos rfl, addC_snoc]
      have ho' := h1 (ps ++ [(k', some v)]) (by simp) (k', some v) (by simp)
      refine ⟨fun l hl p hp' => ?_, ?_⟩
      · rcases List.mem_append.mp hl with hl | hl
        · exact h1 l (List.mem_append_left _ hl) p hp'
        · rw [List.mem_singleton.mp hl] at hp'
          rcases List.mem_append.mp hp' with hp' | hp'
          · exact h1 (ps ++ [(k', some v)]) (by simp) p (List.mem_append_left _ hp')
          · rw [List.mem_singleton.mp hp']
            refine ⟨ho'.1, ho'.2.1, fun c hc => ?_⟩
            rcases List.mem_append.mp (show c ∈ v ++ [signC n] from hc) with hc | hc
            · exact ho'.2.2 c hc
            · rw [List.mem_singleton.mp hc]; exact signC_lt n
      · show wLs (init ++ [ps ++ [(k', some (v ++ [signC n]))]]) ≤ _
        rw [wLs_snoc, wL_snoc] at h2 ⊢
        have e1 : wP (k', some (v ++ [signC n])) = wP (k', some v) + 2 := by unfold wP; simp; omega
        omega
theorem build_good (ns : List Int) : Good (buildL ns) ns.length := by
  generalize hk : ns.length = k
  induction k generalizing ns with
  | zero =>
    have : ns = [] := List.length_eq_zero_iff.mp hk
    subst this
    exact ⟨fun l hl => (by cases hl), Nat.le_refl _⟩
  | succ k ih =>
    rcases snoc_cases ns with rfl | ⟨i, a, rfl⟩
    · simp at hk
    · have hi : i.length = k := by simpa using hk
      rw [buildL_snoc]
      exact good_step (build_ok i).1 (ih i hi) a
theorem szLs_app (a b : List (List Pr)) : szLs (a ++ b) = szLs a + szLs b := by simp [szLs]
theorem wholeL_app {a b : List (List Pr)} (ha : a ≠ []) (hb : b ≠ []) : wholeL (a ++ b) = wholeL a ++ ([44, 32] ++ wholeL b) := by
  cases a with
  | nil => exact absurd rfl ha
  | cons l a =>
    cases b with
    | nil => exact absurd rfl hb
    | cons k b => unfold wholeL sepJ; simp
end Mine
end

section
open PySem PySem.W PyProof.Rows PySem.Calls
open PySem.Builtin.Re
set_option maxRecDepth 100000
set_option maxHeartbeats 4000000
namespace Mine
/-- a match of the ledger: its text, its group, what is left behind it -/
def MatN (x y z : Str) (om : Obj) (r : Addr) (orr : Obj) : Prop := ∃ tk a lim li b e hd, om = matO x tk a lim li r ∧ orr = spanO [0, hd, b, e] ∧ b ≤ e ∧ e ≤ x.cps.size ∧ hd ≤ x.cps.size ∧ Str.mk (x.cps.extract b e) = y ∧ Str.mk (x.cps.extract hd x.cps.size) = z

section
variable {prog : Program} {w : World} {A : Around} {E : Value → Shared → Prop} {s : Shared} {h₀ : Heap} {L a q r : Addr} {m : Str → Option Value} {news : List (Addr × Obj)} {c : Array Nat} {x y z : Str} {tk : Tok} {om orr : Obj}
theorem MatN.at {h : Heap} (M : MatN x y z om r orr) (N : News h₀ L h news) (m1 : (q, om) ∈ news) (m2 : (r, orr) ∈ news) : ∃ b e hd : Nat, IsMatch h q x [0, hd, b, e] ∧ b ≤ e ∧ e ≤ x.cps.size ∧ hd ≤ x.cps.size ∧ Str.mk (x.cps.extract b e) = y ∧ Str.mk (x.cps.extract hd x.cps.size) = z := by
  obtain ⟨tk, a, lim, li, b, e, hd, rfl, rfl, h1, h2, h3, h4, h5⟩ := M
  exact ⟨b, e, hd, isMatch_of (N.get m1) (N.get m2), h1, h2, h3, h4, h5⟩
theorem search_hit {Q : Value → Shared → Prop} (F : Fr h₀ L s.heap m) (N : News h₀ L s.heap news) (hp : IsPat h₀ a c 1) (hx : x.length ≤ 9000) (hh : Hit c x y z)
    (h : ∀ h' q r om orr, Fr h₀ L h' m → News h₀ L h' ((q, om) :: (r, orr) :: news) → (∀ p ∈ news, p.1 < r) → @LT.lt Nat _ r q → MatN x y z om r orr → Q (.ref q) { s with heap := h' }) :
    wpAny (model prog w) A (call (.builtin "re.Pattern.search") [.ref a, .str x tk]) Q E s := by
  obtain ⟨k, b, e, hd, h1, h2, h3, h4, h5, h6, h7⟩ := hh
  have hx' : x.cps.size ≤ 9000 := hx
  exact search_won_F F N hp (by omega) h1 h2 h3 fun h' q r F' N' l1 l2 => h h' q r _ _ F' N' l1 l2 ⟨_, _, _, _, b, e, hd, rfl, rfl, h3, h4, h5, h6, h7⟩
theorem search_miss {Q : Value → Shared → Prop} (F : Fr h₀ L s.heap m) (hp : IsPat h₀ a c 1) (hx : x.length ≤ 9000) (hh : Miss c x) (h : Q .none s) : wpAny (model prog w) A (call (.builtin "re.Pattern.search") [.ref a, .str x tk]) Q E s := by
  obtain ⟨k, h1, h2⟩ := hh
  have hx' : x.cps.size ≤ 9000 := hx
  exact search_lost_F F hp (by omega) h1 h2 h
theorem truthy_N {Q : Bool → Shared → Prop} (N : News h₀ L s.heap news) (M : MatN x y z om r orr) (m1 : (q, om) ∈ news) (m2 : (r, orr) ∈ news) (h : Q true s) : wpAny (model prog w) A (truthy (.ref q)) Q E s := by
  obtain ⟨b, e, hd, im, _⟩ := M.at N m1 m2
  exact truthy_match im h
theorem gm_group_N {pl : Sem Bool} {Q : Value × List Value → Shared → Prop} (N : News h₀ L s.heap news) (M : MatN x y z om r orr) (m1 : (q, om) ∈ news) (m2 : (r, orr) ∈ news) (h : Q (.builtin "re.Match.group", [.ref q]) s) : wpAny (model prog w) A (getMethod (.ref q) "group" pl) Q E s := by
  obtain ⟨b, e, hd, im, _⟩ := M.at N m1 m2
  exact gm_group im h
theorem group_N {n : Nat} {tk' : Tok} {Q : Value → Shared → Prop} (N : News h₀ L s.heap news) (M : MatN x y z om r orr) (m1 : (q, om) ∈ news) (m2 : (r, orr) ∈ news) (hx : x.length ≤ 9000) (hn : n = 1) (h : ∀ tk tks, Q (.str y tk) { s with toks := tks }) : wpAny (model prog w) A (call (.builtin "re.Match.group") [.ref q, .int n tk']) Q E s := by
  obtain ⟨b, e, hd, im, h1, h2, h3, h4, h5⟩ := M.at N m1 m2
  have hx' : x.cps.size ≤ 9000 := hx
  subst h4
  exact group1 im (by omega) hn (h _ _)
theorem unmatched_N {P : Program} {loose : List Str} {mean : ExcName → Option Value} {mg mb : Str → Option Value} {d u : Nat} {fr : Option (List Env)} {gs : Option (List Code)} {Q : Value → Shared → Prop}
    (G : Gd w P loose mean mg mb h₀) (F : Fr h₀ L s.heap m) (N : News h₀ L s.heap news) (M : MatN x y z om r orr) (m1 : (q, om) ∈ news) (m2 : (r, orr) ∈ news) (hx : x.length ≤ 9000) (hd : d < recursionLimit)
    (h : ∀ h' tk tks, Fr h₀ L h' m → News h₀ L h' news → Q (.str z tk) { s with heap := h', toks := tks }) : wpAny (model prog w) (AA d fr gs u) (call (.ref 43) [.ref q]) Q E s := by
  obtain ⟨b, e, hd', im, h1, h2, h3, h4, h5⟩ := M.at N m1 m2
  have hx' : x.cps.size ≤ 9000 := hx
  subst h5
  exact wpAny_call (unmatched_call (G.keeps F.keep) hd im h3 (by omega) fun h' tk tks gr => h h' tk tks (Fr.more F gr) (News.more' N gr))
theorem subn_F {tk0 : Tok} {e0 : Str} {Q : Value → Shared → Prop} (F : Fr h₀ L s.heap m) (N : News h₀ L s.heap news) (hp : IsPat h₀ a cJunk 0) (hx : x.length ≤ 9000) (he : e0 = ⟨#[]⟩) (hj : Junk x z)
    (h : ∀ h' q tk' tk'' tks, Fr h₀ L h' m → News h₀ L h' ((q, tupO [.str z tk', .int 1 tk'']) :: news) → (∀ p ∈ news, p.1 ≠ q) → Q (.ref q) { s with heap := h', toks := tks }) :
    wpAny (model prog w) A (call (.builtin "re.Pattern.subn") [.ref a, .str e0 tk0, .str x tk]) Q E s := by
  obtain ⟨n, k, k', h1, h2, h3, h4, h5, h6, h7⟩ := hj
  have hx' : x.cps.size ≤ 9000 := hx
  subst h7 he
  refine subn_call (by omega) (hp.keeps F.keep) h1 h2 h3 h4 h5 h6 fun h' q tk' tk'' tks gr hq hn _ => h h' q tk' tk'' tks (Fr.more F gr) (fun p hp => ?_) fun p hp e => ?_
  · rcases List.mem_cons.mp hp with rfl | hp
    · refine ⟨hq, ?_, ?_⟩
      · intro e
        obtain ⟨oL, a1, a2, hL, a3⟩ := F.ns
        rw [show q = L from e] at hn
        rw [hn] at hL; cases hL
      · cases hv : h₀.get? q with
        | none => rfl
        | some o => rw [F.keep _ _ hv] at hn; cases hn
    · exact News.more' N gr p hp
  · rw [← e, (N p hp).1] at hn; cases hn
theorem starts_is {u t : Tok} {b : Bool} {Q : Value → Shared → Prop} (e : Txt.startswith x y = b) (h : Q (.bool b) s) : wpAny (model prog w) A (call (.builtin "str.startswith") [.str x t, .str y u]) Q E s := SC.startswith (by rw [e]; exact h)
theorem lstrip_is {t : Tok} {Q : Value → Shared → Prop} (e : Txt.lstrip x = y) (hs : x.length ≤ 9000) (h : ∀ t' k, Q (.str y t') { s with toks := k }) : wpAny (model prog w) A (call (.builtin "str.lstrip") [.str x t]) Q E s := SC.lstrip (fun t' k => by rw [e]; exact h t' k) (by rw [sizeLine_eq]; omega)
theorem rstrip_is {t : Tok} {Q : Value → Shared → Prop} (e : Txt.rstrip x = y) (hs : x.length ≤ 9000) (h : ∀ t' k, Q (.str y t') { s with toks := k }) : wpAny (model prog w) A (call (.builtin "str.rstrip") [.str x t]) Q E s := SC.rstrip (fun t' k => by rw [e]; exact h t' k) (by rw [sizeLine_eq]; omega)
theorem truthy_pos' {t : Tok} {Q : Bool → Shared → Prop} (e : 0 < x.length) (hs : x.length ≤ 9000) (h : ∀ k, Q true { s with toks := k }) : wpAny (model prog w) A (truthy (.str x t)) Q E s := by
  refine SBL.truthy (by omega) ?_
  have : ((x.length : Int) != 0) = true := by rw [bne_iff_ne]; omega
  rw [this]; exact h _
theorem truthy_zero {t : Tok} {Q : Bool → Shared → Prop} (e : x.length = 0) (h : ∀ k, Q false { s with toks := k }) : wpAny (model prog w) A (truthy (.str x t)) Q E s := by
  refine SBL.truthy (by omega) ?_
  have : ((x.length : Int) != 0) = false := by rw [e]; rfl
  rw [this]; exact h _
theorem truthy_nil {n : Nat} {vs : List Value} {Q : Bool → Shared → Prop} (N : News h₀ L s.heap news) (hm : (a, lisO vs n) ∈ news) (hne : vs = []) (h : ∀ tks, Q false { s with toks := tks }) : wpAny (model prog w) A (truthy (.ref a)) Q E s := by
  subst hne
  exact truthy_L N hm (by simp) h
end
end Mine
end

section
open PySem PySem.W PyProof.Rows PySem.Calls
open PySem.Builtin.Re
set_option maxRecDepth 100000
set_option maxHeartbeats 4000000
namespace Mine
abbrev qualS : Str := Str.ofString "split_header_words" ++ ".<locals>." ++ "<lambda>"
/-- what is left to read: the text, the lists that are done, the pairs of this list, the lists in the end -/
inductive Rest (T : List Nat) (D : List (List Pr)) (C : List Pr) (tgt : List (List Pr)) : Prop where
  | more (sp : List Nat) (p : Pr) (ps : List Pr) (R : List (List Pr)) : (∀ c ∈ sp, c = 32) → tgt = D ++ (C ++ p :: ps) :: R → T = sp ++ (pairL p ++ (tailP ps ++ tailR R)) → Rest T D C tgt
  | tail (ps : List Pr) (R : List (List Pr)) : C ≠ [] → tgt = D ++ (C ++ ps) :: R → T = tailP ps ++ tailR R → Rest T D C tgt
  | none : C = [] → T = [] → tgt = D → Rest T D C tgt
/-- between the turns of split's while -/
def SI (g : Heap) (rl it : Addr) (io : Obj) (tgt : List (List Pr)) (n : Nat) (m : Str → Option Value) (news : List (Addr × Obj)) : Prop :=
  ∃ pl rs nr us np ps fro T tT D C, m "result" = some (.ref rl) ∧ m "pairs" = some (.ref pl) ∧ m "text" = some (.str (mkS T) tT) ∧ n = T.length ∧ T.length ≤ 9000 ∧
    news = (65, tabObj ps) :: (rl, lisO rs nr) :: (pl, lisO us np) :: (it, io) :: fro ∧ All2 (ListAt (inN fro)) rs D ∧ All2 (PairAt (inN fro)) us C ∧ TabN g fro qualS ps ∧ Rest T D C tgt ∧
    @Ne Nat rl 65 ∧ @Ne Nat pl 65 ∧ @Ne Nat it 65 ∧ @Ne Nat rl pl ∧ @Ne Nat rl it ∧ @Ne Nat pl it ∧ (∀ q ∈ fro, q.1 ≠ 65) ∧ (∀ q ∈ fro, q.1 ≠ rl) ∧ (∀ q ∈ fro, q.1 ≠ pl) ∧ ∀ q ∈ fro, q.1 ≠ it
/-- between the turns of its for -/
def SO (g : Heap) (acc : List (List (List Pr))) (i : Nat) (m : Str → Option Value) (news : List (Addr × Obj)) : Prop :=
  ∃ rl rs nr ps fro, m "result" = some (.ref rl) ∧ news = (65, tabObj ps) :: (rl, lisO rs nr) :: fro ∧ All2 (ListAt (inN fro)) rs (acc.take i).flatten ∧ TabN g fro qualS ps ∧ @Ne Nat rl 65 ∧ (∀ q ∈ fro, q.1 ≠ 65) ∧ ∀ q ∈ fro, q.1 ≠ rl

local macro_rules | `(tactic| walk_at "my_go") => `(tactic| (
  (fail_if_success (with_reducible show wpAny _ _ (exec (Stmt.For _ _ _ _ _) _) _ _ _))
  (fail_if_success (with_reducible show wpAny _ _ (exec (Stmt.While _ _ _ _) _) _ _ _))
  (fail_if_success (with_reducible show wpAny _ _ (eval (Expr.Lambda _ _ _ _) _) _ _ _))
  (fail_if_success (with_reducible show wpAny _ _ (call (Value.builtin "re.Pattern.sub") _) _ _ _))
  first | walk1 | (dsimp only; walk1)))
local macro_rules | `(tactic| k_mem) => `(tactic| assumption)
local macro_rules | `(tactic| k_all) => `(tactic| assumption)
local macro_rules | `(tactic| walk_at "my_sub") => `(tactic| first | exact sub_nil | (refine sub_cons (by k_mem) ?_; walk_at "my_sub") | (intro p hp; k_mem))

local macro_rules | `(tactic| walk_at "getMethod ref") => `(tactic| (k_here; first | refine gm_search (IsPat.keeps (pat48 (by assumption)) (Fr.keep (by k_asm))) ?_ | refine gm_search (IsPat.keeps (pat53 (by assumption)) (Fr.keep (by k_asm))) ?_ | refine gm_search (IsPat.keeps (pat58 (by assumption)) (Fr.keep (by k_asm))) ?_ | refine gm_sub (IsPat.keeps (pat63 (by assumption)) (Fr.keep (by k_asm))) ?_ | refine gm_subn (IsPat.keeps (pat36 (by assumption)) (Fr.keep (by k_asm))) ?_))
local macro_rules | `(tactic| walk_at "getMethod ref") => `(tactic| (k_here; refine gm_group (IsMatch.keeps (by assumption) (Fr.keep (by k_asm))) ?_))
local macro_rules | `(tactic| walk_at "getMethod ref") => `(tactic| (k_here; refine' gm_group_N ?N ?M ?m1 ?m2 ?_; (case M => assumption); (case N => k_asm); (case m1 => k_mem); (case m2 => k_mem)))
local macro_rules | `(tactic| walk_at "call builtin:re.Match.group") => `(tactic| (k_here; k_dflt (refine' group1' (IsMatch.keeps ?m (Fr.keep ?F)) ?x (Eq.refl 1) ?_; (case m => assumption); (case F => k_asm); (case x => assumption)); intro y' hy' hl'))
local macro_rules | `(tactic| walk_at "call builtin:re.Match.group") => `(tactic| (k_here; refine' group_N ?N ?M ?m1 ?m2 ?x (Eq.refl 1) ?_; (case M => assumption); (case N => k_asm); (case m1 => k_mem); (case m2 => k_mem); (case x => assumption); intro _ _))
local macro_rules | `(tactic| walk_at "truthy ref") => `(tactic| (k_here; refine' truthy_N ?N ?M ?m1 ?m2 ?_; (case M => assumption); (case N => k_asm); (case m1 => k_mem); (case m2 => k_mem)))
local macro_rules | `(tactic| walk_at "truthy ref") => `(tactic| (k_here; k_dflt (refine' truthy_ne ?N ?m ?n ?z ?_; (case N => k_asm); (case m => k_mem); (case n => assumption); (case z => omega)); intro _))
local macro_rules | `(tactic| walk_at "truthy ref") => `(tactic| (k_here; k_dflt (refine' truthy_nil ?N ?m ?n ?_; (case N => k_asm); (case m => k_mem); (case n => assumption)); intro _))
local macro_rules | `(tactic| walk_at "truthy str") => `(tactic| (k_here; first | (refine truthy_pos' (by assumption) (by assumption) ?_; intro _) | (refine truthy_zero (by assumption) ?_; intro _)))
local macro_rules | `(tactic| walk_at "call ref") => `(tactic| (k_here; k_dflt (refine' unmatched_N ?G ?F ?N ?M ?m1 ?m2 ?x ?d ?_; (case G => assumption); (case M => assumption); (case F => k_asm); (case N => k_asm); (case m1 => k_mem); (case m2 => k_mem); (case x => assumption); (case d => first | omega | (dsimp only [AA]; omega))); intro h' tk' tks' F' N'; (try k_sweep)))
local macro_rules | `(tactic| walk_at "my_hit") => `(tactic| (k_dflt (refine' search_hit ?F ?N ?p ?x ?hh ?_; (case F => k_asm); (case N => k_asm); (case p => first | exact pat48 (by assumption) | exact pat53 (by assumption) | exact pat58 (by assumption)); (case x => assumption); (case hh => assumption)); intro h' q' r' om' or' F' N' l1 l2 M'; (try k_lt l1); (try k_sweep)))
local macro_rules | `(tactic| walk_at "my_miss") => `(tactic| (k_dflt (refine' search_miss ?F ?p ?x ?hh ?_; (case F => k_asm); (case p => first | exact pat48 (by assumption) | exact pat53 (by assumption) | exact pat58 (by assumption)); (case x => assumption); (case hh => assumption))))
local macro_rules | `(tactic| walk_at "call builtin:re.Pattern.search") => `(tactic| (k_here; first | walk_at "my_hit" | walk_at "my_miss"))
local macro_rules | `(tactic| walk_at "call builtin:re.Pattern.subn") => `(tactic| (k_here; k_dflt (refine' subn_F ?F ?N ?p ?x ?e ?j ?_; (case F => k_asm); (case N => k_asm); (case p => exact pat36 (by assumption)); (case x => assumption); (case e => decide +kernel); (case j => assumption)); intro h' q' tk' tk'' tks' F' N' ne'; (try k_sweep)))
local macro_rules | `(tactic| walk_at "call builtin:str.lstrip") => `(tactic| (k_here; refine lstrip_is (by assumption) (by assumption) ?_; intro _ _))
local macro_rules | `(tactic| walk_at "call builtin:str.rstrip") => `(tactic| (k_here; refine rstrip_is (by assumption) (by assumption) ?_; intro _ _))
local macro_rules | `(tactic| walk_at "call builtin:str.startswith") => `(tactic| (k_here; refine starts_is (by assumption) ?_))
local macro_rules | `(tactic| walk_at "call builtin:list.append") => `(tactic| (k_here; k_dflt (refine' append_L ?F ?N ?U ?z ?_; (case F => k_asm); (case N => k_asm); (case U => k_upd); (case z => omega)); intro h' F' N'; (try dsimp only at N'); (try k_sweep)))

local macro_rules | `(tactic| walk_at "my_ne") => `(tactic| first | assumption | exact allLt_ne (And.right (And.right (And.right (by assumption)))) | exact allLt_ne (And.right (And.right (And.right (And.right (by assumption))))) | exact allLt_ne (And.right (And.right (And.right (And.right (And.right (by assumption)))))) | exact allLt_ne (And.right (And.right (And.right (And.right (And.right (And.right (by assumption))))))) | exact allLt_ne (And.right (And.right (And.right (And.right (And.right (And.right (And.right (by assumption)))))))) | exact allLt_ne (And.right (And.right (And.right (And.right (And.right (And.right (And.right (And.right (by assumption))))))))))

theorem em_text {t : Array Nat} {b e : Nat} {y : Str} (h : y = ⟨t.extract b e⟩) : Str.ofString "" ++ y = ⟨(cbU t b e).toArray⟩ := by
  have q : Str.ofString "" = ⟨#[]⟩ := by decide +kernel
  subst h
  rw [q]
  apply Str.ext'
  apply Array.toList_inj.mp
  rw [Str.cps_append]
  simp [cbU]
theorem em_none {t : Array Nat} {b e : Nat} {y : Str} (h : y = ⟨t.extract b e⟩) (h0 : (y.length : Int) = 0) : Str.ofString "" ++ Str.ofString "" = ⟨(cbU t b e).toArray⟩ := by
  have h1 : y.cps.size = 0 := by have : y.length = 0 := by omega
                                 exact this
  have h2 : y = Str.ofString "" := by apply Str.ext'; rw [Array.eq_empty_of_size_eq_zero h1]; decide +kernel
  have h3 := em_text h
  rwa [h2] at h3
theorem new_hid {g h h' : Heap} {L P a : Addr} {x : Obj} {news : List (Addr × Obj)} (hg : hideAll h [P] = g) (N : News g L h' news) (hm : (a, x) ∈ news) (ha : a ≠ P) : newAt h h' a x := by
  subst hg
  refine ⟨(N _ hm).1, ?_⟩
  cases hv : h.get? a with
  | none => rfl
  | some o =>
    have := hideAll_get [P] hv (by simpa using ha)
    rw [(N _ hm).2.2] at this; cases this
theorem si_close {s : Shared} {g h : Heap} {L rl it pl : Addr} {io : Obj} {tgt D : List (List Pr)} {C : List Pr} {n tk nr np : Nat} {m : Str → Option Value} {news fro : List (Addr × Obj)} {rs us : List Value} {ps : Array Value} {X : Str} {tT : Tok} {T : List Nat}
    (F : Fr g L h m) (N : News g L h news) (e1 : m "result" = some (.ref rl)) (e2 : m "pairs" = some (.ref pl)) (e3 : m "text" = some (.str X tT)) (hX : mkS T = X) (hlt : T.length < n) (hle : T.length ≤ 9000)
    (hN : ∀ p ∈ (65, tabObj ps) :: (rl, lisO rs nr) :: (pl, lisO us np) :: (it, io) :: fro, p ∈ news) (hA : All2 (ListAt (inN fro)) rs D) (hB : All2 (PairAt (inN fro)) us C) (ht : TabN g fro qualS ps) (hr : Rest T D C tgt)
    (d1 : @Ne Nat rl 65) (d2 : @Ne Nat pl 65) (d3 : @Ne Nat it 65) (d4 : @Ne Nat rl pl) (d5 : @Ne Nat rl it) (d6 : @Ne Nat pl it) (c1 : ∀ q ∈ fro, q.1 ≠ 65) (c2 : ∀ q ∈ fro, q.1 ≠ rl) (c3 : ∀ q ∈ fro, q.1 ≠ pl) (c4 : ∀ q ∈ fro, q.1 ≠ it) :
    WhileStep g L s (SI g rl it io tgt) n .next { s with heap := h, toks := tk } := by
  subst hX
  exact .intro F (News.re N hN) hlt ⟨pl, rs, nr, us, np, ps, fro, T, tT, D, C, e1, e2, e3, rfl, hle, rfl, hA, hB, ht, hr, d1, d2, d3, d4, d5, d6, c1, c2, c3, c4⟩

theorem si_read {s : Shared} {g h : Heap} {L rl it pl ta : Addr} {io : Obj} {tgt D : List (List Pr)} {C : List Pr} {n tk nr np : Nat} {m : Str → Option Value} {news fro : List (Addr × Obj)} {rs us : List Value} {ps : Array Value} {X K : Str} {tT tK : Tok} {T k : List Nat} {o : Option (List Nat)} {vo : Value}
    (F : Fr g L h m) (N : News g L h news) (e1 : m "result" = some (.ref rl)) (e2 : m "pairs" = some (.ref pl)) (e3 : m "text" = some (.str X tT)) (hX : mkS T = X) (hlt : T.length < n) (hle : T.length ≤ 9000)
    (m1 : (65, tabObj ps) ∈ news) (m2 : (rl, lisO rs nr) ∈ news) (m3 : (pl, lisO (us ++ [.ref ta]) np) ∈ news) (m4 : (it, io) ∈ news) (m5 : (ta, tupO [.str K tK, vo]) ∈ news) (m6 : ∀ q ∈ fro, q ∈ news) (hK : mkS k = K) (hvo : ValIs vo o)
    (hA : All2 (ListAt (inN fro)) rs D) (hB : All2 (PairAt (inN fro)) us C) (ht : TabN g fro qualS ps) (hr : Rest T D (C ++ [(k, o)]) tgt)
    (d1 : @Ne Nat rl 65) (d2 : @Ne Nat pl 65) (d3 : @Ne Nat it 65) (d4 : @Ne Nat rl pl) (d5 : @Ne Nat rl it) (d6 : @Ne Nat pl it) (c1 : ∀ q ∈ fro, q.1 ≠ 65) (c2 : ∀ q ∈ fro, q.1 ≠ rl) (c3 : ∀ q ∈ fro, q.1 ≠ pl) (c4 : ∀ q ∈ fro, q.1 ≠ it)
    (f1 : @Ne Nat ta 65) (f2 : @Ne Nat ta rl) (f3 : @Ne Nat ta pl) (f4 : @Ne Nat ta it) :
    WhileStep g L s (SI g rl it io tgt) n .next { s with heap := h, toks := tk } := by
  subst hK
  exact si_close (fro := (ta, tupO [.str (mkS k) tK, vo]) :: fro) F N e1 e2 e3 hX hlt hle (sub_cons m1 (sub_cons m2 (sub_cons m3 (sub_cons m4 (sub_cons m5 m6))))) (hA.mono fun _ _ y => y.mono fun _ _ z => .tail _ z)
    ((hB.mono fun _ _ y => y.mono fun _ _ z => .tail _ z).snoc ⟨ta, tK, vo, rfl, .head _, hvo⟩) (ht.mono fun _ hp => .tail _ hp) hr d1 d2 d3 d4 d5 d6 (cons_ne f1 c1) (cons_ne f2 c2) (cons_ne f3 c3) (cons_ne f4 c4)
theorem so_close {s : Shared} {g h h'' : Heap} {L rl it : Addr} {io : Obj} {acc : List (List (List Pr))} {i tk tk'' nr : Nat} {m : Str → Option Value} {news fro : List (Addr × Obj)} {rs : List Value} {ps : Array Value} {Q : Flow → Shared → Prop}
    (F : Fr g L h m) (N : News g L h news) (e1 : m "result" = some (.ref rl)) (hN : ∀ p ∈ (it, io) :: (65, tabObj ps) :: (rl, lisO rs nr) :: fro, p ∈ news) (hA : All2 (ListAt (inN fro)) rs ((acc.take (i + 1)).flatten)) (ht : TabN g fro qualS ps)
    (d1 : @Ne Nat rl 65) (d3 : @Ne Nat it 65) (d5 : @Ne Nat rl it) (c1 : ∀ q ∈ fro, q.1 ≠ 65) (c2 : ∀ q ∈ fro, q.1 ≠ rl) (c4 : ∀ q ∈ fro, q.1 ≠ it) :
    TurnEnd { s with heap := h'', toks := tk'' } g L it io (SO g acc (i + 1)) Q .next { s with heap := h, toks := tk } :=
  ⟨h, tk, m, (65, tabObj ps) :: (rl, lisO rs nr) :: fro, rfl, F, News.re N hN, cons_ne (Ne.symm d3) (cons_ne d5 c4), rl, rs, nr, ps, fro, e1, rfl, hA, ht, d1, c1, c2⟩
theorem Rest.len {T : List Nat} {D : List (List Pr)} {C : List Pr} {tgt : List (List Pr)} (h : Rest T D C tgt) : D.length ≤ tgt.length ∧ (C = [] ∨ ∃ l ∈ tgt, C.length ≤ l.length) := by
  cases h with
  | more sp p ps R _ e _ => subst e; exact ⟨by simp, .inr ⟨C ++ p :: ps, by simp, by simp⟩⟩
  | tail ps R _ e _ => subst e; exact ⟨by simp, .inr ⟨C ++ ps, by simp, by simp⟩⟩
  | none h _ e => subst e; exact ⟨Nat.le_refl _, .inl h⟩
theorem upto_len {xs : List (List (List Pr) × Tok)} {i : Nat} {x : List (List Pr) × Tok} (h : xs[i]? = some x) : (((xs.map (·.1)).take i).flatten ++ x.1).length ≤ (xs.map fun x => x.1.length).sum := by
  have e : (xs.map (·.1)).take (i + 1) = (xs.map (·.1)).take i ++ [x.1] := take_snoc (by rw [List.getElem?_map, h]; rfl)
  have e2 : ((xs.map (·.1)).take i).flatten ++ x.1 = ((xs.map (·.1)).take (i + 1)).flatten := by rw [e, List.flatten_append]; simp
  have e3 : (xs.map fun x => x.1.length).sum = ((xs.map (·.1)).flatten).length := by rw [List.length_flatten, List.map_map]; rfl
  rw [e2, e3]
  have e4 := congrArg (fun l => (List.flatten l).length) (List.take_append_drop (i + 1) (xs.map (·.1)))
  simp only [List.flatten_append, List.length_append] at e4
  omega
theorem upto_mem {xs : List (List (List Pr) × Tok)} {i : Nat} {x : List (List Pr) × Tok} (hx : x ∈ xs) {l : List Pr} (h : l ∈ ((xs.map (·.1)).take i).flatten ++ x.1) : ∃ y ∈ xs, l ∈ y.1 := by
  rcases List.mem_append.mp h with h | h
  · obtain ⟨k, hk, hl⟩ := List.mem_flatten.mp h
    obtain ⟨y, hy, rfl⟩ := List.mem_map.mp (List.mem_of_mem_take hk)
    exact ⟨y, hy, hl⟩
  · exact ⟨x, hx, h⟩

section
variable {prog : Program} {w : World} {A : Around} {s : Shared} {P : Program} {loose : List Str} {mean : ExcName → Option Value} {mg mb : Str → Option Value} {R : Result → Shared → Prop}

theorem split_call {d u : Nat} {fr : Option (List Env)} {gs : Option (List Code)} {hv : Addr} {xs : List (List (List Pr) × Tok)} (G : Gd w P loose mean mg mb (hideAll s.heap [65])) (hT : TabH s.heap 65 qualS) (hd : d + 4 < recursionLimit)
    (hl : (hideAll s.heap [65]).IsList hv (strValues (xs.map fun x => (mkS (wholeL x.1), x.2))).toArray)
    (hok : ∀ x ∈ xs, ∀ l ∈ x.1, l ≠ [] ∧ ∀ p ∈ l, KeyOk p) (hsz : ∀ x ∈ xs, szLs x.1 ≤ 5000) (hn : (xs.map fun x => x.1.length).sum ≤ 5000)
    (h : ∀ h' v tks, Grown (hideAll s.heap [65]) h' → TabH h' 65 qualS → ListsAt (newAt s.heap h') v (xs.map (·.1)).flatten → R (.ok (.ret v)) { s with heap := h', toks := tks }) :
    codeAny (model prog w) (AA d fr gs u) (.call (.ref 70) ⟨[.ref hv], []⟩) R s := by
  have X₀ := G.X
  have T₀ := G.T
  have C₀ : CodeHd (hideAll s.heap [65]) 69 65 := codeHd_of_K X₀ rfl
  obtain ⟨ps, hps, htab⟩ := hT
  refine enterH (hid := [(65, tabObj ps)]) (binds := [("header_values", .ref hv)]) G (fun p hp => by rw [List.mem_singleton.mp hp]; exact hps) rfl (by rfl) (show d < recursionLimit by omega) (BindsTo.of_eq rfl) (locs rfl) rfl rfl rfl (by decide) fun h₁ F N => ?_
  replace F : Fr (hideAll s.heap [65]) s.heap.objs.size h₁ _ := F
  replace N : News (hideAll s.heap [65]) s.heap.objs.size h₁ [(65, tabObj ps)] := N
  generalize hg : hideAll s.heap [65] = g at *
  repeat' (first | walk1 | (dsimp only; walk1))
  (with_reducible rename Fr _ _ _ _ => F')
  (with_reducible rename News _ _ _ _ => N')
  rename_i rl1 _ hl1lt _
  refine for_list (l := hv) (vs := strValues (xs.map fun x => (mkS (wholeL x.1), x.2))) (news := [(65, tabObj ps), (rl1, lisO [] 0)]) (fun i m news => SO g (xs.map (·.1)) i m news) rfl F' ?N ?j0 ?hiter ?hl ?turn ?done
  case N => exact News.re N' (by walk_at "my_sub")
  case j0 => exact ⟨rl1, [], 0, ps, [], rfl, rfl, .nil, htab, by omega, fun q hq => (by cases hq), fun q hq => (by cases hq)⟩
  case hiter => exact fun Q' q => ld F' rfl q
  case hl => exact fun i m₁ news₁ h' _ F₁ _ => hl.at fun o e => F₁.keep _ _ e
  case done =>
    clear N' F'
    rintro m₁ news₁ h' tk ⟨rl, rs, nr, ps', fro, h1, rfl, hA, htab', q1, q2, q3⟩ F₁ N₁
    have hln : (strValues (xs.map fun x => (mkS (wholeL x.1), x.2))).length = (xs.map (·.1)).length := by simp [strValues]
    rw [hln, List.take_length] at hA
    obtain ⟨r, rfl⟩ : ∃ r, m₁ = upd "result" (.ref rl) r := ⟨m₁, by rw [upd_eq h1]⟩
    clear h1
    repeat' (first | walk1 | (dsimp only; walk1))
    refine h _ _ _ F₁.keep (TabH.of F₁ N₁ (cons_ne q1 q2) (htab'.mono fun p hp => .tail _ hp)) ⟨rl, rs, nr, rfl, new_hid hg N₁ (.tail _ (.head _)) q1, hA.mono fun _ _ y => y.mono fun a x z => new_hid hg N₁ (.tail _ (.tail _ z)) (q2 _ z)⟩
  case turn =>
    clear N' F' h
    rintro i v m₁ news₁ h' tk it io hv' ⟨rl, rs, nr, ps', fro, h1, rfl, hA, htab', q1, q2, q3⟩ F₁ N₁ hne1 hitL
    obtain ⟨x, hx, rfl⟩ : ∃ x, xs[i]? = some x ∧ v = .str (mkS (wholeL x.1)) x.2 := by
      rw [strValues, List.map_map, List.getElem?_map] at hv'
      cases hq : xs[i]? with
      | none => rw [hq] at hv'; cases hv'
      | some x => rw [hq] at hv'; exact ⟨x, rfl, (Option.some.inj hv').symm⟩
    have hxm : x ∈ xs := List.mem_of_getElem? hx
    obtain ⟨r, rfl⟩ : ∃ r, m₁ = upd "result" (.ref rl) r := ⟨m₁, by rw [upd_eq h1]⟩
    clear h1 hv'
    have q4 := neN (hne1 _ (.head _))
    have q5 := neN (hne1 _ (.tail _ (.head _)))
    dsimp only at q4 q5
    have hT := hsz x hxm
    have hTl := wholeL_length x.1
    have hX : (mkS (wholeL x.1)).length ≤ 9000 := by show (wholeL x.1).toArray.size ≤ _; simp; omega
    repeat' (walk_at "my_go")
    (with_reducible rename Fr _ _ _ _ => F2)
    (with_reducible rename News _ _ _ _ => N2)
    rename_i pl _ hlt _
    have hq6 : ∀ q ∈ fro, q.1 ≠ pl := allLt_ne hlt.2.2.2
    have hq7 : ∀ q ∈ fro, q.1 ≠ it := fun q hq => hne1 q (.tail _ (.tail _ hq))
    obtain ⟨hlt1, hlt2, hlt3, _⟩ := hlt
    refine While_inv (n₀ := (wholeL x.1).length) (SI g rl it io (((xs.map (·.1)).take i).flatten ++ x.1)) F2 (News.re (news' := (65, tabObj ps') :: (rl, lisO rs nr) :: (pl, lisO [] 0) :: (it, io) :: fro) N2 (by walk_at "my_sub")) ?w0 ?wturn
    case w0 =>
      refine ⟨pl, rs, nr, [], 0, ps', fro, wholeL x.1, _, ((xs.map (·.1)).take i).flatten, [], rfl, rfl, rfl, rfl, by omega, rfl, hA, .nil, htab', ?_, q1, by omega, by omega, by omega, by omega, by omega, q2, q3, hq6, hq7⟩
      cases hxl : x.1 with
      | nil => exact .none rfl rfl (by simp)
      | cons l R =>
        cases l with
        | nil => exact absurd rfl (hok x hxm [] (by rw [hxl]; exact .head _)).1
        | cons p ps => exact .more [] p ps R (fun c hc => by cases hc) rfl (wholeL_cons p ps R)
    case wturn =>
      clear N2 F2
      have hn5 := upto_len hx
      have hok2 : ∀ l ∈ ((xs.map (·.1)).take i).flatten ++ x.1, (l ≠ [] ∧ ∀ p ∈ l, KeyOk p) ∧ l.length ≤ 5000 := fun l hl => by
        obtain ⟨y, hy, hl⟩ := upto_mem hxm hl
        have h1 := hsz y hy
        have h2 := szLs_mem hl
        have h3 := len_szL l
        exact ⟨hok y hy l hl, by omega⟩
      have htgt : ((xs.map (·.1)).take i).flatten ++ x.1 = ((xs.map (·.1)).take (i + 1)).flatten := by
        have e : (xs.map (·.1)).take (i + 1) = (xs.map (·.1)).take i ++ [x.1] := take_snoc (by rw [List.getElem?_map, hx]; rfl)
        rw [e, List.flatten_append]; simp
      clear hA htab' q2 q3 hq6 hq7 hlt1 hlt2 hlt3 hX hne1
      rintro n m₁ news₁ h₁ tk₁ F₁ N₁ ⟨pl2, rs2, nr2, us, np, ps2, fro2, T, tT, D, C, h1, h2, h3, rfl, hTl2, rfl, hA2, hB2, htab2, hR, d1, d2, d3, d4, d5, d6, c1, c2, c3, c4⟩
      obtain ⟨r2, rfl⟩ : ∃ r, m₁ = upd "result" (.ref rl) (upd "pairs" (.ref pl2) (upd "text" (.str (mkS T) tT) r)) := ⟨m₁, by rw [upd_eq h3, upd_eq h2, upd_eq h1]⟩
      clear h1 h2 h3
      generalize ((xs.map (·.1)).take i).flatten ++ x.1 = tgt at *
      have zr : rs2.length ≤ 5000 := by have := hR.len.1; have := hA2.length; omega
      have zu : us.length ≤ 5000 := by
        have := hB2.length
        rcases hR.len.2 with rfl | ⟨l, hl, h2⟩
        · simp at this; simp [this]
        · have := (hok2 l hl).2; omega
      have hX2 : (mkS T).length ≤ 9000 := by show T.toArray.size ≤ _; simp; omega
      cases hR with
      | none hC hT0 hD =>
        subst hC hT0
        have hz0 : (mkS []).length = 0 := rfl
        have hu0 : us = [] := by cases hB2; rfl
        rw [hD] at htgt
        rw [htgt] at hA2
        clear hok2
        repeat' (first | walk1 | (dsimp only; walk1))
        (with_reducible rename Fr _ _ _ _ => F9)
        (with_reducible rename News _ _ _ _ => N9)
        exact so_close F9 N9 rfl (by walk_at "my_sub") hA2 htab2 d1 d3 d5 c1 c2 c4
      | tail ps R hC hD hT0 =>
        have hune : us ≠ [] := fun q => by subst q; cases hB2; exact hC rfl
        cases ps with
        | cons p ps =>
          have hkp : KeyOk p := (hok2 _ (show C ++ p :: ps ∈ tgt by rw [hD]; simp)).1.2 p (by simp)
          obtain ⟨hlen, hms, hls, hst2, hjk, hpos⟩ := semi_facts hkp hT0 hTl2
          have hR' : Rest (pairL p ++ (tailP ps ++ tailR R)) D C tgt := .more [] p ps R (fun c hc => by cases hc) hD rfl
          clear hT0
          generalize hXX : mkS T = X at *
          generalize hXY : mkS (pairL p ++ (tailP ps ++ tailR R)) = Y at *
          repeat' (first | walk1 | (dsimp only; walk1))
          (with_reducible rename Fr _ _ _ _ => F9)
          (with_reducible rename News _ _ _ _ => N9)
          exact si_close F9 N9 rfl rfl rfl hXY hlen (by omega) (by walk_at "my_sub") hA2 hB2 htab2 hR' d1 d2 d3 d4 d5 d6 c1 c2 c3 c4
        | nil =>
          cases R with
          | nil =>
            have hT0 : T = [] := hT0
            subst hT0
            have hz0 : (mkS []).length = 0 := rfl
            rw [hD] at htgt
            rw [List.append_nil] at htgt
            clear hok2
            repeat' (first | walk1 | (dsimp only; walk1))
            (with_reducible rename Fr _ _ _ _ => F9)
            (with_reducible rename News _ _ _ _ => N9)
            have hA3 : All2 (ListAt (inN ((pl2, lisO us np) :: fro2))) (rs2 ++ [.ref pl2]) (((xs.map (·.1)).take (i + 1)).flatten) := by
              rw [← htgt]
              exact (hA2.mono fun _ _ y => y.mono fun _ _ z => .tail _ z).snoc ⟨pl2, us, np, rfl, .head _, hB2.mono fun _ _ y => y.mono fun _ _ z => .tail _ z⟩
            exact so_close F9 N9 rfl (by walk_at "my_sub") hA3 (htab2.mono fun _ hp => .tail _ hp) d1 d3 d5 (cons_ne d2 c1) (cons_ne (Ne.symm d4) c2) (cons_ne d6 c4)
          | cons l R =>
            cases l with
            | nil => exact absurd rfl (hok2 [] (by rw [hD]; simp)).1.1
            | cons p ps =>
              obtain ⟨hlen, hms, hls, hst2, hsl, hpos⟩ := comma_facts hT0 hTl2
              have hR' : Rest ([32] ++ (pairL p ++ (tailP ps ++ tailR R))) (D ++ [C]) [] tgt := .more [32] p ps R (by decide) (by rw [hD]; simp) rfl
              clear hT0
              generalize hXX : mkS T = X at *
              repeat' (first | walk1 | (dsimp only; walk1))
              (with_reducible rename Fr _ _ _ _ => F9)
              (with_reducible rename News _ _ _ _ => N9)
              exact si_close (fro := (pl2, lisO us np) :: fro2) (us := []) (np := 0) (rs := rs2 ++ [.ref pl2]) F9 N9 rfl rfl rfl hsl.symm hlen (by omega) (by walk_at "my_sub") ((hA2.mono fun _ _ y => y.mono fun _ _ z => .tail _ z).snoc ⟨pl2, us, np, rfl, .head _, hB2.mono fun _ _ y => y.mono fun _ _ z => .tail _ z⟩) .nil
                (htab2.mono fun _ hp => .tail _ hp) hR' d1 (by omega) d3 (by omega) d5 (by omega) (cons_ne d2 c1) (cons_ne (Ne.symm d4) c2) (cons_ne (by omega) (by walk_at "my_ne")) (cons_ne d6 c4)
      | more sp p ps R hsp hD hT0 =>
        have hkp : KeyOk p := (hok2 _ (show C ++ p :: ps ∈ tgt by rw [hD]; simp)).1.2 p (by simp)
        have hsep := atSep_tail ps R
        have hR' : Rest (tailP ps ++ tailR R) D (C ++ [p]) tgt := .tail ps R (by simp) (by rw [hD]; simp) rfl
        generalize tailP ps ++ tailR R = tl at *
        obtain ⟨k, o⟩ := p
        cases o with
        | none =>
          obtain ⟨hlen, hh1, hm2, hm3, hpos⟩ := none_facts hsp hkp hsep hT0 hTl2
          have htl : (mkS tl).length ≤ 9000 := by rw [mkS_len]; omega
          clear hT0
          generalize hXX : mkS T = X at *
          generalize hXY : mkS tl = Y at *
          generalize hXK : mkS k = K at *
          repeat' (first | walk1 | (dsimp only; walk1))
          (with_reducible rename Fr _ _ _ _ => F9)
          (with_reducible rename News _ _ _ _ => N9)
          exact si_read (o := none) F9 N9 rfl rfl rfl hXY hlen (by omega) (by k_mem) (by k_mem) (by k_mem) (by k_mem) (by k_mem) (fun q hq => by k_mem) hXK (by exact rfl) hA2 hB2 htab2 hR' d1 d2 d3 d4 d5 d6 c1 c2 c3 c4 (by omega) (by omega) (by omega) (by omega)
        | some v =>
          cases hv : tokV v with
          | true =>
            obtain ⟨hlen, hh1, hm2, hh3, hpos, hz1, hz2, hrs⟩ := tokv_facts hsp hkp hsep hv hT0 hTl2
            have htl : (mkS tl).length ≤ 9000 := by rw [mkS_len]; omega
            clear hT0
            generalize hXX : mkS T = X at *
            generalize hX1 : mkS (61 :: (v ++ tl)) = X1 at *
            generalize hXY : mkS tl = Y at *
            generalize hXK : mkS k = K at *
            generalize hXV : mkS v = V at *
            repeat' (first | walk1 | (dsimp only; walk1))
            (with_reducible rename Fr _ _ _ _ => F9)
            (with_reducible rename News _ _ _ _ => N9)
            subst hXV
            exact si_read (o := some v) F9 N9 rfl rfl rfl hXY hlen (by omega) (by k_mem) (by k_mem) (by k_mem) (by k_mem) (by k_mem) (fun q hq => by k_mem) hXK (by exact ⟨_, rfl⟩) hA2 hB2 htab2 hR' d1 d2 d3 d4 d5 d6 c1 c2 c3 c4 (by omega) (by omega) (by omega) (by omega)
          | false =>
            obtain ⟨hlen, hh1, hh2, hpos, hz1, hz2, hz3⟩ := quov_facts hsp hkp hsep hv hT0 hTl2
            have htl : (mkS tl).length ≤ 9000 := by rw [mkS_len]; omega
            clear hT0
            generalize hXX : mkS T = X at *
            generalize hX1 : mkS (61 :: 34 :: (escL v ++ 34 :: tl)) = X1 at *
            generalize hXY : mkS tl = Y at *
            generalize hXK : mkS k = K at *
            have hev : (mkS (escL v)).length ≤ 9000 := by rw [mkS_len]; omega
            have hsu : Sub cEsc (mkS (escL v)).cps (cbU (mkS (escL v)).cps) 0 v := sub_unesc _ [] v rfl (by simp; omega)
            generalize hXV : mkS (escL v) = V at *
            repeat' (walk_at "my_go")
            (with_reducible rename Fr _ _ _ _ => F3)
            (with_reducible rename News _ _ _ _ => N3)
            replace N3 := News.re (news' := (65, tabObj ps2) :: (rl, lisO rs2 nr2) :: (pl2, lisO us np) :: (it, io) :: fro2) N3 (by walk_at "my_sub")
            refine lam_eval F3 N3 T₀ C₀ rfl (cod := fro2) (cons_ne (by omega) (cons_ne (by omega) (cons_ne (by omega) c1))) htab2 rfl rfl fun f c' ctv h4 tk4 ps4 more F4 N4 o1 o2 htab4 hci4 => ?_
            clear F3 N3
            have o3 : (65 : Nat) < f := o1 _ (.head _)
            have o4 : @LT.lt Nat _ rl f := o1 _ (.tail _ (.head _))
            have o5 : @LT.lt Nat _ pl2 f := o1 _ (.tail _ (.tail _ (.head _)))
            have o6 : @LT.lt Nat _ it f := o1 _ (.tail _ (.tail _ (.tail _ (.head _))))
            have e1 : ∀ q ∈ more ++ fro2, q.1 ≠ 65 := app_ne (fun r hr => Nat.ne_of_gt (o2 r hr _ (.head _))) c1
            have e2 : ∀ q ∈ more ++ fro2, q.1 ≠ rl := app_ne (fun r hr => Nat.ne_of_gt (o2 r hr _ (.tail _ (.head _)))) c2
            have e3 : ∀ q ∈ more ++ fro2, q.1 ≠ pl2 := app_ne (fun r hr => Nat.ne_of_gt (o2 r hr _ (.tail _ (.tail _ (.head _))))) c3
            have e4 : ∀ q ∈ more ++ fro2, q.1 ≠ it := app_ne (fun r hr => Nat.ne_of_gt (o2 r hr _ (.tail _ (.tail _ (.tail _ (.head _)))))) c4
            have hA3 : All2 (ListAt (inN (more ++ fro2))) rs2 D := hA2.mono fun _ _ y => y.mono fun _ _ z => List.mem_append_right _ z
            have hB3 : All2 (PairAt (inN (more ++ fro2))) us C := hB2.mono fun _ _ y => y.mono fun _ _ z => List.mem_append_right _ z
            replace N4 := News.re (news' := (65, tabObj ps4) :: (rl, lisO rs2 nr2) :: (pl2, lisO us np) :: (it, io) :: (f, _) :: (more ++ fro2)) N4
              (sub_cons (.head _) (sub_cons (.tail _ (.tail _ (List.mem_append_right _ (.head _)))) (sub_cons (.tail _ (.tail _ (List.mem_append_right _ (.tail _ (.head _))))) (sub_cons (.tail _ (.tail _ (List.mem_append_right _ (.tail _ (.tail _ (.head _))))))
                (sub_cons (.tail _ (.head _)) (sub_app (fun p hp => .tail _ (.tail _ (List.mem_append_left _ hp))) (fun p hp => .tail _ (.tail _ (List.mem_append_right _ (.tail _ (.tail _ (.tail _ hp)))))))))))) 
            clear htab2 c1 c2 c3 c4 o1 o2 hA2 hB2
            generalize more ++ fro2 = cod4 at *
            repeat' (walk_at "my_go")
            (with_reducible rename Fr _ _ _ _ => F5)
            (with_reducible rename News _ _ _ _ => N5)
            refine sub_F F5 N5 (pat63 X₀) (.tail _ (.tail _ (.tail _ (.tail _ (.head _))))) rfl (Nat.le_trans hev (by decide)) ?cb hsu ?hz fun h6 tk6 tks6 F6 N6 => ?_
            case hz => omega
            case cb =>
              refine cb_enter (G.keeps F5.keep) (N5.get (.tail _ (.tail _ (.tail _ (.tail _ (.head _)))))) (CodeIn.rec hci4 F5 (News.re N5 fun p hp => .tail _ (.tail _ (.tail _ (.tail _ (.tail _ hp)))))) ?_ (fun q => rfl) rfl rfl rfl rfl (by decide) ?_
              · show d + 1 < recursionLimit; omega
              · clear F5 N5 X₀ T₀ C₀
                intro s' q st hd' b e Q h₁ G' hm hbe hex hq F7 N7
                have X₇ := G'.X
                have T₇ := G'.T
                repeat' (first | walk1 | (dsimp only; walk1))
                · rw [em_text (by assumption)]; exact hq _ _ _ F7.keep
                · rw [em_none (by assumption) (by assumption)]; exact hq _ _ _ F7.keep
            clear F5 N5
            repeat' (first | walk1 | (dsimp only; walk1))
            (with_reducible rename Fr _ _ _ _ => F9)
            (with_reducible rename News _ _ _ _ => N9)
            exact si_read (o := some v) F9 N9 rfl rfl rfl hXY hlen (by omega) (by k_mem) (by k_mem) (by k_mem) (by k_mem) (by k_mem) (fun q hq => by k_mem) hXK (by exact ⟨_, rfl⟩) hA3 hB3 htab4 hR' d1 d2 d3 d4 d5 d6 e1 e2 e3 e4 (by omega) (by omega) (by omega) (by omega)
end
end Mine
end

section
open PySem PySem.W PyProof.Rows PySem.Calls
open PySem.Builtin.Re
set_option maxRecDepth 100000
set_option maxHeartbeats 4000000
namespace Mine
/-! ### the objects of a list of lists, told one by one -/
theorem all2_in {α β : Type} {C : Addr → Obj → Prop} {R : (Addr → Obj → Prop) → α → β → Prop} (mono : ∀ {o o' : Addr → Obj → Prop} {a : α} {b : β}, R o a b → (∀ x y, o x y → o' x y) → R o' a b)
    (fin : ∀ {a : α} {b : β}, R C a b → ∃ ll : List (Addr × Obj), (∀ q ∈ ll, C q.1 q.2) ∧ R (inN ll) a b) {l : List α} {r : List β} (h : All2 (R C) l r) : ∃ ll : List (Addr × Obj), (∀ q ∈ ll, C q.1 q.2) ∧ All2 (R (inN ll)) l r := by
  induction h with
  | nil => exact ⟨[], fun q hq => (by cases hq), .nil⟩
  | cons h _ ih =>
    obtain ⟨l1, h1, r1⟩ := fin h
    obtain ⟨l2, h2, r2⟩ := ih
    refine ⟨l1 ++ l2, fun q hq => (List.mem_append.mp hq).elim (h1 q) (h2 q), .cons (mono r1 fun x y z => List.mem_append_left _ z) (r2.mono fun a b z => mono z fun x y z => List.mem_append_right _ z)⟩
theorem pair_in {C : Addr → Obj → Prop} {v : Value} {p : Pr} (h : PairAt C v p) : ∃ ll : List (Addr × Obj), (∀ q ∈ ll, C q.1 q.2) ∧ PairAt (inN ll) v p := by
  obtain ⟨a, tk, vo, e, m, x⟩ := h
  exact ⟨[(a, _)], fun q hq => by rw [List.mem_singleton.mp hq]; exact m, a, tk, vo, e, .head _, x⟩
theorem list_in {C : Addr → Obj → Prop} {v : Value} {p : List Pr} (h : ListAt C v p) : ∃ ll : List (Addr × Obj), (∀ q ∈ ll, C q.1 q.2) ∧ ListAt (inN ll) v p := by
  obtain ⟨a, us, n, e, m, x⟩ := h
  obtain ⟨ll, h1, h2⟩ := all2_in (R := PairAt) (fun a b => a.mono b) (fun x => pair_in x) x
  refine ⟨(a, lisO us n) :: ll, fun q hq => ?_, a, us, n, e, .head _, h2.mono fun _ _ y => y.mono fun _ _ z => .tail _ z⟩
  rcases List.mem_cons.mp hq with rfl | hq
  · exact m
  · exact h1 q hq
theorem lists_in {C : Addr → Obj → Prop} {v : Value} {p : List (List Pr)} (h : ListsAt C v p) : ∃ ll : List (Addr × Obj), (∀ q ∈ ll, C q.1 q.2) ∧ ListsAt (inN ll) v p := by
  obtain ⟨a, us, n, e, m, x⟩ := h
  obtain ⟨ll, h1, h2⟩ := all2_in (R := ListAt) (fun a b => a.mono b) (fun x => list_in x) x
  refine ⟨(a, lisO us n) :: ll, fun q hq => ?_, a, us, n, e, .head _, h2.mono fun _ _ y => y.mono fun _ _ z => .tail _ z⟩
  rcases List.mem_cons.mp hq with rfl | hq
  · exact m
  · exact h1 q hq

/-! ### the codes of a table, told one by one -/
theorem among_mem {pos : Pos} {c : Value} : ∀ (l : List Value), TriplesOk l → codeAmong pos l = some c → c ∈ l
  | [], _, h => by simp [codeAmong] at h
  | .int a1 t1 :: .int a2 t2 :: x :: rest, ht, h => by
    unfold codeAmong at h
    split at h
    · cases h; simp
    · exact .tail _ (.tail _ (.tail _ (among_mem rest ht h)))
open Classical in
theorem refs_in (C : Addr → Obj → Prop) (l : List Value) : ∃ cod : List (Addr × Obj), (∀ q ∈ cod, C q.1 q.2) ∧ ∀ v ∈ l, (∃ c oc, v = .ref c ∧ C c oc) → ∃ c oc, v = .ref c ∧ (c, oc) ∈ cod := by
  induction l with
  | nil => exact ⟨[], fun q hq => (by cases hq), fun v hv => (by cases hv)⟩
  | cons a l ih =>
    obtain ⟨cod, h1, h2⟩ := ih
    by_cases h : ∃ c oc, a = .ref c ∧ C c oc
    · obtain ⟨c, oc, e, hc⟩ := h
      refine ⟨(c, oc) :: cod, fun q hq => ?_, fun v hv k => ?_⟩
      · rcases List.mem_cons.mp hq with rfl | hq
        · exact hc
        · exact h1 q hq
      · rcases List.mem_cons.mp hv with rfl | hv
        · exact ⟨c, oc, e, .head _⟩
        · obtain ⟨c', oc', e', m⟩ := h2 v hv k
          exact ⟨c', oc', e', .tail _ m⟩
    · refine ⟨cod, h1, fun v hv k => ?_⟩
      rcases List.mem_cons.mp hv with rfl | hv
      · exact absurd k h
      · exact h2 v hv k
def IsCodeO (oc : Obj) : Prop := ∃ vs q t, oc.data = .fields vs ∧ vs[1]? = some (.str q t)
theorem tab_inX {g h : Heap} {L P : Addr} {m : Str → Option Value} {qual : Str} {X : List Addr} (F : Fr g L h m) (hT : TabX h P qual X) :
    ∃ ps cod, h.get? P = some (tabObj ps) ∧ TabN g cod qual ps ∧ ∀ q ∈ cod, h.get? q.1 = some q.2 ∧ g.get? q.1 = none ∧ IsCodeO q.2 ∧ q.1 ≠ P ∧ q.1 ∉ X := by
  obtain ⟨ps, hps, ht, hc⟩ := hT
  obtain ⟨cod, h1, h2⟩ := refs_in (fun c oc => h.get? c = some oc ∧ g.get? c = none ∧ (∃ vs t, oc.data = .fields vs ∧ vs[1]? = some (.str qual t)) ∧ c ≠ P ∧ c ∉ X) ps.toList
  refine ⟨ps, cod, hps, ⟨ht, fun pos c e => ?_⟩, fun q hq => ?_⟩
  · obtain ⟨c', rfl, oc, vs, t, hm, hd, hv⟩ := hc pos c e
    rcases hm with hm | hm
    · cases hm
    · have hget := of_hideAll _ hm
      have hno : c' ∉ P :: X := fun q => by rw [hideAll_none _ q] at hm; cases hm
      have hne : c' ≠ P := fun q => hno (by rw [q]; exact .head _)
      cases hg : g.get? c' with
      | some o =>
        have := F.keep _ _ hg
        rw [hget] at this
        cases this
        exact ⟨c', rfl, oc, vs, t, .inr hg, hd, hv⟩
      | none =>
        obtain ⟨c2, oc2, e2, m2⟩ := h2 _ (among_mem _ ht e) ⟨c', oc, rfl, hget, hg, ⟨vs, t, hd, hv⟩, hne, fun q => hno (.tail _ q)⟩
        cases e2
        obtain ⟨_, _, ⟨vs2, t2, hd2, hv2⟩, _⟩ := h1 _ m2
        exact ⟨c', rfl, oc2, vs2, t2, .inl m2, hd2, hv2⟩
  · obtain ⟨a, b, ⟨vs, t, c, d⟩, e⟩ := h1 q hq
    exact ⟨a, b, ⟨vs, qual, t, c, d⟩, e⟩
theorem triples_no_code {ps : Array Value} (h : TriplesOk ps.toList) : ¬ IsCodeO (tabObj ps) := by
  rintro ⟨vs, q, t, hd, hv⟩
  cases hd
  rw [← Array.getElem?_toList] at hv
  match hl : ps.toList, h with
  | [], _ => rw [hl] at hv; cases hv
  | .int _ _ :: .int _ _ :: _ :: _, _ => rw [hl] at hv; simp at hv

/-! ### law's frame between its calls -/
structure LSt (g : Heap) (L : Addr) (h : Heap) (m : Str → Option Value) (p1 p2 : Array Value) (fro : List (Addr × Obj)) : Prop where
  F : Fr g L h m
  N : News g L h ((82, tabObj p1) :: (65, tabObj p2) :: fro)
  t1 : TabN g fro qualJ p1
  t2 : TabN g fro qualS p2
  f1 : ∀ q ∈ fro, q.1 ≠ 82
  f2 : ∀ q ∈ fro, q.1 ≠ 65

section
variable {g h h' : Heap} {L : Addr} {m : Str → Option Value} {p1 p2 : Array Value} {fro ll : List (Addr × Obj)}
theorem LSt.sub82 (S : LSt g L h m p1 p2 fro) : Grown g (hideAll h [82]) := fun b o e => hideAll_get _ (S.F.keep _ _ e) (by
  simp; rintro rfl; rw [(S.N _ (.head _)).2.2] at e; cases e)
theorem LSt.sub65 (S : LSt g L h m p1 p2 fro) : Grown g (hideAll h [65]) := fun b o e => hideAll_get _ (S.F.keep _ _ e) (by
  simp; rintro rfl; rw [(S.N _ (.tail _ (.head _))).2.2] at e; cases e)
theorem LSt.in82 (S : LSt g L h m p1 p2 fro) {a : Addr} {o : Obj} (hm : (a, o) ∈ fro) : (hideAll h [82]).get? a = some o := hideAll_get _ (S.N _ (.tail _ (.tail _ hm))).1 (by simpa using S.f1 _ hm)
theorem LSt.in65 (S : LSt g L h m p1 p2 fro) {a : Addr} {o : Obj} (hm : (a, o) ∈ fro) : (hideAll h [65]).get? a = some o := hideAll_get _ (S.N _ (.tail _ (.tail _ hm))).1 (by simpa using S.f2 _ hm)
theorem ne_L {P : Addr} (F : Fr g L h m) {o : Obj} (hP : h.get? P = some o) (hc : IsCodeO o) : P ≠ L := by
  rintro rfl
  obtain ⟨o', es, ep, e, hd, r⟩ := F.ns
  rw [hP] at e
  cases e
  obtain ⟨vs, q, t, hd', _⟩ := hc
  rw [hd] at hd'; cases hd'
/-- more objects join -/
theorem LSt.more (S : LSt g L h m p1 p2 fro) (gr : Grown h h') (hl : ∀ q ∈ ll, newAt h h' q.1 q.2) : LSt g L h' m p1 p2 (ll ++ fro) := by
  have n82 := (S.N _ (.head _)).1
  have n65 := (S.N _ (.tail _ (.head _))).1
  have hL : ∃ oL, h.get? L = some oL := let ⟨o, _, _, e, _⟩ := S.F.ns; ⟨o, e⟩
  obtain ⟨oL, hL⟩ := hL
  have N' := News.more' S.N gr
  refine ⟨Fr.more S.F gr, ?_, S.t1.mono fun p hp => List.mem_append_right _ hp, S.t2.mono fun p hp => List.mem_append_right _ hp, app_ne (fun q hq e => ?_) S.f1, app_ne (fun q hq e => ?_) S.f2⟩
  · refine fun p hp => ?_
    rcases List.mem_cons.mp hp with rfl | hp
    · exact N' _ (.head _)
    rcases List.mem_cons.mp hp with rfl | hp
    · exact N' _ (.tail _ (.head _))
    rcases List.mem_append.mp hp with hp | hp
    · refine ⟨(hl p hp).1, ?_, ?_⟩
      · intro e
        have q : h.get? p.1 = none := (hl p hp).2
        rw [show p.1 = L from e, hL] at q; cases q
      · cases hg : g.get? p.1 with
        | none => rfl
        | some o => have q := S.F.keep _ _ hg; rw [(hl p hp).2] at q; cases q
    · exact N' _ (.tail _ (.tail _ hp))
  · have q' : h.get? q.1 = none := (hl q hq).2
    rw [e, n82] at q'; cases q'
  · have q' : h.get? q.1 = none := (hl q hq).2
    rw [e, n65] at q'; cases q'
/-- after a call that turned the table 82 alone -/
theorem LSt.after82 {X : List Addr} {fro0 : List (Addr × Obj)} (S : LSt g L h m p1 p2 fro) (gr : Grown (hideAll h [82]) h') (hT : TabX h' 82 qualJ X) : ∃ p1' cod, LSt g L h' m p1' p2 (cod ++ fro) ∧ TabN g (cod ++ fro0) qualJ p1' ∧ ∀ q ∈ cod, q.1 ∉ X := by
  have hLne := (S.N _ (.head _)).2.1
  have F' : Fr g L h' m := ⟨S.F.ns.at' fun o e => gr _ _ (hideAll_get _ e (by simp; exact Ne.symm hLne)), fun b o e => gr _ _ (S.sub82 b o e), S.F.above⟩
  obtain ⟨p1', cod, hget, ht, hc⟩ := tab_inX F' hT
  have h65 : h'.get? 65 = some (tabObj p2) := gr _ _ (hideAll_get _ (S.N _ (.tail _ (.head _))).1 (by decide))
  refine ⟨p1', cod, ⟨F', fun p hp => ?_, ht.mono fun p hp => List.mem_append_left _ hp, S.t2.mono fun p hp => List.mem_append_right _ hp, app_ne (fun q hq => (hc q hq).2.2.2.1) S.f1, app_ne (fun q hq e => ?_) S.f2⟩, ht.mono fun p hp => List.mem_append_left _ hp, fun q hq => (hc q hq).2.2.2.2⟩
  · rcases List.mem_cons.mp hp with rfl | hp
    · exact ⟨hget, (S.N _ (.head _)).2⟩
    rcases List.mem_cons.mp hp with rfl | hp
    · exact ⟨h65, (S.N _ (.tail _ (.head _))).2⟩
    rcases List.mem_append.mp hp with hp | hp
    · have z := hc p hp
      exact ⟨z.1, ne_L F' z.1 z.2.2.1, z.2.1⟩
    · exact ⟨gr _ _ (S.in82 hp), (S.N _ (.tail _ (.tail _ hp))).2⟩
  · have z := hc q hq
    have z1 := z.1
    rw [e, h65] at z1
    rw [← Option.some.inj z1] at z
    exact triples_no_code S.t2.1 z.2.2.1
/-- no code of the table 82 lies in X -/
theorem LSt.tabX {X : List Addr} {fro0 : List (Addr × Obj)} (S : LSt g L h m p1 p2 fro) (t : TabN g fro0 qualJ p1) (hs : ∀ q ∈ fro0, q ∈ fro) (hX : ∀ q ∈ fro0, q.1 ∉ X) (hXs : ∀ a ∈ X, ∃ o, (a, o) ∈ fro) : TabX h 82 qualJ X := by
  refine ⟨p1, (S.N _ (.head _)).1, t.1, fun pos c e => ?_⟩
  obtain ⟨c', e', oc, vs, tk, hm, hd, hv⟩ := t.2 pos c e
  refine ⟨c', e', oc, vs, tk, .inr ?_, hd, hv⟩
  rcases hm with hm | hm
  · refine hideAll_get _ (S.N _ (.tail _ (.tail _ (hs _ hm)))).1 fun q => ?_
    rcases List.mem_cons.mp q with q | q
    · exact S.f1 _ (hs _ hm) q
    · exact hX _ hm q
  · refine hideAll_get _ (S.F.keep _ _ hm) fun q => ?_
    rcases List.mem_cons.mp q with q | q
    · rw [show c' = 82 from q, (S.N _ (.head _)).2.2] at hm; cases hm
    · obtain ⟨o, ho⟩ := hXs _ q
      have z := (S.N _ (.tail _ (.tail _ ho))).2.2
      rw [show g.get? c' = none from z] at hm; cases hm
theorem LSt.after65 (S : LSt g L h m p1 p2 fro) (gr : Grown (hideAll h [65]) h') (hT : TabH h' 65 qualS) (hl : ∀ q ∈ ll, newAt h h' q.1 q.2) : ∃ p2' cod, LSt g L h' m p1 p2' (cod ++ (ll ++ fro)) := by
  have hLne := (S.N _ (.tail _ (.head _))).2.1
  have F' : Fr g L h' m := ⟨S.F.ns.at' fun o e => gr _ _ (hideAll_get _ e (by simp; exact Ne.symm hLne)), fun b o e => gr _ _ (S.sub65 b o e), S.F.above⟩
  obtain ⟨p2', cod, hget, ht, hc⟩ := tab_inX (X := []) F' hT
  have n82 := (S.N _ (.head _)).1
  have n65 := (S.N _ (.tail _ (.head _))).1
  have h82 : h'.get? 82 = some (tabObj p1) := gr _ _ (hideAll_get _ n82 (by decide))
  have hL : ∃ oL, h.get? L = some oL := let ⟨o, _, _, e, _⟩ := S.F.ns; ⟨o, e⟩
  obtain ⟨oL, hL⟩ := hL
  refine ⟨p2', cod, F', fun p hp => ?_, S.t1.mono fun p hp => List.mem_append_right _ (List.mem_append_right _ hp), ht.mono fun p hp => List.mem_append_left _ hp, app_ne (fun q hq e => ?_) (app_ne (fun q hq e => ?_) S.f1), app_ne (fun q hq => (hc q hq).2.2.2.1) (app_ne (fun q hq e => ?_) S.f2)⟩
  · rcases List.mem_cons.mp hp with rfl | hp
    · exact ⟨h82, (S.N _ (.head _)).2⟩
    rcases List.mem_cons.mp hp with rfl | hp
    · exact ⟨hget, (S.N _ (.tail _ (.head _))).2⟩
    rcases List.mem_append.mp hp with hp | hp
    · have z := hc p hp
      exact ⟨z.1, ne_L F' z.1 z.2.2.1, z.2.1⟩
    rcases List.mem_append.mp hp with hp | hp
    · refine ⟨(hl p hp).1, ?_, ?_⟩
      · intro e
        have q : h.get? p.1 = none := (hl p hp).2
        rw [show p.1 = L from e, hL] at q; cases q
      · cases hg : g.get? p.1 with
        | none => rfl
        | some o => have q := S.F.keep _ _ hg; rw [(hl p hp).2] at q; cases q
    · exact ⟨gr _ _ (S.in65 hp), (S.N _ (.tail _ (.tail _ hp))).2⟩
  · have z := hc q hq
    have z1 := z.1
    rw [e, h82] at z1
    rw [← Option.some.inj z1] at z
    exact triples_no_code S.t1.1 z.2.2.1
  · have q' : h.get? q.1 = none := (hl q hq).2
    rw [e, n82] at q'; cases q'
  · have q' : h.get? q.1 = none := (hl q hq).2
    rw [e, n65] at q'; cases q'
end

section
variable {prog : Program} {w : World} {s : Shared} {P : Program} {loose : List Str} {mean : ExcName → Option Value} {mg mb : Str → Option Value} {E : Value → Shared → Prop} {Q : Value → Shared → Prop} {g : Heap} {L : Addr} {m : Str → Option Value} {p1 p2 : Array Value} {fro : List (Addr × Obj)} {A : Around}
  {d u : Nat} {fr : Option (List Env)} {gs : Option (List Code)}
theorem listsL {l : Addr} {vs : List Value} {ns : List Int} (hA : A = AA d fr gs u) (G : Gd w P loose mean mg mb g) (S : LSt g L s.heap m p1 p2 fro) (hd : d + 2 < recursionLimit) (hl : g.IsList l vs.toArray) (hi : IntsAre vs ns) (hn : ns.length ≤ 63)
    (h : ∀ h' v tks fro', LSt g L h' m p1 p2 fro' → (∀ q ∈ fro, q ∈ fro') → ListsAt (inN fro') v (buildL ns).1 → Q v { s with heap := h', toks := tks }) : wpAny (model prog w) A (call (.ref 101) [.ref l]) Q E s := by
  subst hA
  refine wpAny_call (lists_call (G.keeps S.F.keep) hd (hl.at fun o e => S.F.keep _ _ e) hi hn fun h' v tks gr hv => ?_)
  obtain ⟨ll, h1, h2⟩ := lists_in hv
  exact h h' v tks (ll ++ fro) (S.more gr h1) (fun q hq => List.mem_append_right _ hq) (h2.mono fun _ _ z => List.mem_append_left _ z)
theorem joinX {v : Value} {ls : List (List Pr)} {X : List Addr} {fro0 : List (Addr × Obj)} (hA : A = AA d fr gs u) (G : Gd w P loose mean mg mb g) (S : LSt g L s.heap m p1 p2 fro) (t : TabN g fro0 qualJ p1) (hs : ∀ q ∈ fro0, q ∈ fro) (hX : ∀ q ∈ fro0, q.1 ∉ X) (hXs : ∀ a ∈ X, ∃ o, (a, o) ∈ fro)
    (hd : d + 4 < recursionLimit) (hv : ListsAt (inN fro) v ls) (hne : ∀ l ∈ ls, l ≠ []) (hsz : szLs ls ≤ 5000)
    (h : ∀ h' tk tks p1' cod, LSt g L h' m p1' p2 (cod ++ fro) → TabN g (cod ++ fro0) qualJ p1' → (∀ q ∈ cod, q.1 ∉ X) → Q (.str (mkS (wholeL ls)) tk) { s with heap := h', toks := tks }) : wpAny (model prog w) A (call (.ref 87) [v]) Q E s := by
  subst hA
  refine wpAny_call (joinw_call (G.keeps S.sub82) (S.tabX t hs hX hXs) (fun a ha => let ⟨o, ho⟩ := hXs a ha; ⟨o, (S.N _ (.tail _ (.tail _ ho))).1⟩) hd (hv.mono fun _ _ z => S.in82 z) hne hsz fun h' tk tks gr hT => ?_)
  obtain ⟨p1', cod, S', t', c'⟩ := S.after82 (fro0 := fro0) gr hT
  exact h h' tk tks p1' cod S' t' c'
theorem joinL {v : Value} {ls : List (List Pr)} (hA : A = AA d fr gs u) (G : Gd w P loose mean mg mb g) (S : LSt g L s.heap m p1 p2 fro) (hd : d + 4 < recursionLimit) (hv : ListsAt (inN fro) v ls) (hne : ∀ l ∈ ls, l ≠ []) (hsz : szLs ls ≤ 5000)
    (h : ∀ h' tk tks p1' fro', LSt g L h' m p1' p2 fro' → (∀ q ∈ fro, q ∈ fro') → Q (.str (mkS (wholeL ls)) tk) { s with heap := h', toks := tks }) : wpAny (model prog w) A (call (.ref 87) [v]) Q E s :=
  joinX (X := []) hA G S S.t1 (fun _ h => h) (fun _ _ h => by cases h) (fun _ h => by cases h) hd hv hne hsz fun h' tk tks p1' cod S' _ _ => h h' tk tks p1' _ S' fun q hq => List.mem_append_right _ hq
theorem splitL {hv : Addr} {n : Nat} {xs : List (List (List Pr) × Tok)} (hA : A = AA d fr gs u) (G : Gd w P loose mean mg mb g) (S : LSt g L s.heap m p1 p2 fro) (hd : d + 4 < recursionLimit)
    (hm : (hv, lisO (strValues (xs.map fun x => (mkS (wholeL x.1), x.2))) n) ∈ fro) (hok : ∀ x ∈ xs, ∀ l ∈ x.1, l ≠ [] ∧ ∀ p ∈ l, KeyOk p) (hsz : ∀ x ∈ xs, szLs x.1 ≤ 5000) (hn : (xs.map fun x => x.1.length).sum ≤ 5000)
    (h : ∀ h' v tks p2' fro', LSt g L h' m p1 p2' fro' → (∀ q ∈ fro, q ∈ fro') → ListsAt (inN fro') v (xs.map (·.1)).flatten → Q v { s with heap := h', toks := tks }) : wpAny (model prog w) A (call (.ref 70) [.ref hv]) Q E s := by
  subst hA
  have hN : News g L s.heap ((65, tabObj p2) :: (82, tabObj p1) :: fro) := News.re S.N (sub_cons (.tail _ (.head _)) (sub_cons (.head _) fun p hp => .tail _ (.tail _ hp)))
  refine wpAny_call (split_call (G.keeps S.sub65) (TabH.of S.F hN (cons_ne (by decide) S.f2) (S.t2.mono fun p hp => .tail _ hp)) hd ⟨_, S.in65 hm, rfl, n, rfl⟩ hok hsz hn fun h' v tks gr hT hv => ?_)
  obtain ⟨ll, h1, h2⟩ := lists_in hv
  obtain ⟨p2', cod, S'⟩ := S.after65 gr hT h1
  exact h h' v tks p2' _ S' (fun q hq => List.mem_append_right _ (List.mem_append_right _ hq)) (h2.mono fun _ _ z => List.mem_append_right _ (List.mem_append_left _ z))
end
end Mine
end

section
open PySem PySem.W PyProof.Rows PySem.Calls PySem.SeqAt
set_option maxRecDepth 100000
set_option maxHeartbeats 4000000
namespace Mine
/-! ### the lists as data -/
def dV : Option (List Nat) → PyData
  | none => .none
  | some v => .str ⟨v.toArray⟩
def dP (p : Pr) : PyData := .tuple [.str ⟨p.1.toArray⟩, dV p.2]
def dL (l : List Pr) : PyData := .list (l.map dP)
def dLs (ls : List (List Pr)) : PyData := .list (ls.map dL)
theorem reads_all {h : Heap} {β : Type} {R : Value → β → Prop} {f : β → PyData} (hR : ∀ v b, R v b → ∃ as, Reads h v (f b) as) {vs : List Value} {bs : List β} (H : All2 R vs bs) : ∃ as, ReadsAll h vs (bs.map f) as := by
  induction H with
  | nil => exact ⟨_, .nil⟩
  | cons a _ ih =>
    obtain ⟨as, r⟩ := hR _ _ a
    obtain ⟨bs, r'⟩ := ih
    exact ⟨_, .cons r r'⟩
theorem reads_pair {h : Heap} {v : Value} {p : Pr} (H : PairAt (inH h) v p) : ∃ as, Reads h v (dP p) as := by
  obtain ⟨a, tk, vo, rfl, m, x⟩ := H
  obtain ⟨k, o⟩ := p
  have : ∃ as, Reads h vo (dV o) as := by
    cases o with
    | none => have x : vo = .none := x; subst x; exact ⟨_, .none⟩
    | some v => obtain ⟨t, rfl⟩ := x; exact ⟨_, .str _ _⟩
  obtain ⟨as, r⟩ := this
  exact ⟨_, reads_tuple_at m rfl rfl (.cons (.str _ _) (.cons r .nil))⟩
theorem reads_list {h : Heap} {v : Value} {l : List Pr} (H : ListAt (inH h) v l) : ∃ as, Reads h v (dL l) as := by
  obtain ⟨a, us, n, rfl, m, x⟩ := H
  obtain ⟨as, r⟩ := reads_all (f := dP) (fun _ _ y => reads_pair y) x
  exact ⟨_, reads_list_at m rfl rfl (by simpa using r)⟩
theorem reads_lists {h : Heap} {v : Value} {ls : List (List Pr)} (H : ListsAt (inH h) v ls) : ∃ as, Reads h v (dLs ls) as := by
  obtain ⟨a, us, n, rfl, m, x⟩ := H
  obtain ⟨as, r⟩ := reads_all (f := dL) (fun _ _ y => reads_list y) x
  exact ⟨_, reads_list_at m rfl rfl (by simpa using r)⟩
theorem lay_all {β : Type} {f : β → PyData} {n : Nat} : ∀ (bs : List β), (∀ b ∈ bs, (f b).canLay0 = true ∧ (f b).depth ≤ n) → PyData.canLayAll0 (bs.map f) = true ∧ PyData.depthAll (bs.map f) ≤ n := by
  intro bs
  induction bs with
  | nil => intro _; simp [PyData.canLayAll0, PyData.depthAll]
  | cons b bs ih =>
    intro h
    have h1 := h b (.head _)
    have h2 := ih fun c hc => h c (.tail _ hc)
    simp only [List.map_cons, PyData.canLayAll0, PyData.depthAll, h1.1, h2.1, Bool.and_self, true_and]
    have a1 := h1.2
    have a2 := h2.2
    omega
theorem strOk_mk {l : List Nat} (h : ∀ c ∈ l, c < 1114112) : PyData.strOk ⟨l.toArray⟩ = true := by
  unfold PyData.strOk
  simp
  intro i hi
  exact h _ hi
theorem lay_pair {p : Pr} (h : PrOk p) : (dP p).canLay0 = true ∧ (dP p).depth ≤ 1 := by
  obtain ⟨k, o⟩ := p
  obtain ⟨_, h1, h2⟩ := h
  have a := strOk_mk h1
  cases o with
  | none => unfold dP dV; simp only [PyData.canLay0, PyData.canLayAll0, PyData.depth, PyData.depthAll, a]; decide
  | some v =>
    have b := strOk_mk (l := v) h2
    unfold dP dV
    dsimp only at a
    simp only [PyData.canLay0, PyData.canLayAll0, PyData.depth, PyData.depthAll, a, b]; decide
theorem shaped_lists {ls : List (List Pr)} (h : ∀ l ∈ ls, ∀ p ∈ l, PrOk p) : shaped (dLs ls) = true := by
  have h1 : ∀ l ∈ ls, (dL l).canLay0 = true ∧ (dL l).depth ≤ 2 := fun l hl => by
    have := lay_all (f := dP) l fun p hp => lay_pair (h l hl p hp)
    unfold dL
    simp only [PyData.canLay0, PyData.depth, this.1, true_and]
    have := this.2
    omega
  have := lay_all (f := dL) ls h1
  unfold shaped dLs
  simp only [PyData.canLay0, PyData.depth, this.1, Bool.true_and]
  have := this.2
  exact decide_eq_true (by omega)
section
variable {prog : Program} {w : World} {s : Shared} {E : Value → Shared → Prop} {Q : Value → Shared → Prop} {h₀ : Heap} {L : Addr} {A : Around} {news : List (Addr × Obj)}
theorem ne_lists {a b : Value} {ls : List (List Pr)} {fro : List (Addr × Obj)} (N : News h₀ L s.heap news) (hs : ∀ q ∈ fro, q ∈ news) (ha : ListsAt (inN fro) a ls) (hb : ListsAt (inN fro) b ls) (hok : ∀ l ∈ ls, ∀ p ∈ l, PrOk p) (hu : A.units + 64 < cLine)
    (h : Q (.bool false) s) : wpAny (model prog w) A (compareOp .NotEq a b) Q E s := by
  obtain ⟨as, ra⟩ := reads_lists (ha.mono fun _ _ z => (N _ (hs _ z)).1)
  obtain ⟨bs, rb⟩ := reads_lists (hb.mono fun _ _ z => (N _ (hs _ z)).1)
  have sh := shaped_lists hok
  refine ne_dataH ra rb sh sh hu ?_
  have e := PySem.SeqAt.eqv_refl (dLs ls) (canLay_of_shaped sh)
  rw [e]; exact h
end
end Mine
end

section
open PySem PySem.W PyProof.Rows PySem.Calls
open PySem.Builtin.Re
set_option maxRecDepth 100000
set_option maxHeartbeats 8000000
namespace Mine
section
variable {g h : Heap} {L a b c : Addr} {oa ob oc : Obj} {m : Str → Option Value} {p1 p2 : Array Value} {fro : List (Addr × Obj)}
theorem LSt.pack0 (F : Fr g L h m) (N : News g L h ((82, tabObj p1) :: (65, tabObj p2) :: fro)) (t1 : TabN g fro qualJ p1) (t2 : TabN g fro qualS p2) (f1 : ∀ q ∈ fro, q.1 ≠ 82) (f2 : ∀ q ∈ fro, q.1 ≠ 65) : LSt g L h m p1 p2 fro := ⟨F, N, t1, t2, f1, f2⟩
theorem LSt.pack1 (F : Fr g L h m) (N : News g L h ((a, oa) :: (82, tabObj p1) :: (65, tabObj p2) :: fro)) (t1 : TabN g fro qualJ p1) (t2 : TabN g fro qualS p2) (f1 : ∀ q ∈ fro, q.1 ≠ 82) (f2 : ∀ q ∈ fro, q.1 ≠ 65) (d1 : @Ne Nat a 82) (d2 : @Ne Nat a 65) : LSt g L h m p1 p2 ((a, oa) :: fro) :=
  ⟨F, News.re N (sub_cons (.tail _ (.head _)) (sub_cons (.tail _ (.tail _ (.head _))) (sub_cons (.head _) fun p hp => .tail _ (.tail _ (.tail _ hp))))), t1.mono fun p hp => .tail _ hp, t2.mono fun p hp => .tail _ hp, cons_ne d1 f1, cons_ne d2 f2⟩
end
local macro_rules | `(tactic| k_mem) => `(tactic| assumption)
local macro_rules | `(tactic| k_all) => `(tactic| assumption)
local macro_rules | `(tactic| walk_at "truthy ref") => `(tactic| (k_here; k_dflt (refine' truthy_ne ?N ?m ?n ?z ?_; (case N => k_asm); (case m => k_mem); (case n => assumption); (case z => omega)); intro _))
local macro_rules | `(tactic| walk_at "truthy ref") => `(tactic| (k_here; k_dflt (refine' truthy_nil ?N ?m ?n ?_; (case N => k_asm); (case m => k_mem); (case n => assumption)); intro _))
local macro_rules | `(tactic| walk_at "my_lst") => `(tactic| first
  | exact LSt.pack0 (by k_asm) (by k_asm) (by assumption) (by assumption) (by assumption) (by assumption)
  | exact LSt.pack1 (by k_asm) (by k_asm) (by assumption) (by assumption) (by assumption) (by assumption) (by omega) (by omega))

local macro_rules | `(tactic| walk_at "my_wk") => `(tactic| (
  (fail_if_success (with_reducible show wpAny _ _ (call (Value.ref _) _) _ _ _))
  (fail_if_success (with_reducible show wpAny _ _ (eval (Expr.ListComp _ _ _ _) _) _ _ _))
  (fail_if_success (with_reducible show wpAny _ _ (compareOp CmpOp.NotEq (Value.ref _) _) _ _ _))
  (fail_if_success (with_reducible show wpAny _ _ (binaryOp Operator.Add (Value.ref _) _) _ _ _))
  first | walk1 | (dsimp only; walk1)))
theorem built_facts {vs : List Value} {ns : List Int} (_ : IntsAre vs ns) (hn : ns.length ≤ 63) : (∀ l ∈ (buildL ns).1, l ≠ []) ∧ (∀ l ∈ (buildL ns).1, ∀ p ∈ l, PrOk p) ∧ szLs (buildL ns).1 ≤ 1008 := by
  have h1 := build_ok ns
  have h2 := build_good ns
  have h3 := szLs_wLs (buildL ns).1
  have h4 := h2.2
  exact ⟨h1.1.2, h2.1, by omega⟩

/-- between the turns of the comprehension -/
def CInv (g : Heap) (fro0 : List (Addr × Obj)) (p2 : Array Value) (Ls : List (List Pr)) (i : Nat) (ys : List Value) (news : List (Addr × Obj)) : Prop :=
  ∃ p1 fro, ∃ xs : List (List (List Pr) × Tok), news = (82, tabObj p1) :: (65, tabObj p2) :: fro ∧ TabN g fro qualJ p1 ∧ TabN g fro qualS p2 ∧ (∀ q ∈ fro, q.1 ≠ 82) ∧ (∀ q ∈ fro, q.1 ≠ 65) ∧ (∀ q ∈ fro0, q ∈ fro) ∧
    ys = strValues (xs.map fun (x : List (List Pr) × Tok) => (mkS (wholeL x.1), x.2)) ∧ xs.map (·.1) = (Ls.take i).map fun l => [l]
/-- what a turn gives -/
def CEl (g : Heap) (p2 : Array Value) (fro : List (Addr × Obj)) (l : List Pr) (y : Value) (news' : List (Addr × Obj)) : Prop :=
  ∃ p1' cod tk', news' = (82, tabObj p1') :: (65, tabObj p2) :: (cod ++ fro) ∧ y = .str (mkS (wholeL [l])) tk' ∧ TabN g (cod ++ fro) qualJ p1' ∧ (∀ q ∈ cod ++ fro, q.1 ≠ 82) ∧ ∀ q ∈ cod ++ fro, q.1 ≠ 65
section
variable {prog : Program} {w : World} {A : Around} {h₀ : Heap} {L : Addr} {m : Str → Option Value} {env : Env} {elt : Expr} {x : Str} {scope : Scope} {cl : List (Str × Addr)} {s : Shared} {S : List (Addr × Obj) → Prop} {Fin : List Value → List (Addr × Obj) → Prop} {us : List Value} {Ls : List (List Pr)} {fro0 : List (Addr × Obj)} {p2 : Array Value}
theorem comp_rest (hus : All2 (ListAt (inN fro0)) us Ls)
    (turn : ∀ v l I oI C oC D m₂ h tk (E' : Value → Shared → Prop) p1 fro ys, l ∈ Ls → ListAt (inN fro) v l → LCg.NsObj oC m₂ → m₂ x = some v → Fr h₀ L h m → News h₀ L h ((I, oI) :: (C, oC) :: (D, LCg.lst ys) :: (82, tabObj p1) :: (65, tabObj p2) :: fro) → LCg.Off3 I C D ((82, tabObj p1) :: (65, tabObj p2) :: fro) → ((@Ne Nat I C) ∧ (@Ne Nat I D) ∧ (@Ne Nat C D)) →
      TabN h₀ fro qualJ p1 → TabN h₀ fro qualS p2 → (∀ q ∈ fro, q.1 ≠ 82) → (∀ q ∈ fro, q.1 ≠ 65) → (∀ q ∈ fro0, q ∈ fro) →
      wpAny (model prog w) A (eval elt (compEnvC scope cl C env)) (LCg.CompEnd h₀ L m { s with heap := h, toks := tk } I oI C oC D (LCg.lst ys) S (CEl h₀ p2 fro l)) E' { s with heap := h, toks := tk })
    (fin : ∀ ys news, CInv h₀ fro0 p2 Ls us.length ys news → Fin ys news) :
    ∀ j i ys news, i + j = us.length → CInv h₀ fro0 p2 Ls i ys news → LCg.CompRest prog w A h₀ L m env elt x scope cl s S (fun i v => us.toArray[i]? = some v) Fin j i ys news := by
  intro j
  induction j with
  | zero =>
    intro i ys news hi hC
    have e : i = us.length := by omega
    subst e
    exact LCg.CompRest.zero (fin ys news hC)
  | succ j ih =>
    rintro i ys news hi ⟨p1, fro, xs, rfl, t1, t2, f1, f2, hs, hy, hx⟩
    refine LCg.CompRest.succ ?_
    intro v I oI C oC D m₂ h tk E' hv hC hx' F N off ne
    have hv' : us[i]? = some v := by simpa using hv
    obtain ⟨l, hl, hat⟩ := hus.get hv'
    refine wpAny_mono (turn v l I oI C oC D m₂ h tk E' p1 fro ys (List.mem_of_getElem? hl) (hat.mono fun _ _ z => hs _ z) hC hx' F N off ne t1 t2 f1 f2 hs) (fun y s₂ hq => ?_) fun _ _ e => e
    obtain ⟨h', tk', nw, e, F', N', off', hS, p1', cod, tk2, rfl, rfl, t1', f1', f2'⟩ := hq
    refine ⟨h', tk', _, e, F', N', off', hS, ?_⟩
    refine ih (i + 1) _ _ (by omega) ⟨p1', cod ++ fro, xs ++ [([l], tk2)], rfl, t1', t2.mono fun p hp => List.mem_append_right _ hp, f1', f2', fun q hq => List.mem_append_right _ (hs q hq), ?_, ?_⟩
    · rw [hy, List.map_append]; simp [strValues]
    · rw [List.map_append, hx, take_snoc hl, List.map_append]; rfl
end
section
variable {prog : Program} {w : World} {s : Shared} {E : Value → Shared → Prop} {Q : Value → Shared → Prop} {h₀ : Heap} {L : Addr} {A : Around} {news : List (Addr × Obj)}
theorem ne_nil {a : Value} {b : Addr} {n : Nat} {ls : List (List Pr)} {fro : List (Addr × Obj)} (N : News h₀ L s.heap news) (hs : ∀ q ∈ fro, q ∈ news) (ha : ListsAt (inN fro) a ls) (hb : (b, W.listOf #[] n) ∈ news) (hok : ∀ l ∈ ls, ∀ p ∈ l, PrOk p) (hu : A.units + 64 < cLine)
    (h : Q (.bool (!ls.isEmpty)) s) : wpAny (model prog w) A (compareOp .NotEq a (.ref b)) Q E s := by
  obtain ⟨as, ra⟩ := reads_lists (ha.mono fun _ _ z => (N _ (hs _ z)).1)
  have rb : Reads s.heap (.ref b) (dLs []) [b] := reads_list_at (N.get hb) rfl rfl .nil
  have sh := shaped_lists hok
  refine ne_dataH ra rb sh (shaped_lists (ls := []) fun l hl => by cases hl) hu ?_
  have e : PyData.eqv (dLs ls) (dLs []) = ls.isEmpty := by
    cases ls with
    | nil => rfl
    | cons l r => simp [dLs, PyData.eqv, PyData.eqvAll]
  rw [e]; exact h
end
theorem two_text {Ls : List (List Pr)} (h : Ls ≠ []) : mkS (wholeL Ls) ++ Str.ofString ", " ++ mkS (wholeL Ls) = mkS (wholeL (Ls ++ Ls)) := by
  have q : Str.ofString ", " = ⟨#[44, 32]⟩ := by decide +kernel
  rw [q, wholeL_app h h]
  apply Str.ext'
  rw [Str.cps_append, Str.cps_append]
  simp
theorem sing_flat (Ls : List (List Pr)) : (Ls.map fun l => [l]).flatten = Ls := by
  induction Ls with
  | nil => rfl
  | cons a l ih => simp only [List.map_cons, List.flatten_cons, ih]; rfl
theorem comp_facts {Ls : List (List Pr)} {us : List Value} {xs : List (List (List Pr) × Tok)} (hu : us.length = Ls.length) (hx : xs.map (·.1) = (Ls.take us.length).map fun l => [l]) (hok : ∀ l ∈ Ls, l ≠ [] ∧ ∀ p ∈ l, KeyOk p) (hsz : szLs Ls ≤ 1008) :
    (∀ x ∈ xs, ∀ l ∈ x.1, l ≠ [] ∧ ∀ p ∈ l, KeyOk p) ∧ (∀ x ∈ xs, szLs x.1 ≤ 5000) ∧ (xs.map fun x => x.1.length).sum ≤ 5000 ∧ (xs.map (·.1)).flatten = Ls := by
  rw [hu, List.take_length] at hx
  have h1 : ∀ x ∈ xs, ∃ l ∈ Ls, x.1 = [l] := fun x hm => by
    have : x.1 ∈ xs.map (·.1) := List.mem_map.mpr ⟨x, hm, rfl⟩
    rw [hx] at this
    obtain ⟨l, hl, e⟩ := List.mem_map.mp this
    exact ⟨l, hl, e.symm⟩
  refine ⟨fun x hm l hl => ?_, fun x hm => ?_, ?_, by rw [hx, sing_flat]⟩
  · obtain ⟨l', hl', e⟩ := h1 x hm
    rw [e] at hl
    rw [List.mem_singleton.mp hl]; exact hok l' hl'
  · obtain ⟨l', hl', e⟩ := h1 x hm
    rw [e]
    have := szLs_mem hl'
    show szL l' + 2 + 0 ≤ 5000
    omega
  · have e : (xs.map fun x => x.1.length).sum = ((xs.map (·.1)).map List.length).sum := by rw [List.map_map]; rfl
    rw [e, ← List.length_flatten, hx, sing_flat]
    have := len_szLs Ls
    omega
section
variable {prog : Program} {w : World} {s0 : Shared} {P : Program} {loose : List Str} {mean : ExcName → Option Value} {mg mb : Str → Option Value} {E : Value → Shared → Prop} {g h : Heap} {L : Addr} {m : Str → Option Value} {p1 p2 : Array Value} {fro : List (Addr × Obj)} {A : Around}
  {d u tt no c : Nat} {fr : Option (List Env)} {gs : Option (List Code)} {l2 l1 I C D lo : Addr} {oI oC : Obj} {ys ws us : List Value} {l : List Pr}
theorem turn_join (hA : A = AA d fr gs u) (hd : d + 4 < recursionLimit) (G : Gd w P loose mean mg mb g) (F : Fr g L h m)
    (N : News g L h ((l2, W.listOf #[.ref l1] 0) :: (l1, W.listOf ws.toArray.toList.toArray c) :: (I, oI) :: (C, oC) :: (D, LCg.lst ys) :: (82, tabObj p1) :: (65, tabObj p2) :: fro)) (off : LCg.Off3 I C D ((82, tabObj p1) :: (65, tabObj p2) :: fro))
    (t1 : TabN g fro qualJ p1) (t2 : TabN g fro qualS p2) (f1 : ∀ q ∈ fro, q.1 ≠ 82) (f2 : ∀ q ∈ fro, q.1 ≠ 65) (a1 : @LT.lt Nat _ 82 l1) (a2 : @LT.lt Nat _ 65 l1) (a3 : @LT.lt Nat _ 82 l2) (a4 : @LT.lt Nat _ 65 l2)
    (hws : All2 (PairAt (inN fro)) ws l) (hl : l ≠ []) (hsz : szL l + 2 ≤ 1008) (hlo : (lo, lisO us no) ∈ fro) :
    wpAny (model prog w) A (call (.ref 87) [.ref l2]) (LCg.CompEnd g L m s0 I oI C oC D (LCg.lst ys) (LCg.SrcAt g lo us.toArray) (CEl g p2 fro l)) E { s0 with heap := h, toks := tt } := by
  obtain ⟨⟨b1, b2, b3⟩, ⟨b4, b5, b6⟩, offr⟩ := id off
  have offm := offr.mem
  have S : LSt g L h m p1 p2 ((l2, W.listOf #[.ref l1] 0) :: (l1, W.listOf ws.toArray.toList.toArray c) :: (I, oI) :: (C, oC) :: (D, LCg.lst ys) :: fro) := by
    refine ⟨F, News.re N ?_, t1.mono fun p hp => .tail _ (.tail _ (.tail _ (.tail _ (.tail _ hp)))), t2.mono fun p hp => .tail _ (.tail _ (.tail _ (.tail _ (.tail _ hp)))), ?_, ?_⟩
    · exact sub_cons (.tail _ (.tail _ (.tail _ (.tail _ (.tail _ (.head _)))))) (sub_cons (.tail _ (.tail _ (.tail _ (.tail _ (.tail _ (.tail _ (.head _))))))) (sub_cons (.head _) (sub_cons (.tail _ (.head _)) (sub_cons (.tail _ (.tail _ (.head _))) (sub_cons (.tail _ (.tail _ (.tail _ (.head _)))) (sub_cons (.tail _ (.tail _ (.tail _ (.tail _ (.head _))))) fun p hp => .tail _ (.tail _ (.tail _ (.tail _ (.tail _ (.tail _ (.tail _ hp))))))))))))
    · exact cons_ne (by omega) (cons_ne (by omega) (cons_ne (Ne.symm b1) (cons_ne (Ne.symm b2) (cons_ne (Ne.symm b3) f1))))
    · exact cons_ne (by omega) (cons_ne (by omega) (cons_ne (Ne.symm b4) (cons_ne (Ne.symm b5) (cons_ne (Ne.symm b6) f2))))
  refine joinX (X := [I, C, D]) (fro0 := fro) (ls := [l]) (s := { s0 with heap := h, toks := tt }) hA G S t1 (fun q hq => .tail _ (.tail _ (.tail _ (.tail _ (.tail _ hq))))) (fun q hq => ?_) (fun a ha => ?_) hd ?_ (fun k hk => by rw [List.mem_singleton.mp hk]; exact hl) ?_ fun h' tk tks p1' cod S' t' c' => ?_
  · have := offm q hq
    simp only [List.mem_cons, List.mem_nil_iff, or_false, not_or]
    exact this
  · rcases List.mem_cons.mp ha with rfl | ha
    · exact ⟨oI, .tail _ (.tail _ (.head _))⟩
    rcases List.mem_cons.mp ha with rfl | ha
    · exact ⟨oC, .tail _ (.tail _ (.tail _ (.head _)))⟩
    rw [List.mem_singleton.mp ha]
    exact ⟨_, .tail _ (.tail _ (.tail _ (.tail _ (.head _))))⟩
  · refine ⟨l2, [.ref l1], 0, rfl, .head _, .cons ⟨l1, ws, c, rfl, .tail _ (.head _), hws.mono fun _ _ y => y.mono fun _ _ z => .tail _ (.tail _ (.tail _ (.tail _ (.tail _ z))))⟩ .nil⟩
  · show szL l + 2 + 0 ≤ 5000; omega
  · refine LCg.CompEnd.intro S'.F S'.N ((82, tabObj p1') :: (65, tabObj p2) :: (cod ++ fro)) ?_ ?_ (.inr ⟨_, .tail _ (.tail _ (List.mem_append_right _ hlo)), rfl, _, rfl⟩) ⟨p1', cod, tk, rfl, rfl, t', ?_, ?_⟩
    · have r : ∀ q, q ∈ (l2, W.listOf #[.ref l1] 0) :: (l1, W.listOf ws.toArray.toList.toArray c) :: (I, oI) :: (C, oC) :: (D, LCg.lst ys) :: fro → q ∈ (82, tabObj p1') :: (65, tabObj p2) :: (cod ++ ((l2, W.listOf #[.ref l1] 0) :: (l1, W.listOf ws.toArray.toList.toArray c) :: (I, oI) :: (C, oC) :: (D, LCg.lst ys) :: fro)) := fun q hq => .tail _ (.tail _ (List.mem_append_right _ hq))
      exact sub_cons (r _ (.tail _ (.tail _ (.head _)))) (sub_cons (r _ (.tail _ (.tail _ (.tail _ (.head _))))) (sub_cons (r _ (.tail _ (.tail _ (.tail _ (.tail _ (.head _)))))) (sub_cons (.head _) (sub_cons (.tail _ (.head _)) (sub_app (fun p hp => .tail _ (.tail _ (List.mem_append_left _ hp))) fun p hp => r _ (.tail _ (.tail _ (.tail _ (.tail _ (.tail _ hp))))))))))
    · refine ⟨⟨b1, b2, b3⟩, ⟨b4, b5, b6⟩, LCg.Off3.of fun p hp => ?_⟩
      rcases List.mem_append.mp hp with hp | hp
      · have := c' p hp
        simp only [List.mem_cons, List.mem_nil_iff, or_false, not_or] at this
        exact this
      · exact offm p hp
    · exact app_ne (fun q hq => S'.f1 q (List.mem_append_left _ hq)) f1
    · exact app_ne (fun q hq => S'.f2 q (List.mem_append_left _ hq)) f2
end
local macro_rules | `(tactic| walk_at "call type:list") => `(tactic| (k_here; (with_reducible show wpAny _ _ (call (Value.type _) [Value.ref _]) _ _ _); k_dflt (refine' kup_listOf ?F ?N ?b (Eq.refl _) ?_ ?z; (case F => k_asm); (case N => k_asm); (case b => k_mem); (case z => (rw [sizeLine_eq]; simp; omega))); intro D' c' h' F' N' l1; (try k_lt l1); (try k_sweep)))

theorem lawT : PySem.Challenge.rw_dn0026_01.Holds := hd (by w_strict (
  k_go0
  rename Top _ _ _ _ _ (ghostOf _ _) => T₀
  rename Frag.In _ (ghostOf _ _) => X₀
  rename IntsAre _ _ => hI
  rename (¬ _ < _) => hn
  rename News _ _ _ _ => N₀
  rename Fr _ _ _ _ => F₀
  rename Heap.IsList (ghostOf _ _) _ _ => hL
  have hn63 : _ ≤ 63 := Int.ofNat_le.mp (Int.not_lt.mp hn)
  have G : Gd _ _ _ _ _ _ _ := ⟨X₀, T₀⟩
  repeat' (walk_at "my_wk")
  refine listsL rfl G (LSt.pack0 (fro := []) F₀ N₀ ⟨trivial, fun pos c e => by cases e⟩ ⟨trivial, fun pos c e => by cases e⟩ (fun q hq => by cases hq) (fun q hq => by cases hq)) (by decide) hL hI hn63 fun h1 v1 k1 fro1 S1 sub1 hv1 => ?_
  clear F₀ N₀ sub1
  obtain ⟨hne, hok, hsz⟩ := built_facts hI hn63
  obtain ⟨lo, us, no, rfl, hlo, hus⟩ := id hv1
  obtain ⟨F1, N1, t1, t2, f1, f2⟩ := S1
  repeat' (walk_at "my_wk")
  (with_reducible rename Fr _ _ _ _ => F2)
  (with_reducible rename News _ _ _ _ => N2)
  refine listsL rfl G (LSt.pack0 F2 N2 t1 t2 f1 f2) (by decide) hL hI hn63 fun h2 v2 k2 fro2 S2 sub2 hv2 => ?_
  clear F2 N2 t1 t2 f1 f2
  replace hlo := sub2 _ hlo
  replace hv1 := hv1.mono fun _ _ z => sub2 _ z
  replace hus := hus.mono fun _ _ y => y.mono fun _ _ z => sub2 _ z
  clear sub2
  rename List Int => ns
  generalize (buildL ns).1 = Ls at *
  obtain ⟨F1, N1, t1, t2, f1, f2⟩ := S2
  repeat' (walk_at "my_wk")
  (with_reducible rename Fr _ _ _ _ => F2)
  (with_reducible rename News _ _ _ _ => N2)
  refine joinL rfl G (LSt.pack0 F2 N2 t1 t2 f1 f2) (by decide) hv2 hne (by omega) fun h3 k3 tk3 p1 fro3 S3 sub3 => ?_
  clear F2 N2 t1 t2 f1 f2 hv2
  replace hlo := sub3 _ hlo
  replace hv1 := hv1.mono fun _ _ z => sub3 _ z
  replace hus := hus.mono fun _ _ y => y.mono fun _ _ z => sub3 _ z
  clear sub3
  have hus1 : us.length ≤ 1008 := by have q1 := hus.length; have q2 := len_szLs Ls; omega
  have hok1 : ∀ l ∈ Ls, l ≠ [] ∧ ∀ p ∈ l, KeyOk p := fun l hl => ⟨hne l hl, fun p hp => (hok l hl p hp).1⟩
  obtain ⟨F1, N1, t1, t2, f1, f2⟩ := S3
  repeat' (walk_at "my_wk")
  (with_reducible rename Fr _ _ _ _ => F2)
  (with_reducible rename News _ _ _ _ => N2)
  refine splitL (xs := [(Ls, k3)]) rfl G (LSt.pack1 F2 N2 t1 t2 f1 f2 (by omega) (by omega)) (by decide) (.head _) (fun y hy => by rw [List.mem_singleton.mp hy]; exact hok1) (fun y hy => by rw [List.mem_singleton.mp hy]; show szLs Ls ≤ 5000; omega)
    (by have q2 := len_szLs Ls; show Ls.length + 0 ≤ 5000; omega) fun h4 v4 tk4 p2 fro4 S4 sub4 hv4 => ?_
  replace hv4 : ListsAt (inN fro4) v4 Ls := by simpa using hv4
  clear F2 N2 t1 t2 f1 f2
  replace hlo := sub4 _ (.tail _ hlo)
  replace hv1 := hv1.mono fun _ _ z => sub4 _ (.tail _ z)
  replace hus := hus.mono fun _ _ y => y.mono fun _ _ z => sub4 _ (.tail _ z)
  clear sub4
  obtain ⟨lo4, us4, no4, rfl, _, _⟩ := id hv4
  obtain ⟨F1, N1, t1, t2, f1, f2⟩ := S4
  repeat' (walk_at "my_wk")
  (with_reducible rename Fr _ _ _ _ => F2)
  (with_reducible rename News _ _ _ _ => N2)
  refine ne_lists N2 (fun q hq => .tail _ (.tail _ hq)) hv4 hv1 hok (Nat.le_of_ble_eq_true rfl) ?_
  clear hv4
  repeat' (walk_at "my_wk")
  refine LCg.ListComp_U (F₀ := F2) (by rfl) (by decide) (by rfl) (by decide) (by rfl) ?_
  refine ld F2 rfl ?_
  refine LCg.CompSrc.ledger rfl F2 N2 (.tail _ (.tail _ hlo)) (by rw [sizeLine_eq]; simp; omega) fun g' => ?_
  refine comp_rest (fro0 := fro4) (p2 := p2) (Ls := Ls) hus ?turn ?fin us.length 0 [] _ (by omega) ⟨p1, fro4, [], rfl, t1, t2, f1, f2, fun q hq => hq, rfl, rfl⟩
  case turn =>
    clear F2 N2 t1 t2 f1 f2
    intro v l I oI C oC D m₂ h tk E' p1 fro ys hl hat hC hm₂ F N off ne t1 t2 f1 f2 hs
    obtain ⟨la, ws, nw, rfl, hla, hws⟩ := hat
    have hwl : ws.length ≤ 1008 := by have q1 := hws.length; have q2 := len_szL l; have q3 := szLs_mem hl; omega
    repeat' (walk_at "my_wk")
    (with_reducible rename Fr _ _ _ _ => F2)
    (with_reducible rename News _ _ _ _ => N2)
    exact turn_join rfl (by decide) G F2 N2 off t1 t2 f1 f2 (by omega) (by omega) (by omega) (by omega) hws (hne l hl) (by have q3 := szLs_mem hl; omega) (hs _ hlo)
  case fin =>
    clear F2 N2 t1 t2 f1 f2
    refine fun ys news hc => ?_
    obtain ⟨p1', fro5, xs, rfl, t1, t2, f1, f2, sub5, rfl, hxs⟩ := hc
    intro D h5 tk5 F1 N1 off1
    obtain ⟨g1, g2, g3, g4⟩ := comp_facts hus.length hxs hok1 hsz
    replace hlo := sub5 _ hlo
    replace hv1 := hv1.mono fun _ _ z => sub5 _ z
    replace hus := hus.mono fun _ _ y => y.mono fun _ _ z => sub5 _ z
    clear sub5
    obtain ⟨o1, o2, _⟩ := off1
    repeat' (walk_at "my_wk")
    (with_reducible rename Fr _ _ _ _ => F2)
    (with_reducible rename News _ _ _ _ => N2)
    refine splitL (xs := xs) rfl G (LSt.pack1 F2 N2 t1 t2 f1 f2 (Ne.symm o1) (Ne.symm o2)) (by decide) (.head _) g1 g2 g3 fun h4 v4 tk4 p2 fro4 S4 sub4 hv4 => ?_
    rw [g4] at hv4
    clear F2 N2 t1 t2 f1 f2
    replace hlo := sub4 _ (.tail _ hlo)
    replace hv1 := hv1.mono fun _ _ z => sub4 _ (.tail _ z)
    replace hus := hus.mono fun _ _ y => y.mono fun _ _ z => sub4 _ (.tail _ z)
    clear sub4
    obtain ⟨lo4, us4, no4, rfl, _, _⟩ := id hv4
    obtain ⟨F1, N1, t1, t2, f1, f2⟩ := S4
    repeat' (walk_at "my_wk")
    (with_reducible rename Fr _ _ _ _ => F2)
    (with_reducible rename News _ _ _ _ => N2)
    refine ne_lists N2 (fun q hq => .tail _ (.tail _ hq)) hv4 hv1 hok (Nat.le_of_ble_eq_true rfl) ?_
    clear hv4
    repeat' (walk_at "my_wk")
    (with_reducible rename Fr _ _ _ _ => F2)
    (with_reducible rename News _ _ _ _ => N2)
    refine splitL (xs := [(Ls, k3), (Ls, k3)]) rfl G (LSt.pack1 F2 N2 t1 t2 f1 f2 (by omega) (by omega)) (by decide) (.head _) (fun y hy => by rcases List.mem_cons.mp hy with rfl | hy; exact hok1; rw [List.mem_singleton.mp hy]; exact hok1)
      (fun y hy => by rcases List.mem_cons.mp hy with rfl | hy; (show szLs Ls ≤ 5000; omega); rw [List.mem_singleton.mp hy]; show szLs Ls ≤ 5000; omega)
      (by have q2 := len_szLs Ls; show Ls.length + (Ls.length + 0) ≤ 5000; omega) fun h6 v6 tk6 p26 fro6 S6 sub6 hv6 => ?_
    replace hv6 : ListsAt (inN fro6) v6 (Ls ++ Ls) := by simpa using hv6
    clear F2 N2 t1 t2 f1 f2
    replace hlo := sub6 _ (.tail _ hlo)
    replace hv1 := hv1.mono fun _ _ z => sub6 _ (.tail _ z)
    replace hus := hus.mono fun _ _ y => y.mono fun _ _ z => sub6 _ (.tail _ z)
    clear sub6
    have hok2 : ∀ l ∈ Ls ++ Ls, ∀ p ∈ l, PrOk p := fun l hl => (List.mem_append.mp hl).elim (hok l) (hok l)
    obtain ⟨lo6, us6, no6, rfl, _, _⟩ := id hv6
    obtain ⟨F1, N1, t1, t2, f1, f2⟩ := S6
    repeat' (walk_at "my_wk")
    (with_reducible rename Fr _ _ _ _ => F2)
    (with_reducible rename News _ _ _ _ => N2)
    refine kmk_add_lit F2 N2 (its := us.toArray) (its2 := us.toArray) ⟨_, N2.get (.tail _ (.tail _ hlo)), rfl, no, rfl⟩ ⟨_, N2.get (.tail _ (.tail _ hlo)), rfl, no, rfl⟩ rfl ?_ (by rw [sizeLine_eq]; simp; omega)
    clear F2 N2
    intro DD h7 F2 N2 l7
    refine ne_lists N2 (fro := (DD, _) :: fro6) (sub_cons (.head _) fun q hq => .tail _ (.tail _ (.tail _ hq))) (hv6.mono fun _ _ z => .tail _ z)
      ⟨DD, us ++ us, 0, rfl, .head _, (hus.append hus).mono fun _ _ y => y.mono fun _ _ z => .tail _ z⟩ hok2 (Nat.le_of_ble_eq_true rfl) ?_
    replace N2 := News.re (news' := (82, tabObj p1') :: (65, tabObj p26) :: fro6) N2 fun q hq => .tail _ hq
    clear l7 hv6
    by_cases hue : us = []
    · have hLe : Ls = [] := by
        have q := hus.length
        rw [hue] at q
        exact List.eq_nil_of_length_eq_zero q.symm
      have hWe : mkS (wholeL Ls) = Str.ofString "" := by rw [hLe]; decide +kernel
      rw [hWe] at F2
      repeat' (walk_at "my_wk")
      (with_reducible rename Fr _ _ _ _ => F3)
      (with_reducible rename News _ _ _ _ => N3)
      refine ne_nil N3 (fun q hq => .tail _ (.tail _ (.tail _ hq))) hv1 (.head _) hok (Nat.le_of_ble_eq_true rfl) ?_
      have e0 : (!Ls.isEmpty) = false := by rw [hLe]; rfl
      rw [e0]
      repeat' (walk_at "my_wk")
      have e1 : (Str.ofString "" == Str.ofString "") = true := by decide +kernel
      rw [e1]
      wrow_close
    · have hLe : Ls ≠ [] := by
        rintro rfl
        exact hue (List.eq_nil_of_length_eq_zero hus.length)
      have hWl : (mkS (wholeL Ls)).length ≤ 1008 := by
        rw [mkS_len]
        have q1 := wholeL_length Ls
        omega
      have eW := two_text hLe
      generalize hW : mkS (wholeL Ls) = W at *
      repeat' (walk_at "my_wk")
      (with_reducible rename Fr _ _ _ _ => F3)
      (with_reducible rename News _ _ _ _ => N3)
      rw [eW] at N3
      refine splitL (xs := [(Ls ++ Ls, _)]) rfl G (LSt.pack1 F3 N3 t1 t2 f1 f2 (by omega) (by omega)) (by decide) (.head _) (fun y hy => by rw [List.mem_singleton.mp hy]; exact fun l hl => (List.mem_append.mp hl).elim (hok1 l) (hok1 l))
        (fun y hy => by rw [List.mem_singleton.mp hy]; show szLs (Ls ++ Ls) ≤ 5000; rw [szLs_app]; omega)
        (by have q2 := len_szLs Ls; show (Ls ++ Ls).length + 0 ≤ 5000; rw [List.length_append]; omega) fun h8 v8 tk8 p28 fro8 S8 sub8 hv8 => ?_
      replace hv8 : ListsAt (inN fro8) v8 (Ls ++ Ls) := by simpa using hv8
      clear F3 N3 t1 t2 f1 f2
      replace hlo := sub8 _ (.tail _ hlo)
      replace hv1 := hv1.mono fun _ _ z => sub8 _ (.tail _ z)
      replace hus := hus.mono fun _ _ y => y.mono fun _ _ z => sub8 _ (.tail _ z)
      clear sub8
      obtain ⟨lo8, us8, no8, rfl, _, _⟩ := id hv8
      obtain ⟨F1, N1, t1, t2, f1, f2⟩ := S8
      repeat' (walk_at "my_wk")
      (with_reducible rename Fr _ _ _ _ => F4)
      (with_reducible rename News _ _ _ _ => N4)
      refine kmk_add_lit F4 N4 (its := us.toArray) (its2 := us.toArray) ⟨_, N4.get (.tail _ (.tail _ hlo)), rfl, no, rfl⟩ ⟨_, N4.get (.tail _ (.tail _ hlo)), rfl, no, rfl⟩ rfl ?_ (by rw [sizeLine_eq]; simp; omega)
      clear F4 N4
      intro DD h9 F4 N4 l9
      refine ne_lists N4 (fro := (DD, _) :: fro8) (sub_cons (.head _) fun q hq => .tail _ (.tail _ (.tail _ hq))) (hv8.mono fun _ _ z => .tail _ z)
        ⟨DD, us ++ us, 0, rfl, .head _, (hus.append hus).mono fun _ _ y => y.mono fun _ _ z => .tail _ z⟩ hok2 (Nat.le_of_ble_eq_true rfl) ?_
      replace N4 := News.re (news' := (82, tabObj p1') :: (65, tabObj p28) :: fro8) N4 fun q hq => .tail _ hq
      clear l9 hv8
      repeat' (walk_at "my_wk")
      (with_reducible rename Fr _ _ _ _ => F5)
      (with_reducible rename News _ _ _ _ => N5)
      refine ne_nil N5 (fun q hq => .tail _ (.tail _ (.tail _ hq))) hv1 (.head _) hok (Nat.le_of_ble_eq_true rfl) ?_
      have e0 : (!Ls.isEmpty) = true := by
        cases hq : Ls with
        | nil => exact absurd hq hLe
        | cons a b => rfl
      rw [e0]
      repeat' (walk_at "my_wk")
      wrow_close
  ))
end Mine
end

theorem PySem.Challenge.cw_dn0026_01_holds : PySem.Challenge.rw_dn0026_01.Holds :=
  Mine.lawT
