import PyProof.Rows.All
import PySem.Builtin.Sre.Common
import PyProof.ListNew
import PyProof.ListCopy
import PyProof.ListIndexNeg
import PyProof.Rows.DictMade
import PyProof.Rows.AttrNodeAny
import PyProof.Rows.StrSplitMax
import PyProof.Rows.StrPadFill
import PyProof.Rows.RuleDivmod
import KE.IntTextText
import KE.KUnpack
import KE.KIntText
import KE.KIsAll
import KE.RegKIsAll
import KE.KIsBytes
import KE.KOpsOwn
import KE.KPar
import KE.KTypeName
import KE.KTypeOf
import KE.KxDecode
import KE.KxField
import Wide.FinOn
import OpenK.AllK
import Wide.All
import Lean
import PySem.Challenge.RW_fe0239_01
set_option Elab.async false
section
open PySem PySem.Sre
set_option Elab.async false
set_option linter.unusedVariables false
set_option linter.unusedSimpArgs false
namespace Mine

structure V where
  pc : Nat
  pos : Nat
  handed : Nat
  marks : Array (Option Nat)
  lm : Int
  li : Int
  loops : Array Loop
  inner : Option Nat
  F : List Sre.Frame
  w : Nat

def mkM (C T : Array Nat) (v : V) (ans : Option Bool) (seen : Seen) : M :=
  { code := C, text := T, lim := T.size, start := 0, lastStart := 0, wholeText := true, mustAdvance := false, pc := v.pc, pos := v.pos, handed := v.handed, outermost := true, marks := v.marks, lastmark := v.lm, lastindex := v.li,
    loops := v.loops, inner := v.inner, frames := v.F, weight := v.w, answer := ans, seen, outcome := none }

theorem runFor_succ (n : Nat) (m : M) : M.runFor (n + 1) m = if m.outcome.isSome then m else M.runFor n m.step := rfl
theorem runFor_halt (n : Nat) (m : M) (h : m.outcome.isSome = true) : M.runFor n m = m := by
  cases n with
  | zero => rfl
  | succ n => rw [runFor_succ, if_pos h]
theorem runFor_add (a b : Nat) (m : M) : M.runFor (a + b) m = M.runFor b (M.runFor a m) := by
  induction a generalizing m with
  | zero => rw [Nat.zero_add]; rfl
  | succ a ih =>
    rw [Nat.succ_add, runFor_succ, runFor_succ]
    by_cases h : m.outcome.isSome = true
    · rw [if_pos h, if_pos h, runFor_halt _ _ h]
    · rw [if_neg h, if_neg h, ih]
def Go1 (C T : Array Nat) (k : Nat) (v : V) (a : Option Bool) (v' : V) (a' : Option Bool) : Prop :=
  ∀ seen, ∃ seen' n, n ≤ k ∧ M.runFor n (mkM C T v a seen) = mkM C T v' a' seen'
theorem Go1.refl {C T : Array Nat} {v : V} {a : Option Bool} : Go1 C T 0 v a v a := fun seen => ⟨seen, 0, Nat.le_refl _, rfl⟩
theorem Go1.trans {C T : Array Nat} {j k : Nat} {v v₁ v₂ : V} {a a₁ a₂ : Option Bool} (x : Go1 C T j v a v₁ a₁) (y : Go1 C T k v₁ a₁ v₂ a₂) : Go1 C T (j + k) v a v₂ a₂ := fun seen => by
  obtain ⟨s1, n1, h1, e1⟩ := x seen
  obtain ⟨s2, n2, h2, e2⟩ := y s1
  exact ⟨s2, n1 + n2, by omega, by rw [runFor_add, e1, e2]⟩
theorem Go1.step {C T : Array Nat} {v v' : V} {a a' : Option Bool} (h : ∀ seen, ∃ seen', (mkM C T v a seen).step = mkM C T v' a' seen') : Go1 C T 1 v a v' a' := fun seen => by
  obtain ⟨s, e⟩ := h seen
  exact ⟨s, 1, Nat.le_refl _, e⟩
theorem Go1.mono {C T : Array Nat} {j k : Nat} {v v' : V} {a a' : Option Bool} (x : Go1 C T j v a v' a') (h : j ≤ k) : Go1 C T k v a v' a' := fun seen => by
  obtain ⟨s1, n1, h1, e1⟩ := x seen
  exact ⟨s1, n1, by omega, e1⟩

section
variable {C T : Array Nat} {v : V}
theorem lit_go {c : Nat} (hp : v.pc < C.size) (h0 : C.getD v.pc 0 = 16) (h1 : C.getD (v.pc + 1) 0 = c) (hl : v.pos < T.size) (ht : T.getD v.pos 0 = c) : Go1 C T 1 v none { v with pc := v.pc + 2, pos := v.pos + 1 } none := .step fun seen => by
  refine ⟨seen.add 16, ?_⟩
  simp only [M.step, mkM, Option.isSome_none, Bool.false_eq_true, if_false, hp, if_true, M.exec, M.word, Nat.add_zero, h0]
  simp only [show ops[16]? = some Op.LITERAL from rfl, accepts, h0, h1, ht, itemWidth]
  rw [if_neg (by omega)]
  simp
theorem lit_no {c : Nat} (hp : v.pc < C.size) (h0 : C.getD v.pc 0 = 16) (h1 : C.getD (v.pc + 1) 0 = c) (hl : v.pos < T.size → T.getD v.pos 0 ≠ c) : Go1 C T 1 v none v (some false) := .step fun seen => by
  refine ⟨seen.add 16, ?_⟩
  simp only [M.step, mkM, Option.isSome_none, Bool.false_eq_true, if_false, hp, if_true, M.exec, M.word, Nat.add_zero, h0]
  simp only [show ops[16]? = some Op.LITERAL from rfl, accepts, h0, h1]
  by_cases q : v.pos ≥ T.size
  · rw [if_pos q]; rfl
  · rw [if_neg q]
    have : (T.getD v.pos 0 == c) = false := by simpa using hl (by omega)
    simp only [this]
    rfl
def marked (v : V) (i : Nat) : V := { v with
  marks := (if (i : Int) ≤ v.lm + 1 then v.marks else (List.range i).foldl (fun (a : Array (Option Nat)) (j : Nat) => if (j : Int) > v.lm then a.setIfInBounds j none else a) v.marks).setIfInBounds i (some v.pos),
  lm := max v.lm i, li := if i % 2 == 1 then (i / 2 + 1 : Nat) else v.li, pc := v.pc + 2 }
theorem mark_go {i : Nat} (hp : v.pc < C.size) (h0 : C.getD v.pc 0 = 17) (h1 : C.getD (v.pc + 1) 0 = i) : Go1 C T 1 v none (marked v i) none := .step fun seen => by
  refine ⟨seen.add 17, ?_⟩
  simp only [M.step, mkM, Option.isSome_none, Bool.false_eq_true, if_false, hp, if_true, M.exec, M.word, Nat.add_zero, h0]
  simp only [show ops[17]? = some Op.MARK from rfl, h1]
  rfl
theorem fold_size (l : List Nat) (f : Nat → Prop) [DecidablePred f] (a : Array (Option Nat)) : (l.foldl (fun (a : Array (Option Nat)) (j : Nat) => if f j then a.setIfInBounds j none else a) a).size = a.size := by
  induction l generalizing a with
  | nil => rfl
  | cons x r ih => rw [List.foldl_cons, ih]; split <;> simp
theorem marked_size (v : V) (i : Nat) : (marked v i).marks.size = v.marks.size := by
  unfold marked
  simp only [Array.size_setIfInBounds]
  split
  · rfl
  · exact fold_size _ _ _

def digN (T : Array Nat) : (k p : Nat) → Nat
  | 0, _ => 0
  | k + 1, p => if p < T.size ∧ Unicode.isDecimal (T.getD p 0) = true then digN T k (p + 1) + 1 else 0
structure DigAt (C : Array Nat) (P k : Nat) : Prop where
  lt : P + 10 < C.size
  c0 : C.getD P 0 = 24
  c1 : C.getD (P + 1) 0 = 9
  c2 : C.getD (P + 2) 0 = 1
  c3 : C.getD (P + 3) 0 = k
  c4 : C.getD (P + 4) 0 = 13
  c6 : C.getD (P + 6) 0 = 8
  c7 : C.getD (P + 7) 0 = 10
  c8 : C.getD (P + 8) 0 = 0
theorem accepts_dig {P k : Nat} (D : DigAt C P k) (c : Nat) (seen : Seen) : ∃ seen', accepts C (P + 4) c seen = .ok (Unicode.isDecimal c, seen') := by
  have hs : ∃ z, C.size = z + 2 := ⟨C.size - 2, by have := D.lt; omega⟩
  obtain ⟨z, hz⟩ := hs
  unfold accepts
  simp only [D.c4, show ops[13]? = some Op.IN from rfl, hz]
  unfold inSet
  simp only [Nat.add_assoc, Nat.reduceAdd, Nat.add_zero, D.c6, D.c7, show ops[8]? = some Op.CATEGORY from rfl]
  have cat : category 10 c = .ok (Unicode.isDecimal c) := by
    unfold category
    simp [Except.map]
  rw [cat]
  simp only [bind, Except.bind]
  cases Unicode.isDecimal c with
  | true => exact ⟨_, rfl⟩
  | false =>
    simp only [Bool.false_eq_true, if_false]
    unfold inSet
    simp only [Nat.add_assoc, Nat.reduceAdd, Nat.add_zero, D.c8, show ops[0]? = some Op.FAILURE from rfl]
    exact ⟨_, rfl⟩
theorem run_dig {P k : Nat} (D : DigAt C P k) : ∀ (j p found : Nat) (seen : Seen), ∃ seen', Sre.run C T (P + 4) (min j (T.size - p)) p found seen = .ok (found + digN T j p, seen')
  | 0, p, found, seen => ⟨seen, by simp [Sre.run, digN]⟩
  | j + 1, p, found, seen => by
    by_cases hp : p < T.size
    · rw [show min (j + 1) (T.size - p) = min j (T.size - (p + 1)) + 1 by omega]
      unfold Sre.run digN
      obtain ⟨s1, e1⟩ := accepts_dig D (T.getD p 0) seen
      rw [e1]
      simp only [bind, Except.bind]
      cases q : Unicode.isDecimal (T.getD p 0) with
      | true =>
        obtain ⟨s2, e2⟩ := run_dig D j (p + 1) (found + 1) s1
        refine ⟨s2, ?_⟩
        simp only [if_true, e2, hp, true_and]
        congr 2
        omega
      | false => exact ⟨s1, by simp [pure, Except.pure]⟩
    · rw [show min (j + 1) (T.size - p) = 0 by omega]
      exact ⟨seen, by simp [Sre.run, digN, hp]⟩
def keepV (v : V) (whole : Bool) : Sre.Kept := { lastmark := v.lm, lastindex := v.li, whole, marks := if whole then v.marks.extract 0 (v.lm + 1).toNat else #[] }
def backFrame (v : V) (pos count : Nat) (kept : Sre.Kept) : Sre.Frame := { wait := .giveBack, pc := v.pc, pos, outermost := true, count := count, kept }
theorem dig_no {k : Nat} (D : DigAt C v.pc k) (h : digN T k v.pos = 0) : Go1 C T 1 v none v (some false) := .step fun seen => by
  have hp : v.pc < C.size := by have := D.lt; omega
  by_cases q : v.pos < T.size
  · obtain ⟨s1, e1⟩ := run_dig (T := T) D k v.pos 0 ((seen.add 24).add 13)
    refine ⟨s1, ?_⟩
    simp only [M.step, mkM, Option.isSome_none, Bool.false_eq_true, if_false, hp, if_true, M.exec, M.word, Nat.add_zero, D.c0]
    simp only [show ops[24]? = some Op.REPEAT_ONE from rfl, D.c2, D.c3, D.c4, Bool.false_eq_true, if_false]
    rw [if_neg (by omega)]
    rw [show ((T.size : Int) - (v.pos : Int)).toNat = T.size - v.pos by omega, e1, h]
    rfl
  · refine ⟨seen.add 24, ?_⟩
    simp only [M.step, mkM, Option.isSome_none, Bool.false_eq_true, if_false, hp, if_true, M.exec, M.word, Nat.add_zero, D.c0]
    simp only [show ops[24]? = some Op.REPEAT_ONE from rfl, D.c2, D.c3, D.c4, Bool.false_eq_true, if_false]
    rw [if_pos (by omega)]
    rfl
theorem dig_go {k : Nat} (D : DigAt C v.pc k) (h : 1 ≤ digN T k v.pos) (hw : v.w ≤ 100000) (hm : v.marks.size ≤ 100) :
    Go1 C T 1 v none { v with F := backFrame v (v.pos + digN T k v.pos) (digN T k v.pos) (keepV v v.inner.isSome) :: v.F, w := v.w + 1 + (keepV v v.inner.isSome).marks.size, pc := v.pc + 10, pos := v.pos + digN T k v.pos, handed := v.pos + digN T k v.pos } none := .step fun seen => by
  have hp : v.pc < C.size := by have := D.lt; omega
  have q : v.pos < T.size := by
    by_cases q : v.pos < T.size
    · exact q
    · exfalso
      cases k with
      | zero => simp [digN] at h
      | succ k => simp [digN, q] at h
  obtain ⟨s1, e1⟩ := run_dig (T := T) D k v.pos 0 ((seen.add 24).add 13)
  refine ⟨s1, ?_⟩
  simp only [M.step, mkM, Option.isSome_none, Bool.false_eq_true, if_false, hp, if_true, M.exec, M.word, Nat.add_zero, D.c0]
  simp only [show ops[24]? = some Op.REPEAT_ONE from rfl, D.c2, D.c3, D.c4, Bool.false_eq_true, if_false]
  rw [if_neg (by omega)]
  rw [show ((T.size : Int) - (v.pos : Int)).toNat = T.size - v.pos by omega, e1]
  simp only [Nat.zero_add]
  rw [if_neg (by omega)]
  unfold M.afterRun M.attempt
  have hk : (keepV v v.inner.isSome).marks.size ≤ 100 := by
    unfold keepV
    simp only
    split
    · simp; omega
    · simp
  rw [if_neg (by show ¬ (v.w + 1 + (keepV v v.inner.isSome).marks.size > 16777216); omega)]
  simp only [M.word, D.c1]
  rfl
end
end Mine
end

section
open PySem PySem.Sre
set_option Elab.async false
set_option linter.unusedVariables false
set_option linter.unusedSimpArgs false
namespace Mine

def popV (v : V) (f : Sre.Frame) (r : List Sre.Frame) : V := { v with F := r, w := v.w - (1 + f.kept.marks.size), pc := f.pc, pos := f.pos }
def putV (v : V) (k : Sre.Kept) : V := { v with lm := k.lastmark, li := k.lastindex, marks := if k.whole then k.marks ++ v.marks.extract k.marks.size v.marks.size else v.marks }
theorem putV_size (v : V) (k : Sre.Kept) (h : k.marks.size ≤ v.marks.size) : (putV v k).marks.size = v.marks.size := by
  unfold putV
  simp only
  split
  · simp only [Array.size_append, Array.size_extract]; omega
  · rfl
section
variable {C T : Array Nat} {v : V} {f : Sre.Frame} {r : List Sre.Frame}
theorem step_ans {b : Bool} {seen : Seen} (hF : v.F = f :: r) (ho : f.outermost = true) : (mkM C T v (some b) seen).step = M.resume (mkM C T (popV v f r) none seen) f b := by
  simp only [M.step, mkM, Option.isSome_none, Bool.false_eq_true, if_false, hF, popV, ho]
theorem back_yes (hF : v.F = f :: r) (ho : f.outermost = true) (hw : f.wait = .giveBack) : Go1 C T 1 v (some true) (popV v f r) (some true) := .step fun seen => by
  refine ⟨seen, ?_⟩
  rw [step_ans hF ho]
  simp only [M.resume, hw, if_true]
  rfl
theorem back_end (hF : v.F = f :: r) (ho : f.outermost = true) (hw : f.wait = .giveBack) (h2 : C.getD (f.pc + 2) 0 = 1) (hc : f.count ≤ 1) : Go1 C T 1 v (some false) (putV (popV v f r) f.kept) (some false) := .step fun seen => by
  refine ⟨seen, ?_⟩
  rw [step_ans hF ho]
  simp only [M.resume, hw, Bool.false_eq_true, if_false]
  rw [if_pos (show f.count - 1 < (M.word (mkM C T (popV v f r) none seen) 2 : Nat) from by
    show f.count - 1 < ((C.getD (f.pc + 2) 0 : Nat) : Int)
    rw [h2]; omega)]
  rfl
def backV (v : V) (f : Sre.Frame) (r : List Sre.Frame) (p c : Nat) : V := { putV (popV v f r) f.kept with F := { wait := .giveBack, pc := f.pc, pos := p, outermost := true, count := ((c + 1 : Nat) : Int), kept := f.kept } :: r, w := v.w - (1 + f.kept.marks.size) + 1 + f.kept.marks.size, pc := f.pc + 10, pos := p, handed := p }
theorem back_more {p c : Nat} (hF : v.F = f :: r) (hf : f = { wait := .giveBack, pc := f.pc, pos := p + 1, outermost := true, count := ((c + 2 : Nat) : Int), kept := f.kept }) (h1 : C.getD (f.pc + 1) 0 = 9) (h2 : C.getD (f.pc + 2) 0 = 1) (hw : v.w ≤ 1000000) (hk : f.kept.marks.size ≤ 100) :
    Go1 C T 1 v (some false) (backV v f r p c) none := .step fun seen => by
  refine ⟨seen, ?_⟩
  have hwt : f.wait = .giveBack := by rw [hf]
  have hct : f.count = ((c + 2 : Nat) : Int) := by rw [hf]
  have hps : f.pos = p + 1 := by rw [hf]
  rw [step_ans hF (by rw [hf])]
  simp only [M.resume, hwt, Bool.false_eq_true, if_false]
  rw [if_neg (show ¬ (f.count - 1 < (M.word (mkM C T (popV v f r) none seen) 2 : Nat)) from by
    show ¬ (f.count - 1 < ((C.getD (f.pc + 2) 0 : Nat) : Int))
    rw [h2, hct]; omega)]
  have c1 : ((c + 2 : Nat) : Int) - 1 = ((c + 1 : Nat) : Int) := by omega
  have q : ∀ (a b : M), (if v.w - (1 + f.kept.marks.size) + 1 + f.kept.marks.size > 16777216 then a else b) = b := fun a b => if_neg (by omega)
  show (if v.w - (1 + f.kept.marks.size) + 1 + f.kept.marks.size > 16777216 then _ else _) = _
  rw [q]
  simp only [mkM, M.putBack, backV, popV, putV, M.frame, M.word, h1, hct, hps, Nat.add_sub_cancel, c1]

def Fail (C T : Array Nat) (k : Nat) (v : V) : Prop := ∃ v', Go1 C T k v none v' (some false) ∧ v'.F = v.F ∧ v'.w = v.w ∧ v'.loops = v.loops ∧ v'.inner = v.inner ∧ v'.marks.size = v.marks.size
theorem Fail.of_go {j k : Nat} {v₁ : V} (x : Go1 C T j v none v₁ none) (y : Fail C T k v₁) (h1 : v₁.F = v.F) (h2 : v₁.w = v.w) (h3 : v₁.loops = v.loops) (h4 : v₁.inner = v.inner) (h5 : v₁.marks.size = v.marks.size) : Fail C T (j + k) v := by
  obtain ⟨v', g, a, b, c, d, e⟩ := y
  exact ⟨v', x.trans g, a.trans h1, b.trans h2, c.trans h3, d.trans h4, e.trans h5⟩
theorem Fail.mono {j k : Nat} (x : Fail C T j v) (h : j ≤ k) : Fail C T k v := let ⟨v', g, r⟩ := x; ⟨v', g.mono h, r⟩
theorem Fail.now (x : Go1 C T 1 v none v (some false)) : Fail C T 1 v := ⟨v, x, rfl, rfl, rfl, rfl, rfl⟩

theorem dig_back {K : Nat} : ∀ (c : Nat) (v : V) (f : Sre.Frame) (r : List Sre.Frame) (p : Nat), v.F = f :: r → f = { wait := .giveBack, pc := f.pc, pos := p + c, outermost := true, count := ((c + 1 : Nat) : Int), kept := f.kept } →
    C.getD (f.pc + 1) 0 = 9 → C.getD (f.pc + 2) 0 = 1 → v.w ≤ 1000000 → f.kept.marks.size ≤ v.marks.size → v.marks.size ≤ 100 → 1 + f.kept.marks.size ≤ v.w →
    (∀ v' j, j < c → v'.pc = f.pc + 10 → v'.pos = p + j → v'.w ≤ v.w → v'.marks.size = v.marks.size → v'.loops = v.loops → v'.inner = v.inner → Fail C T K v') →
    ∃ v', Go1 C T ((K + 1) * c + 1) v (some false) v' (some false) ∧ v'.F = r ∧ v'.w = v.w - (1 + f.kept.marks.size) ∧ v'.loops = v.loops ∧ v'.inner = v.inner ∧ v'.marks.size = v.marks.size
  | 0, v, f, r, p, hF, hf, h1, h2, hw, hk, hm, hwk, H => by
    have hwt : f.wait = .giveBack := by rw [hf]
    have hct : f.count ≤ 1 := by rw [hf]; simp
    exact ⟨_, (back_end hF (by rw [hf]) hwt h2 hct).mono (by omega), rfl, rfl, rfl, rfl, putV_size _ _ hk⟩
  | c + 1, v, f, r, p, hF, hf, h1, h2, hw, hk, hm, hwk, H => by
    have g := back_more (C := C) (T := T) (p := p + c) (c := c) hF (by rw [hf]; rfl) h1 h2 (by omega) (by omega)
    have sz : (backV v f r (p + c) c).marks.size = v.marks.size := putV_size (popV v f r) f.kept hk
    have wz : (backV v f r (p + c) c).w = v.w := by show v.w - (1 + f.kept.marks.size) + 1 + f.kept.marks.size = _; omega
    obtain ⟨v₂, g₂, a1, a2, a3, a4, a5⟩ := H (backV v f r (p + c) c) c (by omega) rfl rfl (by omega) sz rfl rfl
    have ih := dig_back (K := K) c v₂ { wait := .giveBack, pc := f.pc, pos := p + c, outermost := true, count := ((c + 1 : Nat) : Int), kept := f.kept } r p a1 rfl h1 h2 (by omega)
      (by rw [a5, sz]; exact hk) (by rw [a5, sz]; exact hm) (by rw [a2, wz]; exact hwk)
      (fun v' j hj e1 e2 e3 e4 e5 e6 => H v' j (by omega) e1 e2 (by omega) (by rw [e4, a5]; exact sz) (by rw [e5, a3]; rfl) (by rw [e6, a4]; rfl))
    obtain ⟨v₃, g₃, b1, b2, b3, b4, b5⟩ := ih
    refine ⟨v₃, ((g.trans g₂).trans g₃).mono ?_, b1, ?_, b3.trans a3, b4.trans a4, b5.trans (a5.trans sz)⟩
    · rw [Nat.mul_add, Nat.mul_one]; omega
    · rw [b2, a2, wz]

theorem keepV_size (v : V) (b : Bool) : (keepV v b).marks.size ≤ v.marks.size := by
  unfold keepV
  simp only
  split
  · simp; omega
  · simp

def digV (k : Nat) (T : Array Nat) (v : V) : V := { v with F := backFrame v (v.pos + digN T k v.pos) (digN T k v.pos) (keepV v v.inner.isSome) :: v.F, w := v.w + 1 + (keepV v v.inner.isSome).marks.size, pc := v.pc + 10, pos := v.pos + digN T k v.pos, handed := v.pos + digN T k v.pos }
theorem dig_fail {k K K' : Nat} (D : DigAt C v.pc k) (hw : v.w ≤ 100000) (hm : v.marks.size ≤ 100)
    (H : ∀ v' j, 1 ≤ j → j < digN T k v.pos → v'.pc = v.pc + 10 → v'.pos = v.pos + j → v'.w ≤ v.w + 101 → v'.marks.size = v.marks.size → v'.loops = v.loops → v'.inner = v.inner → Fail C T K v')
    (H' : 1 ≤ digN T k v.pos → Fail C T K' (digV k T v)) : Fail C T (1 + K' + ((K + 1) * k + 1)) v := by
  cases hn : digN T k v.pos with
  | zero => exact (Fail.now (dig_no D hn)).mono (by omega)
  | succ c =>
    have g : Go1 C T 1 v none (digV k T v) none := dig_go D (by omega) hw hm
    have hks := keepV_size v v.inner.isSome
    obtain ⟨v₂, g₂, a1, a2, a3, a4, a5⟩ := H' (by omega)
    have e2 : v₂.w = v.w + 1 + (keepV v v.inner.isSome).marks.size := a2
    have hc : (backFrame v (v.pos + digN T k v.pos) (digN T k v.pos) (keepV v v.inner.isSome)) = { wait := .giveBack, pc := v.pc, pos := v.pos + 1 + c, outermost := true, count := ((c + 1 : Nat) : Int), kept := keepV v v.inner.isSome } := by
      unfold backFrame
      rw [hn, show v.pos + (c + 1) = v.pos + 1 + c by omega]
    have a1' : v₂.F = { wait := .giveBack, pc := v.pc, pos := v.pos + 1 + c, outermost := true, count := ((c + 1 : Nat) : Int), kept := keepV v v.inner.isSome } :: v.F := by
      rw [a1]; show _ :: v.F = _; rw [hc]
    obtain ⟨v₃, g₃, b1, b2, b3, b4, b5⟩ := dig_back (C := C) (T := T) (K := K) c v₂ _ v.F (v.pos + 1) a1' rfl D.c1 D.c2 (by omega) (by rw [a5]; exact hks) (by rw [a5]; exact hm) (by rw [e2]; show 1 + (keepV v v.inner.isSome).marks.size ≤ _; omega)
      (fun v' j hj e1 e2' e3 e4 e5 e6 => H v' (1 + j) (by omega) (by omega) e1 (by omega) (by omega) (by rw [e4, a5]; rfl) (by rw [e5, a3]; rfl) (by rw [e6, a4]; rfl))
    refine ⟨v₃, ((g.trans g₂).trans g₃).mono ?_, b1, ?_, b3.trans a3, b4.trans a4, b5.trans a5⟩
    · have hk : c ≤ k := by
        have : ∀ (k p : Nat), digN T k p ≤ k := fun k => by
          induction k with
          | zero => intro p; simp [digN]
          | succ k ih => intro p; unfold digN; split; have := ih (p + 1); omega; omega
        have := this k v.pos
        omega
      have := Nat.mul_le_mul_left (K + 1) hk
      omega
    · rw [b2, e2]
      show v.w + 1 + (keepV v v.inner.isSome).marks.size - (1 + (keepV v v.inner.isSome).marks.size) = _
      omega
end
end Mine
end

section
open PySem PySem.Sre
set_option Elab.async false
set_option linter.unusedVariables false
set_option linter.unusedSimpArgs false
namespace Mine

def eff (v : V) (j : Nat) : Option Nat := if (j : Int) ≤ v.lm then v.marks.getD j none else none
abbrev Ef := Nat → Option Nat
def upd (e : Ef) (i p : Nat) : Ef := fun j => if j = i then some p else e j
def Win (C T : Array Nat) (k : Nat) (v : V) (e : Ef) : Prop := ∃ v', Go1 C T k v none v' (some true) ∧ v'.F = v.F ∧ eff v' = e ∧ v'.handed = T.size
section
variable {C T : Array Nat} {v : V} {f : Sre.Frame} {r : List Sre.Frame} {e : Ef}
theorem Win.of_go {j k : Nat} {v₁ : V} (x : Go1 C T j v none v₁ none) (y : Win C T k v₁ e) (h1 : v₁.F = v.F) : Win C T (j + k) v e := by
  obtain ⟨v', g, a, b, c⟩ := y
  exact ⟨v', x.trans g, a.trans h1, b, c⟩
theorem Win.mono {j k : Nat} (x : Win C T j v e) (h : j ≤ k) : Win C T k v e := let ⟨v', g, r⟩ := x; ⟨v', g.mono h, r⟩
theorem succ_yes (hp : v.pc < C.size) (h0 : C.getD v.pc 0 = 1) (hq : v.pos = T.size) : Go1 C T 1 v none { v with handed := v.pos } (some true) := .step fun seen => by
  refine ⟨seen.add 1, ?_⟩
  simp only [M.step, mkM, Option.isSome_none, Bool.false_eq_true, if_false, hp, if_true, M.exec, M.word, Nat.add_zero, h0]
  simp only [show ops[1]? = some Op.SUCCESS from rfl, hq]
  simp [M.say]
theorem succ_no (hp : v.pc < C.size) (h0 : C.getD v.pc 0 = 1) (hq : v.pos ≠ T.size) : Go1 C T 1 v none v (some false) := .step fun seen => by
  refine ⟨seen.add 1, ?_⟩
  simp only [M.step, mkM, Option.isSome_none, Bool.false_eq_true, if_false, hp, if_true, M.exec, M.word, Nat.add_zero, h0]
  simp only [show ops[1]? = some Op.SUCCESS from rfl]
  simp [M.say, hq]
structure SepAt (C : Array Nat) (P a b : Nat) : Prop where
  lt : P + 7 < C.size
  c0 : C.getD P 0 = 13
  c1 : C.getD (P + 1) 0 = 6
  c2 : C.getD (P + 2) 0 = 16
  c3 : C.getD (P + 3) 0 = a
  c4 : C.getD (P + 4) 0 = 16
  c5 : C.getD (P + 5) 0 = b
  c6 : C.getD (P + 6) 0 = 0
theorem accepts_sep {P a b : Nat} (D : SepAt C P a b) (c : Nat) (seen : Seen) : ∃ seen', accepts C P c seen = .ok ((c == a) || (c == b), seen') := by
  obtain ⟨z, hz⟩ : ∃ z, C.size = z + 3 := ⟨C.size - 3, by have := D.lt; omega⟩
  unfold accepts
  simp only [D.c0, show ops[13]? = some Op.IN from rfl, hz]
  unfold inSet
  simp only [Nat.add_assoc, Nat.reduceAdd, Nat.add_zero, D.c2, D.c3, show ops[16]? = some Op.LITERAL from rfl]
  by_cases q : (c == a) = true
  · rw [if_pos q, q]; exact ⟨_, rfl⟩
  · rw [if_neg q]
    unfold inSet
    simp only [Nat.add_assoc, Nat.reduceAdd, Nat.add_zero, D.c4, D.c5, show ops[16]? = some Op.LITERAL from rfl]
    have q' : (c == a) = false := by simpa using q
    rw [q']
    by_cases w : (c == b) = true
    · rw [if_pos w, w]; exact ⟨_, rfl⟩
    · rw [if_neg w]
      unfold inSet
      simp only [Nat.add_assoc, Nat.reduceAdd, Nat.add_zero, D.c6, show ops[0]? = some Op.FAILURE from rfl]
      have w' : (c == b) = false := by simpa using w
      rw [w']
      exact ⟨_, rfl⟩
theorem sep_go {a b : Nat} (D : SepAt C v.pc a b) (hl : v.pos < T.size) (ht : T.getD v.pos 0 = a ∨ T.getD v.pos 0 = b) : Go1 C T 1 v none { v with pc := v.pc + 7, pos := v.pos + 1 } none := .step fun seen => by
  have hp : v.pc < C.size := by have := D.lt; omega
  obtain ⟨s1, e1⟩ := accepts_sep D (T.getD v.pos 0) (seen.add 13)
  refine ⟨s1, ?_⟩
  simp only [M.step, mkM, Option.isSome_none, Bool.false_eq_true, if_false, hp, if_true, M.exec, M.word, Nat.add_zero, D.c0]
  simp only [show ops[13]? = some Op.IN from rfl]
  rw [if_neg (by omega), e1, show ((T.getD v.pos 0 == a) || (T.getD v.pos 0 == b)) = true by simpa using ht]
  simp [itemWidth, D.c0, show ops[13]? = some Op.IN from rfl, D.c1]
theorem sep_no {a b : Nat} (D : SepAt C v.pc a b) (hl : v.pos < T.size → T.getD v.pos 0 ≠ a ∧ T.getD v.pos 0 ≠ b) : Go1 C T 1 v none v (some false) := .step fun seen => by
  have hp : v.pc < C.size := by have := D.lt; omega
  obtain ⟨s1, e1⟩ := accepts_sep D (T.getD v.pos 0) (seen.add 13)
  by_cases q : v.pos ≥ T.size
  · refine ⟨seen.add 13, ?_⟩
    simp only [M.step, mkM, Option.isSome_none, Bool.false_eq_true, if_false, hp, if_true, M.exec, M.word, Nat.add_zero, D.c0]
    simp only [show ops[13]? = some Op.IN from rfl]
    rw [if_pos q]; rfl
  · refine ⟨s1, ?_⟩
    simp only [M.step, mkM, Option.isSome_none, Bool.false_eq_true, if_false, hp, if_true, M.exec, M.word, Nat.add_zero, D.c0]
    simp only [show ops[13]? = some Op.IN from rfl]
    rw [if_neg q, e1, show ((T.getD v.pos 0 == a) || (T.getD v.pos 0 == b)) = false by simpa using hl (by omega)]
    rfl
theorem getD_set (a : Array (Option Nat)) (i j : Nat) (x : Option Nat) : (a.setIfInBounds i x).getD j none = if j = i ∧ i < a.size then x else a.getD j none := by
  simp only [Array.getD_eq_getD_getElem?, Array.getElem?_setIfInBounds]
  by_cases q : i = j
  · subst q
    by_cases w : i < a.size
    · simp [w]
    · simp [w]
  · simp [q, Ne.symm q]
theorem fold_getD (l : List Nat) (lm : Int) (a : Array (Option Nat)) (j : Nat) : (l.foldl (fun (a : Array (Option Nat)) (j : Nat) => if (j : Int) > lm then a.setIfInBounds j none else a) a).getD j none = if j ∈ l ∧ (j : Int) > lm then none else a.getD j none := by
  induction l generalizing a with
  | nil => simp
  | cons x r ih =>
    rw [List.foldl_cons, ih]
    by_cases q : (x : Int) > lm
    · rw [if_pos q, getD_set]
      by_cases w : j = x
      · subst w
        by_cases z : j < a.size
        · simp [z, q]
        · simp [z, q]
      · simp [w]
    · rw [if_neg q]
      by_cases w : j = x
      · subst w
        simp [q]
      · simp [w]
theorem eff_marked {i : Nat} (h : i < v.marks.size) : eff (marked v i) = upd (eff v) i v.pos := by
  funext j
  unfold eff upd marked
  simp only [getD_set]
  by_cases q : j = i
  · subst q
    rw [if_pos (by omega), if_pos rfl, if_pos ?_]
    refine ⟨rfl, ?_⟩
    split
    · exact h
    · rw [fold_size]; exact h
  · rw [if_neg (show ¬ (j = i ∧ i < (if (i : Int) ≤ v.lm + 1 then v.marks else (List.range i).foldl (fun (a : Array (Option Nat)) (j : Nat) => if (j : Int) > v.lm then a.setIfInBounds j none else a) v.marks).size) from fun h => q h.1), if_neg q]
    by_cases w : (j : Int) ≤ max v.lm i
    · rw [if_pos w]
      by_cases z : (i : Int) ≤ v.lm + 1
      · rw [if_pos z]
        by_cases y : (j : Int) ≤ v.lm
        · rw [if_pos y]
        · omega
      · rw [if_neg z, fold_getD]
        by_cases y : (j : Int) ≤ v.lm
        · rw [if_pos y, if_neg (fun h => by omega)]
        · rw [if_neg y, if_pos ⟨by simp only [List.mem_range]; omega, by omega⟩]
    · rw [if_neg w, if_neg (by omega)]
theorem Win.dig {k K : Nat} (D : DigAt C v.pc k) (h : 1 ≤ digN T k v.pos) (hw : v.w ≤ 100000) (hm : v.marks.size ≤ 100) (y : Win C T K (digV k T v) e) : Win C T (K + 2) v e := by
  have g : Go1 C T 1 v none (digV k T v) none := dig_go D h hw hm
  obtain ⟨v', g', a, b, c⟩ := y
  refine ⟨_, ((g.trans g').trans (back_yes (f := backFrame v (v.pos + digN T k v.pos) (digN T k v.pos) (keepV v v.inner.isSome)) (r := v.F) a rfl rfl)).mono (by omega), rfl, b, c⟩

structure OptAt (C : Array Nat) (P U : Nat) : Prop where
  lt : U + 1 < C.size
  le : P + 4 ≤ U
  c0 : C.getD P 0 = 23
  c1 : C.getD (P + 1) 0 + P + 1 = U
  c2 : C.getD (P + 2) 0 = 0
  c3 : C.getD (P + 3) 0 = 1
  cu : C.getD U 0 = 18
def fClose (v : V) : Sre.Frame := { wait := .closeLoop, pc := v.pc, pos := v.pos, outermost := true, loop := v.loops.size }
def fMore (v : V) (U : Nat) : Sre.Frame := { wait := .maxMore, pc := U + 1, pos := v.pos, outermost := true, loop := v.loops.size, count := 0, kept := keepV v true, began := none }
def fTail (v : V) (i : Nat) (c : Int) (U : Nat) : Sre.Frame := { wait := .maxTail, pc := U + 1, pos := v.pos, outermost := true, loop := i, count := c, kept := keepV v false }
def entV (v : V) (U : Nat) : V := { v with loops := v.loops.push { pc := v.pc, count := 0, began := some v.pos, outer := v.inner }, inner := some v.loops.size, F := fMore v U :: fClose v :: v.F, w := v.w + 1 + 1 + (keepV v true).marks.size, pc := v.pc + 4, handed := v.pos }
theorem loops_getD (L : Array Loop) (l : Loop) (d : Loop) : (L.push l).getD L.size d = l := by simp [Array.getD_eq_getD_getElem?]
theorem loops_modify (L : Array Loop) (l : Loop) (f : Loop → Loop) : (L.push l).modify L.size f = L.push (f l) := by
  apply Array.ext
  · simp
  · intro i h1 h2
    simp [Array.getElem_modify]
    by_cases q : L.size = i
    · subst q; simp
    · rw [if_neg q]
      have : i < L.size := by simp at h1; omega
      simp [Array.getElem_push, this]
theorem opt_enter {U : Nat} (D : OptAt C v.pc U) (hw : v.w ≤ 1000000) (hm : v.marks.size ≤ 100) : Go1 C T 2 v none (entV v U) none := fun seen => by
  have hp : v.pc < C.size := by have := D.lt; have := D.le; omega
  have hu : U < C.size := by have := D.lt; omega
  refine ⟨(seen.add 23).add 18, 2, Nat.le_refl _, ?_⟩
  have kz : (keepV v true).marks.size ≤ 100 := Nat.le_trans (keepV_size v true) hm
  rw [show (2 : Nat) = 1 + 1 from rfl, runFor_add]
  have s1 : M.runFor 1 (mkM C T v none seen) = mkM C T { v with loops := v.loops.push { pc := v.pc, outer := v.inner }, inner := some v.loops.size, F := fClose v :: v.F, w := v.w + 1, pc := U, handed := v.pos } none (seen.add 23) := by
    show M.step _ = _
    simp only [M.step, mkM, Option.isSome_none, Bool.false_eq_true, if_false, hp, if_true, M.exec, M.word, Nat.add_zero, D.c0]
    simp only [show ops[23]? = some Op.REPEAT from rfl]
    have e : v.pc + 1 + C.getD (v.pc + 1) 0 = U := by have := D.c1; omega
    unfold M.attempt
    simp only [M.frame, e]
    rw [if_neg (by show ¬ (v.w + 1 + 0 > 16777216); omega)]
    rfl
  rw [s1]
  show M.step _ = _
  simp only [M.step, mkM, Option.isSome_none, Bool.false_eq_true, if_false, hu, if_true, M.exec, M.word, Nat.add_zero, D.cu]
  simp only [show ops[18]? = some Op.MAX_UNTIL from rfl]
  unfold M.until_
  simp only [M.loopAt, loops_getD, D.c2, D.c3]
  unfold M.round M.attempt
  simp only [M.loopAt, loops_getD, M.setLoop, loops_modify, M.frame, M.keep]
  have q : ∀ (a b : M), (if v.w + 1 + 1 + (keepV v true).marks.size > 16777216 then a else b) = b := fun a b => if_neg (by omega)
  simp only [Int.add_left_neg, Int.reduceLT, if_false, Bool.not_true, Bool.false_eq_true]
  exact q _ _
end
end Mine
end

section
open PySem PySem.Sre
set_option Elab.async false
set_option linter.unusedVariables false
set_option linter.unusedSimpArgs false
namespace Mine
section
variable {C T : Array Nat} {v : V} {f : Sre.Frame} {r : List Sre.Frame} {e : Ef}
def tailV (v : V) (L : Array Loop) (l : Loop) (U : Nat) (c : Int) : V := { v with inner := l.outer, F := fTail v L.size c U :: v.F, w := v.w + 1, pc := U + 1, handed := v.pos }
theorem opt_tail {P U : Nat} {L : Array Loop} {l : Loop} (D : OptAt C P U) (hpc : v.pc = U) (hL : v.loops = L.push l) (hi : v.inner = some L.size) (hl : l.pc = P) (hc : l.count = 0) (hw : v.w ≤ 1000000) :
    Go1 C T 1 v none (tailV v L l U 1) none := .step fun seen => by
  subst hpc
  have hu : v.pc < C.size := by have := D.lt; omega
  refine ⟨seen.add 18, ?_⟩
  simp only [M.step, mkM, Option.isSome_none, Bool.false_eq_true, if_false, hu, if_true, M.exec, M.word, Nat.add_zero, D.cu]
  simp only [show ops[18]? = some Op.MAX_UNTIL from rfl]
  unfold M.until_
  simp only [hi]
  simp only [M.loopAt, hL, loops_getD, hc, hl, D.c2, D.c3]
  unfold M.afterLoop M.attempt
  simp only [M.loopAt, loops_getD, M.frame, M.keep]
  simp only [maxRepeat, Int.zero_add]
  rw [if_neg (by decide)]
  simp only [Bool.not_true, Bool.false_eq_true, if_false]
  rw [if_neg (by simp)]
  have q : ∀ (a b : M), (if v.w + 1 + 0 > 16777216 then a else b) = b := fun a b => if_neg (by omega)
  refine (q _ _).trans ?_
  simp only [tailV, fTail, keepV, mkM, hL]
  rfl
theorem tail_ans {b : Bool} (hF : v.F = f :: r) (ho : f.outermost = true) (hw : f.wait = .maxTail) : Go1 C T 1 v (some b) { popV v f r with inner := some f.loop } (some b) := .step fun seen => by
  refine ⟨seen, ?_⟩
  rw [step_ans hF ho]
  simp only [M.resume, hw]
  rfl
theorem close_ans {b : Bool} {L : Array Loop} {l : Loop} (hF : v.F = f :: r) (ho : f.outermost = true) (hw : f.wait = .closeLoop) (hL : v.loops = L.push l) (hi : f.loop = L.size) : Go1 C T 1 v (some b) { popV v f r with inner := l.outer, loops := L } (some b) := .step fun seen => by
  refine ⟨seen, ?_⟩
  rw [step_ans hF ho]
  simp only [M.resume, hw, M.loopAt, mkM, popV, hL, hi, loops_getD, Array.pop_push]
  rfl
theorem close_any {b : Bool} (hF : v.F = f :: r) (ho : f.outermost = true) (hw : f.wait = .closeLoop) : Go1 C T 1 v (some b) { popV v f r with inner := (v.loops.getD f.loop { pc := 0, outer := none }).outer, loops := v.loops.pop } (some b) := .step fun seen => by
  refine ⟨seen, ?_⟩
  rw [step_ans hF ho]
  simp only [M.resume, hw, M.loopAt]
  rfl
theorem more_yes (hF : v.F = f :: r) (ho : f.outermost = true) (hw : f.wait = .maxMore) : Go1 C T 1 v (some true) { popV v f r with loops := v.loops.modify f.loop fun l => { l with began := f.began } } (some true) := .step fun seen => by
  refine ⟨seen, ?_⟩
  rw [step_ans hF ho]
  simp only [M.resume, hw, if_true, M.setLoop]
  rfl
theorem tail_close {b : Bool} {f' : Sre.Frame} {L : Array Loop} {l : Loop} (hF : v.F = f :: f' :: r) (ho : f.outermost = true) (hw : f.wait = .maxTail) (ho' : f'.outermost = true) (hw' : f'.wait = .closeLoop) (hL : v.loops = L.push l) (hi : f'.loop = L.size) :
    Go1 C T 2 v (some b) { popV (popV v f (f' :: r)) f' r with inner := l.outer, loops := L } (some b) :=
  (tail_ans hF ho hw).trans (close_ans (v := { popV v f (f' :: r) with inner := some f.loop }) rfl ho' hw' hL hi)
def skipV (v : V) (f : Sre.Frame) (r : List Sre.Frame) (L : Array Loop) (l : Loop) : V :=
  { putV (popV v f r) f.kept with loops := L.push { l with began := f.began, count := f.count - 1 }, inner := l.outer, F := { wait := .maxTail, pc := f.pc, pos := f.pos, outermost := true, loop := f.loop, count := f.count, kept := keepV (putV (popV v f r) f.kept) false } :: r, w := v.w - (1 + f.kept.marks.size) + 1, pc := f.pc, pos := f.pos, handed := f.pos }
theorem more_no {L : Array Loop} {l : Loop} (hF : v.F = f :: r) (ho : f.outermost = true) (hw : f.wait = .maxMore) (hL : v.loops = L.push l) (hi : f.loop = L.size) (hwt : v.w ≤ 1000000) :
    Go1 C T 1 v (some false) (skipV v f r L l) none := .step fun seen => by
  refine ⟨seen, ?_⟩
  rw [step_ans hF ho]
  simp only [M.resume, hw, M.setLoop, mkM, popV, hL, hi, loops_modify, M.putBack, Bool.false_eq_true, if_false]
  unfold M.afterLoop M.attempt
  simp only [M.loopAt, loops_getD, M.frame, M.keep]
  have q : ∀ (a b : M), (if v.w - (1 + f.kept.marks.size) + 1 + 0 > 16777216 then a else b) = b := fun a b => if_neg (by omega)
  refine (q _ _).trans ?_
  simp only [skipV, putV, popV, keepV, mkM, hi]
  rfl

theorem Fail.opt {U K K' : Nat} (D : OptAt C v.pc U) (hw : v.w ≤ 100000) (hm : v.marks.size ≤ 100) (hb : Fail C T K (entV v U))
    (hr : ∀ v', v'.pc = U + 1 → v'.pos = v.pos → v'.w ≤ v.w + 2 → v'.marks.size = v.marks.size → Fail C T K' v') : Fail C T (K + K' + 5) v := by
  have kz := keepV_size v true
  obtain ⟨v₁, g₁, a1, a2, a3, a4, a5⟩ := hb
  have a1' : v₁.F = fMore v U :: fClose v :: v.F := a1
  have a2' : v₁.w = v.w + 1 + 1 + (keepV v true).marks.size := a2
  have a3' : v₁.loops = v.loops.push { pc := v.pc, count := 0, began := some v.pos, outer := v.inner } := a3
  have a5' : v₁.marks.size = v.marks.size := a5
  have g₂ : Go1 C T 1 v₁ (some false) _ none := more_no (C := C) (T := T) a1' rfl rfl a3' rfl (by omega)
  have sz : (skipV v₁ (fMore v U) (fClose v :: v.F) v.loops { pc := v.pc, count := 0, began := some v.pos, outer := v.inner }).marks.size = v.marks.size :=
    (putV_size (popV v₁ (fMore v U) (fClose v :: v.F)) (keepV v true) (by show (keepV v true).marks.size ≤ v₁.marks.size; omega)).trans a5'
  have wz : (skipV v₁ (fMore v U) (fClose v :: v.F) v.loops { pc := v.pc, count := 0, began := some v.pos, outer := v.inner }).w = v.w + 2 := by
    show v₁.w - (1 + (keepV v true).marks.size) + 1 = _
    omega
  obtain ⟨v₃, g₃, b1, b2, b3, b4, b5⟩ := hr (skipV v₁ (fMore v U) (fClose v :: v.F) v.loops { pc := v.pc, count := 0, began := some v.pos, outer := v.inner }) rfl rfl (by omega) sz
  have g₄ := tail_close (C := C) (T := T) (b := false) b1 rfl rfl rfl rfl b3 rfl
  refine ⟨_, (((((opt_enter D (by omega) hm).trans g₁).trans g₂).trans g₃).trans g₄).mono (by omega), rfl, ?_, rfl, rfl, b5.trans sz⟩
  show v₃.w - (1 + (keepV _ false).marks.size) - (1 + 0) = v.w
  rw [b2, wz]
  show v.w + 2 - (1 + 0) - (1 + 0) = _
  omega
theorem Win.opt {U K : Nat} (D : OptAt C v.pc U) (hw : v.w ≤ 100000) (hm : v.marks.size ≤ 100) (hb : Win C T K (entV v U) e) : Win C T (K + 4) v e := by
  obtain ⟨v₁, g₁, a1, a2, a3⟩ := hb
  have g₂ := more_yes (C := C) (T := T) (v := v₁) a1 rfl rfl
  have g₃ : Go1 C T 1 _ (some true) _ (some true) := close_any (C := C) (T := T) (b := true) (v := { popV v₁ (fMore v U) (fClose v :: v.F) with loops := v₁.loops.modify (fMore v U).loop fun l => { l with began := (fMore v U).began } }) (f := fClose v) (r := v.F) rfl rfl rfl
  exact ⟨_, ((((opt_enter D (by omega) hm).trans g₁).trans g₂).trans g₃).mono (by omega), rfl, a2, a3⟩
theorem Win.skip {U K K' : Nat} (D : OptAt C v.pc U) (hw : v.w ≤ 100000) (hm : v.marks.size ≤ 100) (hlm : v.lm + 1 ≤ v.marks.size) (hb : Fail C T K (entV v U))
    (hr : ∀ v', v'.pc = U + 1 → v'.pos = v.pos → v'.w ≤ v.w + 2 → v'.marks.size = v.marks.size → v'.lm = v.lm → eff v' = eff v → Win C T K' v' e) : Win C T (K + K' + 5) v e := by
  have kz := keepV_size v true
  obtain ⟨v₁, g₁, a1, a2, a3, a4, a5⟩ := hb
  have a1' : v₁.F = fMore v U :: fClose v :: v.F := a1
  have a2' : v₁.w = v.w + 1 + 1 + (keepV v true).marks.size := a2
  have a3' : v₁.loops = v.loops.push { pc := v.pc, count := 0, began := some v.pos, outer := v.inner } := a3
  have a5' : v₁.marks.size = v.marks.size := a5
  have g₂ : Go1 C T 1 v₁ (some false) _ none := more_no (C := C) (T := T) a1' rfl rfl a3' rfl (by omega)
  have sz : (skipV v₁ (fMore v U) (fClose v :: v.F) v.loops { pc := v.pc, count := 0, began := some v.pos, outer := v.inner }).marks.size = v.marks.size :=
    (putV_size (popV v₁ (fMore v U) (fClose v :: v.F)) (keepV v true) (by show (keepV v true).marks.size ≤ v₁.marks.size; omega)).trans a5'
  have wz : (skipV v₁ (fMore v U) (fClose v :: v.F) v.loops { pc := v.pc, count := 0, began := some v.pos, outer := v.inner }).w = v.w + 2 := by
    show v₁.w - (1 + (keepV v true).marks.size) + 1 = _
    omega
  have ef : eff (skipV v₁ (fMore v U) (fClose v :: v.F) v.loops { pc := v.pc, count := 0, began := some v.pos, outer := v.inner }) = eff v := by
    funext j
    unfold eff
    show (if (j : Int) ≤ v.lm then (v.marks.extract 0 (v.lm + 1).toNat ++ v₁.marks.extract (v.marks.extract 0 (v.lm + 1).toNat).size v₁.marks.size).getD j none else none) = _
    by_cases q : (j : Int) ≤ v.lm
    · rw [if_pos q, if_pos q]
      have hj : j < v.marks.size := by omega
      have hs : j < (v.marks.extract 0 (v.lm + 1).toNat).size := by rw [Array.size_extract]; omega
      rw [Array.getD_eq_getD_getElem?, Array.getD_eq_getD_getElem?, Array.getElem?_append_left hs]
      rw [Array.getElem?_extract, if_pos (by omega), Nat.zero_add]
    · rw [if_neg q, if_neg q]
  obtain ⟨v₃, g₃, b1, b2, b3⟩ := hr (skipV v₁ (fMore v U) (fClose v :: v.F) v.loops { pc := v.pc, count := 0, began := some v.pos, outer := v.inner }) rfl rfl (by omega) sz rfl ef
  have b1' : v₃.F = { wait := .maxTail, pc := U + 1, pos := v.pos, outermost := true, loop := v.loops.size, count := 0, kept := keepV (putV (popV v₁ (fMore v U) (fClose v :: v.F)) (fMore v U).kept) false } :: fClose v :: v.F := b1
  have g₄ := tail_ans (C := C) (T := T) (b := true) b1' rfl rfl
  have g₅ := g₄.trans (close_any (C := C) (T := T) (b := true) (v := { popV v₃ _ (fClose v :: v.F) with inner := some _ }) (f := fClose v) (r := v.F) rfl rfl rfl)
  exact ⟨_, (((((opt_enter D (by omega) hm).trans g₁).trans g₂).trans g₃).trans g₅).mono (by omega), rfl, b2, b3⟩
end
end Mine
end

section
open PySem PySem.Sre
set_option Elab.async false
set_option linter.unusedVariables false
set_option linter.unusedSimpArgs false
namespace Mine
abbrev dec (c : Nat) : Bool := Unicode.isDecimal c
theorem dec46 : dec 46 = false := by decide +kernel
section
variable {C T : Array Nat} {v : V} {f : Sre.Frame} {r : List Sre.Frame} {e : Ef}
theorem digN_at : ∀ {k p j : Nat}, j < digN T k p → p + j < T.size ∧ dec (T.getD (p + j) 0) = true
  | 0, p, j, h => by simp [digN] at h
  | k + 1, p, j, h => by
    unfold digN at h
    split at h
    · rename_i q
      cases j with
      | zero => exact q
      | succ j =>
        have := digN_at (k := k) (p := p + 1) (j := j) (by omega)
        rw [show p + (j + 1) = p + 1 + j by omega]
        exact this
    · omega
theorem Win.atU {P U K : Nat} {L : Array Loop} {l : Loop} (D : OptAt C P U) (hpc : v.pc = U) (hL : v.loops = L.push l) (hi : v.inner = some L.size) (hl : l.pc = P) (hc : l.count = 0) (hw : v.w ≤ 1000000) (y : Win C T K (tailV v L l U 1) e) : Win C T (K + 2) v e := by
  obtain ⟨v', g', a, b, c⟩ := y
  exact ⟨_, (((opt_tail D hpc hL hi hl hc hw).trans g').trans (tail_ans (f := fTail v L.size 1 U) (r := v.F) a rfl rfl)).mono (by omega), rfl, b, c⟩
theorem Fail.atU {P U K : Nat} {L : Array Loop} {l : Loop} (D : OptAt C P U) (hpc : v.pc = U) (hL : v.loops = L.push l) (hi : v.inner = some L.size) (hl : l.pc = P) (hc : l.count = 0) (hw : v.w ≤ 1000000) (y : Fail C T K (tailV v L l U 1)) : Fail C T (K + 2) v := by
  obtain ⟨v', g', a, b, c, d, e⟩ := y
  refine ⟨_, (((opt_tail D hpc hL hi hl hc hw).trans g').trans (tail_ans (f := fTail v L.size 1 U) (r := v.F) a rfl rfl)).mono (by omega), rfl, ?_, c, hi.symm, e⟩
  show v'.w - (1 + 0) = v.w
  rw [b]
  show v.w + 1 - (1 + 0) = _
  omega

structure TailAt (C : Array Nat) (P g : Nat) : Prop where
  opt : OptAt C P (P + 20)
  l0 : C.getD (P + 4) 0 = 16
  l1 : C.getD (P + 5) 0 = 46
  m0 : C.getD (P + 6) 0 = 17
  m1 : C.getD (P + 7) 0 = 2 * g
  dg : DigAt C (P + 8) 6
  n0 : C.getD (P + 18) 0 = 17
  n1 : C.getD (P + 19) 0 = 2 * g + 1
  s : C.getD (P + 21) 0 = 1
abbrev Spans := List (Nat × Nat × Nat)
def app (e : Ef) : Spans → Ef
  | [] => e
  | (g, b, q) :: l => app (upd (upd e (2 * g) b) (2 * g + 1) q) l
def scanT (T : Array Nat) (g p : Nat) : Option Spans :=
  if p = T.size then some [] else
  if p < T.size ∧ T.getD p 0 = 46 ∧ 1 ≤ digN T 6 (p + 1) ∧ p + 1 + digN T 6 (p + 1) = T.size then some [(g, p + 1, p + 1 + digN T 6 (p + 1))] else none
theorem tail_win {g : Nat} {l : Spans} (D : TailAt C v.pc g) (h : scanT T g v.pos = some l) (hw : v.w ≤ 50000) (hm : v.marks.size ≤ 100) (hg : 2 * g + 1 < v.marks.size) (hlm : v.lm + 1 ≤ v.marks.size) : Win C T 44 v (app (eff v) l) := by
  have lt := D.opt.lt
  have kz := keepV_size v true
  unfold scanT at h
  split at h
  · rename_i q
    cases h
    refine (Win.skip (K := 1) (K' := 1) D.opt (by omega) hm hlm (Fail.now (lit_no (by show v.pc + 4 < _; omega) D.l0 D.l1 fun z => absurd z (by show ¬ v.pos < _; omega))) fun v' e1 e2 e3 e4 e5 e6 => ?_).mono (by omega)
    exact ⟨_, succ_yes (by rw [e1]; omega) (by rw [e1]; exact D.s) (by omega), rfl, e6, by show v'.pos = _; omega⟩
  · split at h
    · rename_i q q'
      cases h
      obtain ⟨z1, z2, z3, z4⟩ := q'
      refine (Win.opt (K := 9) D.opt (by omega) hm ?_).mono (by omega)
      refine (Win.of_go (j := 1) (k := 8) (lit_go (c := 46) (by show v.pc + 4 < _; omega) D.l0 D.l1 z1 z2) ?_ rfl)
      refine (Win.of_go (j := 1) (k := 7) (mark_go (i := 2 * g) (by show v.pc + 4 + 2 < _; omega) (by show C.getD (v.pc + 4 + 2) 0 = _; rw [Nat.add_assoc]; exact D.m0) (by show C.getD (v.pc + 4 + 2 + 1) 0 = _; rw [Nat.add_assoc, Nat.add_assoc]; exact D.m1)) ?_ rfl)
      generalize hv₂ : marked { entV v (v.pc + 20) with pc := (entV v (v.pc + 20)).pc + 2, pos := (entV v (v.pc + 20)).pos + 1 } (2 * g) = v₂
      have a1 : v₂.pc = v.pc + 8 := by rw [← hv₂]; rfl
      have a2 : v₂.pos = v.pos + 1 := by rw [← hv₂]; rfl
      have a3 : v₂.w = v.w + 1 + 1 + (keepV v true).marks.size := by rw [← hv₂]; rfl
      have a4 : v₂.marks.size = v.marks.size := by rw [← hv₂, marked_size]; rfl
      have a5 : v₂.loops = v.loops.push { pc := v.pc, count := 0, began := some v.pos, outer := v.inner } := by rw [← hv₂]; rfl
      have a6 : v₂.inner = some v.loops.size := by rw [← hv₂]; rfl
      have a7 : eff v₂ = upd (eff v) (2 * g) (v.pos + 1) := by rw [← hv₂, eff_marked (by show 2 * g < v.marks.size; omega)]; rfl
      have kz₂ := keepV_size v₂ v₂.inner.isSome
      refine Win.dig (K := 5) (k := 6) (by rw [a1]; exact D.dg) (by rw [a2]; exact z3) (by omega) (by omega) ?_
      refine (Win.of_go (j := 1) (k := 4) (mark_go (i := 2 * g + 1) (by show v₂.pc + 10 < _; omega) (by show C.getD (v₂.pc + 10) 0 = _; rw [a1, Nat.add_assoc]; exact D.n0) (by show C.getD (v₂.pc + 10 + 1) 0 = _; rw [a1, Nat.add_assoc, Nat.add_assoc]; exact D.n1)) ?_ rfl)
      refine (Win.atU (K := 1) (L := v.loops) (l := { pc := v.pc, count := 0, began := some v.pos, outer := v.inner }) D.opt (by show v₂.pc + 10 + 2 = _; omega) (by show v₂.loops = _; exact a5) (by show v₂.inner = _; exact a6) rfl rfl (by show v₂.w + 1 + (keepV v₂ v₂.inner.isSome).marks.size ≤ _; omega) ?_).mono (by omega)
      have ef : eff (marked (digV 6 T v₂) (2 * g + 1)) = upd (upd (eff v) (2 * g) (v.pos + 1)) (2 * g + 1) (v.pos + 1 + digN T 6 (v.pos + 1)) := by
        rw [eff_marked (by show 2 * g + 1 < v₂.marks.size; omega)]
        show upd (eff v₂) (2 * g + 1) (v₂.pos + digN T 6 v₂.pos) = _
        rw [a7, a2]
      have po : (marked (digV 6 T v₂) (2 * g + 1)).pos = T.size := by
        show v₂.pos + digN T 6 v₂.pos = _
        rw [a2]; omega
      exact ⟨_, succ_yes (by show v.pc + 20 + 1 < _; omega) (by show C.getD (v.pc + 20 + 1) 0 = _; rw [Nat.add_assoc]; exact D.s) po, rfl, ef, po⟩
    · cases h
theorem tail_fail {g : Nat} (D : TailAt C v.pc g) (h : scanT T g v.pos = none) (hw : v.w ≤ 50000) (hm : v.marks.size ≤ 100) : Fail C T 44 v := by
  have lt := D.opt.lt
  have kz := keepV_size v true
  unfold scanT at h
  split at h
  · cases h
  · rename_i q
    split at h
    · cases h
    · rename_i q'
      refine (Fail.opt (K := 38) (K' := 1) D.opt (by omega) hm ?_ fun v' e1 e2 e3 e4 => Fail.now (succ_no (by rw [e1]; omega) (by rw [e1]; exact D.s) (by omega))).mono (by omega)
      by_cases z : v.pos < T.size ∧ T.getD v.pos 0 = 46
      · refine (Fail.of_go (j := 1) (k := 37) (lit_go (c := 46) (by show v.pc + 4 < _; omega) D.l0 D.l1 z.1 z.2) ?_ rfl rfl rfl rfl rfl)
        refine (Fail.of_go (j := 1) (k := 36) (mark_go (i := 2 * g) (by show v.pc + 4 + 2 < _; omega) (by show C.getD (v.pc + 4 + 2) 0 = _; rw [Nat.add_assoc]; exact D.m0) (by show C.getD (v.pc + 4 + 2 + 1) 0 = _; rw [Nat.add_assoc, Nat.add_assoc]; exact D.m1)) ?_ rfl rfl rfl rfl (marked_size _ _))
        generalize hv₂ : marked { entV v (v.pc + 20) with pc := (entV v (v.pc + 20)).pc + 2, pos := (entV v (v.pc + 20)).pos + 1 } (2 * g) = v₂
        have a1 : v₂.pc = v.pc + 8 := by rw [← hv₂]; rfl
        have a2 : v₂.pos = v.pos + 1 := by rw [← hv₂]; rfl
        have a3 : v₂.w = v.w + 1 + 1 + (keepV v true).marks.size := by rw [← hv₂]; rfl
        have a4 : v₂.marks.size = v.marks.size := by rw [← hv₂, marked_size]; rfl
        have a5 : v₂.loops = v.loops.push { pc := v.pc, count := 0, began := some v.pos, outer := v.inner } := by rw [← hv₂]; rfl
        have a6 : v₂.inner = some v.loops.size := by rw [← hv₂]; rfl
        have kz₂ := keepV_size v₂ v₂.inner.isSome
        have behind : ∀ v' : V, v'.pc = v₂.pc + 10 → v'.pos ≠ T.size → v'.w ≤ v₂.w + 101 → v'.loops = v₂.loops → v'.inner = v₂.inner → Fail C T 4 v' := fun v' b1 b2 b3 b4 b5 => by
          refine (Fail.of_go (j := 1) (k := 3) (mark_go (i := 2 * g + 1) (by omega) (by rw [b1, a1, Nat.add_assoc]; exact D.n0) (by rw [b1, a1, Nat.add_assoc, Nat.add_assoc]; exact D.n1)) ?_ rfl rfl rfl rfl (marked_size _ _))
          refine (Fail.atU (K := 1) (L := v.loops) (l := { pc := v.pc, count := 0, began := some v.pos, outer := v.inner }) D.opt (by show v'.pc + 2 = _; omega) (by show v'.loops = _; rw [b4]; exact a5) (by show v'.inner = _; rw [b5]; exact a6) rfl rfl (by show v'.w ≤ _; omega) ?_).mono (by omega)
          exact Fail.now (succ_no (by show v.pc + 20 + 1 < _; omega) (by show C.getD (v.pc + 20 + 1) 0 = _; rw [Nat.add_assoc]; exact D.s) b2)
        refine (dig_fail (K := 4) (K' := 4) (k := 6) (by rw [a1]; exact D.dg) (by omega) (by omega) (fun v' j h1 h2 b1 b2 b3 b4 b5 b6 => behind v' b1 ?_ b3 b5 b6) fun h1 => behind _ rfl ?_ (by show v₂.w + 1 + (keepV v₂ v₂.inner.isSome).marks.size ≤ _; omega) rfl rfl).mono (by omega)
        · have := (digN_at h2).1
          omega
        · show v₂.pos + digN T 6 v₂.pos ≠ _
          rw [a2] at h1 ⊢
          intro z'
          exact q' ⟨z.1, z.2, h1, z'⟩
      · exact (Fail.now (lit_no (C := C) (T := T) (v := entV v (v.pc + 20)) (c := 46) (by show v.pc + 4 < _; omega) D.l0 D.l1 fun y z' => z ⟨y, z'⟩)).mono (by omega)

inductive It | grp (g k : Nat) | lit (c : Nat) | sep (a b : Nat)
def ItsAt (C : Array Nat) : Nat → List It → Nat → Prop
  | P, [], gt => TailAt C P gt
  | P, .grp g k :: r, gt => C.getD P 0 = 17 ∧ C.getD (P + 1) 0 = 2 * g ∧ DigAt C (P + 2) k ∧ C.getD (P + 12) 0 = 17 ∧ C.getD (P + 13) 0 = 2 * g + 1 ∧ ItsAt C (P + 14) r gt
  | P, .lit c :: r, gt => P < C.size ∧ C.getD P 0 = 16 ∧ C.getD (P + 1) 0 = c ∧ ItsAt C (P + 2) r gt
  | P, .sep a b :: r, gt => SepAt C P a b ∧ ItsAt C (P + 7) r gt
def NoDig : List It → Prop
  | [] => True
  | .lit c :: _ => dec c = false
  | .sep a b :: _ => dec a = false ∧ dec b = false
  | .grp .. :: _ => False
def ItsOk (M : Nat) : List It → Prop
  | [] => True
  | .grp g k :: r => NoDig r ∧ 2 * g + 1 < M ∧ k ≤ 6 ∧ ItsOk M r
  | _ :: r => ItsOk M r
def scan (T : Array Nat) (gt : Nat) : List It → Nat → Option Spans
  | [], p => scanT T gt p
  | .grp g k :: r, p => if digN T k p = 0 then none else (scan T gt r (p + digN T k p)).map ((g, p, p + digN T k p) :: ·)
  | .lit c :: r, p => if p < T.size ∧ T.getD p 0 = c then scan T gt r (p + 1) else none
  | .sep a b :: r, p => if p < T.size ∧ (T.getD p 0 = a ∨ T.getD p 0 = b) then scan T gt r (p + 1) else none
theorem nodig_fail {its : List It} {gt : Nat} (D : ItsAt C v.pc its gt) (hn : NoDig its) (hp : v.pos < T.size) (hd : dec (T.getD v.pos 0) = true) (hw : v.w ≤ 50000) (hm : v.marks.size ≤ 100) : Fail C T 44 v := by
  cases its with
  | nil =>
    refine tail_fail D ?_ hw hm
    unfold scanT
    rw [if_neg (by omega), if_neg]
    rintro ⟨_, z, _⟩
    rw [z, dec46] at hd
    cases hd
  | cons i r =>
    cases i with
    | grp g k => exact hn.elim
    | lit c =>
      obtain ⟨h0, h1, h2, _⟩ := D
      refine (Fail.now (lit_no (c := c) h0 h1 h2 fun _ z => ?_)).mono (by omega)
      have hn' : dec c = false := hn
      rw [z, hn'] at hd
      cases hd
    | sep a b =>
      obtain ⟨h0, _⟩ := D
      obtain ⟨n1, n2⟩ := hn
      refine (Fail.now (sep_no h0 fun _ => ⟨fun z => ?_, fun z => ?_⟩)).mono (by omega)
      · rw [z, n1] at hd; cases hd
      · rw [z, n2] at hd; cases hd
theorem its_win : ∀ {its : List It} {gt : Nat} {v : V} {l : Spans}, ItsAt C v.pc its gt → ItsOk v.marks.size its → 2 * gt + 1 < v.marks.size → scan T gt its v.pos = some l → v.w + 200 * its.length ≤ 50000 → v.marks.size ≤ 100 → v.lm + 1 ≤ v.marks.size → Win C T (44 + 300 * its.length) v (app (eff v) l)
  | [], gt, v, l, D, _, hg, h, hw, hm, hlm => (tail_win D h (by simpa using hw) hm hg hlm).mono (by omega)
  | .lit c :: r, gt, v, l, D, ok, hg, h, hw, hm, hlm => by
    obtain ⟨h0, h1, h2, h3⟩ := D
    unfold scan at h
    split at h
    · rename_i q
      rw [List.length_cons] at hw ⊢
      exact (Win.of_go (j := 1) (k := 44 + 300 * r.length) (lit_go h0 h1 h2 q.1 q.2) (its_win h3 ok hg h (by show v.w + _ ≤ _; omega) hm hlm) rfl).mono (by omega)
    · cases h
  | .sep a b :: r, gt, v, l, D, ok, hg, h, hw, hm, hlm => by
    obtain ⟨h0, h3⟩ := D
    unfold scan at h
    split at h
    · rename_i q
      rw [List.length_cons] at hw ⊢
      exact (Win.of_go (j := 1) (k := 44 + 300 * r.length) (sep_go h0 q.1 q.2) (its_win h3 ok hg h (by show v.w + _ ≤ _; omega) hm hlm) rfl).mono (by omega)
    · cases h
  | .grp g k :: r, gt, v, l, D, ok, hg, h, hw, hm, hlm => by
    obtain ⟨h0, h1, h2, h3, h4, h5⟩ := D
    obtain ⟨k0, k1, k2, k3⟩ := ok
    have lt := h2.lt
    unfold scan at h
    split at h
    · cases h
    · rename_i q
      cases hs : scan T gt r (v.pos + digN T k v.pos) with
      | none => rw [hs] at h; cases h
      | some l' =>
        rw [hs] at h
        cases h
        rw [List.length_cons] at hw ⊢
        generalize hv₂ : marked v (2 * g) = v₂
        have a1 : v₂.pc = v.pc + 2 := by rw [← hv₂]; rfl
        have a2 : v₂.pos = v.pos := by rw [← hv₂]; rfl
        have a3 : v₂.w = v.w := by rw [← hv₂]; rfl
        have a4 : v₂.marks.size = v.marks.size := by rw [← hv₂, marked_size]
        have a5 : v₂.lm + 1 ≤ v.marks.size := by rw [← hv₂]; show max v.lm ((2 * g : Nat) : Int) + 1 ≤ _; omega
        have a6 : eff v₂ = upd (eff v) (2 * g) v.pos := by rw [← hv₂, eff_marked (by omega)]
        have a7 : v₂.F = v.F := by rw [← hv₂]; rfl
        have kz₂ := keepV_size v₂ v₂.inner.isSome
        refine (Win.of_go (j := 1) (k := 1 + (44 + 300 * r.length) + 2) (v₁ := v₂) (by rw [← hv₂]; exact mark_go (by omega) h0 h1) ?_ a7).mono (by omega)
        refine Win.dig (k := k) (by rw [a1]; exact h2) (by rw [a2]; omega) (by omega) (by omega) ?_
        refine Win.of_go (j := 1) (k := 44 + 300 * r.length) (mark_go (i := 2 * g + 1) (by show v₂.pc + 10 < _; omega) (by show C.getD (v₂.pc + 10) 0 = _; rw [a1, Nat.add_assoc]; exact h3) (by show C.getD (v₂.pc + 10 + 1) 0 = _; rw [a1, Nat.add_assoc, Nat.add_assoc]; exact h4)) ?_ rfl
        have mz : (marked (digV k T v₂) (2 * g + 1)).marks.size = v.marks.size := (marked_size _ _).trans a4
        have := its_win (its := r) (gt := gt) (v := marked (digV k T v₂) (2 * g + 1)) (l := l') (by show ItsAt C (v₂.pc + 10 + 2) r gt; rw [a1]; exact h5) (by rw [mz]; exact k3) (by rw [mz]; exact hg)
          (by show scan T gt r (v₂.pos + digN T k v₂.pos) = _; rw [a2]; exact hs) (by show v₂.w + 1 + (keepV v₂ v₂.inner.isSome).marks.size + _ ≤ _; omega) (by rw [mz]; exact hm) (by rw [mz]; show max v₂.lm ((2 * g + 1 : Nat) : Int) + 1 ≤ _; omega)
        have ef : eff (marked (digV k T v₂) (2 * g + 1)) = upd (upd (eff v) (2 * g) v.pos) (2 * g + 1) (v.pos + digN T k v.pos) := by
          rw [eff_marked (by show 2 * g + 1 < v₂.marks.size; omega)]
          show upd (eff v₂) (2 * g + 1) (v₂.pos + digN T k v₂.pos) = _
          rw [a6, a2]
        rw [ef] at this
        exact this
theorem its_fail : ∀ {its : List It} {gt : Nat} {v : V}, ItsAt C v.pc its gt → ItsOk v.marks.size its → scan T gt its v.pos = none → v.w + 200 * its.length ≤ 50000 → v.marks.size ≤ 100 → Fail C T (44 + 400 * its.length) v
  | [], gt, v, D, _, h, hw, hm => (tail_fail D h (by simpa using hw) hm).mono (by omega)
  | .lit c :: r, gt, v, D, ok, h, hw, hm => by
    obtain ⟨h0, h1, h2, h3⟩ := D
    unfold scan at h
    rw [List.length_cons] at hw ⊢
    split at h
    · rename_i q
      exact (Fail.of_go (j := 1) (k := 44 + 400 * r.length) (lit_go h0 h1 h2 q.1 q.2) (its_fail h3 ok h (by show v.w + _ ≤ _; omega) hm) rfl rfl rfl rfl rfl).mono (by omega)
    · rename_i q
      exact (Fail.now (lit_no h0 h1 h2 fun a b => q ⟨a, b⟩)).mono (by omega)
  | .sep a b :: r, gt, v, D, ok, h, hw, hm => by
    obtain ⟨h0, h3⟩ := D
    unfold scan at h
    rw [List.length_cons] at hw ⊢
    split at h
    · rename_i q
      exact (Fail.of_go (j := 1) (k := 44 + 400 * r.length) (sep_go h0 q.1 q.2) (its_fail h3 ok h (by show v.w + _ ≤ _; omega) hm) rfl rfl rfl rfl rfl).mono (by omega)
    · rename_i q
      exact (Fail.now (sep_no h0 fun a => ⟨fun b => q ⟨a, .inl b⟩, fun b => q ⟨a, .inr b⟩⟩)).mono (by omega)
  | .grp g k :: r, gt, v, D, ok, h, hw, hm => by
    obtain ⟨h0, h1, h2, h3, h4, h5⟩ := D
    obtain ⟨k0, k1, k2, k3⟩ := ok
    have lt := h2.lt
    rw [List.length_cons] at hw ⊢
    generalize hv₂ : marked v (2 * g) = v₂
    have a1 : v₂.pc = v.pc + 2 := by rw [← hv₂]; rfl
    have a2 : v₂.pos = v.pos := by rw [← hv₂]; rfl
    have a3 : v₂.w = v.w := by rw [← hv₂]; rfl
    have a4 : v₂.marks.size = v.marks.size := by rw [← hv₂, marked_size]
    have kz₂ := keepV_size v₂ v₂.inner.isSome
    have kk : (45 + 1) * k ≤ 46 * 6 := Nat.mul_le_mul_left 46 k2
    refine (Fail.of_go (j := 1) (k := 1 + (1 + (44 + 400 * r.length)) + ((45 + 1) * k + 1)) (v₁ := v₂) (by rw [← hv₂]; exact mark_go (by omega) h0 h1) ?_ (by rw [← hv₂]; rfl) a3 (by rw [← hv₂]; rfl) (by rw [← hv₂]; rfl) a4).mono (by omega)
    have nx : ∀ (v' : V), v'.pc = v₂.pc + 10 → Go1 C T 1 v' none (marked v' (2 * g + 1)) none := fun v' e => mark_go (i := 2 * g + 1) (by rw [e]; omega) (by rw [e, a1, Nat.add_assoc]; exact h3) (by rw [e, a1, Nat.add_assoc, Nat.add_assoc]; exact h4)
    refine dig_fail (K := 45) (k := k) (by rw [a1]; exact h2) (by omega) (by omega) (fun v' j b1 b2 b3 b4 b5 b6 b7 b8 => ?_) fun b1 => ?_
    · have mz : (marked v' (2 * g + 1)).marks.size = v.marks.size := (marked_size _ _).trans (b6.trans a4)
      have := digN_at b2
      refine Fail.of_go (j := 1) (k := 44) (nx v' b3) ?_ rfl rfl rfl rfl (marked_size _ _)
      refine nodig_fail (its := r) (gt := gt) (by show ItsAt C (v'.pc + 2) r gt; rw [b3, a1]; exact h5) k0 (by show v'.pos < _; omega) (by show dec (T.getD v'.pos 0) = true; rw [b4]; exact this.2) (by show v'.w ≤ _; omega) (by rw [mz]; exact hm)
    · have mz : (marked (digV k T v₂) (2 * g + 1)).marks.size = v.marks.size := (marked_size _ _).trans a4
      refine Fail.of_go (j := 1) (k := 44 + 400 * r.length) (nx _ rfl) ?_ rfl rfl rfl rfl (marked_size _ _)
      refine its_fail (its := r) (gt := gt) (by show ItsAt C (v₂.pc + 10 + 2) r gt; rw [a1]; exact h5) (by rw [mz]; exact k3) ?_ (by show v₂.w + 1 + (keepV v₂ v₂.inner.isSome).marks.size + _ ≤ _; omega) (by rw [mz]; exact hm)
      show scan T gt r (v₂.pos + digN T k v₂.pos) = none
      rw [a2] at b1 ⊢
      unfold scan at h
      rw [if_neg (by omega)] at h
      cases hs : scan T gt r (v.pos + digN T k v.pos) with
      | none => rfl
      | some l' => rw [hs] at h; cases h
end
end Mine
end

section
open PySem PySem.Sre PySem.W PySem.Calls PyProof.Rows PySem.Builtin.Re
set_option Elab.async false
set_option maxRecDepth 20000
set_option linter.unusedVariables false
set_option linter.unusedSimpArgs false
namespace Mine
section
variable {C T : Array Nat} {v : V} {f : Sre.Frame} {r : List Sre.Frame} {e : Ef}
structure SignAt (C : Array Nat) (P c : Nat) : Prop where
  opt : OptAt C P (P + 10)
  m0 : C.getD (P + 4) 0 = 17
  m1 : C.getD (P + 5) 0 = 0
  l0 : C.getD (P + 6) 0 = 16
  l1 : C.getD (P + 7) 0 = c
  n0 : C.getD (P + 8) 0 = 17
  n1 : C.getD (P + 9) 0 = 1
def scanS (T : Array Nat) (c gt : Nat) (its : List It) (p : Nat) : Option Spans := if p < T.size ∧ T.getD p 0 = c then (scan T gt its (p + 1)).map ((0, p, p + 1) :: ·) else scan T gt its p
theorem sign_win {c gt g k : Nat} {its : List It} {l : Spans} (D : SignAt C v.pc c) (hI : ItsAt C (v.pc + 11) (.grp g k :: its) gt) (ok : ItsOk v.marks.size (.grp g k :: its)) (hg : 2 * gt + 1 < v.marks.size) (hc : dec c = false) (h : scanS T c gt (.grp g k :: its) v.pos = some l)
    (hw : v.w + 200 * (its.length + 1) + 200 ≤ 50000) (hm : v.marks.size ≤ 100) (hlm : v.lm + 1 ≤ v.marks.size) (hL : 2 < v.marks.size) : Win C T (500 + 300 * its.length) v (app (eff v) l) := by
  have lt := D.opt.lt
  have kz := keepV_size v true
  unfold scanS at h
  split at h
  · rename_i q
    cases hs : scan T gt (.grp g k :: its) (v.pos + 1) with
    | none => rw [hs] at h; cases h
    | some l' =>
      rw [hs] at h
      cases h
      refine (Win.opt (K := 3 + (2 + (44 + 300 * (its.length + 1)))) D.opt (by omega) hm ?_).mono (by omega)
      refine (Win.of_go (j := 1) (k := 2 + (2 + (44 + 300 * (its.length + 1)))) (mark_go (i := 0) (by show v.pc + 4 < _; omega) D.m0 D.m1) ?_ rfl).mono (by omega)
      refine (Win.of_go (j := 1) (k := 1 + (2 + (44 + 300 * (its.length + 1)))) (lit_go (v := marked (entV v (v.pc + 10)) 0) (c := c) (by show v.pc + 4 + 2 < _; omega) (by show C.getD (v.pc + 4 + 2) 0 = _; rw [Nat.add_assoc]; exact D.l0) (by show C.getD (v.pc + 4 + 2 + 1) 0 = _; rw [Nat.add_assoc, Nat.add_assoc]; exact D.l1) q.1 q.2) ?_ rfl).mono (by omega)
      refine (Win.of_go (j := 1) (k := 2 + (44 + 300 * (its.length + 1))) (mark_go (i := 1) (by show v.pc + 4 + 2 + 2 < _; omega) (by show C.getD (v.pc + 4 + 2 + 2) 0 = _; rw [Nat.add_assoc, Nat.add_assoc]; exact D.n0) (by show C.getD (v.pc + 4 + 2 + 2 + 1) 0 = _; rw [Nat.add_assoc, Nat.add_assoc, Nat.add_assoc]; exact D.n1)) ?_ rfl).mono (by omega)
      refine (Win.atU (K := 44 + 300 * (its.length + 1)) (L := v.loops) (l := { pc := v.pc, count := 0, began := some v.pos, outer := v.inner }) D.opt (by show v.pc + 4 + 2 + 2 + 2 = _; omega) rfl rfl rfl rfl (by show v.w + 1 + 1 + (keepV v true).marks.size ≤ _; omega) ?_).mono (by omega)
      generalize hu : marked { marked (entV v (v.pc + 10)) 0 with pc := (marked (entV v (v.pc + 10)) 0).pc + 2, pos := (marked (entV v (v.pc + 10)) 0).pos + 1 } 1 = u
      have u1 : u.marks.size = v.marks.size := by rw [← hu, marked_size]; exact marked_size _ _
      have u2 : u.pos = v.pos + 1 := by rw [← hu]; rfl
      have u3 : u.w = v.w + 1 + 1 + (keepV v true).marks.size := by rw [← hu]; rfl
      have u4 : u.lm + 1 ≤ v.marks.size := by rw [← hu]; show max (max v.lm ((0 : Nat) : Int)) ((1 : Nat) : Int) + 1 ≤ _; omega
      have u5 : eff u = upd (upd (eff v) 0 v.pos) 1 (v.pos + 1) := by
        rw [← hu, eff_marked (by show 1 < (marked (entV v (v.pc + 10)) 0).marks.size; rw [marked_size]; show 1 < v.marks.size; omega)]
        show upd (eff (marked (entV v (v.pc + 10)) 0)) 1 (v.pos + 1) = _
        rw [eff_marked (by show 0 < v.marks.size; omega)]
        rfl
      have := its_win (C := C) (T := T) (its := .grp g k :: its) (gt := gt) (v := tailV u v.loops { pc := v.pc, count := 0, began := some v.pos, outer := v.inner } (v.pc + 10) 1) (l := l') hI (by show ItsOk u.marks.size _; rw [u1]; exact ok) (by show _ < u.marks.size; rw [u1]; exact hg)
        (by show scan T gt _ u.pos = _; rw [u2]; exact hs) (by show u.w + 1 + _ ≤ _; rw [List.length_cons]; omega) (by show u.marks.size ≤ _; rw [u1]; exact hm) (by show u.lm + 1 ≤ (u.marks.size : Int); rw [u1]; exact u4)
      have e2 : eff (tailV u v.loops { pc := v.pc, count := 0, began := some v.pos, outer := v.inner } (v.pc + 10) 1) = eff u := rfl
      rw [e2, u5] at this
      exact this
  · rename_i q
    refine (Win.skip (K := 2) (K' := 44 + 300 * (its.length + 1)) D.opt (by omega) hm hlm ?_ fun v' e1 e2 e3 e4 e5 e6 => ?_).mono (by omega)
    · refine Fail.of_go (j := 1) (k := 1) (mark_go (i := 0) (by show v.pc + 4 < _; omega) D.m0 D.m1) ?_ rfl rfl rfl rfl (marked_size _ _)
      exact Fail.now (lit_no (v := marked (entV v (v.pc + 10)) 0) (c := c) (by show v.pc + 4 + 2 < _; omega) (by show C.getD (v.pc + 4 + 2) 0 = _; rw [Nat.add_assoc]; exact D.l0) (by show C.getD (v.pc + 4 + 2 + 1) 0 = _; rw [Nat.add_assoc, Nat.add_assoc]; exact D.l1) fun a b => q ⟨a, b⟩)
    · have := its_win (C := C) (T := T) (its := .grp g k :: its) (gt := gt) (v := v') (l := l) (by rw [e1]; exact hI) (by rw [e4]; exact ok) (by rw [e4]; exact hg) (by rw [e2]; exact h) (by rw [List.length_cons]; omega) (by rw [e4]; exact hm) (by rw [e5, e4]; exact hlm)
      rw [e6] at this
      exact this
theorem sign_fail {c gt g k : Nat} {its : List It} (D : SignAt C v.pc c) (hI : ItsAt C (v.pc + 11) (.grp g k :: its) gt) (ok : ItsOk v.marks.size (.grp g k :: its)) (hc : dec c = false) (h : scanS T c gt (.grp g k :: its) v.pos = none)
    (hw : v.w + 200 * (its.length + 1) + 200 ≤ 50000) (hm : v.marks.size ≤ 100) : Fail C T (2000 + 800 * its.length) v := by
  have lt := D.opt.lt
  have kz := keepV_size v true
  have rest : ∀ v' : V, v'.pc = v.pc + 10 + 1 → v'.pos = v.pos → v'.w ≤ v.w + 2 → v'.marks.size = v.marks.size → Fail C T (44 + 400 * (its.length + 1)) v' := fun v' e1 e2 e3 e4 => by
    refine its_fail (its := .grp g k :: its) (gt := gt) (by rw [e1]; exact hI) (by rw [e4]; exact ok) ?_ (by rw [List.length_cons]; omega) (by omega)
    rw [e2]
    unfold scanS at h
    split at h
    · rename_i q
      unfold scan
      rw [if_pos]
      unfold digN
      split
      · rfl
      · rw [if_neg]
        rintro ⟨_, z⟩
        rw [q.2] at z
        exact absurd (hc.symm.trans z) (by decide)
    · exact h
  refine (Fail.opt (K := 3 + (2 + (44 + 400 * (its.length + 1)))) (K' := 44 + 400 * (its.length + 1)) D.opt (by omega) hm ?_ rest).mono (by omega)
  refine (Fail.of_go (j := 1) (k := 2 + (2 + (44 + 400 * (its.length + 1)))) (mark_go (i := 0) (by show v.pc + 4 < _; omega) D.m0 D.m1) ?_ rfl rfl rfl rfl (marked_size _ _)).mono (by omega)
  by_cases q : v.pos < T.size ∧ T.getD v.pos 0 = c
  · refine (Fail.of_go (j := 1) (k := 1 + (2 + (44 + 400 * (its.length + 1)))) (lit_go (v := marked (entV v (v.pc + 10)) 0) (c := c) (by show v.pc + 4 + 2 < _; omega) (by show C.getD (v.pc + 4 + 2) 0 = _; rw [Nat.add_assoc]; exact D.l0) (by show C.getD (v.pc + 4 + 2 + 1) 0 = _; rw [Nat.add_assoc, Nat.add_assoc]; exact D.l1) q.1 q.2) ?_ rfl rfl rfl rfl rfl).mono (by omega)
    refine (Fail.of_go (j := 1) (k := 2 + (44 + 400 * (its.length + 1))) (mark_go (i := 1) (by show v.pc + 4 + 2 + 2 < _; omega) (by show C.getD (v.pc + 4 + 2 + 2) 0 = _; rw [Nat.add_assoc, Nat.add_assoc]; exact D.n0) (by show C.getD (v.pc + 4 + 2 + 2 + 1) 0 = _; rw [Nat.add_assoc, Nat.add_assoc, Nat.add_assoc]; exact D.n1)) ?_ rfl rfl rfl rfl (marked_size _ _)).mono (by omega)
    refine (Fail.atU (K := 44 + 400 * (its.length + 1)) (L := v.loops) (l := { pc := v.pc, count := 0, began := some v.pos, outer := v.inner }) D.opt (by show v.pc + 4 + 2 + 2 + 2 = _; omega) rfl rfl rfl rfl (by show v.w + 1 + 1 + (keepV v true).marks.size ≤ _; omega) ?_).mono (by omega)
    generalize hu : marked { marked (entV v (v.pc + 10)) 0 with pc := (marked (entV v (v.pc + 10)) 0).pc + 2, pos := (marked (entV v (v.pc + 10)) 0).pos + 1 } 1 = u
    have u1 : u.marks.size = v.marks.size := by rw [← hu, marked_size]; exact marked_size _ _
    have u2 : u.pos = v.pos + 1 := by rw [← hu]; rfl
    have u3 : u.w = v.w + 1 + 1 + (keepV v true).marks.size := by rw [← hu]; rfl
    unfold scanS at h
    rw [if_pos q] at h
    refine its_fail (its := .grp g k :: its) (gt := gt) (v := tailV u v.loops { pc := v.pc, count := 0, began := some v.pos, outer := v.inner } (v.pc + 10) 1) hI (by show ItsOk u.marks.size _; rw [u1]; exact ok) ?_ (by show u.w + 1 + _ ≤ _; rw [List.length_cons]; omega) (by show u.marks.size ≤ _; rw [u1]; exact hm)
    show scan T gt _ u.pos = none
    rw [u2]
    cases hs : scan T gt (.grp g k :: its) (v.pos + 1) with
    | none => rfl
    | some l' => rw [hs] at h; cases h
  · exact (Fail.now (lit_no (v := marked (entV v (v.pc + 10)) 0) (c := c) (by show v.pc + 4 + 2 < _; omega) (by show C.getD (v.pc + 4 + 2) 0 = _; rw [Nat.add_assoc]; exact D.l0) (by show C.getD (v.pc + 4 + 2 + 1) 0 = _; rw [Nat.add_assoc, Nat.add_assoc]; exact D.l1) fun a b => q ⟨a, b⟩)).mono (by omega)

theorem digN_le : ∀ (k p : Nat), digN T k p ≤ k
  | 0, p => Nat.le_refl _
  | k + 1, p => by unfold digN; split; have := digN_le k (p + 1); omega; omega
theorem digN_sz : ∀ (k p : Nat), p ≤ T.size → p + digN T k p ≤ T.size
  | 0, p, h => by simpa [digN] using h
  | k + 1, p, h => by
    unfold digN
    split
    · rename_i q; have := digN_sz k (p + 1) q.1; omega
    · omega
theorem scanT_len {g p : Nat} {l : Spans} (h : scanT T g p = some l) : p ≤ T.size := by
  unfold scanT at h
  split at h
  · omega
  · split at h
    · omega
    · cases h
theorem scan_len {gt : Nat} : ∀ {its : List It} {p : Nat} {l : Spans}, scan T gt its p = some l → p + its.length ≤ T.size
  | [], p, l, h => scanT_len h
  | .lit c :: r, p, l, h => by
    unfold scan at h
    split at h
    · have := scan_len h; rw [List.length_cons]; omega
    · cases h
  | .sep a b :: r, p, l, h => by
    unfold scan at h
    split at h
    · have := scan_len h; rw [List.length_cons]; omega
    · cases h
  | .grp g k :: r, p, l, h => by
    unfold scan at h
    split at h
    · cases h
    · cases hs : scan T gt r (p + digN T k p) with
      | none => rw [hs] at h; cases h
      | some l' => have := scan_len hs; rw [List.length_cons]; omega
theorem scanS_len {c gt : Nat} {its : List It} {p : Nat} {l : Spans} (h : scanS T c gt its p = some l) : p + its.length ≤ T.size := by
  unfold scanS at h
  split at h
  · cases hs : scan T gt its (p + 1) with
    | none => rw [hs] at h; cases h
    | some l' => have := scan_len hs; omega
  · exact scan_len h

def v0 (groups pc : Nat) : V := { pc, pos := 0, handed := 0, marks := Array.replicate (2 * groups) none, lm := -1, li := -1, loops := #[], inner := none, F := [], w := 0 }
theorem v0_eff (groups pc : Nat) : eff (v0 groups pc) = fun _ => none := by
  funext j
  unfold eff
  rw [if_neg (by show ¬ ((j : Int) ≤ -1); omega)]
variable {M : Model} {A : Around} {E : Value → Shared → Prop} {s : Shared}
theorem drive_go {fin : Sre.M} {Q : Sre.M → Shared → Prop} (ho : fin.outcome.isSome = true) (h : Q fin s) : ∀ (t turns : Nat) (m : Sre.M), t < turns → (∀ j, Sre.M.runFor (4 * t + j) m = fin) → wpAny M A (reDrive turns m) Q E s
  | t, 0, m, ht, _ => by omega
  | 0, turns + 1, m, ht, hj => by
    show wpAny M A (if (Sre.M.runFor reTurnSteps m).outcome.isSome then _ else _) Q E s
    have e : Sre.M.runFor reTurnSteps m = fin := hj 4
    rw [e, if_pos ho]
    exact wpAny_pure h
  | t + 1, turns + 1, m, ht, hj => by
    show wpAny M A (if (Sre.M.runFor reTurnSteps m).outcome.isSome then _ else _) Q E s
    by_cases q : (Sre.M.runFor reTurnSteps m).outcome.isSome = true
    · have e : Sre.M.runFor reTurnSteps m = fin := by
        have := hj 0
        rw [show 4 * (t + 1) + 0 = reTurnSteps + 4 * t by show _ = 4 + 4 * t; omega, runFor_add, runFor_halt _ _ q] at this
        exact this
      rw [if_pos q, e]
      exact wpAny_pure h
    · rw [if_neg q]
      refine wpAny_bind (wpAny_rule (drive_go ho h t turns _ (by omega) fun j => ?_))
      have := hj j
      rw [show 4 * (t + 1) + j = reTurnSteps + (4 * t + j) by show _ = 4 + _; omega, runFor_add] at this
      exact this
theorem rules_go {f : Nat → PUnit → Sem (ForInStep PUnit)} {Q : PUnit → Shared → Prop} (hf : ∀ i, wpAny M A (f i ⟨⟩) (fun r s' => r = .yield ⟨⟩ ∧ s' = s) E s) (h : Q ⟨⟩ s) (l : List Nat) : wpAny M A (forIn l PUnit.unit f) Q E s := by
  induction l with
  | nil => exact wpAny_pure h
  | cons i l ih =>
    rw [List.forIn_cons]
    exact wpAny_bind (wpAny_mono (hf i) (fun r s' hr => by obtain ⟨rfl, rfl⟩ := hr; exact ih) fun _ _ x => x)
theorem end_go {m fin : Sre.M} {Q : Option Sre.M → Shared → Prop} {k : Nat} (hk : k ≤ 100000) (hf : ∀ j, Sre.M.runFor (k + j) m = fin) (ho : fin.outcome = some .matched ∧ Q (some fin) s ∨ fin.outcome = some .failed ∧ Q none s) : wpAny M A (reRunToEnd m) Q E s := by
  unfold reRunToEnd
  have hs : fin.outcome.isSome = true := by rcases ho with h | h <;> rw [h.1] <;> rfl
  have lt : k < 2 ^ 64 := Nat.lt_of_le_of_lt hk (by decide)
  refine wpAny_bind (drive_go (s := s) (fin := fin) hs ?_ k (2 ^ 64) m lt fun j => by rw [show 4 * k + j = k + (3 * k + j) by omega]; exact hf _)
  refine wpAny_bind (rules_go (fun i => ?_) ?_ _)
  · split
    · exact wpAny_bind (wpAny_rule (wpAny_pure ⟨rfl, rfl⟩))
    · exact wpAny_pure ⟨rfl, rfl⟩
  · rcases ho with h | h
    · rw [h.1]; exact wpAny_pure h.2
    · rw [h.1]; exact wpAny_pure h.2
theorem fin_go {k : Nat} {b : Bool} {v v' : V} (g : Go1 C T k v none v' (some b)) (hF : v'.F = []) (seen : Sre.Seen) : ∃ fin seen', (∀ j, Sre.M.runFor (k + 1 + j) (mkM C T v none seen) = fin) ∧ fin = { mkM C T v' (some b) seen' with outcome := some (if b then .matched else .failed) } := by
  obtain ⟨s', n, hn, en⟩ := g seen
  refine ⟨_, s', fun j => ?_, rfl⟩
  rw [show k + 1 + j = n + (1 + (k - n + j)) by omega, runFor_add, en, runFor_add]
  have e : Sre.M.runFor 1 (mkM C T v' (some b) s') = { mkM C T v' (some b) s' with outcome := some (if b then .matched else .failed) } := by
    show Sre.M.step _ = _
    simp only [Sre.M.step, mkM, Option.isSome_none, Bool.false_eq_true, if_false, hF]
  rw [e]
  exact runFor_halt _ _ rfl
end
end Mine
end

section
open PySem PySem.W PySem.Calls PyProof.Rows
set_option Elab.async false
set_option linter.unusedVariables false
namespace Mine

inductive D where
  | none | bool (b : Bool) | int (i : Int) | str (s : PySem.Str) | bytes (b : Array UInt8)
  | tup (l : List D) | list (l : List D) | obj (c : Addr) (fs : List (PySem.Str × Int)) | bar (b : Array UInt8) | mat (x : PySem.Str) (sp : List (Option (Nat × Nat))) | fn (v : Value) | rng (a b c : Int) | dct (prog : Program) (w : World) (l : List (PySem.Str × Value))

def Fields (es : List DictEntry) (fs : List (PySem.Str × Int)) : Prop := (∀ e ∈ es, e.refKey = false) ∧ ∀ nm i, fs.lookup nm = some i → ∃ t, getL nm es = some (some (.int i t))
def spanV : Option (Nat × Nat) → List Value
  | some (b, e) => [rawInt b, rawInt e]
  | none => [rawInt (-1), rawInt (-1)]
mutual
inductive Rep (g : Heap) : Value → D → Prop
  | none : Rep g .none .none
  | bool (b : Bool) : Rep g (.bool b) (.bool b)
  | int (i : Int) (t : Tok) : Rep g (.int i t) (.int i)
  | str (s : PySem.Str) (t : Tok) : Rep g (.str s t) (.str s)
  | bytes (b : Array UInt8) (t : Tok) : Rep g (.bytes b t) (.bytes b)
  | tup {a : Addr} {vs : List Value} {ds : List D} : IsTup g a vs.toArray → RepL g vs ds → Rep g (.ref a) (.tup ds)
  | list {a : Addr} {vs : List Value} {ds : List D} : g.IsList a vs.toArray → RepL g vs ds → Rep g (.ref a) (.list ds)
  | fn (v : Value) : Rep g v (.fn v)
  | dct {a : Addr} {prog : Program} {w : World} {l : List (PySem.Str × Value)} : (a == sysModules) = false → g.DictOf (strKind prog w) a l → Rep g (.ref a) (.dct prog w l)
  | rng {r : Addr} {a b c : Int} {t u v : Tok} : IsRange g r a b c t u v → Rep g (.ref r) (.rng a b c)
  | obj {x dx C : Addr} {es : List DictEntry} {n : Nat} {fs : List (PySem.Str × Int)} : g.get? x = some (instObj C dx) → g.get? dx = some (dictOf es n) → Fields es fs → Rep g (.ref x) (.obj C fs)
  | bar {a : Addr} {b : Array UInt8} {o : Obj} : g.get? a = some o → o.cls = .type "bytearray" → o.dict = Option.none → o.data = .bytearray b → Rep g (.ref a) (.bar b)
  | mat {a q : Addr} {o : Obj} {x : PySem.Str} {t : Tok} {p u1 u2 u3 : Value} {e0 : Nat} {sp : List (Option (Nat × Nat))} : g.get? a = some o → o.cls = .type "re.Match" → o.dict = Option.none → o.data = .fields #[.str x t, p, u1, u2, u3, .ref q] →
      IsTup g q (rawInt (0 : Nat) :: rawInt e0 :: sp.flatMap spanV).toArray → Rep g (.ref a) (.mat x sp)
inductive RepL (g : Heap) : List Value → List D → Prop
  | nil : RepL g [] []
  | cons {v : Value} {d : D} {vs : List Value} {ds : List D} : Rep g v d → RepL g vs ds → RepL g (v :: vs) (d :: ds)
end

mutual
theorem Rep.mono {g g' : Heap} (k : g.StaysIn g') : ∀ {v : Value} {d : D}, Rep g v d → Rep g' v d
  | _, _, .none => .none
  | _, _, .bool b => .bool b
  | _, _, .int i t => .int i t
  | _, _, .str i t => .str i t
  | _, _, .bytes i t => .bytes i t
  | _, _, .tup h r => .tup (IsTup.keeps h k) (RepL.mono k r)
  | _, _, .list h r => .list (let ⟨o, ho, q⟩ := h; ⟨o, k _ o ho, q⟩) (RepL.mono k r)
  | _, _, .fn v => .fn v
  | _, _, .dct z h => .dct z (let ⟨o, es, ep, ho, r⟩ := h; ⟨o, es, ep, k _ _ ho, r⟩)
  | _, _, .rng h => .rng (k _ _ h)
  | _, _, .obj h1 h2 h3 => .obj (k _ _ h1) (k _ _ h2) h3
  | _, _, .bar h1 h2 h3 h4 => .bar (k _ _ h1) h2 h3 h4
  | _, _, .mat h1 h2 h3 h4 h5 => .mat (k _ _ h1) h2 h3 h4 (IsTup.keeps h5 k)
theorem RepL.mono {g g' : Heap} (k : g.StaysIn g') : ∀ {vs : List Value} {ds : List D}, RepL g vs ds → RepL g' vs ds
  | _, _, .nil => .nil
  | _, _, .cons h r => .cons (Rep.mono k h) (RepL.mono k r)
end

structure Wd where
  prog : Program
  w : World
  K : Frag
  p : Program
  loose : List PySem.Str
  mean : ExcName → Option Value
  mg : PySem.Str → Option Value
  mb : PySem.Str → Option Value

structure Gd (W : Wd) (g : Heap) : Prop where
  X : W.K.In g
  T : Top W.p W.loose W.mean W.mg W.mb g
theorem Gd.mono {W : Wd} {g g' : Heap} (G : Gd W g) (k : g.StaysIn g') : Gd W g' := ⟨G.X.keeps k, G.T.keeps k⟩

abbrev fr (l : List Env) : List Addr := l.filterMap (·.frame)

structure Stp (fs : List Addr) (h h' : Heap) : Prop where
  keep : ∀ b o, h.get? b = some o → b ∉ fs → h'.get? b = some o
  slot : ∀ b o, h.get? b = some o → b ∈ fs → ∃ sl, h'.get? b = some { o with slots := sl }
theorem Stp.refl {fs : List Addr} {h : Heap} : Stp fs h h := ⟨fun _ _ e _ => e, fun _ o e _ => ⟨o.slots, e⟩⟩
theorem Stp.trans {fs : List Addr} {h h₁ h₂ : Heap} (x : Stp fs h h₁) (y : Stp fs h₁ h₂) : Stp fs h h₂ :=
  ⟨fun b o e m => y.keep b o (x.keep b o e m) m, fun b o e m => by
    obtain ⟨s1, e1⟩ := x.slot b o e m
    obtain ⟨s2, e2⟩ := y.slot b _ e1 m
    exact ⟨s2, e2⟩⟩
theorem Stp.of_keeps {fs : List Addr} {h h' : Heap} (k : h.StaysIn h') : Stp fs h h' := ⟨fun b o e _ => k b o e, fun b o e _ => ⟨o.slots, k b o e⟩⟩
theorem Stp.push {fs : List Addr} {h : Heap} (o : Obj) : Stp fs h (h.push o) := .of_keeps (fun _ _ e => Heap.get?_push_of_some o e)
theorem Stp.hid {fs X : List Addr} {h h' : Heap} (x : Stp fs h h') (hs : ∀ b ∈ fs, b ∈ X) : (hideAll h X).StaysIn (hideAll h' X) := fun b o e => by
  have nb : b ∉ X := fun m => by rw [hideAll_none X m] at e; cases e
  exact hideAll_get X (x.keep b o (of_hideAll X e) fun m => nb (hs b m)) nb
theorem Stp.exs {fs X : List Addr} {h h' : Heap} (x : Stp fs h h') (k : ∀ b ∈ X, ∃ o, h.get? b = some o) : ∀ b ∈ X, ∃ o, h'.get? b = some o := fun b hb => by
  obtain ⟨o, e⟩ := k b hb
  by_cases q : b ∈ fs
  · obtain ⟨sl, e'⟩ := x.slot b o e q
    exact ⟨_, e'⟩
  · exact ⟨o, x.keep b o e q⟩
theorem Stp.ns {fs : List Addr} {h h' : Heap} {L : Addr} {m : PySem.Str → Option Value} (x : Stp fs h h') (hn : h.Ns L m) : h'.Ns L m := by
  obtain ⟨o, es, ep, ho, hd, r⟩ := hn
  by_cases q : L ∈ fs
  · obtain ⟨sl, e⟩ := x.slot L o ho q
    exact ⟨_, es, ep, e, hd, r⟩
  · exact ⟨o, es, ep, x.keep L o ho q, hd, r⟩
theorem Stp.frames {fs X : List Addr} {h h' : Heap} (x : Stp fs h h') : ∀ {l : List Env}, (∀ b ∈ fr l, b ∈ X) → h.FunFrames (hideAll h X) l → h'.FunFrames (hideAll h' X) l
  | [], _, _ => trivial
  | env :: r, hs, ⟨hk, ⟨L, o, hf, _, ho, hd⟩, hr⟩ => by
    have mL : L ∈ fr (env :: r) := by simp [fr, hf]
    have hL : L ∈ X := hs L mL
    have hr' : ∀ b ∈ fr r, b ∈ X := fun b hb => hs b (by
      rw [fr, List.filterMap_cons, hf]; exact List.mem_cons_of_mem _ hb)
    refine ⟨hk, ?_, x.frames hr' hr⟩
    by_cases q : L ∈ fs
    · obtain ⟨sl, e⟩ := x.slot L o ho q
      exact ⟨L, _, hf, hideAll_none X hL, e, hd⟩
    · exact ⟨L, o, hf, hideAll_none X hL, x.keep L o ho q, hd⟩

def HndOk (hd : Nat) (x : Option Value) (g : Heap) : Prop := x = none ∨ (hd = 1 ∧ ∃ e oe vs, x = some (.ref e) ∧ g.get? e = some oe ∧ oe.data = .fields vs ∧ vs[2]? = some .none) ∨ hd = 2
theorem HndOk.mono {hd : Nat} {x : Option Value} {g g' : Heap} (h : HndOk hd x g) (k : g.StaysIn g') : HndOk hd x g' :=
  h.imp id fun z => z.imp (fun ⟨q, e, oe, vs, a, b, c, d⟩ => ⟨q, e, oe, vs, a, k _ _ b, c, d⟩) id
theorem HndOk.none {x : Option Value} {g : Heap} (h : HndOk 0 x g) : x = Option.none := by
  rcases h with h | ⟨q, _⟩ | q
  · exact h
  · cases q
  · cases q
structure Sx (W : Wd) (A : Around) (outer : List Env) (X : List Addr) (h : Heap) (n : Nat) (hd : Nat) : Prop where
  gd : Gd W (hideAll h X)
  stack : A.frames = some outer
  frames : h.FunFrames (hideAll h X) outer
  sub : ∀ b ∈ fr outer, b ∈ X
  ex : ∀ b ∈ X, ∃ o, h.get? b = some o
  room : A.depth + n < recursionLimit
  units : A.units + 8 * n + 80 < cLine
  hand : HndOk hd A.handled (hideAll h X)
theorem Sx.step {W : Wd} {A : Around} {outer : List Env} {X : List Addr} {h h' : Heap} {n : Nat} {hd : Nat} (S : Sx W A outer X h n hd) (x : Stp (fr outer) h h') : Sx W A outer X h' n hd :=
  ⟨S.gd.mono (x.hid S.sub), S.stack, x.frames S.sub S.frames, S.sub, x.exs S.ex, S.room, S.units, S.hand.mono (x.hid S.sub)⟩

theorem Sx.fresh {W : Wd} {A : Around} {outer : List Env} {X : List Addr} {h : Heap} {n : Nat} {hd : Nat} (S : Sx W A outer X h n hd) : h.objs.size ∉ X := fun m => by
  obtain ⟨o, e⟩ := S.ex _ m
  exact absurd (Heap.lt_size e) (Nat.lt_irrefl _)
def Go (W : Wd) (A : Around) (outer : List Env) (X : List Addr) (s : Shared) (t : Sem Value) (d : D) : Prop :=
  ∀ (Q : Value → Shared → Prop) (E : Value → Shared → Prop), (∀ v h' tk', Stp (fr outer) s.heap h' → Rep (hideAll h' X) v d → Q v { s with heap := h', toks := tk' }) → wpAny (model W.prog W.w) A t Q E s

abbrev Sg := List (PySem.Str × D)
def Loc (g : Heap) (m : PySem.Str → Option Value) (σ : Sg) : Prop := ∀ x d, σ.lookup x = some d → ∃ v, m x = some v ∧ Rep g v d
theorem Loc.mono {g g' : Heap} {m : PySem.Str → Option Value} {σ : Sg} (l : Loc g m σ) (k : g.StaysIn g') : Loc g' m σ := fun x d e => let ⟨v, h, r⟩ := l x d e; ⟨v, h, r.mono k⟩

structure Cx (W : Wd) (fd : FuncData) (L a : Addr) (A : Around) (outer : List Env) (X : List Addr) (h : Heap) (m : PySem.Str → Option Value) (n : Nat) (hd : Nat) : Prop where
  sx : Sx W A (callEnv fd L a :: outer) X h n hd
  ns : h.Ns L m
theorem Cx.step {W : Wd} {fd : FuncData} {L a : Addr} {A : Around} {outer : List Env} {X : List Addr} {h h' : Heap} {m : PySem.Str → Option Value} {n : Nat} {hd : Nat}
    (C : Cx W fd L a A outer X h m n hd) (x : Stp (fr (callEnv fd L a :: outer)) h h') : Cx W fd L a A outer X h' m n hd := ⟨C.sx.step x, x.ns C.ns⟩

structure FdIs (fd : FuncData) (sc : Scope) : Prop where
  s : fd.scope = sc
  k : fd.scope.kind = .function
  g : fd.globals = mainGlobals
  b : fd.builtins = builtinsNs
def Ev (W : Wd) (fd : FuncData) (n : Nat) (hd : Nat) (σ : Sg) (e : Expr) (d : D) : Prop :=
  ∀ (L a : Addr) (A : Around) (outer : List Env) (X : List Addr) (s : Shared) (m : PySem.Str → Option Value), Cx W fd L a A outer X s.heap m n hd → Loc (hideAll s.heap X) m σ →
    Go W A (callEnv fd L a :: outer) X s (eval e (callEnv fd L a)) d
def Bin (W : Wd) (n : Nat) (hd : Nat) (op : Operator) (d1 d2 d : D) : Prop :=
  ∀ (A : Around) (outer : List Env) (X : List Addr) (s : Shared) (v1 v2 : Value), Sx W A outer X s.heap n hd → Rep (hideAll s.heap X) v1 d1 → Rep (hideAll s.heap X) v2 d2 → Go W A outer X s (binaryOp op v1 v2) d

section
variable {W : Wd} {fd : FuncData} {n : Nat} {hd : Nat} {σ : Sg}
theorem Ev.int {i k pos} : Ev W fd n hd σ (.Constant (.int i) k pos) (.int i) := fun L a A outer X s m C l Q E h =>
  wpAny_Constant_int (h _ _ _ .refl (.int _ _))
theorem Ev.strc {i k pos} : Ev W fd n hd σ (.Constant (.str i) k pos) (.str i) := fun L a A outer X s m C l Q E h =>
  Constant_str (h _ _ _ .refl (.str _ _))
theorem Ev.boolc {i k pos} : Ev W fd n hd σ (.Constant (.bool i) k pos) (.bool i) := fun L a A outer X s m C l Q E h =>
  Constant_bool (h _ _ _ .refl (.bool _))
theorem Ev.nonec {k pos} : Ev W fd n hd σ (.Constant .none k pos) .none := fun L a A outer X s m C l Q E h =>
  Constant_none (h _ _ _ .refl .none)
theorem Ev.loc {sc : Scope} (F : FdIs fd sc) {x : PySem.Str} {pos : Pos} {d : D} (hx : σ.lookup x = some d) (hl : sc.names.lookup x = some .local := by rfl) (hb : (x == ("__debug__" : PySem.Str)) = false := by rfl) :
    Ev W fd n hd σ (.Name x pos) d := fun L a A outer X s m C l Q E h => by
  obtain ⟨v, hv, r⟩ := l x d hx
  exact wpAny_Name (wpAny_loadName_local F.k (show fd.scope.names.lookup x = _ by rw [F.s]; exact hl) C.ns hv (h _ _ _ .refl r)) hb

def Glb (W : Wd) (x : PySem.Str) (d : D) : Prop := ∀ g, Gd W g → ∃ v, W.mg x = some v ∧ Rep g v d
def Bti (W : Wd) (x : PySem.Str) (d : D) : Prop := ∀ g, Gd W g → W.mg x = none ∧ ∃ v, W.mb x = some v ∧ Rep g v d
theorem Ev.glob {sc : Scope} (F : FdIs fd sc) {x : PySem.Str} {pos : Pos} {d : D} (hg : Glb W x d) (hl : sc.names.lookup x = some .globalImplicit := by rfl) (hb : (x == ("__debug__" : PySem.Str)) = false := by rfl) :
    Ev W fd n hd σ (.Name x pos) d := fun L a A outer X s m C l Q E h => by
  have G := C.sx.gd
  obtain ⟨v, hv, r⟩ := hg _ G
  refine Name_function_global F.k (show fd.scope.names.lookup x = _ by rw [F.s]; exact hl) (loadGlobal_global (mg := W.mg) ?_ hv (h _ _ _ .refl r)) hb
  show s.heap.Ns fd.globals W.mg
  rw [F.g]
  exact G.T.g.keeps fun b o e => of_hideAll X e
theorem Ev.bti {sc : Scope} (F : FdIs fd sc) {x : PySem.Str} {pos : Pos} {d : D} (hg : Bti W x d) (hl : sc.names.lookup x = some .globalImplicit := by rfl) (hb : (x == ("__debug__" : PySem.Str)) = false := by rfl) :
    Ev W fd n hd σ (.Name x pos) d := fun L a A outer X s m C l Q E h => by
  have G := C.sx.gd
  obtain ⟨hn, v, hv, r⟩ := hg _ G
  refine Name_function_global F.k (show fd.scope.names.lookup x = _ by rw [F.s]; exact hl) (loadGlobal_builtin (mg := W.mg) (mb := W.mb) ?_ hn ?_ hv (h _ _ _ .refl r)) hb
  · show s.heap.Ns fd.globals W.mg
    rw [F.g]
    exact G.T.g.keeps fun b o e => of_hideAll X e
  · show s.heap.Ns fd.builtins W.mb
    rw [F.b]
    exact G.T.b.keeps fun b o e => of_hideAll X e

theorem Ev.bin {l r : Expr} {op : Operator} {pos : Pos} {d1 d2 d : D} (h1 : Ev W fd n hd σ l d1) (h2 : Ev W fd n hd σ r d2) (h3 : Bin W n hd op d1 d2 d) : Ev W fd n hd σ (.BinOp l op r pos) d :=
  fun L a A outer X s m C lo Q E h => wpAny_BinOp (h1 L a A outer X s m C lo _ _ fun v1 ha tka x1 r1 =>
    have C1 := C.step x1
    h2 L a A outer X _ m C1 (lo.mono (x1.hid C.sx.sub)) _ _ fun v2 hb tkb x2 r2 =>
      h3 A _ X _ v1 v2 (C1.sx.step x2) (r1.mono (x2.hid C.sx.sub)) r2 _ _ fun v hc tkc x3 r3 => h v hc tkc ((x1.trans x2).trans x3) r3)

theorem Bin.addI {i j : Int} : Bin W n hd .Add (.int i) (.int j) (.int (i + j)) := fun A outer X s v1 v2 S r1 r2 Q E h => by
  cases r1; cases r2
  exact add_int (h _ _ _ .refl (.int _ _))
theorem Bin.subI {i j : Int} : Bin W n hd .Sub (.int i) (.int j) (.int (i - j)) := fun A outer X s v1 v2 S r1 r2 Q E h => by
  cases r1; cases r2
  exact sub_int (h _ _ _ .refl (.int _ _))
theorem small_log {j : Int} (h0 : 0 < j) (hk : j < 1000000000000000) : Builtin.divisionGoesByPylong i j = false := by
  refine PyProof.noPylong_of_log2 ?_
  have : j.natAbs.log2 < 50 := (Nat.log2_lt (by omega)).mpr (by omega)
  omega
theorem Bin.divI {i j : Int} (hj : 0 < j := by decide) (hk : j < 1000000000000000 := by decide) : Bin W n hd .FloorDiv (.int i) (.int j) (.int (i / j)) := fun A outer X s v1 v2 S r1 r2 Q E h => by
  cases r1; cases r2
  refine floordiv_int (by omega) ?_ (hp := .inl (small_log hj hk))
  rw [Int.fdiv_eq_ediv_of_nonneg _ (by omega)]
  exact h _ _ _ .refl (.int _ _)
theorem Bin.modI {i j : Int} (hj : 0 < j := by decide) (hk : j < 1000000000000000 := by decide) : Bin W n hd .Mod (.int i) (.int j) (.int (i % j)) := fun A outer X s v1 v2 S r1 r2 Q E h => by
  cases r1; cases r2
  refine mod_int (by omega) ?_
  rw [Int.fmod_eq_emod_of_nonneg _ (by omega)]
  exact h _ _ _ .refl (.int _ _)
theorem Bin.addS {x y : PySem.Str} (hz : x.length + y.length ≤ 16777216) : Bin W n hd .Add (.str x) (.str y) (.str (x ++ y)) := fun A outer X s v1 v2 S r1 r2 Q E h => by
  cases r1; cases r2
  exact add_str (fun t' tk => h _ _ _ .refl (.str _ _)) hz
end
end Mine
end

section
open PySem PySem.W PySem.Calls PyProof.Rows
set_option Elab.async false
set_option linter.unusedVariables false
namespace Mine

def Cmp (W : Wd) (n : Nat) (hd : Nat) (op : CmpOp) (d1 d2 d : D) : Prop :=
  ∀ (A : Around) (outer : List Env) (X : List Addr) (s : Shared) (v1 v2 : Value), Sx W A outer X s.heap n hd → Rep (hideAll s.heap X) v1 d1 → Rep (hideAll s.heap X) v2 d2 → Go W A outer X s (compareOp op v1 v2) d
def Un (W : Wd) (n : Nat) (hd : Nat) (op : UnaryOp) (d1 d : D) : Prop :=
  ∀ (A : Around) (outer : List Env) (X : List Addr) (s : Shared) (v1 : Value), Sx W A outer X s.heap n hd → Rep (hideAll s.heap X) v1 d1 → Go W A outer X s (unaryOp op v1) d
def Tru (W : Wd) (n : Nat) (hd : Nat) (d : D) (b : Bool) : Prop :=
  ∀ (A : Around) (outer : List Env) (X : List Addr) (s : Shared) (v : Value), Sx W A outer X s.heap n hd → Rep (hideAll s.heap X) v d → ∀ (Q : Bool → Shared → Prop) (E : Value → Shared → Prop),
    (∀ h' tk', Stp (fr outer) s.heap h' → Q b { s with heap := h', toks := tk' }) → wpAny (model W.prog W.w) A (truthy v) Q E s
def Tr (W : Wd) (fd : FuncData) (n : Nat) (hd : Nat) (σ : Sg) (e : Expr) (b : Bool) : Prop :=
  ∀ (L a : Addr) (A : Around) (outer : List Env) (X : List Addr) (s : Shared) (m : PySem.Str → Option Value), Cx W fd L a A outer X s.heap m n hd → Loc (hideAll s.heap X) m σ →
    ∀ (Q : Bool → Shared → Prop) (E : Value → Shared → Prop), (∀ h' tk', Stp (fr (callEnv fd L a :: outer)) s.heap h' → Q b { s with heap := h', toks := tk' }) →
      wpAny (model W.prog W.w) A (isTrue e (callEnv fd L a) (eval e (callEnv fd L a))) Q E s
def GoL (W : Wd) (A : Around) (outer : List Env) (X : List Addr) (s : Shared) (t : Sem (List Value)) (ds : List D) : Prop :=
  ∀ (Q : List Value → Shared → Prop) (E : Value → Shared → Prop), (∀ vs h' tk', Stp (fr outer) s.heap h' → RepL (hideAll h' X) vs ds → Q vs { s with heap := h', toks := tk' }) → wpAny (model W.prog W.w) A t Q E s
def EvL (W : Wd) (fd : FuncData) (n : Nat) (hd : Nat) (σ : Sg) (es : List Expr) (ds : List D) : Prop :=
  ∀ (pos : Pos) (L a : Addr) (A : Around) (outer : List Env) (X : List Addr) (s : Shared) (m : PySem.Str → Option Value), Cx W fd L a A outer X s.heap m n hd → Loc (hideAll s.heap X) m σ →
    GoL W A (callEnv fd L a :: outer) X s (spliced (backTo pos (starEach es (callEnv fd L a)))) ds
def Call (W : Wd) (n : Nat) (hd : Nat) (f : Value) (ds : List D) (d : D) : Prop :=
  ∀ (A : Around) (outer : List Env) (X : List Addr) (s : Shared) (vs : List Value), Sx W A outer X s.heap n hd → RepL (hideAll s.heap X) vs ds → Go W A outer X s (call f vs) d
def Keep (W : Wd) (f : Value) : Prop := ∀ g, Gd W g → ∃ k, (k = Keeper.frame ∨ k = Keeper.machine ∨ k = Keeper.boundFrame) ∧ Looks (model W.prog W.w) g (keeperOf f) k

section
variable {W : Wd} {fd : FuncData} {n : Nat} {hd : Nat} {σ : Sg}

theorem EvL.nil : EvL W fd n hd σ [] [] := fun pos L a A outer X s m C lo Q E h => spliced_nil (h _ _ _ .refl .nil)
theorem EvL.cons {e : Expr} {es : List Expr} {d : D} {ds : List D} (h1 : Ev W fd n hd σ e d) (h2 : EvL W fd n hd σ es ds)
    (hs : ∀ env, starEach (e :: es) env = (false, eval e env) :: starEach es env := by intro _; rfl) : EvL W fd n hd σ (e :: es) (d :: ds) :=
  fun pos L a A outer X s m C lo Q E h => by
    rw [hs]
    show wpAny _ A (spliced ((false, eval e (callEnv fd L a)) :: backTo pos (starEach es (callEnv fd L a)))) Q E s
    exact spliced_cons (h1 L a A outer X s m C lo _ _ fun v ha tka x1 r1 => h2 pos L a A outer X _ m (C.step x1) (lo.mono (x1.hid C.sx.sub)) _ _ fun vs hb tkb x2 r2 =>
      h _ hb tkb (x1.trans x2) (.cons (r1.mono (x2.hid C.sx.sub)) r2))

theorem RepL.len {g : Heap} : ∀ {vs : List Value} {ds : List D}, RepL g vs ds → vs.length = ds.length
  | _, _, .nil => rfl
  | _, _, .cons _ r => by simp [r.len]
theorem Ev.tup {es : List Expr} {k : Nat} {pos : Pos} {ds : List D} (h1 : EvL W fd n hd σ es ds) (hz : ds.length ≤ 16777216) : Ev W fd n hd σ (.Tuple es k pos) (.tup ds) :=
  fun L a A outer X s m C lo Q E h => Tuple_ (h1 pos L a A outer X s m C lo _ _ fun vs h' tk' x r => by
    refine wpAny_newObj_type ?_ (by show vs.toArray.size ≤ sizeLine; rw [List.size_toArray, r.len]; exact hz)
    have p := Stp.push (fs := fr (callEnv fd L a :: outer)) (h := h') { cls := .type "tuple", data := .seq vs.toArray }
    refine h _ _ _ (x.trans p) (.tup ⟨_, hideAll_get X (Heap.get?_push_size _ rfl) fun m => ?_, rfl, _, rfl⟩ (r.mono (p.hid C.sx.sub)))
    exact (C.step x).sx.fresh m)
theorem Ev.lst {es : List Expr} {pos : Pos} {ds : List D} (h1 : EvL W fd n hd σ es ds) (hz : ds.length ≤ 16777216) : Ev W fd n hd σ (.List es pos) (.list ds) :=
  fun L a A outer X s m C lo Q E h => List_ (h1 pos L a A outer X s m C lo _ _ fun vs h' tk' x r => by
    refine wpAny_newObj_type ?_ (by show vs.toArray.size ≤ sizeLine; rw [List.size_toArray, r.len]; exact hz)
    have p := Stp.push (fs := fr (callEnv fd L a :: outer)) (h := h') { cls := .type "list", data := .seq vs.toArray }
    refine h _ _ _ (x.trans p) (.list ⟨_, hideAll_get X (Heap.get?_push_size _ rfl) fun m => ?_, rfl, _, rfl⟩ (r.mono (p.hid C.sx.sub)))
    exact (C.step x).sx.fresh m)

theorem keep_ref {f : Value} (h : keepIn W.K f = true) : Keep W f := fun g G => keeps_K h g G.X
theorem keep_builtin {i : String} : Keep W (.builtin i) := fun g G => ⟨.machine, .inr (.inl rfl), Looks.of_pure rfl⟩
theorem keep_type {i : String} : Keep W (.type i) := fun g G => ⟨.machine, .inr (.inl rfl), Looks.of_pure rfl⟩

theorem backTo_any {pos : Pos} : ∀ {l : List (Bool × Sem Value)}, (backTo pos l).any (·.1) = l.any (·.1)
  | [] => rfl
  | (b, t) :: r => by
    show (b || (backTo pos r).any (·.1)) = (b || r.any (·.1))
    rw [backTo_any]
theorem evalArgs_spl {M : Model} {A : Around} {E : Value → Shared → Prop} {s : Shared} {f : Value} {args : List (Bool × Sem Value)} {Q : Args → Shared → Prop} (hs : args.any (·.1) = false)
    (h : wpAny M A (spliced args) (fun vs s' => Q ⟨vs, []⟩ s') E s) : wpAny M A (evalArgs f true args []) Q E s := by
  cases args with
  | nil =>
    unfold evalArgs
    show wpAny M A (spliced [] >>= _) Q E s
    refine wpAny_bind (wpAny_mono h (fun vs s' h' => ?_) fun _ _ x => x)
    refine wpAny_bind (wpAny_pure ?_)
    refine wpAny_holding ?_
    exact wpAny_bind (wpAny_pure (wpAny_bind (wpAny_pure (wpAny_pure h'))))
  | cons x r =>
    obtain ⟨b, t⟩ := x
    cases b with
    | true => simp at hs
    | false => exact evalArgs_plain h
theorem RepL.app {g : Heap} : ∀ {v0 : List Value} {d0 : List D} {vs : List Value} {ds : List D}, RepL g v0 d0 → RepL g vs ds → RepL g (v0 ++ vs) (d0 ++ ds)
  | _, _, _, _, .nil, b => b
  | _, _, _, _, .cons h r, b => .cons h (r.app b)
theorem callWith_go {pos : Pos} {f : Value} {first : List Value} {es : List Expr} {ds0 ds : List D} {d : D} {L a : Addr} {A : Around} {outer : List Env} {X : List Addr} {s : Shared} {m : PySem.Str → Option Value} {Q : Value → Shared → Prop} {E : Value → Shared → Prop}
    (C : Cx W fd L a A outer X s.heap m n hd) (lo : Loc (hideAll s.heap X) m σ) (hf : Keep W f) (r0 : RepL (hideAll s.heap X) first ds0) (h1 : EvL W fd n hd σ es ds)
    (h2 : Call W n hd f (ds0 ++ ds) d) (h : ∀ v h' tk', Stp (fr (callEnv fd L a :: outer)) s.heap h' → Rep (hideAll h' X) v d → Q v { s with heap := h', toks := tk' })
    (hs : (starEach es (callEnv fd L a)).any (·.1) = false) : wpAny (model W.prog W.w) A (callWith pos f first (backTo pos (starEach es (callEnv fd L a))) []) Q E s := by
  refine callWith_of (P := fun h => Gd W (hideAll h X)) (by rw [backTo_any, hs]; rfl) (fun hh G => ?_) ?_
  · obtain ⟨k, hk, l⟩ := hf _ G
    exact ⟨k, hk, l.keeps fun b o e => of_hideAll X e⟩
  · refine evalArgs_spl (by rw [backTo_any, hs]) ?_
    exact h1 pos L a A outer X s m C lo _ _ fun vs hb tk x r => by
        have C' := C.step x
        exact ⟨C'.sx.gd, h2 A _ X _ _ C'.sx ((r0.mono (x.hid C.sx.sub)).app r) _ _ fun v hc tkc y rv => h v hc tkc (x.trans y) rv⟩
theorem Ev.call {func : Expr} {es : List Expr} {pos : Pos} {f : Value} {ds : List D} {d : D} (h1 : Ev W fd n hd σ func (.fn f)) (h2 : EvL W fd n hd σ es ds) (hf : Keep W f) (h3 : Call W n hd f ds d)
    (hs : ∀ env, (starEach es env).any (·.1) = false := by intro _; rfl)
    (he : ∀ env, eval (.Call func es [] pos) env = (do callWith pos (← eval func env) [] (backTo pos (starEach es env)) []) := by intro _; rfl) : Ev W fd n hd σ (.Call func es [] pos) d :=
  fun L a A outer X s m C lo Q E h => by
    rw [he]
    refine wpAny_bind (h1 L a A outer X s m C lo _ _ fun v ha tka x1 r1 => ?_)
    have e : v = f := by cases r1; rfl
    subst e
    exact callWith_go (C.step x1) (lo.mono (x1.hid C.sx.sub)) hf .nil h2 h3 (fun v h' tk' y r => h v h' tk' (x1.trans y) r) (hs _)

theorem Tru.bool {b : Bool} : Tru W n hd (.bool b) b := fun A outer X s v S r Q E h => by
  cases r
  exact wpAny_pure (h _ _ .refl)
theorem Tru.none : Tru W n hd .none false := fun A outer X s v S r Q E h => by
  cases r
  exact truthy_none (h _ _ .refl)
theorem Tr.plain {e : Expr} {d : D} {b : Bool} (h1 : Ev W fd n hd σ e d) (h2 : Tru W n hd d b)
    (he : ∀ env whole, isTrue e env whole = (do let v ← whole; standAt e.pos; holding [v] (truthy v)) := by intro _ _; rfl) : Tr W fd n hd σ e b :=
  fun L a A outer X s m C lo Q E h => isTrue_plain (h1 L a A outer X s m C lo _ _ fun v h' tk' x r => h2 A _ X _ v (C.step x).sx r _ _ fun h'' tk'' y => h h'' tk'' (x.trans y)) (he _ _)
theorem Tr.cmp {l r : Expr} {op : CmpOp} {pos : Pos} {d1 d2 d : D} {b : Bool} (h1 : Ev W fd n hd σ l d1) (h2 : Ev W fd n hd σ r d2) (h3 : Cmp W n hd op d1 d2 d) (h4 : Tru W n hd d b)
    (hm : behindInMarks op r = false := by rfl) : Tr W fd n hd σ (.Compare l [op] [r] pos) b :=
  fun L a A outer X s m C lo Q E h => wpAny_isTrue_Compare1 (h1 L a A outer X s m C lo _ _ fun v1 ha tka x1 r1 =>
    have C1 := C.step x1
    h2 L a A outer X _ m C1 (lo.mono (x1.hid C.sx.sub)) _ _ fun v2 hb tkb x2 r2 =>
      have C2 := C1.step x2
      h3 A _ X _ v1 v2 C2.sx (r1.mono (x2.hid C.sx.sub)) r2 _ _ fun v hc tkc x3 r3 => h4 A _ X _ v (C2.step x3).sx r3 _ _ fun h' tk' x4 => h h' tk' (((x1.trans x2).trans x3).trans x4)) hm
theorem Tr.not {e : Expr} {pos : Pos} {b : Bool} (h1 : Tr W fd n hd σ e b) : Tr W fd n hd σ (.UnaryOp .Not e pos) (!b) :=
  fun L a A outer X s m C lo Q E h => isTrue_not (h1 L a A outer X s m C lo _ _ h)
theorem Tr.andNil {pos : Pos} : Tr W fd n hd σ (.BoolOp .And [] pos) true := fun L a A outer X s m C lo Q E h => isTrue_and_nil (h _ _ .refl)
theorem Tr.orNil {pos : Pos} : Tr W fd n hd σ (.BoolOp .Or [] pos) false := fun L a A outer X s m C lo Q E h => isTrue_or_nil (h _ _ .refl)
theorem Tr.and {e : Expr} {es : List Expr} {pos : Pos} {b c : Bool} (h1 : Tr W fd n hd σ e b) (h2 : b = true → Tr W fd n hd σ (.BoolOp .And es pos) c) : Tr W fd n hd σ (.BoolOp .And (e :: es) pos) (b && c) :=
  fun L a A outer X s m C lo Q E h => isTrue_and (h1 L a A outer X s m C lo _ _ fun h' tk' x => by
    cases b with
    | false => exact h h' tk' x
    | true => exact h2 rfl L a A outer X _ m (C.step x) (lo.mono (x.hid C.sx.sub)) Q E fun h'' tk'' y => h h'' tk'' (x.trans y))
theorem Tr.or {e : Expr} {es : List Expr} {pos : Pos} {b c : Bool} (h1 : Tr W fd n hd σ e b) (h2 : b = false → Tr W fd n hd σ (.BoolOp .Or es pos) c) : Tr W fd n hd σ (.BoolOp .Or (e :: es) pos) (b || c) :=
  fun L a A outer X s m C lo Q E h => isTrue_or (h1 L a A outer X s m C lo _ _ fun h' tk' x => by
    cases b with
    | true => exact h h' tk' x
    | false => exact h2 rfl L a A outer X _ m (C.step x) (lo.mono (x.hid C.sx.sub)) Q E fun h'' tk'' y => h h'' tk'' (x.trans y))
theorem Tr.ifexp {t x y : Expr} {pos : Pos} {b c d : Bool} (h1 : Tr W fd n hd σ t b) (h2 : b = true → Tr W fd n hd σ x c) (h3 : b = false → Tr W fd n hd σ y d) : Tr W fd n hd σ (.IfExp t x y pos) (if b then c else d) :=
  fun L a A outer X s m C lo Q E h => isTrue_IfExp (h1 L a A outer X s m C lo _ _ fun h' tk' z => by
    cases b with
    | true => exact h2 rfl L a A outer X _ m (C.step z) (lo.mono (z.hid C.sx.sub)) Q E fun h'' tk'' y => h h'' tk'' (z.trans y)
    | false => exact h3 rfl L a A outer X _ m (C.step z) (lo.mono (z.hid C.sx.sub)) Q E fun h'' tk'' y => h h'' tk'' (z.trans y))

inductive Jn (b : Bool) : D → D → D → Prop
  | same (d : D) : Jn b d d d
  | int (i j : Int) : Jn b (.int i) (.int j) (.int (if b then i else j))
  | bool (i j : Bool) : Jn b (.bool i) (.bool j) (.bool (if b then i else j))
  | str (i j : PySem.Str) : Jn b (.str i) (.str j) (.str (if b then i else j))
  | any (d e : D) : Jn b d e (if b then d else e)
theorem Jn.left {d e r : D} (j : Jn true d e r) : r = d := by cases j <;> rfl
theorem Jn.right {d e r : D} (j : Jn false d e r) : r = e := by cases j <;> rfl
theorem Ev.ifexp {t x y : Expr} {pos : Pos} {b : Bool} {d1 d2 d : D} (h1 : Tr W fd n hd σ t b) (h2 : b = true → Ev W fd n hd σ x d1) (h3 : b = false → Ev W fd n hd σ y d2) (j : Jn b d1 d2 d) : Ev W fd n hd σ (.IfExp t x y pos) d :=
  fun L a A outer X s m C lo Q E h => IfExp_ (h1 L a A outer X s m C lo _ _ fun h' tk' z => by
    cases b with
    | true => obtain rfl := j.left; exact h2 rfl L a A outer X _ m (C.step z) (lo.mono (z.hid C.sx.sub)) Q E fun v h'' tk'' y r => h v h'' tk'' (z.trans y) r
    | false => obtain rfl := j.right; exact h3 rfl L a A outer X _ m (C.step z) (lo.mono (z.hid C.sx.sub)) Q E fun v h'' tk'' y r => h v h'' tk'' (z.trans y) r)
theorem Ev.ift {t x y : Expr} {pos : Pos} {b : Bool} {d : D} (h1 : Tr W fd n hd σ t b) (hb : b = true) (h2 : Ev W fd n hd σ x d) : Ev W fd n hd σ (.IfExp t x y pos) d :=
  fun L a A outer X s m C lo Q E h => IfExp_ (h1 L a A outer X s m C lo _ _ fun h' tk' z => by
    subst hb
    exact h2 L a A outer X _ m (C.step z) (lo.mono (z.hid C.sx.sub)) Q E fun v h'' tk'' y r => h v h'' tk'' (z.trans y) r)
theorem Ev.iff {t x y : Expr} {pos : Pos} {b : Bool} {d : D} (h1 : Tr W fd n hd σ t b) (hb : b = false) (h2 : Ev W fd n hd σ y d) : Ev W fd n hd σ (.IfExp t x y pos) d :=
  fun L a A outer X s m C lo Q E h => IfExp_ (h1 L a A outer X s m C lo _ _ fun h' tk' z => by
    subst hb
    exact h2 L a A outer X _ m (C.step z) (lo.mono (z.hid C.sx.sub)) Q E fun v h'' tk'' y r => h v h'' tk'' (z.trans y) r)
theorem Ev.cmp {l r : Expr} {op : CmpOp} {pos : Pos} {d1 d2 d : D} (h1 : Ev W fd n hd σ l d1) (h2 : Ev W fd n hd σ r d2) (h3 : Cmp W n hd op d1 d2 d)
    (hm : behindInMarks op r = false := by rfl) : Ev W fd n hd σ (.Compare l [op] [r] pos) d :=
  fun L a A outer X s m C lo Q E h => wpAny_Compare1 (h1 L a A outer X s m C lo _ _ fun v1 ha tka x1 r1 =>
    have C1 := C.step x1
    h2 L a A outer X _ m C1 (lo.mono (x1.hid C.sx.sub)) _ _ fun v2 hb tkb x2 r2 =>
      h3 A _ X _ v1 v2 (C1.step x2).sx (r1.mono (x2.hid C.sx.sub)) r2 _ _ fun v hc tkc x3 r3 => h v hc tkc ((x1.trans x2).trans x3) r3) hm
theorem Ev.and {e e' : Expr} {es : List Expr} {pos : Pos} {b c : Bool} (h1 : Ev W fd n hd σ e (.bool b)) (h2 : b = true → Ev W fd n hd σ (.BoolOp .And (e' :: es) pos) (.bool c)) : Ev W fd n hd σ (.BoolOp .And (e :: e' :: es) pos) (.bool (b && c)) :=
  fun L a A outer X s m C lo Q E h => BoolOp_and (h1 L a A outer X s m C lo _ _ fun v h' tk' x r => by
    cases r
    refine wpAny_pure (show if b then _ else _ from ?_)
    cases b with
    | false => exact h _ h' tk' x (.bool _)
    | true => exact h2 rfl L a A outer X _ m (C.step x) (lo.mono (x.hid C.sx.sub)) Q E fun v h'' tk'' y r => h v h'' tk'' (x.trans y) r)
theorem Ev.one {op : BoolOp} {e : Expr} {pos : Pos} {d : D} (h1 : Ev W fd n hd σ e d) : Ev W fd n hd σ (.BoolOp op [e] pos) d :=
  fun L a A outer X s m C lo Q E h => BoolOp_one (h1 L a A outer X s m C lo Q E h)
theorem Ev.un {op : UnaryOp} {e : Expr} {pos : Pos} {d1 d : D} (h1 : Ev W fd n hd σ e d1) (h2 : Un W n hd op d1 d) : Ev W fd n hd σ (.UnaryOp op e pos) d :=
  fun L a A outer X s m C lo Q E h => UnaryOp_ (h1 L a A outer X s m C lo _ _ fun v h' tk' x r => h2 A _ X _ v (C.step x).sx r _ _ fun v h'' tk'' y r' => h v h'' tk'' (x.trans y) r')
theorem Un.neg {i : Int} : Un W n hd .USub (.int i) (.int (-i)) := fun A outer X s v S r Q E h => by
  cases r
  exact neg_int (h _ _ _ .refl (.int _ _))

theorem Cmp.eqI {i j : Int} : Cmp W n hd .Eq (.int i) (.int j) (.bool (decide (i = j))) := fun A outer X s v1 v2 S r1 r2 Q E h => by
  cases r1; cases r2
  exact eq_int (h _ _ _ .refl (.bool _))
theorem Cmp.neI {i j : Int} : Cmp W n hd .NotEq (.int i) (.int j) (.bool (decide (i ≠ j))) := fun A outer X s v1 v2 S r1 r2 Q E h => by
  cases r1; cases r2
  refine ne_int ?_
  have e : (i != j) = decide (i ≠ j) := by by_cases q : i = j <;> simp [q]
  rw [e]
  exact h _ _ _ .refl (.bool _)
theorem Cmp.ltI {i j : Int} : Cmp W n hd .Lt (.int i) (.int j) (.bool (decide (i < j))) := fun A outer X s v1 v2 S r1 r2 Q E h => by
  cases r1; cases r2
  exact lt_int (h _ _ _ .refl (.bool _))
theorem Cmp.leI {i j : Int} : Cmp W n hd .LtE (.int i) (.int j) (.bool (decide (i ≤ j))) := fun A outer X s v1 v2 S r1 r2 Q E h => by
  cases r1; cases r2
  exact le_int (h _ _ _ .refl (.bool _))
theorem Cmp.gtI {i j : Int} : Cmp W n hd .Gt (.int i) (.int j) (.bool (decide (j < i))) := fun A outer X s v1 v2 S r1 r2 Q E h => by
  cases r1; cases r2
  exact gt_int (h _ _ _ .refl (.bool _))
theorem Cmp.geI {i j : Int} : Cmp W n hd .GtE (.int i) (.int j) (.bool (decide (j ≤ i))) := fun A outer X s v1 v2 S r1 r2 Q E h => by
  cases r1; cases r2
  exact ge_int (h _ _ _ .refl (.bool _))
theorem str_beq {x y : PySem.Str} : (x == y) = decide (x = y) := by
  by_cases q : x = y
  · subst q; simp
  · simp [q]
theorem Cmp.eqS {x y : PySem.Str} : Cmp W n hd .Eq (.str x) (.str y) (.bool (decide (x = y))) := fun A outer X s v1 v2 S r1 r2 Q E h => by
  cases r1; cases r2
  refine eq_str ?_
  rw [str_beq]
  exact h _ _ _ .refl (.bool _)
theorem Cmp.neS {x y : PySem.Str} : Cmp W n hd .NotEq (.str x) (.str y) (.bool (decide (x ≠ y))) := fun A outer X s v1 v2 S r1 r2 Q E h => by
  cases r1; cases r2
  refine ne_str ?_
  have e : (x != y) = decide (x ≠ y) := by show (!(x == y)) = _; rw [str_beq]; by_cases q : x = y <;> simp [q]
  rw [e]
  exact h _ _ _ .refl (.bool _)
end
end Mine
end

section
open PySem PySem.W PySem.Calls PyProof.Rows
set_option Elab.async false
set_option linter.unusedVariables false
namespace Mine

def clp (v : Option Int) (d n : Nat) : Nat := match v with
  | none => d
  | some i => (max 0 (min (if i < 0 then i + (n : Int) else i) (n : Int))).toNat
def cut {α : Type} (l : List α) (lo hi : Option Int) : List α := (l.drop (clp lo 0 l.length)).take (clp hi l.length l.length - clp lo 0 l.length)
def sl (x : PySem.Str) (lo hi : Option Int) : PySem.Str := ⟨(cut x.cps.toList lo hi).toArray⟩
theorem clp_le (v : Option Int) {d n : Nat} (h : d ≤ n) : clp v d n ≤ n := by
  unfold clp; split
  · exact h
  · omega
theorem picked {α : Type} (l : List α) (a b : Nat) (hb : b ≤ l.length) : (PySem.sliceRange (a : Int) (b : Int) 1).filterMap (fun i => l[i]?) = (l.drop a).take (b - a) := by
  unfold PySem.sliceRange
  simp only [show ((1 : Int) > 0) = True from by simp, if_true]
  by_cases hlt : (a : Int) < b
  · have e3 : (((b : Int) - a + 1 - 1) / 1).toNat = b - a := by first | omega | (simp; done) | (simp; omega)
    simp only [hlt, if_true, e3]
    have := PySem.StrLaws.picks l (b - a) a (by omega)
    rw [← this]
    congr 1
    refine List.map_congr_left fun k _ => ?_
    omega
  · have : b - a = 0 := by omega
    simp [hlt, this]
theorem bounds_clp (lo hi : Option Int) (n : Nat) : sliceBounds lo hi none n = (((clp lo 0 n : Nat) : Int), ((clp hi n n : Nat) : Int), 1) := by
  unfold sliceBounds clp
  cases lo <;> cases hi <;> simp <;> omega
theorem indices_clp (lo hi : Option Int) (n : Nat) : Builtin.Str.strSliceIndices lo hi 1 n = PySem.sliceRange ((clp lo 0 n : Nat) : Int) ((clp hi n n : Nat) : Int) 1 := by
  unfold Builtin.Str.strSliceIndices clp
  cases lo <;> cases hi <;> simp <;> congr 1 <;> omega

theorem RepL.drop {g : Heap} : ∀ {vs : List Value} {ds : List D} (k : Nat), RepL g vs ds → RepL g (vs.drop k) (ds.drop k)
  | _, _, 0, h => h
  | _, _, _ + 1, .nil => .nil
  | _, _, k + 1, .cons _ r => r.drop k
theorem RepL.take {g : Heap} : ∀ {vs : List Value} {ds : List D} (k : Nat), RepL g vs ds → RepL g (vs.take k) (ds.take k)
  | _, _, 0, h => .nil
  | _, _, _ + 1, .nil => .nil
  | _, _, k + 1, .cons h r => .cons h (r.take k)
theorem RepL.cut {g : Heap} {vs : List Value} {ds : List D} (lo hi : Option Int) (h : RepL g vs ds) : RepL g (cut vs lo hi) (cut ds lo hi) := by
  unfold Mine.cut
  rw [h.len]
  exact (h.drop _).take _
theorem RepL.get {g : Heap} : ∀ {vs : List Value} {ds : List D} {k : Nat} {d : D}, RepL g vs ds → ds[k]? = some d → ∃ v, vs[k]? = some v ∧ Rep g v d
  | _, _, 0, _, .cons h _, e => by
    simp at e
    subst e
    exact ⟨_, rfl, h⟩
  | _, _, k + 1, _, .cons _ r, e => by
    simp at e
    obtain ⟨v, h1, h2⟩ := r.get e
    exact ⟨v, by simpa using h1, h2⟩

section
variable {W : Wd} {fd : FuncData} {n : Nat} {hd : Nat} {σ : Sg}

def Sub (W : Wd) (n : Nat) (hd : Nat) (d0 di d : D) : Prop :=
  ∀ (value slice : Expr), (∀ o i, subscripted slice false o i = operate [o, i] (getItem o i)) → ∀ (A : Around) (outer : List Env) (X : List Addr) (s : Shared) (v0 vi : Value), Sx W A outer X s.heap n hd →
    Rep (hideAll s.heap X) v0 d0 → Rep (hideAll s.heap X) vi di → Go W A outer X s (subscriptTail value slice v0 vi) d
theorem Ev.sub {value slice : Expr} {pos : Pos} {d0 di d : D} (h1 : Ev W fd n hd σ value d0) (h2 : Ev W fd n hd σ slice di) (h3 : Sub W n hd d0 di d)
    (hs : ∀ o i, subscripted slice false o i = operate [o, i] (getItem o i) := by intro _ _; rfl) : Ev W fd n hd σ (.Subscript value slice pos) d :=
  fun L a A outer X s m C lo Q E h => Subscript_ (h1 L a A outer X s m C lo _ _ fun v1 ha tka x1 r1 =>
    have C1 := C.step x1
    h2 L a A outer X _ m C1 (lo.mono (x1.hid C.sx.sub)) _ _ fun v2 hb tkb x2 r2 =>
      h3 value slice hs A _ X _ v1 v2 (C1.step x2).sx (r1.mono (x2.hid C.sx.sub)) r2 _ _ fun v hc tkc x3 r3 => h v hc tkc ((x1.trans x2).trans x3) r3)
theorem tup_hid {h : Heap} {X : List Addr} {a : Addr} {items : Array Value} (t : IsTup (hideAll h X) a items) : IsTup h a items := IsTup.keeps t fun b o e => of_hideAll X e
theorem list_hid {h : Heap} {X : List Addr} {a : Addr} {items : Array Value} (t : (hideAll h X).IsList a items) : h.IsList a items := let ⟨o, ho, q⟩ := t; ⟨o, of_hideAll X ho, q⟩
theorem Sub.tup {ds : List D} {k : Int} {j : Nat} {d : D} (hj : seqIndex? k ds.length = some j) (hx : ds[j]? = some d) (hlo : -(2 ^ 63) ≤ k := by decide) (hhi : k < 2 ^ 63 := by decide) : Sub W n hd (.tup ds) (.int k) d :=
  fun value slice hs A outer X s v0 vi S r1 r2 Q E h => by
    cases r1 with
    | tup ht rl =>
      cases r2
      obtain ⟨v, hv, rv⟩ := rl.get hx
      exact item_tupleT (tup_hid ht) hlo hhi (by rw [rl.len]; exact hj) hv (h _ _ _ .refl rv) (hs _ _)
theorem Sub.lst {ds : List D} {k : Int} {d : D} (h0 : 0 ≤ k) (hx : ds[k.toNat]? = some d) (hhi : k < 2 ^ 63 := by decide) : Sub W n hd (.list ds) (.int k) d :=
  fun value slice hs A outer X s v0 vi S r1 r2 Q E h => by
    cases r1 with
    | list ht rl =>
      cases r2
      obtain ⟨v, hv, rv⟩ := rl.get hx
      exact tail_any (list_hid ht).typeIs slot_list_getitem.lookup (wpAny_getItem_list (list_hid ht) h0 hhi (by simpa using hv) (h _ _ _ .refl rv)) (hs _ _)

inductive EvP (W : Wd) (fd : FuncData) (n : Nat) (hd : Nat) (σ : Sg) : Option Expr → Option Int → Prop
  | none : EvP W fd n hd σ none none
  | some {e : Expr} {i : Int} : Ev W fd n hd σ e (.int i) → EvP W fd n hd σ (some e) (some i)
theorem EvP.go {e : Option Expr} {k : Option Int} (p : EvP W fd n hd σ e k) {L a : Addr} {A : Around} {outer : List Env} {X : List Addr} {s : Shared} {m : PySem.Str → Option Value} {Q : Value → Shared → Prop} {E : Value → Shared → Prop}
    (C : Cx W fd L a A outer X s.heap m n hd) (lo : Loc (hideAll s.heap X) m σ)
    (h : ∀ v h' tk', Stp (fr (callEnv fd L a :: outer)) s.heap h' → IsPart v k → Q v { s with heap := h', toks := tk' }) : wpAny (model W.prog W.w) A (evalPart e (callEnv fd L a)) Q E s := by
  cases p with
  | none => rw [evalPart_none]; exact wpAny_pure (h _ _ _ .refl .none)
  | some h1 =>
    refine h1 L a A outer X s m C lo Q E fun v h' tk' x r => ?_
    cases r
    exact h _ h' tk' x (.int _ _)
def Slc (W : Wd) (n : Nat) (hd : Nat) (d0 : D) (lo hi : Option Int) (d : D) : Prop :=
  ∀ (value slice : Expr), (∀ o i, subscripted slice false o i = operate [i, o] (getItem o i)) → ∀ (A : Around) (outer : List Env) (X : List Addr) (s : Shared) (v0 vl vu : Value) (a : Addr), Sx W A outer X s.heap n hd →
    Rep (hideAll s.heap X) v0 d0 → IsPart vl lo → IsPart vu hi → s.heap.IsSliceOf a vl vu .none → Go W A outer X s (subscriptTail value slice v0 (.ref a)) d
theorem Ev.slc {value : Expr} {l u : Option Expr} {p pos : Pos} {d0 d : D} {lo hi : Option Int} (h1 : Ev W fd n hd σ value d0) (h2 : EvP W fd n hd σ l lo) (h3 : EvP W fd n hd σ u hi) (h4 : Slc W n hd d0 lo hi d) :
    Ev W fd n hd σ (.Subscript value (.Slice l u none p) pos) d :=
  fun L a A outer X s m C loc Q E h => Subscript_ (h1 L a A outer X s m C loc _ _ fun v1 ha tka x1 r1 => by
    have C1 := C.step x1
    have l1 := loc.mono (x1.hid C.sx.sub)
    refine wpAny_Slice (h2.go C1 l1 fun vl hb tkb x2 pl => ?_)
    have C2 := C1.step x2
    have l2 := l1.mono (x2.hid C.sx.sub)
    refine h3.go C2 l2 fun vu hc tkc x3 pu => ?_
    rw [evalPart_none]
    refine wpAny_pure ?_
    have C3 := C2.step x3
    have p4 := Stp.push (fs := fr (callEnv fd L a :: outer)) (h := hc) { cls := .type "slice", data := .fields #[vl, vu, .none] }
    have x14 := ((x1.trans x2).trans x3).trans p4
    exact h4 value _ (fun _ _ => rfl) A _ X _ v1 vl vu _ (C3.step p4).sx ((((r1.mono (x2.hid C.sx.sub)).mono (x3.hid C.sx.sub))).mono (p4.hid C.sx.sub)) pl pu (.new ..) _ _ fun v h' tk' y r => h v h' tk' (x14.trans y) r)

theorem isPart_val {v : Value} {k : Option Int} (p : IsPart v k) : ∃ q : Option (Int × Tok), v = partValue q ∧ q.map (·.1) = k := by
  cases p with
  | none => exact ⟨none, rfl, rfl⟩
  | int i t => exact ⟨some (i, t), rfl, rfl⟩
theorem Slc.str {x : PySem.Str} {lo hi : Option Int} (hz : x.length ≤ 16777216) : Slc W n hd (.str x) lo hi (.str (sl x lo hi)) :=
  fun value slice hs A outer X s v0 vl vu a S r pl pu hsl Q E h => by
    cases r with
    | str _ t =>
    obtain ⟨ql, rfl, el⟩ := isPart_val pl
    obtain ⟨qu, rfl, eu⟩ := isPart_val pu
    have pk : (slicePicked x ql qu none).filterMap (x.cps[·]?) = cut x.cps.toList lo hi := by
      show (Builtin.Str.strSliceIndices (ql.map (·.1)) (qu.map (·.1)) 1 x.length).filterMap (x.cps[·]?) = _
      rw [el, eu, indices_clp]
      have := picked x.cps.toList (clp lo 0 x.length) (clp hi x.length x.length) (by simpa [PySem.Str.length] using clp_le hi (Nat.le_refl x.length))
      simpa [Mine.cut, PySem.Str.length] using this
    refine tail_any (typeIs_str _ x t) F.slot_str_getitem.lookup ?_ (hs _ _)
    refine wpAny_getItem_str_slice (l := ql) (u := qu) (st := none) hsl rfl ?_
    unfold sliceMade
    split
    · rename_i q
      have e : sl x lo hi = x := by
        have q' : (slicePicked x ql qu none).length = x.length := by simpa using q
        have hlen : (Builtin.Str.strSliceIndices (ql.map (·.1)) (qu.map (·.1)) 1 x.length).length = x.length := q'
        rw [el, eu, indices_clp] at hlen
        have a1 := clp_le lo (Nat.zero_le x.length)
        have a2 := clp_le hi (Nat.le_refl x.length)
        have hn : ∀ a b : Nat, (PySem.sliceRange (a : Int) (b : Int) 1).length = b - a := fun a b => by
          unfold PySem.sliceRange
          simp only [show ((1 : Int) > 0) = True from by simp, if_true]
          by_cases hlt : (a : Int) < b
          · simp only [hlt, if_true, List.length_map, List.length_range]; omega
          · simp only [hlt, if_false, List.length_map, List.length_range, Int.toNat_zero]; omega
        rw [hn] at hlen
        have z : clp lo 0 x.length = 0 ∨ x.length = 0 := by omega
        have z2 : clp hi x.length x.length = x.length := by omega
        unfold sl Mine.cut
        have lc : x.cps.toList.length = x.length := by simp [PySem.Str.length]
        rw [lc, z2]
        have z3 : clp lo 0 x.length = 0 := by omega
        rw [z3, List.drop_zero, Nat.sub_zero, ← lc, List.take_length]
      rw [e] at h
      exact h _ _ _ .refl (.str _ _)
    · rw [pk]
      exact ⟨by
        show PySem.Str.length ⟨(cut x.cps.toList lo hi).toArray⟩ ≤ sizeLine
        have : (cut x.cps.toList lo hi).length ≤ x.length := by
          unfold Mine.cut
          rw [List.length_take, List.length_drop]
          have lc : x.cps.toList.length = x.length := by simp [PySem.Str.length]
          omega
        rw [sizeLine_eq]
        simp only [PySem.Str.length, List.size_toArray]
        omega, h _ _ _ .refl (.str _ _)⟩
theorem Slc.lst {ds : List D} {lo hi : Option Int} (hz : ds.length ≤ 16777216) : Slc W n hd (.list ds) lo hi (.list (cut ds lo hi)) :=
  fun value slice hs A outer X s v0 vl vu a S r pl pu hsl Q E h => by
    cases r with
    | list ht rl =>
    rename_i l vs
    have pk : slicePick vs.toArray lo hi none = (cut vs lo hi).toArray := by
      unfold slicePick
      rw [bounds_clp]
      have := picked vs (clp lo 0 vs.length) (clp hi vs.length vs.length) (clp_le hi (Nat.le_refl _))
      simpa [Mine.cut] using this
    refine tail_any (list_hid ht).typeIs slot_list_getitem.lookup (wpAny_getItem_list_slice (list_hid ht) hsl pl pu .none (by simp) ?_ (by rw [List.size_toArray, rl.len]; exact hz)) (hs _ _)
    rw [pk]
    have p := Stp.push (fs := fr outer) (h := s.heap) { cls := .type "list", data := .seq (cut vs lo hi).toArray }
    refine h _ _ _ p (.list ⟨_, hideAll_get X (Heap.get?_push_size _ rfl) fun m => ?_, rfl, _, rfl⟩ ((rl.cut lo hi).mono (p.hid S.sub)))
    exact S.fresh m
theorem Slc.tupFrom {ds : List D} {k : Nat} (h1 : 1 ≤ k) (hk : k ≤ ds.length) (hz : ds.length ≤ 16777216) : Slc W n hd (.tup ds) (some (k : Int)) none (.tup (ds.drop k)) :=
  fun value slice hs A outer X s v0 vl vu a S r pl pu hsl Q E h => by
    cases r with
    | tup ht rl =>
    rename_i l vs
    cases pl with
    | int i t =>
    cases pu
    refine tail_any (tup_hid ht).typeIs slot_tuple_getitem.lookup (getItem_tuple_from (tup_hid ht) hsl h1 (by rw [List.size_toArray, rl.len]; exact hk) ?_ (by rw [List.size_toArray, rl.len]; exact hz)) (hs _ _)
    have p := Stp.push (fs := fr outer) (h := s.heap) { cls := .type "tuple", data := .seq (vs.drop k).toArray }
    refine h _ _ _ p (.tup ⟨_, hideAll_get X (Heap.get?_push_size _ rfl) fun m => ?_, rfl, _, by simp; rfl⟩ ((rl.drop k).mono (p.hid S.sub)))
    exact S.fresh m

theorem Ev.cmp2 {l r1 r2 : Expr} {op1 op2 : CmpOp} {pos : Pos} {d0 d1 d2 : D} {b c : Bool} (h0 : Ev W fd n hd σ l d0) (h1 : Ev W fd n hd σ r1 d1) (h2 : Ev W fd n hd σ r2 d2) (hc1 : Cmp W n hd op1 d0 d1 (.bool b)) (hc2 : Cmp W n hd op2 d1 d2 (.bool c))
    (hm : lastMarks [op1, op2] [r1, r2] = false := by rfl) : Ev W fd n hd σ (.Compare l [op1, op2] [r1, r2] pos) (.bool (b && c)) :=
  fun L a A outer X s m C lo Q E h => Compare_chain (h0 L a A outer X s m C lo _ _ fun v0 ha tka x0 q0 => by
    have C1 := C.step x0
    have l1 := lo.mono (x0.hid C.sx.sub)
    refine chain_link (h1 L a A outer X _ m C1 l1 _ _ fun v1 hb tkb x1 q1 => ?_)
    have C2 := C1.step x1
    have l2 := l1.mono (x1.hid C.sx.sub)
    refine hc1 A _ X _ v0 v1 C2.sx (q0.mono (x1.hid C.sx.sub)) q1 _ _ fun vc hc tkc x2 q2 => ?_
    cases q2
    refine wpAny_pure (show if b then _ else _ from ?_)
    have C3 := C2.step x2
    have l3 := l2.mono (x2.hid C.sx.sub)
    cases b with
    | false => exact h _ _ _ ((x0.trans x1).trans x2) (.bool _)
    | true =>
      refine chain_last (h2 L a A outer X _ m C3 l3 _ _ fun v2 hd' tkd x3 q3 => ?_)
      have C4 := C3.step x3
      exact hc2 A _ X _ v1 v2 C4.sx ((q1.mono (x2.hid C.sx.sub)).mono (x3.hid C.sx.sub)) q3 _ _ fun v h' tk' x4 q4 => h v h' tk' ((((x0.trans x1).trans x2).trans x3).trans x4) q4) hm
theorem Tr.cmp2 {l r1 r2 : Expr} {op1 op2 : CmpOp} {pos : Pos} {d0 d1 d2 : D} {b c : Bool} (h0 : Ev W fd n hd σ l d0) (h1 : Ev W fd n hd σ r1 d1) (h2 : Ev W fd n hd σ r2 d2) (hc1 : Cmp W n hd op1 d0 d1 (.bool b)) (hc2 : Cmp W n hd op2 d1 d2 (.bool c))
    (hm : lastMarks [op1, op2] [r1, r2] = false := by rfl) : Tr W fd n hd σ (.Compare l [op1, op2] [r1, r2] pos) (b && c) :=
  fun L a A outer X s m C lo Q E h => isTrue_chain (h0 L a A outer X s m C lo _ _ fun v0 ha tka x0 q0 => by
    have C1 := C.step x0
    have l1 := lo.mono (x0.hid C.sx.sub)
    refine test_link (h1 L a A outer X _ m C1 l1 _ _ fun v1 hb tkb x1 q1 => ?_)
    have C2 := C1.step x1
    have l2 := l1.mono (x1.hid C.sx.sub)
    refine hc1 A _ X _ v0 v1 C2.sx (q0.mono (x1.hid C.sx.sub)) q1 _ _ fun vc hc tkc x2 q2 => ?_
    cases q2
    refine wpAny_pure (show if b then _ else _ from ?_)
    have C3 := C2.step x2
    have l3 := l2.mono (x2.hid C.sx.sub)
    cases b with
    | false => exact h _ _ ((x0.trans x1).trans x2)
    | true =>
      refine test_last (h2 L a A outer X _ m C3 l3 _ _ fun v2 hd' tkd x3 q3 => ?_)
      have C4 := C3.step x3
      refine hc2 A _ X _ v1 v2 C4.sx ((q1.mono (x2.hid C.sx.sub)).mono (x3.hid C.sx.sub)) q3 _ _ fun v h' tk' x4 q4 => ?_
      cases q4
      exact wpAny_pure (h h' tk' ((((x0.trans x1).trans x2).trans x3).trans x4))) hm
end
end Mine
end

section
open PySem PySem.W PySem.Calls PyProof.Rows
set_option Elab.async false
set_option linter.unusedVariables false
namespace Mine

inductive Out where
  | next (σ : Sg) | ret (d : D) | brk (σ : Sg) | cont (σ : Sg)

structure StpL (L : Addr) (fs : List Addr) (h h' : Heap) : Prop where
  keep : ∀ b o, h.get? b = some o → b ≠ L → b ∉ fs → h'.get? b = some o
  slot : ∀ b o, h.get? b = some o → b ≠ L → b ∈ fs → ∃ sl, h'.get? b = some { o with slots := sl }
theorem StpL.refl {L : Addr} {fs : List Addr} {h : Heap} : StpL L fs h h := ⟨fun _ _ e _ _ => e, fun _ o e _ _ => ⟨o.slots, e⟩⟩
theorem StpL.trans {L : Addr} {fs : List Addr} {h h₁ h₂ : Heap} (x : StpL L fs h h₁) (y : StpL L fs h₁ h₂) : StpL L fs h h₂ :=
  ⟨fun b o e q m => y.keep b o (x.keep b o e q m) q m, fun b o e q m => by
    obtain ⟨s1, e1⟩ := x.slot b o e q m
    obtain ⟨s2, e2⟩ := y.slot b _ e1 q m
    exact ⟨s2, e2⟩⟩
theorem Stp.toL {L : Addr} {fs : List Addr} {h h' : Heap} (x : Stp (L :: fs) h h') : StpL L fs h h' :=
  ⟨fun b o e q m => x.keep b o e fun mm => (List.mem_cons.mp mm).elim q m, fun b o e q m => x.slot b o e (List.mem_cons_of_mem _ m)⟩
theorem StpL.of_same {L : Addr} {fs : List Addr} {h h' : Heap} (x : Heap.SameBut L h h') : StpL L fs h h' :=
  ⟨fun b o e q m => (x.2 b q).trans e, fun b o e q m => ⟨o.slots, (x.2 b q).trans e⟩⟩
theorem StpL.hid {L : Addr} {fs X : List Addr} {h h' : Heap} (x : StpL L fs h h') (hL : L ∈ X) (hs : ∀ b ∈ fs, b ∈ X) : (hideAll h X).StaysIn (hideAll h' X) := fun b o e => by
  have nb : b ∉ X := fun m => by rw [hideAll_none X m] at e; cases e
  exact hideAll_get X (x.keep b o (of_hideAll X e) (fun q => nb (q ▸ hL)) fun m => nb (hs b m)) nb
theorem StpL.exs {L : Addr} {fs X : List Addr} {h h' : Heap} {m : PySem.Str → Option Value} (x : StpL L fs h h') (hn : h'.Ns L m) (k : ∀ b ∈ X, ∃ o, h.get? b = some o) : ∀ b ∈ X, ∃ o, h'.get? b = some o := fun b hb => by
  obtain ⟨o, e⟩ := k b hb
  by_cases z : b = L
  · subst z
    obtain ⟨oL, _, _, hoL, _⟩ := hn
    exact ⟨oL, hoL⟩
  · by_cases q : b ∈ fs
    · obtain ⟨sl, e'⟩ := x.slot b o e z q
      exact ⟨_, e'⟩
    · exact ⟨o, x.keep b o e z q⟩
theorem StpL.frames {L : Addr} {fs X : List Addr} {h h' : Heap} {m : PySem.Str → Option Value} (x : StpL L fs h h') (hn : h'.Ns L m) : ∀ {l : List Env}, (∀ b ∈ fr l, b ∈ X) → h.FunFrames (hideAll h X) l → h'.FunFrames (hideAll h' X) l
  | [], _, _ => trivial
  | env :: r, hs, ⟨hk, ⟨L₁, o, hf, _, ho, hd⟩, hr⟩ => by
    have mL : L₁ ∈ fr (env :: r) := by simp [fr, hf]
    have hL : L₁ ∈ X := hs L₁ mL
    have hr' : ∀ b ∈ fr r, b ∈ X := fun b hb => hs b (by
      rw [fr, List.filterMap_cons, hf]; exact List.mem_cons_of_mem _ hb)
    refine ⟨hk, ?_, x.frames hn hr' hr⟩
    by_cases e : L₁ = L
    · subst e
      obtain ⟨oL, es, ep, hoL, hdL, _⟩ := hn
      exact ⟨L₁, oL, hf, hideAll_none X hL, hoL, fun vs q => by rw [hdL] at q; cases q⟩
    · by_cases q : L₁ ∈ fs
      · obtain ⟨sl, e'⟩ := x.slot L₁ o ho e q
        exact ⟨L₁, _, hf, hideAll_none X hL, e', hd⟩
      · exact ⟨L₁, o, hf, hideAll_none X hL, x.keep L₁ o ho e q, hd⟩

def OutR (g : Heap) (m : PySem.Str → Option Value) : Flow → Out → Prop
  | .next, .next σ => Loc g m σ
  | .ret v, .ret d => Rep g v d
  | .brk, .brk σ => Loc g m σ
  | .cont, .cont σ => Loc g m σ
  | _, _ => False

section
variable {W : Wd} {fd : FuncData} {n : Nat} {hd : Nat} {σ : Sg} {P : Out → Prop}

theorem Cx.stepL {L a : Addr} {A : Around} {outer : List Env} {X : List Addr} {h h' : Heap} {m m' : PySem.Str → Option Value}
    (C : Cx W fd L a A outer X h m n hd) (x : StpL L (fr outer) h h') (hn : h'.Ns L m') : Cx W fd L a A outer X h' m' n hd := by
  have S := C.sx
  have hL : L ∈ X := S.sub L (show L ∈ L :: fr outer from .head _)
  have ho : ∀ b ∈ fr outer, b ∈ X := fun b hb => S.sub b (show b ∈ L :: fr outer from .tail _ hb)
  exact ⟨⟨S.gd.mono (x.hid hL ho), S.stack, x.frames hn S.sub S.frames, S.sub, x.exs hn S.ex, S.room, S.units, S.hand.mono (x.hid hL ho)⟩, hn⟩
theorem Cx.hidL {L a : Addr} {A : Around} {outer : List Env} {X : List Addr} {h h' : Heap} {m : PySem.Str → Option Value}
    (C : Cx W fd L a A outer X h m n hd) (x : StpL L (fr outer) h h') : (hideAll h X).StaysIn (hideAll h' X) :=
  x.hid (C.sx.sub L (show L ∈ L :: fr outer from .head _)) fun b hb => C.sx.sub b (show b ∈ L :: fr outer from .tail _ hb)

def ExG (W : Wd) (fd : FuncData) (n : Nat) (hd : Nat) (σ : Sg) (t : Env → Sem Flow) (P : Out → Prop) : Prop :=
  ∀ (L a : Addr) (A : Around) (outer : List Env) (X : List Addr) (s : Shared) (m : PySem.Str → Option Value), Cx W fd L a A outer X s.heap m n hd → Loc (hideAll s.heap X) m σ →
    ∀ (Q : Flow → Shared → Prop) (E : Value → Shared → Prop), (∀ f o h' m' tk', StpL L (fr outer) s.heap h' → h'.Ns L m' → P o → OutR (hideAll h' X) m' f o → Q f { s with heap := h', toks := tk' }) →
      wpAny (model W.prog W.w) A (t (callEnv fd L a)) Q E s
def Ex (W : Wd) (fd : FuncData) (n : Nat) (hd : Nat) (σ : Sg) (ss : List Stmt) (P : Out → Prop) : Prop := ExG W fd n hd σ (execs ss) P
def Knt (W : Wd) (fd : FuncData) (n : Nat) (hd : Nat) (rest : List Stmt) (P : Out → Prop) : Out → Prop
  | .next σ => Ex W fd n hd σ rest P
  | o => P o

theorem Ex.nil (h : P (.next σ)) : Ex W fd n hd σ [] P := fun L a A outer X s m C lo Q E hq => wpAny_execs_nil (hq _ _ _ m _ .refl C.ns h lo)
theorem Ex.stmt {st : Stmt} {rest : List Stmt} (h : ExG W fd n hd σ (exec st) (Knt W fd n hd rest P)) : Ex W fd n hd σ (st :: rest) P :=
  fun L a A outer X s m C lo Q E hq => wpAny_execs_cons (h L a A outer X s m C lo _ _ fun f o h' m' tk' x hn hP hO => by
    cases f with
    | next =>
      cases o with
      | next τ =>
        have hP' : Ex W fd n hd τ rest P := hP
        exact hP' L a A outer X { s with heap := h', toks := tk' } m' (C.stepL x hn) hO Q E fun f o h'' m'' tk'' y hn' hP' hO' => hq f o h'' m'' tk'' (x.trans y) hn' hP' hO'
      | _ => exact hO.elim
    | ret v =>
      cases o with
      | ret d => exact hq _ _ h' m' tk' x hn hP hO
      | _ => exact hO.elim
    | brk =>
      cases o with
      | brk d => exact hq _ _ h' m' tk' x hn hP hO
      | _ => exact hO.elim
    | cont =>
      cases o with
      | cont d => exact hq _ _ h' m' tk' x hn hP hO
      | _ => exact hO.elim)
theorem Loc.set {g : Heap} {m : PySem.Str → Option Value} {x : PySem.Str} {v : Value} {d : D} (lo : Loc g m σ) (r : Rep g v d) : Loc g (fun y => if y = x then some v else m y) ((x, d) :: σ) := fun y e he => by
  rw [List.lookup_cons] at he
  by_cases q : y = x
  · subst q
    simp at he
    subst he
    exact ⟨v, by simp, r⟩
  · have : (y == x) = false := by simpa using q
    rw [this] at he
    obtain ⟨w, hw, rw'⟩ := lo y e he
    exact ⟨w, by simp [q, hw], rw'⟩
theorem store_go {L a : Addr} {A : Around} {outer : List Env} {X : List Addr} {s : Shared} {m : PySem.Str → Option Value} {x : PySem.Str} {v : Value} {d : D} {Q : Unit → Shared → Prop} {E : Value → Shared → Prop} (C : Cx W fd L a A outer X s.heap m n hd) (lo : Loc (hideAll s.heap X) m σ) (r : Rep (hideAll s.heap X) v d)
    (h : ∀ h' tk', StpL L (fr outer) s.heap h' → h'.Ns L (fun y => if y = x then some v else m y) → Loc (hideAll h' X) (fun y => if y = x then some v else m y) ((x, d) :: σ) → Q () { s with heap := h', toks := tk' })
    {sc : Scope} (F : FdIs fd sc) (hl : sc.names.lookup x = some .local := by rfl) : wpAny (model W.prog W.w) A (storeName (callEnv fd L a) x v) Q E s :=
  wpAny_storeName_local (show fd.scope.names.lookup x = _ by rw [F.s]; exact hl) C.ns (fun h' hn hs => by
    have st : StpL L (fr outer) s.heap h' := .of_same hs
    have k := C.hidL st
    exact h h' _ st hn ((lo.mono k).set (r.mono k))) (by show (fd.scope.kind == .class || (fd.scope.kind == .module && L != fd.globals)) = false; rw [F.k]; rfl)
theorem Ex.assign {sc : Scope} (F : FdIs fd sc) {x : PySem.Str} {xp pos : Pos} {e : Expr} {d : D} {rest : List Stmt} (h1 : Ev W fd n hd σ e d) (h2 : Ex W fd n hd ((x, d) :: σ) rest P)
    (hl : sc.names.lookup x = some .local := by rfl)
    (hs : ∀ env, swapsWith e (some (.Name x xp)) pos.line env = pure false := by intro _; rfl) : Ex W fd n hd σ (.Assign [.Name x xp] e pos :: rest) P :=
  Ex.stmt fun L a A outer X s m C lo Q E hq => wpAny_Assign_Name (h1 L a A outer X s m C lo _ _ fun v h' tk' y r =>
    store_go (C.step y) (lo.mono (y.hid C.sx.sub)) r (fun h'' tk'' z hn l => hq .next (.next _) h'' _ tk'' (y.toL.trans z) hn h2 l) F hl) (hs _)
theorem Ex.ret {e : Expr} {pos : Pos} {d : D} {rest : List Stmt} (h1 : Ev W fd n hd σ e d) (h2 : P (.ret d)) : Ex W fd n hd σ (.Return (some e) pos :: rest) P :=
  Ex.stmt fun L a A outer X s m C lo Q E hq => by
    rw [exec_Return_some]
    exact wpAny_bind (wpAny_standAt (wpAny_bind (h1 L a A outer X s m C lo _ _ fun v h' tk' y r => wpAny_pure (hq (.ret v) (.ret d) h' m tk' y.toL (y.ns C.ns) h2 r))))
theorem Ex.cont {pos : Pos} {rest : List Stmt} (h : P (.cont σ)) : Ex W fd n hd σ (.Continue pos :: rest) P :=
  Ex.stmt fun L a A outer X s m C lo Q E hq => wpAny_Continue (hq .cont (.cont σ) _ m _ .refl C.ns h lo)
theorem Ex.ifS {t : Expr} {b : Bool} {body orelse rest : List Stmt} {pos : Pos} {P₁ : Out → Prop} (h1 : Tr W fd n hd σ t b) (h2 : b = true → Ex W fd n hd σ body P₁) (h3 : b = false → Ex W fd n hd σ orelse P₁)
    (h4 : ∀ o, P₁ o → Knt W fd n hd rest P o) : Ex W fd n hd σ (.If t body orelse pos :: rest) P :=
  Ex.stmt fun L a A outer X s m C lo Q E hq => wpAny_If (h1 L a A outer X s m C lo _ _ fun h' tk' y => by
    have C' := C.step y
    have l' := lo.mono (y.hid C.sx.sub)
    cases b with
    | true => exact h2 rfl L a A outer X _ m C' l' Q E fun f o h'' m'' tk'' z hn hP hO => hq f o h'' m'' tk'' (y.toL.trans z) hn (h4 o hP) hO
    | false => exact h3 rfl L a A outer X _ m C' l' Q E fun f o h'' m'' tk'' z hn hP hO => hq f o h'' m'' tk'' (y.toL.trans z) hn (h4 o hP) hO)
theorem Ex.ift {t : Expr} {b : Bool} {body orelse rest : List Stmt} {pos : Pos} (h1 : Tr W fd n hd σ t b) (hb : b = true) (h2 : Ex W fd n hd σ body (Knt W fd n hd rest P)) : Ex W fd n hd σ (.If t body orelse pos :: rest) P :=
  Ex.ifS h1 (fun _ => h2) (fun q => by rw [hb] at q; cases q) fun _ x => x
theorem Ex.iff {t : Expr} {b : Bool} {body orelse rest : List Stmt} {pos : Pos} (h1 : Tr W fd n hd σ t b) (hb : b = false) (h2 : Ex W fd n hd σ orelse (Knt W fd n hd rest P)) : Ex W fd n hd σ (.If t body orelse pos :: rest) P :=
  Ex.ifS h1 (fun q => by rw [hb] at q; cases q) (fun _ => h2) fun _ x => x
theorem Ex.ifJ (τ : Sg) {t : Expr} {b : Bool} {body orelse rest : List Stmt} {pos : Pos} (h1 : Tr W fd n hd σ t b) (h2 : b = true → Ex W fd n hd σ body (· = .next τ)) (h3 : b = false → Ex W fd n hd σ orelse (· = .next τ))
    (h4 : Ex W fd n hd τ rest P) : Ex W fd n hd σ (.If t body orelse pos :: rest) P :=
  Ex.ifS h1 h2 h3 fun o e => by subst e; exact h4
theorem Ex.mono {ss : List Stmt} {P' : Out → Prop} (h : Ex W fd n hd σ ss P) (k : ∀ o, P o → P' o) : Ex W fd n hd σ ss P' :=
  fun L a A outer X s m C lo Q E hq => h L a A outer X s m C lo Q E fun f o h' m' tk' x hn hP hO => hq f o h' m' tk' x hn (k o hP) hO
def Sup (σ τ : Sg) : Prop := ∀ x d, τ.lookup x = some d → σ.lookup x = some d
theorem Ex.sup {τ : Sg} {ss : List Stmt} (h : Ex W fd n hd τ ss P) (k : Sup σ τ) : Ex W fd n hd σ ss P :=
  fun L a A outer X s m C lo Q E hq => h L a A outer X s m C (fun x d e => lo x d (k x d e)) Q E hq
theorem Sup.nil : Sup σ [] := fun x d e => by cases e
theorem Sup.cons {τ : Sg} {x : PySem.Str} {d : D} (h : σ.lookup x = some d) (r : Sup σ τ) : Sup σ ((x, d) :: τ) := fun y e he => by
  rw [List.lookup_cons] at he
  by_cases q : y = x
  · subst q; simp at he; subst he; exact h
  · have : (y == x) = false := by simpa using q
    rw [this] at he
    exact r y e he
theorem Ex.nilJ {τ : Sg} (k : Sup σ τ) : Ex W fd n hd σ [] (· = .next τ) := Ex.sup (Ex.nil rfl) k
end

theorem hideAll_sub {h : Heap} {X Y : List Addr} (k : ∀ b ∈ X, b ∈ Y) : (hideAll h Y).StaysIn (hideAll h X) := fun b o e => by
  have nb : b ∉ Y := fun m => by rw [hideAll_none Y m] at e; cases e
  exact hideAll_get X (of_hideAll Y e) fun m => nb (k b m)
theorem frames_hid {h base : Heap} {Y : List Addr} : ∀ {l : List Env}, (∀ b ∈ fr l, b ∈ Y) → h.FunFrames base l → h.FunFrames (hideAll h Y) l
  | [], _, _ => trivial
  | env :: r, hs, ⟨hk, ⟨L₁, o, hf, _, ho, hd⟩, hr⟩ => by
    have mL : L₁ ∈ fr (env :: r) := by simp [fr, hf]
    exact ⟨hk, ⟨L₁, o, hf, hideAll_none _ (hs L₁ mL), ho, hd⟩, frames_hid (fun b hb => hs b (by rw [fr, List.filterMap_cons, hf]; exact List.mem_cons_of_mem _ hb)) hr⟩
theorem lookZ {g : Heap} : ∀ {names : List PySem.Str} {vs : List Value} {ds : List D} {x : PySem.Str} {d : D}, RepL g vs ds → names.length = ds.length → (names.zip ds).lookup x = some d → ∃ v, (names.zip vs).lookup x = some v ∧ Rep g v d
  | [], _, _, _, _, _, _, e => by cases e
  | _ :: _, _, _, _, _, .nil, _, e => by cases e
  | y :: r, _, _, x, d, .cons (v := v) (vs := vs) h t, l, e => by
    rw [List.zip_cons_cons, List.lookup_cons] at e ⊢
    by_cases q : x = y
    · subst q
      simp at e ⊢
      subst e
      exact h
    · have : (x == y) = false := by simpa using q
      rw [this] at e ⊢
      exact lookZ t (by simpa using l) e
theorem RepL.rev {g : Heap} {vs : List Value} {ds : List D} (h : RepL g vs ds) : RepL g vs.reverse ds.reverse := by
  induction h using RepL.rec (motive_1 := fun _ _ _ => True) with
  | nil => exact .nil
  | cons h _ _ ih => simpa using ih.app (.cons h .nil)
  | _ => trivial

section
variable {W : Wd} {n : Nat} {hd : Nat}
theorem enter_go {fd : FuncData} {f : Addr} {A : Around} {outer : List Env} {X : List Addr} {s : Shared} {vs : List Value} {ds : List D} {names : List PySem.Str} {h₀ : Heap} (S : Sx W A outer X s.heap (n + 1) hd) (r : RepL (hideAll s.heap X) vs ds)
    (hn : h₀.Ns s.heap.objs.size (fun x => (names.zip vs).reverse.lookup x)) (hk₀ : ∀ b o, s.heap.get? b = some o → h₀.get? b = some o) (hl : names.length = ds.length) (hk : fd.scope.kind = .function) :
    Cx W fd s.heap.objs.size f (A.deeper (callEnv fd s.heap.objs.size f)) outer (s.heap.objs.size :: X) h₀ (fun x => (names.zip vs).reverse.lookup x) n hd ∧ Loc (hideAll h₀ (s.heap.objs.size :: X)) (fun x => (names.zip vs).reverse.lookup x) ((names.zip ds).reverse) ∧
    (hideAll s.heap X).StaysIn (hideAll h₀ (s.heap.objs.size :: X)) := by
  have len := r.len
  have p : Stp (fr outer) s.heap h₀ := .of_keeps hk₀
  have hLX : (hideAll s.heap X).StaysIn (hideAll h₀ (s.heap.objs.size :: X)) := fun b o e => by
    have nb : b ∉ X := fun m => by rw [hideAll_none X m] at e; cases e
    have e' := of_hideAll X e
    refine hideAll_get _ (hk₀ b o e') fun m => ?_
    rcases List.mem_cons.mp m with z | z
    · exact absurd (Heap.lt_size e') (by rw [z]; exact Nat.lt_irrefl _)
    · exact nb z
  refine ⟨⟨⟨S.gd.mono hLX, Around.frames_deeper S.stack, ?_, ?_, ?_, ?_, ?_, S.hand.mono hLX⟩, hn⟩, fun x e he => ?_, hLX⟩
  · refine ⟨by show fd.scope.kind ≠ _; rw [hk]; decide, ?_, ?_⟩
    · obtain ⟨oL, es, ep, hoL, hdL, _⟩ := hn
      exact ⟨_, oL, rfl, hideAll_none _ (List.Mem.head _), hoL, fun vs q => by rw [hdL] at q; cases q⟩
    · exact frames_hid (fun b hb => List.mem_cons_of_mem _ (S.sub b hb)) (p.frames S.sub S.frames)
  · intro b hb
    rcases List.mem_cons.mp (show b ∈ s.heap.objs.size :: fr outer from hb) with z | z
    · rw [z]; exact List.Mem.head _
    · exact List.mem_cons_of_mem _ (S.sub b z)
  · intro b hb
    rcases List.mem_cons.mp hb with z | z
    · rw [z]
      obtain ⟨oL, _, _, hoL, _⟩ := hn
      exact ⟨oL, hoL⟩
    · obtain ⟨o, e⟩ := S.ex b z
      exact ⟨o, hk₀ b o e⟩
  · have := S.room
    show A.depth + 1 + n < recursionLimit
    omega
  · have := S.units
    show A.units + 3 + 8 * n + 80 < cLine
    omega
  · rw [List.zip_eq_zipWith, List.reverse_zipWith hl, ← List.zip_eq_zipWith] at he
    show ∃ v, (names.zip vs).reverse.lookup x = some v ∧ _
    rw [List.zip_eq_zipWith, List.reverse_zipWith (hl.trans len.symm), ← List.zip_eq_zipWith]
    exact lookZ (r.mono hLX).rev (by simpa using hl) he
theorem back_go {outer : List Env} {h h₀ h' : Heap} (hk₀ : ∀ b o, h.get? b = some o → h₀.get? b = some o) (x : StpL h.objs.size (fr outer) h₀ h') : Stp (fr outer) h h' :=
  ⟨fun b o e m => x.keep b o (hk₀ b o e) (Nat.ne_of_lt (Heap.lt_size e)) m, fun b o e m => x.slot b o (hk₀ b o e) (Nat.ne_of_lt (Heap.lt_size e)) m⟩
theorem Call.of_body {f : Addr} {oc : Value} {od : Option Addr} {osl : Array (Option Value)} {fd : FuncData} {ds : List D} {d : D} {body : List Stmt} (names : List PySem.Str)
    (ho : W.K.lookup f = some ⟨oc, od, .func fd, osl⟩) (hcd : codeIn W.K fd.code fd.qualname = true) (hbody : fd.body = .stmts body)
    (hb : ∀ vs : List Value, vs.length = ds.length → bindArgs fd ⟨vs, []⟩ = pure (names.zip vs)) (hl : names.length = ds.length) (hloc : ∀ x ∈ names, fd.scope.names.lookup x = some .local)
    (h : ∀ fd' sc, sc = fd.scope → FdIs fd' sc → Ex W fd' n hd ((names.zip ds).reverse) body (fun o => o = .ret d ∨ (d = .none ∧ ∃ σ, o = .next σ)))
    (hcell : ∀ x ∈ fd.scope.names, x.2 ≠ .cell := by decide) (hco : fd.scope.isCoroutine = false := by rfl) (hgen : fd.scope.isGenerator = false := by rfl) (hk : fd.scope.kind = .function := by rfl) (hgl : fd.globals = mainGlobals := by rfl) (hbl : fd.builtins = builtinsNs := by rfl) : Call W (n + 1) hd (.ref f) ds d := by
  intro A outer X s vs S r Q E hq
  have X₀ := S.gd.X.keeps (fun b o e => of_hideAll X e)
  have len := r.len
  refine wpAny_call (codeAny_call_def (body := body) (binds := names.zip vs) (by have := S.room; omega) (X₀ _ _ ho) rfl (S.gd.T.nolimit.keeps fun b o e => of_hideAll X e) (codeRec_of X₀ hcd) hbody (.of_eq (hb vs len)) hcell
    (fun y hy => hloc _ (List.of_mem_zip hy).1) (fun h₀ hn hk₀ => ?_) hco hgen hk)
  obtain ⟨C, lo, hLX⟩ := enter_go (f := f) (fd := fd) S r hn hk₀ hl hk
  refine h fd fd.scope rfl ⟨rfl, hk, hgl, hbl⟩ s.heap.objs.size f _ outer (s.heap.objs.size :: X) { s with heap := h₀, toks := s.toks + (names.zip vs).length } _ C lo _ _ fun fl o h' m' tk' x hn' hP hO => ?_
  have st := back_go hk₀ x
  have sub : (hideAll h' (s.heap.objs.size :: X)).StaysIn (hideAll h' X) := hideAll_sub fun b hb => List.mem_cons_of_mem _ hb
  rcases hP with rfl | ⟨rfl, τ, rfl⟩
  · cases fl with
    | ret v => exact hq v h' tk' st (Rep.mono sub hO)
    | _ => exact hO.elim
  · cases fl with
    | next => exact hq .none h' tk' st .none
    | _ => exact hO.elim
end
end Mine
end

section
open PySem PySem.W PySem.Calls PyProof.Rows
set_option Elab.async false
set_option linter.unusedVariables false
namespace Mine
section
variable {W : Wd} {fd : FuncData} {n : Nat} {hd : Nat} {σ : Sg}
theorem glb_fnK {K : Frag} (hK : W.K = K) {x : PySem.Str} {v : Value} (e : nsIn K mainGlobals x = some (some v)) : Glb W x (.fn v) := fun g G => ⟨v, mg_of G.X G.T.g (hK ▸ e), .fn v⟩
theorem bti_fnK {K : Frag} (hK : W.K = K) {x : PySem.Str} {v : Value} (e : nsIn K mainGlobals x = some none) (hv : bootBuiltins x = some v) (hn : x ≠ "__name__" := by decide) : Bti W x (.fn v) := fun g G => ⟨mg_none_of G.X G.T.g (hK ▸ e), v, (G.T.builtins x hn).trans hv, .fn v⟩
theorem keep_refK {K : Frag} (hK : W.K = K) {f : Value} (h : keepIn K f = true) : Keep W f := keep_ref (hK ▸ h)
def strI (i : Int) : PySem.Str := PySem.Str.ofString (toString i)
theorem fits_log {i : Int} (h : i.natAbs < 100000000000000000000) : i.natAbs.log2 < 1920 := by
  by_cases q : i.natAbs = 0
  · rw [q]; decide
  · have : i.natAbs.log2 < 70 := (Nat.log2_lt q).mpr (Nat.lt_trans h (by decide))
    omega
theorem Call.strI (h : -100000000000000000000 < i ∧ i < 100000000000000000000) : Call W n hd (.type "str") [.int i] (.str (strI i)) := fun A outer X s vs S r Q E hq => by
  cases r with
  | cons h1 h2 =>
  cases h2
  cases h1
  exact PySem.P.str_of_int (fits_log (by omega)) (hq _ _ _ .refl (.str _ _))
theorem Bin.mulI {i j : Int} (h : -1000000000000000000 < j ∧ j < 1000000000000000000) : Bin W n hd .Mult (.int i) (.int j) (.int (i * j)) := fun A outer X s v1 v2 S r1 r2 Q E hq => by
  cases r1; cases r2
  exact mul_int (hq _ _ _ .refl (.int _ _))
theorem Tru.int {i : Int} : Tru W n hd (.int i) (decide (i ≠ 0)) := fun A outer X s v S r Q E h => by
  cases r
  refine PySem.P.truthy_int ?_
  have e : (i != 0) = decide (i ≠ 0) := by by_cases q : i = 0 <;> simp [q]
  rw [e]
  exact h _ _ .refl
theorem Tru.str {x : PySem.Str} (hz : x.length ≤ 16777216) : Tru W n hd (.str x) (decide (x.length ≠ 0)) := fun A outer X s v S r Q E h => by
  cases r
  refine PySem.P.truthy_str (by omega) ?_
  have e : ((x.length : Int) != 0) = decide (x.length ≠ 0) := by by_cases q : x.length = 0 <;> simp [q] <;> omega
  rw [e]
  exact h _ _ .refl
theorem lit_0 : (PySem.Str.ofString "0").length = 1 := by decide
theorem lit_4 : (PySem.Str.ofString "0000").length = 4 := by decide
theorem lit_3 : (PySem.Str.ofString "000").length = 3 := by decide
theorem lit_6 : (PySem.Str.ofString "000000").length = 6 := by decide
theorem lit_d : (PySem.Str.ofString "-").length = 1 := by decide
theorem lit_c : (PySem.Str.ofString ":").length = 1 := by decide
theorem lit_s : (PySem.Str.ofString " ").length = 1 := by decide
theorem lit_T : (PySem.Str.ofString "T").length = 1 := by decide
theorem lit_p : (PySem.Str.ofString ".").length = 1 := by decide
theorem lit_q : (PySem.Str.ofString "'").length = 1 := by decide
theorem lit_e : (PySem.Str.ofString "").length = 0 := by decide
end
end Mine
end

section
open PySem PySem.W PySem.Calls PyProof.Rows
set_option Elab.async false
set_option linter.unusedVariables false
namespace Mine

structure Exo (h0 h : Heap) (e : Addr) (ctx : Value) (fl : Option Value) : Prop where
  new : h0.get? e = none
  ob : ∃ oe vs a0, h.get? e = some oe ∧ oe.cls = .type "ValueError" ∧ oe.data = .fields vs ∧ vs[0]? = some a0 ∧ vs[2]? = some ctx ∧
    ((fl = none ∧ vs[1]? = some .none) ∨ ∃ f T oT ts, fl = some f ∧ vs[1]? = some (.ref T) ∧ h0.get? T = none ∧ T ≠ e ∧ h.get? T = some oT ∧ oT.data = .fields ts ∧ ts[3]? = some f)

structure Ch (h0 : Heap) (fs : List Addr) (h h' : Heap) : Prop where
  keep : ∀ b o, (∃ o₀, h0.get? b = some o₀) → h.get? b = some o → b ∉ fs → h'.get? b = some o
  slot : ∀ b o, (∃ o₀, h0.get? b = some o₀) → h.get? b = some o → b ∈ fs → ∃ sl, h'.get? b = some { o with slots := sl }
theorem Ch.refl {h0 h : Heap} {fs : List Addr} : Ch h0 fs h h := ⟨fun _ _ _ e _ => e, fun _ o _ e _ => ⟨o.slots, e⟩⟩
theorem Ch.trans {h0 h h₁ h₂ : Heap} {fs : List Addr} (x : Ch h0 fs h h₁) (y : Ch h0 fs h₁ h₂) : Ch h0 fs h h₂ :=
  ⟨fun b o d e m => y.keep b o d (x.keep b o d e m) m, fun b o d e m => by
    obtain ⟨s1, e1⟩ := x.slot b o d e m
    obtain ⟨s2, e2⟩ := y.slot b _ d e1 m
    exact ⟨s2, e2⟩⟩
theorem Ch.any {h0 h h' : Heap} {fs : List Addr} (x : Ch h0 fs h h') {b : Addr} {o : Obj} (d : ∃ o₀, h0.get? b = some o₀) (e : h.get? b = some o) : ∃ sl, h'.get? b = some { o with slots := sl } := by
  by_cases q : b ∈ fs
  · exact x.slot b o d e q
  · exact ⟨o.slots, x.keep b o d e q⟩
theorem Stp.any {h h' : Heap} {fs : List Addr} (x : Stp fs h h') {b : Addr} {o : Obj} (e : h.get? b = some o) : ∃ sl, h'.get? b = some { o with slots := sl } := by
  by_cases q : b ∈ fs
  · exact x.slot b o e q
  · exact ⟨o.slots, x.keep b o e q⟩
theorem Stp.ch {h0 h h' : Heap} {fs : List Addr} (x : Stp fs h0 h) (y : Ch h0 fs h h') : Stp fs h0 h' :=
  ⟨fun b o e m => y.keep b o ⟨o, e⟩ (x.keep b o e m) m, fun b o e m => by
    obtain ⟨s1, e1⟩ := x.slot b o e m
    obtain ⟨s2, e2⟩ := y.slot b _ ⟨o, e⟩ e1 m
    exact ⟨s2, e2⟩⟩
theorem StpL.ch {h0 h h' : Heap} {L : Addr} {fs : List Addr} (x : StpL L fs h0 h) (y : Ch h0 (L :: fs) h h') : StpL L fs h0 h' :=
  ⟨fun b o e q m => y.keep b o ⟨o, e⟩ (x.keep b o e q m) fun z => (List.mem_cons.mp z).elim q m, fun b o e q m => by
    obtain ⟨s1, e1⟩ := x.slot b o e q m
    obtain ⟨s2, e2⟩ := y.slot b _ ⟨o, e⟩ e1 (List.mem_cons_of_mem _ m)
    exact ⟨s2, e2⟩⟩
theorem Ch.ns {h0 h h' : Heap} {fs : List Addr} {L : Addr} {m : PySem.Str → Option Value} (x : Ch h0 fs h h') (d : ∃ o₀, h0.get? L = some o₀) (hn : h.Ns L m) : h'.Ns L m := by
  obtain ⟨o, es, ep, ho, hd, r⟩ := hn
  obtain ⟨sl, e⟩ := x.any d ho
  exact ⟨_, es, ep, e, hd, r⟩
theorem Ch.frames {h0 h h' base : Heap} {fs : List Addr} (x : Ch h0 fs h h') : ∀ {l : List Env}, (∀ b ∈ fr l, ∃ o₀, h0.get? b = some o₀) → h.FunFrames base l → h'.FunFrames base l
  | [], _, _ => trivial
  | env :: r, hs, ⟨hk, ⟨L, o, hf, hn, ho, hd⟩, hr⟩ => by
    have mL : L ∈ fr (env :: r) := by simp [fr, hf]
    obtain ⟨sl, e⟩ := x.any (hs L mL) ho
    exact ⟨hk, ⟨L, _, hf, hn, e, hd⟩, x.frames (fun b hb => hs b (by rw [fr, List.filterMap_cons, hf]; exact List.mem_cons_of_mem _ hb)) hr⟩

section
variable {M : Model} {A : Around} {E : Value → Shared → Prop} {s : Shared} {h0 base : Heap} {env : Env} {outer : List Env} {L e : Addr} {ctx : Value} {fl : Option Value} {Q : Unit → Shared → Prop}

theorem entry_go {oe : Obj} {vs : Array Value} {head a0 : Value} {hadNext : Bool} (hfr : A.frames = some (env :: outer)) (hl : s.heap.FunFrames base (env :: outer)) (hf : env.frame = some L)
    (hnew : h0.get? e = none) (he : s.heap.get? e = some oe) (hc : oe.cls = .type "ValueError") (hd : oe.data = .fields vs) (hsz : 1 < vs.size) (h0' : vs[0]? = some a0) (h2 : vs[2]? = some ctx) (hin : ∀ b o, h0.get? b = some o → ∃ o', s.heap.get? b = some o')
    (h : ∀ h', Exo h0 h' e ctx (some (rawInt L)) → Ch h0 (fr (env :: outer)) s.heap h' → Q () { s with heap := h' }) :
    wpAny M A (do let a ← frameOf env; let pl ← entryPlaceOf L hadNext; let b ← EntryCells.newEntry head a .none (rawInt L) .none pl; setField (.ref e) 1 b) Q E s := by
  have hene : e ∉ fr (env :: outer) := fun hm => by
    obtain ⟨_, o, ho, hnf⟩ := hl.mem hm
    rw [he] at ho
    cases ho
    exact hnf vs hd
  refine wpAny_bind (wpAny_frameOf_fun hfr hl hf fun h₁ hs₁ => wpAny_bind (wpAny_entryPlaceOf fun pl hpl => ?_))
  unfold EntryCells.newEntry newFields
  refine wpAny_bind (wpAny_newObj_type ?_ (hpl.sizeOk5 _ _ _ _ _))
  generalize hob : ({ cls := .type "traceback", dict := none, data := .fields ([head, .ref L, .none, rawInt L, .none] ++ (if pl.isEmpty then List.replicate 6 Value.none else pl)).toArray } : Obj) = ob
  have h3 : ∃ ts : Array Value, ob.data = .fields ts ∧ ts[3]? = some (rawInt L) := by
    subst hob
    exact ⟨_, rfl, by first | (simp; done) | (rcases hpl with rfl | ⟨_, _, _, _, _, _, _, rfl⟩ <;> simp)⟩
  obtain ⟨ts, hts, ht3⟩ := h3
  have he₁ : h₁.get? e = some oe := (hs₁.2.1 e hene).trans he
  have he₂ := Heap.get?_push_of_some (h := h₁) ob he₁
  have hTe : h₁.objs.size ≠ e := Nat.ne_of_gt (Heap.lt_size he₁)
  have hd₃ := Obj.data_mapFields hd (·.setIfInBounds 1 (Value.ref h₁.objs.size))
  refine wpAny_setField he₂ hd hsz (h _ ⟨hnew, _, _, a0, Heap.get?_update_self _ he₂ (Obj.isFreed_of_fields hd₃), (Obj.cls_mapFields _ _).trans hc, hd₃, ?_, ?_, .inr ⟨_, h₁.objs.size, ob, ts, rfl, by simp [hsz], ?_, hTe, ?_, hts, ht3⟩⟩ ⟨?_, ?_⟩)
  · rw [Array.getElem?_setIfInBounds_ne (by decide)]; exact h0'
  · rw [Array.getElem?_setIfInBounds_ne (by decide)]; exact h2
  · cases q : h0.get? h₁.objs.size with
    | none => rfl
    | some o =>
      obtain ⟨o', ho'⟩ := hin _ o q
      obtain ⟨sl, e'⟩ := hs₁.2.2 _ o' ho'
      exact absurd (Heap.lt_size e') (Nat.lt_irrefl _)
  · rw [Heap.get?_update_other _ _ (Ne.symm hTe)]
    exact Heap.get?_push_size h₁ (Obj.isFreed_of_fields hts)
  · intro b o d ho hb
    have hbe : b ≠ e := fun q => by obtain ⟨o₀, d⟩ := d; rw [q, hnew] at d; cases d
    rw [Heap.get?_update_other _ _ (Ne.symm hbe)]
    exact Heap.get?_push_of_some _ ((hs₁.2.1 b hb).trans ho)
  · intro b o d ho hb
    have hbe : b ≠ e := fun q => by obtain ⟨o₀, d⟩ := d; rw [q, hnew] at d; cases d
    obtain ⟨sl, e'⟩ := hs₁.2.2 b o ho
    refine ⟨sl, ?_⟩
    rw [Heap.get?_update_other _ _ (Ne.symm hbe)]
    exact Heap.get?_push_of_some _ e'

theorem note_go (hfr : A.frames = some (env :: outer)) (hl : s.heap.FunFrames base (env :: outer)) (hf : env.frame = some L) (x : Exo h0 s.heap e ctx fl) (hin : ∀ b o, h0.get? b = some o → ∃ o', s.heap.get? b = some o') (hfl : fl = none ∨ fl = some .none ∨ fl = some (rawInt L))
    (h : ∀ h', Exo h0 h' e ctx (some (rawInt L)) → Ch h0 (fr (env :: outer)) s.heap h' → Q () { s with heap := h' }) : wpAny M A (noteFrame (.ref e) env) Q E s := by
  obtain ⟨hnew, oe, vs, a0, he, hc, hd, h0', h2, tb⟩ := x
  have hsz : 1 < vs.size := by have := (Array.getElem?_eq_some_iff.mp h2).1; omega
  unfold noteFrame
  simp only [hf]
  rcases tb with ⟨rfl, h1⟩ | ⟨f, T, oT, ts, rfl, h1, hnT, hTe, hT, hdT, h3⟩
  · refine wpAny_bind (wpAny_field he hd h1 ?_)
    rw [if_neg (by decide)]
    exact entry_go hfr hl hf hnew he hc hd hsz h0' h2 hin h
  · refine wpAny_bind (wpAny_field he hd h1 ?_)
    rw [if_pos (show (Value.ref T != Value.none) = true from by simp)]
    refine wpAny_bind (wpAny_field hT hdT h3 ?_)
    rcases hfl with q | q | q
    · cases q
    · cases q
      rw [if_neg (show ¬ ((Value.none == rawInt L) = true) from by simp [rawInt])]
      refine wpAny_bind (wpAny_setField hT hdT (Array.getElem?_eq_some_iff.mp h3).1 ?_)
      have other : ∀ b, b ≠ T → (s.heap.update T (Obj.mapFields (·.setIfInBounds 3 Value.none))).get? b = s.heap.get? b := fun b hb => Heap.get?_update_other _ _ (Ne.symm hb)
      have noRec : ∀ b o, s.heap.get? b = some o → (∀ vs, o.data ≠ .fields vs) → b ≠ T := fun b o hb hnf q => by
        rw [q, hT] at hb; cases hb; exact hnf ts hdT
      have hd0 : ∀ b, (∃ o₀, h0.get? b = some o₀) → b ≠ T := fun b ⟨o₀, d⟩ q => by rw [q, hnT] at d; cases d
      refine entry_go (s := { s with heap := s.heap.update T (Obj.mapFields (·.setIfInBounds 3 Value.none)) }) hfr (hl.of_keeps fun b o hb hnf => ⟨o, (other b (noRec b o hb hnf)).trans hb, rfl⟩) hf hnew ((other e (Ne.symm hTe)).trans he) hc hd hsz h0' h2
        (fun b o q => by rw [other b (hd0 b ⟨o, q⟩)]; exact hin b o q) fun h' x1 x2 => h h' x1 ⟨fun b o d ho hb => x2.keep b o d ((other b (hd0 b d)).trans ho) hb, fun b o d ho hb => x2.slot b o d ((other b (hd0 b d)).trans ho) hb⟩
    · cases q
      rw [if_pos (show (rawInt L == rawInt L) = true from by simp)]
      exact wpAny_pure (h _ ⟨hnew, oe, vs, a0, he, hc, hd, h0', h2, .inr ⟨_, T, oT, ts, rfl, h1, hnT, hTe, hT, hdT, h3⟩⟩ .refl)
theorem flight_go {f : Value} {fs : List Addr} (x : Exo h0 s.heap e ctx (some f)) (h : ∀ h', Exo h0 h' e ctx (some .none) → Ch h0 fs s.heap h' → Q () { s with heap := h' }) : wpAny M A (setFlight (.ref e) none) Q E s := by
  obtain ⟨hnew, oe, vs, a0, he, hc, hd, h0', h2, tb⟩ := x
  rcases tb with ⟨q, _⟩ | ⟨f', T, oT, ts, q, h1, hnT, hTe, hT, hdT, h3⟩
  · cases q
  cases q
  have hsz3 : 3 < ts.size := (Array.getElem?_eq_some_iff.mp h3).1
  have other : ∀ b, b ≠ T → (s.heap.update T (Obj.mapFields (·.setIfInBounds 3 ((none : Option Addr).elim Value.none fun f => rawInt f)))).get? b = s.heap.get? b :=
    fun b hb => Heap.get?_update_other _ _ (Ne.symm hb)
  have hd0 : ∀ b, (∃ o₀, h0.get? b = some o₀) → b ≠ T := fun b ⟨o₀, d⟩ q => by rw [q, hnT] at d; cases d
  unfold setFlight
  refine wpAny_bind (wpAny_field he hd h1 ?_)
  rw [if_pos (show (Value.ref T != Value.none) = true from by simp)]
  refine wpAny_setField hT hdT hsz3 (h _ ⟨hnew, oe, vs, a0, (other e (Ne.symm hTe)).trans he, hc, hd, h0', h2, .inr ⟨_, T, _, _, rfl, h1, hnT, hTe, Heap.get?_update_self _ hT (Obj.isFreed_of_fields (Obj.data_mapFields hdT _)), Obj.data_mapFields hdT _, by simp [hsz3]⟩⟩
    ⟨fun b o d ho _ => (other b (hd0 b d)).trans ho, fun b o d ho _ => ⟨o.slots, (other b (hd0 b d)).trans ho⟩⟩)
theorem leaving_go (hfr : A.frames = some (env :: outer)) (hl : s.heap.FunFrames base (env :: outer)) (hf : env.frame = some L) (x : Exo h0 s.heap e ctx fl) (hin : ∀ b o, h0.get? b = some o → ∃ o', s.heap.get? b = some o') (hfl : fl = none ∨ fl = some .none ∨ fl = some (rawInt L))
    (h : ∀ h', Exo h0 h' e ctx (some .none) → Ch h0 (fr (env :: outer)) s.heap h' → Q () { s with heap := h' }) : wpAny M A (leaving env (.ref e)) Q E s := by
  unfold leaving
  exact wpAny_bind (note_go hfr hl hf x hin hfl fun h₁ x₁ c₁ => flight_go (s := { s with heap := h₁ }) x₁ fun h₂ x₂ c₂ => h h₂ x₂ (c₁.trans c₂))
end
end Mine
end

section
open PySem PySem.W PySem.Calls PyProof.Rows
set_option Elab.async false
set_option linter.unusedVariables false
namespace Mine

def FlOk (l : List Env) (fl : Option Value) : Prop := fl = none ∨ fl = some .none ∨ ∃ env r L, l = env :: r ∧ env.frame = some L ∧ fl = some (rawInt L)
def GoX (W : Wd) (A : Around) (outer : List Env) (X : List Addr) (s : Shared) (t : Sem Value) (r : Option D) : Prop :=
  ∀ (Q : Value → Shared → Prop) (E : Value → Shared → Prop), (∀ v h' tk' d, r = some d → Stp (fr outer) s.heap h' → Rep (hideAll h' X) v d → Q v { s with heap := h', toks := tk' }) →
    (∀ e h' tk' ctx fl, r = none → Stp (fr outer) s.heap h' → Exo s.heap h' e ctx fl → FlOk outer fl → (A.handled = none → ctx = .none) → E (.ref e) { s with heap := h', toks := tk' }) → wpAny (model W.prog W.w) A t Q E s
theorem Go.x {W : Wd} {A : Around} {outer : List Env} {X : List Addr} {s : Shared} {t : Sem Value} {d : D} (h : Go W A outer X s t d) : GoX W A outer X s t (some d) := fun Q E hq _ => h Q E fun v h' tk' x r => hq v h' tk' d rfl x r
def EvX (W : Wd) (fd : FuncData) (n : Nat) (hd : Nat) (σ : Sg) (e : Expr) (r : Option D) : Prop :=
  ∀ (L a : Addr) (A : Around) (outer : List Env) (X : List Addr) (s : Shared) (m : PySem.Str → Option Value), Cx W fd L a A outer X s.heap m n hd → Loc (hideAll s.heap X) m σ →
    GoX W A (callEnv fd L a :: outer) X s (eval e (callEnv fd L a)) r
def CallX (W : Wd) (n : Nat) (hd : Nat) (f : Value) (ds : List D) (r : Option D) : Prop :=
  ∀ (A : Around) (outer : List Env) (X : List Addr) (s : Shared) (vs : List Value), Sx W A outer X s.heap n hd → RepL (hideAll s.heap X) vs ds → GoX W A outer X s (call f vs) r
def ExXG (W : Wd) (fd : FuncData) (n : Nat) (hd : Nat) (σ : Sg) (t : Env → Sem Flow) (P : Out → Prop) (R : Prop) : Prop :=
  ∀ (L a : Addr) (A : Around) (outer : List Env) (X : List Addr) (s : Shared) (m : PySem.Str → Option Value), Cx W fd L a A outer X s.heap m n hd → Loc (hideAll s.heap X) m σ →
    ∀ (Q : Flow → Shared → Prop) (E : Value → Shared → Prop), (∀ f o h' m' tk', StpL L (fr outer) s.heap h' → h'.Ns L m' → P o → OutR (hideAll h' X) m' f o → Q f { s with heap := h', toks := tk' }) →
      (∀ e h₁ h' m' tk' ctx fl, R → StpL L (fr outer) s.heap h₁ → h₁.Ns L m' → Loc (hideAll h₁ X) m' σ → Stp (fr (callEnv fd L a :: outer)) h₁ h' → Exo h₁ h' e ctx fl → FlOk (callEnv fd L a :: outer) fl → (A.handled = none → ctx = .none) → E (.ref e) { s with heap := h', toks := tk' }) →
      wpAny (model W.prog W.w) A (t (callEnv fd L a)) Q E s
def ExX (W : Wd) (fd : FuncData) (n : Nat) (hd : Nat) (σ : Sg) (ss : List Stmt) (P : Out → Prop) (R : Prop) : Prop := ExXG W fd n hd σ (execs ss) P R

section
variable {W : Wd} {fd : FuncData} {n : Nat} {hd : Nat} {σ : Sg} {P : Out → Prop} {R : Prop}
theorem Ev.x {e : Expr} {d : D} (h : Ev W fd n hd σ e d) : EvX W fd n hd σ e (some d) := fun L a A outer X s m C lo => (h L a A outer X s m C lo).x
theorem Call.x {f : Value} {ds : List D} {d : D} (h : Call W n hd f ds d) : CallX W n hd f ds (some d) := fun A outer X s vs S r => (h A outer X s vs S r).x
theorem Ex.x {ss : List Stmt} (h : Ex W fd n hd σ ss P) : ExX W fd n hd σ ss P R := fun L a A outer X s m C lo Q E hq _ => h L a A outer X s m C lo Q E hq

theorem Exo.base {h0 h1 h : Heap} {e : Addr} {ctx : Value} {fl : Option Value} (x : Exo h1 h e ctx fl) (k : ∀ b o, h0.get? b = some o → ∃ o', h1.get? b = some o') : Exo h0 h e ctx fl := by
  have none : ∀ b, h1.get? b = none → h0.get? b = none := fun b q => by
    cases z : h0.get? b with
    | none => rfl
    | some o => obtain ⟨o', e'⟩ := k b o z; rw [q] at e'; cases e'
  obtain ⟨hn, oe, vs, a0, b1, b2, b3, b4, b5, tb⟩ := x
  exact ⟨none _ hn, oe, vs, a0, b1, b2, b3, b4, b5, tb.imp id fun ⟨f, T, oT, ts, c1, c2, c3, c4⟩ => ⟨f, T, oT, ts, c1, c2, none _ c3, c4⟩⟩
theorem Stp.has {fs : List Addr} {h h' : Heap} (x : Stp fs h h') : ∀ b o, h.get? b = some o → ∃ o', h'.get? b = some o' := fun b o e => let ⟨_, q⟩ := x.any e; ⟨_, q⟩
theorem StpL.has {L : Addr} {fs : List Addr} {h h' : Heap} {m : PySem.Str → Option Value} (x : StpL L fs h h') (hn : h'.Ns L m) : ∀ b o, h.get? b = some o → ∃ o', h'.get? b = some o' := fun b o e => by
  by_cases q : b = L
  · subst q; obtain ⟨oL, _, _, hoL, _⟩ := hn; exact ⟨oL, hoL⟩
  · by_cases z : b ∈ fs
    · obtain ⟨_, e'⟩ := x.slot b o e q z; exact ⟨_, e'⟩
    · exact ⟨o, x.keep b o e q z⟩

theorem Exo.stp {h1 h h' : Heap} {e : Addr} {ctx : Value} {fl : Option Value} {fs : List Addr} (x : Exo h1 h e ctx fl) (y : Stp fs h h') (k : ∀ b, h1.get? b = none → b ∉ fs) : Exo h1 h' e ctx fl := by
  obtain ⟨hn, oe, vs, a0, b1, b2, b3, b4, b5, tb⟩ := x
  exact ⟨hn, oe, vs, a0, y.keep e oe b1 (k e hn), b2, b3, b4, b5, tb.imp id fun ⟨f, T, oT, ts, c1, c2, c3, c4, c5, c6⟩ => ⟨f, T, oT, ts, c1, c2, c3, c4, y.keep T oT c5 (k T c3), c6⟩⟩
theorem EvX.call {func : Expr} {es : List Expr} {pos : Pos} {f : Value} {ds : List D} {r : Option D} (h1 : Ev W fd n hd σ func (.fn f)) (h2 : EvL W fd n hd σ es ds) (hf : Keep W f) (h3 : CallX W n hd f ds r)
    (hs : ∀ env, (starEach es env).any (·.1) = false := by intro _; rfl)
    (he : ∀ env, eval (.Call func es [] pos) env = (do callWith pos (← eval func env) [] (backTo pos (starEach es env)) []) := by intro _; rfl) : EvX W fd n hd σ (.Call func es [] pos) r :=
  fun L a A outer X s m C lo Q E hq hr => by
    rw [he]
    refine wpAny_bind (h1 L a A outer X s m C lo _ _ fun v ha tka x1 r1 => ?_)
    have e : v = f := by cases r1; rfl
    subst e
    have C1 := C.step x1
    refine callWith_of (P := fun h => Gd W (hideAll h X)) (by rw [backTo_any, hs]; rfl) (fun hh G => ?_) ?_
    · obtain ⟨k, hk, l⟩ := hf _ G
      exact ⟨k, hk, l.keeps fun b o e => of_hideAll X e⟩
    · refine evalArgs_spl (by rw [backTo_any, hs]) ?_
      exact h2 pos L a A outer X _ m C1 (lo.mono (x1.hid C.sx.sub)) _ _ fun vs hb tk x r => by
        have C' := C1.step x
        exact ⟨C'.sx.gd, h3 A _ X _ _ C'.sx r _ _ (fun v hc tkc d q y rv => hq v hc tkc d q ((x1.trans x).trans y) rv)
          fun e hc tkc ctx fl q y z w u => hr e hc tkc ctx fl q ((x1.trans x).trans y) (z.base (x1.trans x).has) w u⟩

def KntX (W : Wd) (fd : FuncData) (n : Nat) (hd : Nat) (rest : List Stmt) (P : Out → Prop) (R : Prop) : Out → Prop
  | .next σ => ExX W fd n hd σ rest P R
  | o => P o
theorem ExX.stmt {τ : Sg} {st : Stmt} {rest : List Stmt} (hτ : ∀ o, P o → True) (h : ExXG W fd n hd σ (exec st) (fun o => match o with | .next σ' => Sup σ' σ ∧ ExX W fd n hd σ' rest P R | o => P o) R) : ExX W fd n hd σ (st :: rest) P R :=
  fun L a A outer X s m C lo Q E hq hr => wpAny_execs_cons (h L a A outer X s m C lo _ _ (fun f o h' m' tk' x hn hP hO => by
    cases f with
    | next =>
      cases o with
      | next τ =>
        have hP' : Sup τ σ ∧ ExX W fd n hd τ rest P R := hP
        exact hP'.2 L a A outer X { s with heap := h', toks := tk' } m' (C.stepL x hn) hO Q E (fun f o h'' m'' tk'' y hn' hP' hO' => hq f o h'' m'' tk'' (x.trans y) hn' hP' hO')
          fun e h₁ h'' m'' tk'' ctx fl q y hn' lo' st z w u => hr e h₁ h'' m'' tk'' ctx fl q (x.trans y) hn' (fun k d e => lo' k d (hP'.1 k d e)) st z w u
      | _ => exact hO.elim
    | ret v =>
      cases o with
      | ret d => exact hq _ _ h' m' tk' x hn hP hO
      | _ => exact hO.elim
    | brk =>
      cases o with
      | brk d => exact hq _ _ h' m' tk' x hn hP hO
      | _ => exact hO.elim
    | cont =>
      cases o with
      | cont d => exact hq _ _ h' m' tk' x hn hP hO
      | _ => exact hO.elim) hr)
theorem Sup.refl : Sup σ σ := fun _ _ e => e
theorem ExX.ret {e : Expr} {pos : Pos} {r : Option D} {rest : List Stmt} (h1 : EvX W fd n hd σ e r) (h2 : ∀ d, r = some d → P (.ret d)) (h3 : r = none → R) : ExX W fd n hd σ (.Return (some e) pos :: rest) P R :=
  ExX.stmt (τ := σ) (fun _ _ => trivial) fun L a A outer X s m C lo Q E hq hr => by
    rw [exec_Return_some]
    exact wpAny_bind (wpAny_standAt (wpAny_bind (h1 L a A outer X s m C lo _ _ (fun v h' tk' d q y rv => wpAny_pure (hq (.ret v) (.ret d) h' m tk' y.toL (y.ns C.ns) (h2 d q) rv))
      fun e h' tk' ctx fl q y z w u => hr e s.heap h' m tk' ctx fl (h3 q) .refl C.ns lo y z w u)))
theorem ExX.expr {e : Expr} {pos : Pos} {r : Option D} {rest : List Stmt} (h1 : EvX W fd n hd σ e r) (h2 : r ≠ none → ExX W fd n hd σ rest P R) (h3 : r = none → R)
    (hi : ∀ env, interactive env = false := by intro _; rfl) (hs : ∀ env, swapsWith e none pos.line env = pure false := by intro _; rfl) : ExX W fd n hd σ (.Expr e pos :: rest) P R :=
  ExX.stmt (τ := σ) (fun _ _ => trivial) fun L a A outer X s m C lo Q E hq hr =>
    wpAny_Expr_any (h1 L a A outer X s m C lo _ _ (fun v h' tk' d q y rv => hq .next (.next σ) h' m tk' y.toL (y.ns C.ns) ⟨Sup.refl, h2 (by rw [q]; simp)⟩ (lo.mono (y.hid C.sx.sub)))
      fun e h' tk' ctx fl q y z w u => hr e s.heap h' m tk' ctx fl (h3 q) .refl C.ns lo y z w u) (hi _) (hs _)
theorem ExX.ifS {t : Expr} {b : Bool} {body orelse rest : List Stmt} {pos : Pos} (h1 : Tr W fd n hd σ t b)
    (h2 : b = true → ExX W fd n hd σ body (fun o => match o with | .next σ' => Sup σ' σ ∧ ExX W fd n hd σ' rest P R | o => P o) R) (h3 : b = false → ExX W fd n hd σ orelse (fun o => match o with | .next σ' => Sup σ' σ ∧ ExX W fd n hd σ' rest P R | o => P o) R) : ExX W fd n hd σ (.If t body orelse pos :: rest) P R :=
  ExX.stmt (τ := σ) (fun _ _ => trivial) fun L a A outer X s m C lo Q E hq hr => wpAny_If (h1 L a A outer X s m C lo _ _ fun h' tk' y => by
    have C' := C.step y
    have l' := lo.mono (y.hid C.sx.sub)
    cases b with
    | true =>
      exact h2 rfl L a A outer X { s with heap := h', toks := tk' } m C' l' Q E (fun f o h'' m'' tk'' z hn hP hO => hq f o h'' m'' tk'' (y.toL.trans z) hn hP hO)
        (fun e h₁ h'' m'' tk'' ctx fl q z hn lo' st x w u => hr e h₁ h'' m'' tk'' ctx fl q (y.toL.trans z) hn lo' st x w u)
    | false =>
      exact h3 rfl L a A outer X { s with heap := h', toks := tk' } m C' l' Q E (fun f o h'' m'' tk'' z hn hP hO => hq f o h'' m'' tk'' (y.toL.trans z) hn hP hO)
        (fun e h₁ h'' m'' tk'' ctx fl q z hn lo' st x w u => hr e h₁ h'' m'' tk'' ctx fl q (y.toL.trans z) hn lo' st x w u))
theorem ExX.raise {sc : Scope} (F : FdIs fd sc) {np cpos pos p2 : Pos} {k : Nat} {x : PySem.Str} {rest : List Stmt} (hb : Bti W "ValueError" (.fn (.type "ValueError"))) (h : R) (hh : hd = 0)
    (hl : sc.names.lookup (PySem.Str.ofString "ValueError") = some .globalImplicit := by rfl) : ExX W fd n hd σ (.Raise (some (.Call (.Name "ValueError" np) [.Constant (.str x) k p2] [] cpos)) none pos :: rest) P R :=
  ExX.stmt (τ := σ) (fun _ _ => trivial) fun L a A outer X s m C lo Q E hq hr => by
    subst hh
    refine wpAny_Raise_call PySem.F.excCall_ValueError PySem.F.excRaise_ValueError C.sx.hand.none rfl ?_
    refine Ev.bti F hb hl rfl L a A outer X s m C lo _ _ fun v h' tk' y r => ?_
    have e : v = .type "ValueError" := by cases r; rfl
    refine ⟨e, ?_⟩
    refine evalArgs_spl rfl ?_
    have el : EvL W fd n 0 σ [.Constant (.str x) k p2] [.str x] := EvL.cons Ev.strc EvL.nil
    refine el cpos L a A outer X { s with heap := h', toks := tk' } m (C.step y) (lo.mono (y.hid C.sx.sub)) _ _ fun vs h'' tk'' z rl => ?_
    refine ⟨rfl, by rw [rl.len, sizeLine_eq]; show 1 ≤ 16777216; decide, fun h3 e M => ?_⟩
    obtain ⟨t, he, ht, _⟩ := M.there
    have st : Stp (fr (callEnv fd L a :: outer)) s.heap h3 := (y.trans z).trans (.of_keeps M.keeps)
    have nw : s.heap.get? e = none := by
      cases q : s.heap.get? e with
      | none => rfl
      | some o => obtain ⟨o', e'⟩ := (y.trans z).has e o q; have := M.new; dsimp only at this e'; rw [this] at e'; cases e'
    exact hr e s.heap h3 m tk'' .none none h .refl C.ns lo st ⟨nw, _, _, _, he, rfl, rfl, rfl, rfl, .inl ⟨rfl, rfl⟩⟩ (.inl rfl) (fun _ => rfl)

theorem ExX.ifexp_dummy : True := trivial
theorem CallX.of_body {f : Addr} {oc : Value} {od : Option Addr} {osl : Array (Option Value)} {fd : FuncData} {ds : List D} {r : Option D} {body : List Stmt} (names : List PySem.Str)
    (ho : W.K.lookup f = some ⟨oc, od, .func fd, osl⟩) (hcd : codeIn W.K fd.code fd.qualname = true) (hbody : fd.body = .stmts body)
    (hb : ∀ vs : List Value, vs.length = ds.length → bindArgs fd ⟨vs, []⟩ = pure (names.zip vs)) (hl : names.length = ds.length) (hloc : ∀ x ∈ names, fd.scope.names.lookup x = some .local)
    (h : ∀ fd' sc, sc = fd.scope → FdIs fd' sc → ExX W fd' n hd ((names.zip ds).reverse) body (fun o => ∃ d, r = some d ∧ (o = .ret d ∨ (d = .none ∧ ∃ σ, o = .next σ))) (r = none))
    (hcell : ∀ x ∈ fd.scope.names, x.2 ≠ .cell := by decide) (hco : fd.scope.isCoroutine = false := by rfl) (hgen : fd.scope.isGenerator = false := by rfl) (hk : fd.scope.kind = .function := by rfl) (hgl : fd.globals = mainGlobals := by rfl) (hbl : fd.builtins = builtinsNs := by rfl) : CallX W (n + 1) hd (.ref f) ds r := by
  intro A outer X s vs S rl Q E hq hr
  have X₀ := S.gd.X.keeps (fun b o e => of_hideAll X e)
  have len := rl.len
  refine wpAny_call (codeAny_call_def (body := body) (binds := names.zip vs) (by have := S.room; omega) (X₀ _ _ ho) rfl (S.gd.T.nolimit.keeps fun b o e => of_hideAll X e) (codeRec_of X₀ hcd) hbody (.of_eq (hb vs len)) hcell
    (fun y hy => hloc _ (List.of_mem_zip hy).1) (fun h₀ hn hk₀ => ?_) hco hgen hk)
  obtain ⟨C, lo, hLX⟩ := enter_go (f := f) (fd := fd) S rl hn hk₀ hl hk
  refine h fd fd.scope rfl ⟨rfl, hk, hgl, hbl⟩ s.heap.objs.size f _ outer (s.heap.objs.size :: X) { s with heap := h₀, toks := s.toks + (names.zip vs).length } _ C lo _ _ (fun fl o h' m' tk' x hn' hP hO => ?_) fun e h₁ h' m' tk' ctx fl q x hn' lo' st z w u => ?_
  · have st := back_go hk₀ x
    have sub : (hideAll h' (s.heap.objs.size :: X)).StaysIn (hideAll h' X) := hideAll_sub fun b hb => List.mem_cons_of_mem _ hb
    obtain ⟨d, rfl, hP⟩ := hP
    rcases hP with rfl | ⟨rfl, τ, rfl⟩
    · cases fl with
      | ret v => exact hq v h' tk' d rfl st (Rep.mono sub hO)
      | _ => exact hO.elim
    · cases fl with
      | next => exact hq .none h' tk' .none rfl st .none
      | _ => exact hO.elim
  · have C' := (C.stepL x hn').step st
    have fw : fl = none ∨ fl = some .none ∨ fl = some (rawInt s.heap.objs.size) := by
      rcases w with w | w | ⟨env, r', L', e1, e2, e3⟩
      · exact .inl w
      · exact .inr (.inl w)
      · cases e1
        cases e2
        exact .inr (.inr e3)
    refine leaving_go (s := { s with heap := h', toks := tk' }) (base := hideAll h' (s.heap.objs.size :: X)) (L := s.heap.objs.size) C'.sx.stack C'.sx.frames rfl z st.has fw fun h'' z' c => ?_
    have c' : Ch h₁ (s.heap.objs.size :: fr outer) h' h'' := c
    have st' : Stp (fr outer) s.heap h'' := back_go hk₀ (x.trans (st.ch c').toL)
    exact hr e h'' tk' ctx (some .none) q st' (z'.base fun b o e => x.has hn' b o (hk₀ b o e)) (.inr (.inl rfl)) u
theorem Ex.try_ {sc : Scope} (F : FdIs fd sc) {body hbody rest : List Stmt} {b₀ : Stmt} {np hp pos : Pos} {R : Prop} (hb : Bti W (PySem.Str.ofString "ValueError") (.fn (.type "ValueError")))
    (h1 : ExX W fd n hd σ body (Knt W fd n hd rest P) R) (h2 : R → hd = 0 → Ex W fd n 1 σ (b₀ :: hbody) (Knt W fd n hd rest P))
    (h3 : R → hd ≠ 0 → Ex W fd n 2 σ (b₀ :: hbody) (Knt W fd n hd rest P))
    (hl : sc.names.lookup (PySem.Str.ofString "ValueError") = some .globalImplicit := by rfl) :
    Ex W fd n hd σ (.Try body [.ExceptHandler (some (.Name (PySem.Str.ofString "ValueError") np)) none (b₀ :: hbody) hp] [] [] pos :: rest) P :=
  Ex.stmt fun L a A outer X s m C lo Q E hq => by
    refine wpAny_Try_except ?_
    refine h1 L a A outer X s m C lo _ _ (fun f o h' m' tk' x hn hP hO => ?_) fun e h₁ h' m' tk' ctx fl hR x hn lo₁ st z w u => ?_
    · cases f with
      | next => exact wpAny_execs_nil (hq .next o h' m' tk' x hn hP hO)
      | _ => exact hq _ o h' m' tk' x hn hP hO
    · have C₁ := C.stepL x hn
      have C' := C₁.step st
      have fw : fl = none ∨ fl = some .none ∨ fl = some (rawInt L) := by
        rcases w with w | w | ⟨env, r', L', e1, e2, e3⟩
        · exact .inl w
        · exact .inr (.inl w)
        · cases e1
          cases e2
          exact .inr (.inr e3)
      refine note_go (s := { s with heap := h', toks := tk' }) (base := hideAll h' X) (L := L) C'.sx.stack C'.sx.frames rfl z st.has fw fun h₂ z₂ c₂ => ?_
      refine flight_go (s := { s with heap := h₂, toks := tk' }) (fs := fr (callEnv fd L a :: outer)) z₂ fun h₃ z₃ c₃ => ?_
      have st₃ : Stp (fr (callEnv fd L a :: outer)) h₁ h₃ := (st.ch c₂).ch c₃
      have C₃ := C₁.step st₃
      have lo₃ := lo₁.mono (st₃.hid C.sx.sub)
      have eX : e ∉ X := fun m => by
        obtain ⟨o, q⟩ := C₁.sx.ex e m
        rw [z.new] at q
        cases q
      have mk : ∀ (h : Heap) (fl' : Option Value), Stp (fr (callEnv fd L a :: outer)) h₁ h → Exo h₁ h e ctx fl' → (hd = 0 → Cx W fd L a (A.mark (some (.ref e))) outer X h m' n 1) ∧ (hd ≠ 0 → Cx W fd L a (A.mark (some (.ref e))) outer X h m' n 2) := fun h fl' st' z' => by
        have Ch := C₁.step st'
        obtain ⟨_, oe, vs, a0, b1, b2, b3, b4, b5, _⟩ := z'
        refine ⟨fun h0 => ⟨⟨Ch.sx.gd, Ch.sx.stack, Ch.sx.frames, Ch.sx.sub, Ch.sx.ex, Ch.sx.room, Ch.sx.units, .inr (.inl ⟨rfl, e, oe, vs, rfl, hideAll_get X b1 eX, b3, ?_⟩)⟩, Ch.ns⟩,
          fun h0 => ⟨⟨Ch.sx.gd, Ch.sx.stack, Ch.sx.frames, Ch.sx.sub, Ch.sx.ex, Ch.sx.room, Ch.sx.units, .inr (.inr rfl)⟩, Ch.ns⟩⟩
        have hA : A.handled = none := (h0 ▸ C.sx.hand : HndOk 0 A.handled _).none
        rw [b5, u hA]
      refine wpAny_handleBy_builtin (X := "ValueError") (T := "ValueError") (b := true) PySem.F.isExc_ValueError PySem.F.notTuple_ValueError (by rw [isSubtype_type]; kernel_rfl) ?_
      have run : ∀ (hd' : Nat), (∀ (h : Heap) (fl' : Option Value), Stp (fr (callEnv fd L a :: outer)) h₁ h → Exo h₁ h e ctx fl' → Cx W fd L a (A.mark (some (.ref e))) outer X h m' n hd') → Ex W fd n hd' σ (b₀ :: hbody) (Knt W fd n hd rest P) →
          wpAny (model W.prog W.w) (A.mark (some (.ref e))) (eval (.Name (PySem.Str.ofString "ValueError") np) (callEnv fd L a)) (fun c s₁ => c = .type "ValueError" ∧ s₁.TypeIs (.ref e) "ValueError" ∧
            if true = true then wpAny (model W.prog W.w) (A.mark (some (.ref e))) (setFlight (.ref e) none) (fun _ s₂ => wpAny (model W.prog W.w) (A.mark (some (.ref e))) (execs (b₀ :: hbody) (callEnv fd L a)) Q (notedBy (model W.prog W.w) (A.mark (some (.ref e))) (callEnv fd L a) (cameBackBy (model W.prog W.w) A (callEnv fd L a) E)) s₂) (notedBy (model W.prog W.w) (A.mark (some (.ref e))) (callEnv fd L a) (cameBackBy (model W.prog W.w) A (callEnv fd L a) E)) s₁
            else wpAny (model W.prog W.w) A (handleBy (.ref e) (callEnv fd L a) []) Q E s₁) (notedBy (model W.prog W.w) (A.mark (some (.ref e))) (callEnv fd L a) (cameBackBy (model W.prog W.w) A (callEnv fd L a) E)) { s with heap := h₃, toks := tk' } := fun hd' mk' hx => by
        refine Ev.bti (hd := hd') F hb hl rfl L a (A.mark (some (.ref e))) outer X { s with heap := h₃, toks := tk' } m' (mk' h₃ _ st₃ z₃) lo₃ _ _ fun v h₄ tk₄ y r => ?_
        have ev : v = .type "ValueError" := by cases r; rfl
        have z₄ : Exo h₁ h₄ e ctx (some .none) := z₃.stp y fun b q m => by
          obtain ⟨o, q'⟩ := C₁.sx.ex b (C.sx.sub b m)
          rw [q] at q'
          cases q'
        have st₄ : Stp (fr (callEnv fd L a :: outer)) h₁ h₄ := st₃.trans y
        refine ⟨ev, ?_, ?_⟩
        · obtain ⟨_, oe, vs, a0, b1, b2, _⟩ := z₄
          exact ⟨oe, b1, b2⟩
        · show wpAny _ _ _ _ _ _
          refine flight_go (s := { s with heap := h₄, toks := tk₄ }) (fs := fr (callEnv fd L a :: outer)) z₄ fun h₅ z₅ c₅ => ?_
          have st₅ := st₄.ch c₅
          exact hx L a (A.mark (some (.ref e))) outer X { s with heap := h₅, toks := tk₄ } m' (mk' h₅ _ st₅ z₅) (lo₁.mono (st₅.hid C.sx.sub)) Q _ fun f o h₆ m₆ tk₆ x₆ hn₆ hP hO => hq f o h₆ m₆ tk₆ ((x.trans st₅.toL).trans x₆) hn₆ hP hO
      by_cases h0 : hd = 0
      · exact run 1 (fun h fl' a b => (mk h fl' a b).1 h0) (h2 hR h0)
      · exact run 2 (fun h fl' a b => (mk h fl' a b).2 h0) (h3 hR h0)
end
end Mine
end

section
open PySem PySem.W PySem.Calls PyProof.Rows
set_option Elab.async false
set_option linter.unusedVariables false
namespace Mine
structure Meth (W : Wd) (name : PySem.Str) (d0 : D) (T id : String) : Prop where
  pa : PlainAttrs T
  slot : Slot T name id
  ty : typeOf (.builtin id) = pure (.type "method_descriptor")
  typ : ∀ (s : Shared) (X : List Addr) (v : Value), Gd W (hideAll s.heap X) → Rep (hideAll s.heap X) v d0 → s.TypeIs v T ∧ (∀ a, v = .ref a → ∃ ob, s.heap.get? a = some ob ∧ ob.dict = none)
section
variable {W : Wd} {fd : FuncData} {n : Nat} {hd : Nat} {σ : Sg}
theorem Ev.meth {o : Expr} {name : PySem.Str} {apos pos : Pos} {es : List Expr} {T id : String} {d0 d : D} {ds : List D} (h1 : Ev W fd n hd σ o d0) (h2 : EvL W fd n hd σ es ds) (hm : Meth W name d0 T id) (h3 : Call W n hd (.builtin id) (d0 :: ds) d)
    (hs : ∀ env, (starEach es env).any (·.1) = false := by intro _; rfl)
    (hbase : ∀ env, attributeBase o name env (eval o env) = eval o env := by intro _; rfl)
    (hfew : ∀ env, ((backTo pos (starEach es env)).all (fun x => !x.1) && (backToKw pos (keywordEach [] env)).all (fun x => x.1.isSome) && decide (es.length + ([] : List Keyword).length + (if ([] : List Keyword).isEmpty then 0 else 1) < 30)) = true := by intro _; rfl)
    (hline : (apos.endLine == pos.line) = true := by rfl) : Ev W fd n hd σ (.Call (.Attribute o name apos) es [] pos) d :=
  fun L a A outer X s m C lo Q E h => by
    refine wpAny_Call_method_lateS (hbase _) (hfew _) hline (h1 L a A outer X s m C lo _ _ fun v ha tka x1 r1 => ?_)
    have C1 := C.step x1
    obtain ⟨t1, t2⟩ := hm.typ { s with heap := ha, toks := tka } X v C1.sx.gd r1
    exact ⟨T, id, hm.pa, hm.slot, hm.ty, t1, t2, callWith_go C1 (lo.mono (x1.hid C.sx.sub)) keep_builtin (.cons r1 .nil) h2 h3 (fun v h' tk' y r => h v h' tk' (x1.trans y) r) (hs _)⟩
theorem Meth.str {name : PySem.Str} {id : String} {x : PySem.Str} (slot : Slot "str" name id) (ty : typeOf (.builtin id) = pure (.type "method_descriptor")) : Meth W name (.str x) "str" id :=
  ⟨F.plainAttrs_str, slot, ty, fun s X v G r => by cases r; exact ⟨typeIs_str _ _ _, fun _ e => nomatch e⟩⟩
theorem Meth.bytes {name : PySem.Str} {id : String} {x : Array UInt8} (slot : Slot "bytes" name id) (ty : typeOf (.builtin id) = pure (.type "method_descriptor")) : Meth W name (.bytes x) "bytes" id :=
  ⟨FB.plainAttrs_bytes, slot, ty, fun s X v G r => by cases r; exact ⟨typeIs_bytes _ _ _, fun _ e => nomatch e⟩⟩
theorem Call.slot {name : PySem.Str} {T id : String} {B : Builtin} {d0 d : D} {ds : List D} (hm : Meth W name d0 T id) (entry : entryFor table id = some B) (args : ∀ vs : List Value, vs.length = ds.length + 1 → argsOk id ⟨vs, []⟩)
    (h : ∀ (A : Around) (outer : List Env) (X : List Addr) (s : Shared) (vs : List Value), Sx W A outer X s.heap n hd → RepL (hideAll s.heap X) vs (d0 :: ds) → ∀ (Q : PySem.Fin → Shared → Prop) (E : Value → Shared → Prop),
      (∀ v h' tk', Stp (fr outer) s.heap h' → Rep (hideAll h' X) v d → Q (.done (.ret v)) { s with heap := h', toks := tk' }) → wpAny (model W.prog W.w) A.in1 (B ⟨vs, []⟩) Q E s) : Call W n hd (.builtin id) (d0 :: ds) d := fun A outer X s vs S r Q E hq => by
  have rl := r.len
  cases r with
  | cons r0 rs =>
  rename_i v0 vs'
  refine wpAny_call (codeAny_call_builtin hm.slot.plain entry (hm.slot.check _ _ _ _ _ _ _ _ (hm.typ s X v0 S.gd r0).1 (args _ (by simpa using rl)) ?_))
  exact h A outer X s (v0 :: vs') S (.cons r0 rs) _ _ fun v h' tk' x r' => hq v h' tk' x r'
theorem Call.func {id : String} {B : Builtin} {d : D} {ds : List D} (kind : builtinKind id = none) (plain : plainId id = true) (entry : entryFor table id = some B) (args : ∀ vs : List Value, vs.length = ds.length → argsOk id ⟨vs, []⟩)
    (h : ∀ (A : Around) (outer : List Env) (X : List Addr) (s : Shared) (vs : List Value), Sx W A outer X s.heap n hd → RepL (hideAll s.heap X) vs ds → ∀ (Q : PySem.Fin → Shared → Prop) (E : Value → Shared → Prop),
      (∀ v h' tk', Stp (fr outer) s.heap h' → Rep (hideAll h' X) v d → Q (.done (.ret v)) { s with heap := h', toks := tk' }) → wpAny (model W.prog W.w) A.in1 (B ⟨vs, []⟩) Q E s) : Call W n hd (.builtin id) ds d := fun A outer X s vs S r Q E hq => by
  have ok := args vs r.len
  refine wpAny_call (codeAny_call_builtin plain entry ?_)
  have hfin := h A outer X s vs S r (fun fin s' => match fin with | .done f => wants Q E (.ok f) s' | .again c' => c'.quiet = true ∧ codeAny (model W.prog W.w) A c' (wants Q E) s') E fun v h' tk' x r' => hq v h' tk' x r'
  simp only [checkBuiltinCall, kind]
  cases hsig : Manifest.signature? id with
  | none => exact wpAny_pure hfin
  | some sig =>
    simp only [argsOk, hsig] at ok
    have h2 : Bind.checkArgs id sig ⟨vs, []⟩ = pure () := ok
    show wpAny _ _ (Bind.checkArgs id sig ⟨vs, []⟩) _ _ s
    rw [h2]; exact wpAny_pure hfin
end
end Mine
end

section
open PySem PySem.W PySem.Calls PyProof.Rows
set_option Elab.async false
set_option linter.unusedVariables false
namespace Mine

def cleanC : Code → Bool
  | .builtin id _ => !(Builtin.Bytes.decodersThatHold.contains id || ["bytearray.__contains__", "bytearray.__mod__", "bytearray.__rmod__", "_struct.pack_into.held", "bytearray.find.held"].contains id)
  | _ => true
structure Okc (l : List Code) : Prop where
  caller : l.any Code.isCaller = true
  clean : l.all cleanC = true
theorem Okc.cons {l : List Code} {c : Code} (h : Okc l) (hc : cleanC c = true) : Okc (c :: l) := ⟨by rw [List.any_cons, h.caller, Bool.or_true], by rw [List.all_cons, h.clean, hc]; rfl⟩

def wpP {α : Type} (M : Model) (A : Around) (t : Sem α) (Q : α → Shared → Prop) (E : Value → Shared → Prop) (s : Shared) : Prop :=
  ∀ Γ p, Γ.In A → Okc (Γ.code :: Γ.below.map (·.1)) → Sem.wp M Γ t (fun a _ s' => Q a s') (fun e _ s' => E e s') p s
def codeP (M : Model) (A : Around) (c : Code) (R : Result → Shared → Prop) (s : Shared) : Prop :=
  ∀ Γ p, Γ.code = c → Γ.Below A → Okc (Γ.below.map (·.1)) → wpCode M Γ R p s
section
variable {α β : Type} {M : Model} {A : Around} {E : Value → Shared → Prop} {s : Shared}
theorem wpP.any {t : Sem α} {Q : α → Shared → Prop} (h : wpAny M A t Q E s) : wpP M A t Q E s := fun Γ p hΓ _ => h Γ p hΓ
theorem wpP.pure {a : α} {Q : α → Shared → Prop} (h : Q a s) : wpP M A (pure a) Q E s := fun _ _ _ _ => h
theorem wpP.throw {e : Value} {Q : α → Shared → Prop} (h : E e s) : wpP M A (throw e : Sem α) Q E s := fun _ _ _ _ => h
theorem wpP.mono {t : Sem α} {Q Q' : α → Shared → Prop} {E' : Value → Shared → Prop} (h : wpP M A t Q E s) (hQ : ∀ a s, Q a s → Q' a s) (hE : ∀ e s, E e s → E' e s) : wpP M A t Q' E' s :=
  fun Γ p hΓ hC => Sem.wp_mono M Γ t (fun a _ s => hQ a s) (fun e _ s => hE e s) p s (h Γ p hΓ hC)
theorem wpP.bind {m : Sem α} {f : α → Sem β} {Q : β → Shared → Prop} (h : wpP M A m (fun a s' => wpP M A (f a) Q E s') E s) : wpP M A (m >>= f) Q E s := fun Γ p hΓ hC => by
  rw [Sem.wp_bind']
  exact Sem.wp_mono M Γ m (fun a p' s' h' => h' Γ p' hΓ hC) (fun _ _ _ h' => h') p s (h Γ p hΓ hC)
theorem wpP.first {m : Sem α} {f : α → Sem β} {Q : β → Shared → Prop} (h : wpAny M A m (fun a s' => wpP M A (f a) Q E s') E s) : wpP M A (m >>= f) Q E s := wpP.bind (wpP.any h)
theorem wpP.onRaise {m : Sem α} {k : Value → Sem Unit} {Q : α → Shared → Prop} (h : wpP M A m Q (fun e s' => wpP M A (k e) (fun _ s'' => E e s'') E s') s) : wpP M A (m.onRaise k) Q E s := fun Γ p hΓ hC => by
  rw [Sem.wp_onRaise]
  exact Sem.wp_mono M Γ m (fun _ _ _ h' => h') (fun e p' s' h' => h' Γ p' hΓ hC) p s (h Γ p hΓ hC)
theorem wpP.tryCatch {m : Sem α} {k : Value → Sem α} {Q : α → Shared → Prop} (h : wpP M A m Q (fun e s' => wpP M A (k e) Q E s') s) : wpP M A (tryCatch m k) Q E s := fun Γ p hΓ hC => by
  rw [Sem.wp_tryCatch']
  exact Sem.wp_mono M Γ m (fun _ _ _ h' => h') (fun e p' s' h' => h' Γ p' hΓ hC) p s (h Γ p hΓ hC)
theorem wpP.attempt {m : Sem α} {Q : Except Value α → Shared → Prop} (h : wpP M A m (fun a => Q (.ok a)) (fun e => Q (.error e)) s) : wpP M A m.attempt Q E s := fun Γ p hΓ hC => by
  rw [Sem.wp_attempt]; exact h Γ p hΓ hC
theorem wpP.holding {vs : List Value} {m : Sem α} {Q : α → Shared → Prop} (h : wpP M A m Q E s) : wpP M A (holding vs m) Q E s := fun Γ p hΓ hC => by rw [Sem.wp_holding]; exact h Γ p hΓ hC
theorem wpP.keep {vs : List Value} {m : Sem α} {Q : α → Shared → Prop} (h : wpP M A m Q E s) : wpP M A (m.keep vs) Q E s := fun Γ p hΓ hC => by rw [Sem.wp_keep]; exact h Γ p hΓ hC
theorem wpP.stack {Q : List (Code × Pos) → Shared → Prop} (h : ∀ st : List (Code × Pos), Okc (st.map (·.1)) → Q st s) : wpP M A stack Q E s := fun Γ p hΓ hC => by
  show Q ((Γ.code, p) :: Γ.below) s
  exact h _ hC
theorem wpP.run {c : Code} {h : Option Value} {Q : Flow → Shared → Prop} (hc : codeP M (A.mark h) c (fun r s' => match r with | .ok f => Q f s' | .error e => E e s') s) (hnb : h ≠ some byPass := by intro x; cases x) : wpP M A (run c h) Q E s :=
  fun Γ p hΓ hC => by rw [Sem.wp_run]; exact hc _ p rfl (hΓ.enter c h p hnb) hC
theorem wpP.runValue {c : Code} {Q : Value → Shared → Prop} (hc : codeP M A c (fun r s' => match r with | .ok (.ret v) => Q v s' | .ok _ => False | .error e => E e s') s) : wpP M A (runValue c) Q E s :=
  fun Γ p hΓ hC => by rw [Sem.wp_runValue]; exact hc _ p rfl (hΓ.enter c none p (by intro x; cases x)) hC
theorem wpP.call {f : Value} {pos : List Value} {kw : List (PySem.Str × Value)} {Q : Value → Shared → Prop} (hc : codeP M A (.call f ⟨pos, kw⟩) (fun r s' => match r with | .ok (.ret v) => Q v s' | .ok _ => False | .error e => E e s') s) :
    wpP M A (call f pos kw) Q E s := wpP.runValue hc
theorem codeP.any {c : Code} {R : Result → Shared → Prop} (h : codeAny M A c R s) : codeP M A c R s := fun Γ p hc hΓ _ => h Γ p hc hΓ
theorem codeP.mono {c : Code} {R R' : Result → Shared → Prop} (h : codeP M A c R s) (k : ∀ r s, R r s → R' r s) : codeP M A c R' s := fun Γ p hc hΓ hC => by
  obtain ⟨r, s', a, b⟩ := h Γ p hc hΓ hC
  exact ⟨r, s', a, k r s' b⟩
theorem codeP.tree {c : Code} {R : Result → Shared → Prop} (hcl : cleanC c = true) (h : wpP M (A.under c) (M.den c) (fun fin s' => match fin with | .done f => R (.ok f) s' | .again c' => c'.quiet = true ∧ codeP M A c' R s') (fun e s' => R (.error e) s') s) : codeP M A c R s := fun Γ p hc hΓ hC => by
  rw [wpCode_iff_wp, hc]
  refine Sem.wp_mono M Γ _ (fun fin p' s' h' => ?_) (fun _ _ _ h' => h') p s (h Γ p (hc ▸ hΓ.in) (hC.cons (hc ▸ hcl)))
  cases fin with
  | done f => exact h'
  | again c' => exact ⟨h'.1, h'.2 (Γ.goto c') p' rfl (hΓ.goto c') hC⟩
end
section
variable {prog : Program} {w : World} {A : Around} {E : Value → Shared → Prop} {s : Shared} {R : Result → Shared → Prop}
theorem codeP.func {body env} (h : wpP (model prog w) (A.deeper env) (execs body env) (fun f s' => R (.ok (.ret (match f with | .ret v => v | _ => .none))) s')
      (fun e s' => wpAny (model prog w) (A.deeper env) (leaving env e) (fun _ s'' => R (.error e) s'') (fun e' s'' => R (.error e') s'') s') s) : codeP (model prog w) A (.func body env) R s := by
  refine codeP.tree rfl ?_
  show wpP _ (A.deeper env) (do point; match ← (execs body env).onRaise (leaving env) with | .ret v => ret v | _ => ret .none) _ _ s
  refine wpP.first (wpAny_point (wpP.bind (wpP.onRaise (wpP.mono h (fun f s' h' => ?_) fun _ _ h' => wpP.any h'))))
  cases f <;> exact wpP.pure h'
theorem codeP.call_function {a : Addr} {args : Args} {o : Obj} {fd : FuncData} {body : List Stmt} (hroom : A.depth < recursionLimit) (ho : s.heap.get? a = some o)
    (hd' : o.data = .func fd) (hco : fd.scope.isCoroutine = false) (hgen : fd.scope.isGenerator = false) (hbody : fd.body = .stmts body) (hcd : s.heap.CodeRec fd.code fd.qualname)
    (h : wpAny (model prog w) A.in1 (bindArgs fd args) (fun binds s₁ =>
      wpAny (model prog w) A.in1 (newFunctionEnv fd.scope fd.globals fd.closure binds (fd.qualname ++ ".<locals>.") (some a) fd.code none fd.builtins)
        (fun env s₂ => s₂.heap.NoLimit ∧ codeP (model prog w) A (.func body env) R s₂) (fun e s' => R (.error e) s') s₁) (fun e s' => R (.error e) s') s) :
    codeP (model prog w) A (.call (.ref a) args) R s := by
  refine codeP.tree rfl (wpP.any ?_)
  show wpAny _ A.in1 (callAny (.ref a) args) _ _ s
  simp only [callAny]
  refine wpAny_bind (wpAny_load ho ?_)
  obtain ⟨c, oc, vs, tq, hc, hoc, hdc, hq⟩ := hcd
  simp only [hd', callFunction, hco, hgen, hbody, hc]
  rw [hc] at h
  refine wpAny_bind (m := field (.ref c) 1) (wpAny_field hoc hdc hq (wpAny_bind (wpAny_pure ?_)))
  exact wpAny_bind (wpAny_mono h (fun binds s₁ h₁ => wpAny_bind (wpAny_mono h₁ (fun env s₂ h₂ => wpAny_bind (wpAny_enterFrame h₂.1 hroom (wpAny_pure (And.intro rfl h₂.2)))) fun _ _ h' => h')) fun _ _ h' => h')
theorem codeP.call_def {a : Addr} {o : Obj} {fd : FuncData} {body : List Stmt} {args : Args} {binds : List (PySem.Str × Value)}
    (hroom : A.depth < recursionLimit) (ho : s.heap.get? a = some o) (hdata : o.data = .func fd) (hlim : s.heap.NoLimit) (hcd : s.heap.CodeRec fd.code fd.qualname)
    (hbody : fd.body = .stmts body) (hbind : BindsTo s fd args binds)
    (hcell : ∀ x ∈ fd.scope.names, x.2 ≠ .cell) (hloc : ∀ x ∈ binds, fd.scope.names.lookup x.1 = some .local)
    (h : ∀ h₀, h₀.Ns s.heap.objs.size (fun x => binds.reverse.lookup x) → (∀ b o, s.heap.get? b = some o → h₀.get? b = some o) →
      wpP (model prog w) (A.deeper (callEnv fd s.heap.objs.size a)) (execs body (callEnv fd s.heap.objs.size a)) (fun f s' => R (.ok (.ret (match f with | .ret v => v | _ => .none))) s')
        (fun e s' => wpAny (model prog w) (A.deeper (callEnv fd s.heap.objs.size a)) (leaving (callEnv fd s.heap.objs.size a) e) (fun _ s'' => R (.error e) s'') (fun e' s'' => R (.error e') s'') s')
        { s with heap := h₀, toks := s.toks + binds.length })
    (hco : fd.scope.isCoroutine = false := by rfl) (hgen : fd.scope.isGenerator = false := by rfl) (hk : fd.scope.kind = .function := by rfl) :
    codeP (model prog w) A (.call (.ref a) args) R s := by
  refine codeP.call_function hroom ho hdata hco hgen hbody hcd (hbind _ _ _ _ ?_)
  refine wpAny_newFunctionEnv hcell hloc (fun h₀ hns₀ hsb₀ => ⟨hlim.fresh _ hsb₀, codeP.func (h h₀ hns₀ fun b o e => ?_)⟩) hk
  exact hsb₀.extBut b o (Nat.ne_of_lt (Heap.lt_size e)) (Heap.get?_push_of_some _ e)
end
end Mine
end

section
open PySem PySem.W PySem.Calls PyProof.Rows
set_option Elab.async false
set_option linter.unusedVariables false
namespace Mine

def GoC (W : Wd) (A : Around) (outer : List Env) (X : List Addr) (s : Shared) (t : Sem Value) (d : D) : Prop :=
  ∀ (Q : Value → Shared → Prop) (E : Value → Shared → Prop), (∀ v h' tk', Stp (fr outer) s.heap h' → Rep (hideAll h' X) v d → Q v { s with heap := h', toks := tk' }) → wpP (model W.prog W.w) A t Q E s
def EvC (W : Wd) (fd : FuncData) (n : Nat) (hd : Nat) (σ : Sg) (e : Expr) (d : D) : Prop :=
  ∀ (L a : Addr) (A : Around) (outer : List Env) (X : List Addr) (s : Shared) (m : PySem.Str → Option Value), Cx W fd L a A outer X s.heap m n hd → Loc (hideAll s.heap X) m σ →
    GoC W A (callEnv fd L a :: outer) X s (eval e (callEnv fd L a)) d
def CallC (W : Wd) (n : Nat) (hd : Nat) (f : Value) (ds : List D) (d : D) : Prop :=
  ∀ (A : Around) (outer : List Env) (X : List Addr) (s : Shared) (vs : List Value), Sx W A outer X s.heap n hd → RepL (hideAll s.heap X) vs ds → GoC W A outer X s (call f vs) d
def TrC (W : Wd) (fd : FuncData) (n : Nat) (hd : Nat) (σ : Sg) (e : Expr) (b : Bool) : Prop :=
  ∀ (L a : Addr) (A : Around) (outer : List Env) (X : List Addr) (s : Shared) (m : PySem.Str → Option Value), Cx W fd L a A outer X s.heap m n hd → Loc (hideAll s.heap X) m σ →
    ∀ (Q : Bool → Shared → Prop) (E : Value → Shared → Prop), (∀ h' tk', Stp (fr (callEnv fd L a :: outer)) s.heap h' → Q b { s with heap := h', toks := tk' }) →
      wpP (model W.prog W.w) A (isTrue e (callEnv fd L a) (eval e (callEnv fd L a))) Q E s
def ExCG (W : Wd) (fd : FuncData) (n : Nat) (hd : Nat) (σ : Sg) (t : Env → Sem Flow) (P : Out → Prop) : Prop :=
  ∀ (L a : Addr) (A : Around) (outer : List Env) (X : List Addr) (s : Shared) (m : PySem.Str → Option Value), Cx W fd L a A outer X s.heap m n hd → Loc (hideAll s.heap X) m σ →
    ∀ (Q : Flow → Shared → Prop) (E : Value → Shared → Prop), (∀ f o h' m' tk', StpL L (fr outer) s.heap h' → h'.Ns L m' → P o → OutR (hideAll h' X) m' f o → Q f { s with heap := h', toks := tk' }) →
      wpP (model W.prog W.w) A (t (callEnv fd L a)) Q E s
def ExC (W : Wd) (fd : FuncData) (n : Nat) (hd : Nat) (σ : Sg) (ss : List Stmt) (P : Out → Prop) : Prop := ExCG W fd n hd σ (execs ss) P
def KntC (W : Wd) (fd : FuncData) (n : Nat) (hd : Nat) (rest : List Stmt) (P : Out → Prop) : Out → Prop
  | .next σ => ExC W fd n hd σ rest P
  | o => P o
section
variable {W : Wd} {fd : FuncData} {n : Nat} {hd : Nat} {σ : Sg} {P : Out → Prop}
theorem Go.c {A : Around} {outer : List Env} {X : List Addr} {s : Shared} {t : Sem Value} {d : D} (h : Go W A outer X s t d) : GoC W A outer X s t d := fun Q E hq => wpP.any (h Q E hq)
theorem Ev.c {e : Expr} {d : D} (h : Ev W fd n hd σ e d) : EvC W fd n hd σ e d := fun L a A outer X s m C lo => (h L a A outer X s m C lo).c
theorem Call.c {f : Value} {ds : List D} {d : D} (h : Call W n hd f ds d) : CallC W n hd f ds d := fun A outer X s vs S r => (h A outer X s vs S r).c
theorem Tr.c {e : Expr} {b : Bool} (h : Tr W fd n hd σ e b) : TrC W fd n hd σ e b := fun L a A outer X s m C lo Q E hq => wpP.any (h L a A outer X s m C lo Q E hq)
theorem Ex.c {ss : List Stmt} (h : Ex W fd n hd σ ss P) : ExC W fd n hd σ ss P := fun L a A outer X s m C lo Q E hq => wpP.any (h L a A outer X s m C lo Q E hq)

theorem wpP.execs_cons {M : Model} {A : Around} {E : Value → Shared → Prop} {s : Shared} {env : Env} {st : Stmt} {rest : List Stmt} {Q : Flow → Shared → Prop}
    (h : wpP M A (exec st env) (fun f s' => match f with | .next => wpP M A (execs rest env) Q E s' | f => Q f s') E s) : wpP M A (execs (st :: rest) env) Q E s := by
  rw [PySem.execs_cons]
  refine wpP.bind (wpP.mono h (fun f s' h' => ?_) fun _ _ x => x)
  cases f <;> first | exact h' | exact wpP.pure h'
theorem ExC.nil (h : P (.next σ)) : ExC W fd n hd σ [] P := (Ex.nil h).c
theorem ExC.stmt {st : Stmt} {rest : List Stmt} (h : ExCG W fd n hd σ (exec st) (KntC W fd n hd rest P)) : ExC W fd n hd σ (st :: rest) P :=
  fun L a A outer X s m C lo Q E hq => wpP.execs_cons (h L a A outer X s m C lo _ _ fun f o h' m' tk' x hn hP hO => by
    cases f with
    | next =>
      cases o with
      | next τ =>
        have hP' : ExC W fd n hd τ rest P := hP
        exact hP' L a A outer X { s with heap := h', toks := tk' } m' (C.stepL x hn) hO Q E fun f o h'' m'' tk'' y hn' hP' hO' => hq f o h'' m'' tk'' (x.trans y) hn' hP' hO'
      | _ => exact hO.elim
    | ret v =>
      cases o with
      | ret d => exact hq _ _ h' m' tk' x hn hP hO
      | _ => exact hO.elim
    | brk =>
      cases o with
      | brk d => exact hq _ _ h' m' tk' x hn hP hO
      | _ => exact hO.elim
    | cont =>
      cases o with
      | cont d => exact hq _ _ h' m' tk' x hn hP hO
      | _ => exact hO.elim)
theorem ExCG.monoP {t : Env → Sem Flow} {P' : Out → Prop} (h : ExCG W fd n hd σ t P) (k : ∀ o, P o → P' o) : ExCG W fd n hd σ t P' :=
  fun L a A outer X s m C lo Q E hq => h L a A outer X s m C lo Q E fun f o h' m' tk' x hn hP hO => hq f o h' m' tk' x hn (k o hP) hO
theorem ExC.mono {ss : List Stmt} {P' : Out → Prop} (h : ExC W fd n hd σ ss P) (k : ∀ o, P o → P' o) : ExC W fd n hd σ ss P' := ExCG.monoP h k
theorem Ex.single {st : Stmt} {L a : Addr} {A : Around} {Q : Flow → Shared → Prop} {E : Value → Shared → Prop} {s : Shared} {M : Model} {env : Env} (h : wpAny M A (execs [st] env) Q E s) : wpAny M A (exec st env) Q E s := fun Γ p hΓ => by
  have := h Γ p hΓ
  rw [PySem.execs_cons, Sem.wp_bind'] at this
  refine Sem.wp_mono M Γ _ (fun f p' s' h' => ?_) (fun _ _ _ h' => h') _ _ this
  cases f <;> exact h'
theorem ExC.pre {st : Stmt} {rest : List Stmt} {P₁ : Out → Prop} (h : Ex W fd n hd σ [st] P₁) (k : ∀ o, P₁ o → KntC W fd n hd rest P o) : ExC W fd n hd σ (st :: rest) P :=
  ExC.stmt fun L a A outer X s m C lo Q E hq => wpP.any (Ex.single (L := L) (a := a) (h L a A outer X s m C lo Q E fun f o h' m' tk' x hn hP hO => hq f o h' m' tk' x hn (k o hP) hO))
theorem ExC.sup {τ : Sg} {ss : List Stmt} (h : ExC W fd n hd τ ss P) (k : Sup σ τ) : ExC W fd n hd σ ss P :=
  fun L a A outer X s m C lo Q E hq => h L a A outer X s m C (fun x d e => lo x d (k x d e)) Q E hq
theorem ExC.assign {sc : Scope} (F : FdIs fd sc) {x : PySem.Str} {xp pos : Pos} {e : Expr} {d : D} {rest : List Stmt} (h1 : EvC W fd n hd σ e d) (h2 : ExC W fd n hd ((x, d) :: σ) rest P)
    (hl : sc.names.lookup x = some .local := by rfl)
    (hs : ∀ env, swapsWith e (some (.Name x xp)) pos.line env = pure false := by intro _; rfl) : ExC W fd n hd σ (.Assign [.Name x xp] e pos :: rest) P :=
  ExC.stmt fun L a A outer X s m C lo Q E hq => by
    rw [exec_Assign_Name _ x xp e pos (hs _)]
    refine wpP.first (wpAny_standAt (wpP.bind (h1 L a A outer X s m C lo _ _ fun v h' tk' y r => wpP.first (wpAny_standAt (wpP.first (wpAny_bindName ?_))))))
    exact store_go (C.step y) (lo.mono (y.hid C.sx.sub)) r (fun h'' tk'' z hn l => wpP.pure (hq .next (.next _) h'' _ tk'' (y.toL.trans z) hn h2 l)) F hl
theorem ExC.ret {e : Expr} {pos : Pos} {d : D} {rest : List Stmt} (h1 : EvC W fd n hd σ e d) (h2 : P (.ret d)) : ExC W fd n hd σ (.Return (some e) pos :: rest) P :=
  ExC.stmt fun L a A outer X s m C lo Q E hq => by
    rw [exec_Return_some]
    exact wpP.first (wpAny_standAt (wpP.bind (h1 L a A outer X s m C lo _ _ fun v h' tk' y r => wpP.pure (hq (.ret v) (.ret d) h' m tk' y.toL (y.ns C.ns) h2 r))))
theorem ExC.ifS {t : Expr} {b : Bool} {body orelse rest : List Stmt} {pos : Pos} {P₁ : Out → Prop} (h1 : TrC W fd n hd σ t b) (h2 : b = true → ExC W fd n hd σ body P₁) (h3 : b = false → ExC W fd n hd σ orelse P₁)
    (h4 : ∀ o, P₁ o → KntC W fd n hd rest P o) : ExC W fd n hd σ (.If t body orelse pos :: rest) P :=
  ExC.stmt fun L a A outer X s m C lo Q E hq => by
    rw [arm_exec_If]
    refine wpP.first (wpAny_standAt (wpP.bind (h1 L a A outer X s m C lo _ _ fun h' tk' y => ?_)))
    have C' := C.step y
    have l' := lo.mono (y.hid C.sx.sub)
    cases b with
    | true => exact h2 rfl L a A outer X _ m C' l' Q E fun f o h'' m'' tk'' z hn hP hO => hq f o h'' m'' tk'' (y.toL.trans z) hn (h4 o hP) hO
    | false => exact h3 rfl L a A outer X _ m C' l' Q E fun f o h'' m'' tk'' z hn hP hO => hq f o h'' m'' tk'' (y.toL.trans z) hn (h4 o hP) hO
theorem ExC.ift {t : Expr} {b : Bool} {body orelse rest : List Stmt} {pos : Pos} (h1 : TrC W fd n hd σ t b) (hb : b = true) (h2 : ExC W fd n hd σ body (KntC W fd n hd rest P)) : ExC W fd n hd σ (.If t body orelse pos :: rest) P :=
  ExC.ifS h1 (fun _ => h2) (fun q => by rw [hb] at q; cases q) fun _ x => x
theorem ExC.iff {t : Expr} {b : Bool} {body orelse rest : List Stmt} {pos : Pos} (h1 : TrC W fd n hd σ t b) (hb : b = false) (h2 : ExC W fd n hd σ orelse (KntC W fd n hd rest P)) : ExC W fd n hd σ (.If t body orelse pos :: rest) P :=
  ExC.ifS h1 (fun q => by rw [hb] at q; cases q) (fun _ => h2) fun _ x => x

theorem callWith_of' {M : Model} {A : Around} {E : Value → Shared → Prop} {s : Shared} {pos : Pos} {f : Value} {first : List Value} {Q : Value → Shared → Prop} {P : Heap → Prop} {args : List (Bool × Sem Value)} {keywords : List (Option PySem.Str × Sem Value)} (hplain : (args.any (·.1) || keywords.any (·.1.isNone)) = false)
    (hk : ∀ h, P h → ∃ k, (k = Keeper.frame ∨ k = Keeper.machine ∨ k = Keeper.boundFrame) ∧ Looks M h (keeperOf f) k)
    (h : wpP M A (evalArgs f true args keywords) (fun a s₁ => P s₁.heap ∧ wpP M A (call f (first ++ a.pos) a.kw) Q E s₁) E s) : wpP M A (callWith pos f first args keywords) Q E s := by
  unfold callWith
  refine wpP.bind (wpP.holding (wpP.mono h (fun a s₁ h₁ => wpP.first (wpAny_standAt ?_)) fun _ _ x => x))
  obtain ⟨k, hk', L⟩ := hk _ h₁.1
  simp only [hplain]
  refine wpP.first (L.here ?_)
  have tail : ∀ {t : Sem Value}, wpP M A t Q E s₁ → wpP M A (t >>= fun r => holding [r] point >>= fun _ => pure r) Q E s₁ :=
    fun ht => wpP.bind (wpP.mono ht (fun r s₂ hr => wpP.first (wpAny_holding (wpAny_point (wpP.pure hr)))) fun _ _ x => x)
  have marked (mk : Value) : wpP M A (callMarked mk f (first ++ a.pos) a.kw) Q E s₁ := by unfold callMarked; exact wpP.keep h₁.2
  rcases hk' with rfl | rfl | rfl <;> dsimp only <;> first | exact tail h₁.2 | (split <;> first | exact tail h₁.2 | exact tail (marked _))
theorem EvC.call {func : Expr} {es : List Expr} {pos : Pos} {f : Value} {ds : List D} {d : D} (h1 : Ev W fd n hd σ func (.fn f)) (h2 : EvL W fd n hd σ es ds) (hf : Keep W f) (h3 : CallC W n hd f ds d)
    (hs : ∀ env, (starEach es env).any (·.1) = false := by intro _; rfl)
    (he : ∀ env, eval (.Call func es [] pos) env = (do callWith pos (← eval func env) [] (backTo pos (starEach es env)) []) := by intro _; rfl) : EvC W fd n hd σ (.Call func es [] pos) d :=
  fun L a A outer X s m C lo Q E h => by
    rw [he]
    refine wpP.first (h1 L a A outer X s m C lo _ _ fun v ha tka x1 r1 => ?_)
    have e : v = f := by cases r1; rfl
    subst e
    have C1 := C.step x1
    refine callWith_of' (P := fun h => Gd W (hideAll h X)) (by rw [backTo_any, hs]; rfl) (fun hh G => ?_) ?_
    · obtain ⟨k, hk, l⟩ := hf _ G
      exact ⟨k, hk, l.keeps fun b o e => of_hideAll X e⟩
    · refine wpP.any (evalArgs_spl (by rw [backTo_any, hs]) ?_)
      exact h2 pos L a A outer X _ m C1 (lo.mono (x1.hid C.sx.sub)) _ _ fun vs hb tk x r => by
        have C' := C1.step x
        exact ⟨C'.sx.gd, h3 A _ X _ _ C'.sx r _ _ fun v hc tkc y rv => h v hc tkc (x1.trans (x.trans y)) rv⟩
theorem EvC.call1 {func e : Expr} {pos : Pos} {f : Value} {d1 d : D} (h1 : Ev W fd n hd σ func (.fn f)) (h2 : EvC W fd n hd σ e d1) (hf : Keep W f) (h3 : CallC W n hd f [d1] d)
    (hs : ∀ env, starEach [e] env = [(false, eval e env)] := by intro _; rfl)
    (he : ∀ env, eval (.Call func [e] [] pos) env = (do callWith pos (← eval func env) [] (backTo pos (starEach [e] env)) []) := by intro _; rfl) : EvC W fd n hd σ (.Call func [e] [] pos) d :=
  fun L a A outer X s m C lo Q E h => by
    rw [he, hs]
    refine wpP.first (h1 L a A outer X s m C lo _ _ fun v ha tka x1 r1 => ?_)
    have e' : v = f := by cases r1; rfl
    subst e'
    have C1 := C.step x1
    refine callWith_of' (P := fun h => Gd W (hideAll h X)) rfl (fun hh G => ?_) ?_
    · obtain ⟨k, hk, l⟩ := hf _ G
      exact ⟨k, hk, l.keeps fun b o e => of_hideAll X e⟩
    · show wpP _ A (evalArgs v true [(false, eval e (callEnv fd L a))] []) _ E _
      unfold evalArgs
      show wpP _ A (spliced [(false, eval e (callEnv fd L a))] >>= _) _ E _
      refine wpP.bind ?_
      rw [spliced]
      refine wpP.bind (h2 L a A outer X _ m C1 (lo.mono (x1.hid C.sx.sub)) _ _ fun w hb tk x r => ?_)
      simp only [Bool.false_eq_true, if_false]
      refine wpP.first (wpAny_pure (wpP.first (wpAny_holding (spliced_nil (wpP.pure (wpP.holding (wpP.first (wpAny_pure (wpP.first (wpAny_pure (wpP.pure ?_)))))))))))
      have C' := C1.step x
      exact ⟨C'.sx.gd, h3 A _ X _ _ C'.sx (.cons r .nil) _ _ fun v hc tkc y rv => h v hc tkc (x1.trans (x.trans y)) rv⟩
end
end Mine
end

section
open PySem PySem.W PySem.Calls PyProof.Rows
set_option Elab.async false
set_option linter.unusedVariables false
namespace Mine
def GoXC (W : Wd) (A : Around) (outer : List Env) (X : List Addr) (s : Shared) (t : Sem Value) (r : Option D) : Prop :=
  ∀ (Q : Value → Shared → Prop) (E : Value → Shared → Prop), (∀ v h' tk' d, r = some d → Stp (fr outer) s.heap h' → Rep (hideAll h' X) v d → Q v { s with heap := h', toks := tk' }) →
    (∀ e h' tk' ctx fl, r = none → Stp (fr outer) s.heap h' → Exo s.heap h' e ctx fl → FlOk outer fl → (A.handled = none → ctx = .none) → E (.ref e) { s with heap := h', toks := tk' }) → wpP (model W.prog W.w) A t Q E s
def EvXC (W : Wd) (fd : FuncData) (n : Nat) (hd : Nat) (σ : Sg) (e : Expr) (r : Option D) : Prop :=
  ∀ (L a : Addr) (A : Around) (outer : List Env) (X : List Addr) (s : Shared) (m : PySem.Str → Option Value), Cx W fd L a A outer X s.heap m n hd → Loc (hideAll s.heap X) m σ →
    GoXC W A (callEnv fd L a :: outer) X s (eval e (callEnv fd L a)) r
def CallXC (W : Wd) (n : Nat) (hd : Nat) (f : Value) (ds : List D) (r : Option D) : Prop :=
  ∀ (A : Around) (outer : List Env) (X : List Addr) (s : Shared) (vs : List Value), Sx W A outer X s.heap n hd → RepL (hideAll s.heap X) vs ds → GoXC W A outer X s (call f vs) r
def ExXCG (W : Wd) (fd : FuncData) (n : Nat) (hd : Nat) (σ : Sg) (t : Env → Sem Flow) (P : Out → Prop) (R : Prop) : Prop :=
  ∀ (L a : Addr) (A : Around) (outer : List Env) (X : List Addr) (s : Shared) (m : PySem.Str → Option Value), Cx W fd L a A outer X s.heap m n hd → Loc (hideAll s.heap X) m σ →
    ∀ (Q : Flow → Shared → Prop) (E : Value → Shared → Prop), (∀ f o h' m' tk', StpL L (fr outer) s.heap h' → h'.Ns L m' → P o → OutR (hideAll h' X) m' f o → Q f { s with heap := h', toks := tk' }) →
      (∀ e h₁ h' m' tk' ctx fl, R → StpL L (fr outer) s.heap h₁ → h₁.Ns L m' → Loc (hideAll h₁ X) m' σ → Stp (fr (callEnv fd L a :: outer)) h₁ h' → Exo h₁ h' e ctx fl → FlOk (callEnv fd L a :: outer) fl → (A.handled = none → ctx = .none) → E (.ref e) { s with heap := h', toks := tk' }) →
      wpP (model W.prog W.w) A (t (callEnv fd L a)) Q E s
def ExXC (W : Wd) (fd : FuncData) (n : Nat) (hd : Nat) (σ : Sg) (ss : List Stmt) (P : Out → Prop) (R : Prop) : Prop := ExXCG W fd n hd σ (execs ss) P R
section
variable {W : Wd} {fd : FuncData} {n : Nat} {hd : Nat} {σ : Sg} {P : Out → Prop} {R : Prop}
theorem GoX.c {A : Around} {outer : List Env} {X : List Addr} {s : Shared} {t : Sem Value} {r : Option D} (h : GoX W A outer X s t r) : GoXC W A outer X s t r := fun Q E hq hr => wpP.any (h Q E hq hr)
theorem EvX.c {e : Expr} {r : Option D} (h : EvX W fd n hd σ e r) : EvXC W fd n hd σ e r := fun L a A outer X s m C lo => (h L a A outer X s m C lo).c
theorem CallX.c {f : Value} {ds : List D} {r : Option D} (h : CallX W n hd f ds r) : CallXC W n hd f ds r := fun A outer X s vs S r => (h A outer X s vs S r).c
theorem ExX.c {ss : List Stmt} (h : ExX W fd n hd σ ss P R) : ExXC W fd n hd σ ss P R := fun L a A outer X s m C lo Q E hq hr => wpP.any (h L a A outer X s m C lo Q E hq hr)
theorem ExXC.ret1 {e : Expr} {pos : Pos} {r : Option D} (h1 : EvXC W fd n hd σ e r) (h2 : ∀ d, r = some d → P (.ret d)) (h3 : r = none → R) : ExXC W fd n hd σ [.Return (some e) pos] P R :=
  fun L a A outer X s m C lo Q E hq hr => wpP.execs_cons (by
    rw [exec_Return_some]
    exact wpP.first (wpAny_standAt (wpP.bind (h1 L a A outer X s m C lo _ _ (fun v h' tk' d q y rv => wpP.pure (hq (.ret v) (.ret d) h' m tk' y.toL (y.ns C.ns) (h2 d q) rv))
      fun e h' tk' ctx fl q y z w u => hr e s.heap h' m tk' ctx fl (h3 q) .refl C.ns lo y z w u))))
section
variable {prog : Program} {w : World} {A : Around} {E : Value → Shared → Prop} {s : Shared} {env : Env} {R' : Result → Shared → Prop} {Q : Flow → Shared → Prop}
theorem tryP {body orelse : List Stmt} {h₀ : ExceptHandler} {hs : List ExceptHandler} {pos : Pos}
    (h : wpP (model prog w) A (execs body env) (fun f s₁ => match f with | .next => wpP (model prog w) A (execs orelse env) Q E s₁ | f => Q f s₁)
      (fun e s₁ => wpAny (model prog w) A (noteFrame e env) (fun _ s₂ => wpAny (model prog w) A (setFlight e none) (fun _ s₃ => wpP (model prog w) A (handleBy e env (h₀ :: hs)) Q E s₃) E s₂) E s₁) s) :
    wpP (model prog w) A (exec (.Try body (h₀ :: hs) orelse [] pos) env) Q E s := by
  rw [arm_exec_Try]
  refine wpP.first (wpAny_standAt ?_)
  unfold tryStmt
  simp only [List.isEmpty_nil, if_true, List.isEmpty_cons, Bool.false_and, Bool.false_eq_true, if_false]
  refine wpP.bind (wpP.attempt (wpP.mono h (fun f s₁ h₁ => ?_) fun e s₁ h₁ => ?_))
  · cases f <;> first | exact h₁ | exact wpP.pure h₁
  · exact wpP.first (wpAny_mono h₁ (fun _ _ h₂ => wpP.first h₂) fun _ _ x => x)
theorem suiteP {e : Value} {b₀ : Stmt} {body : List Stmt} {pos : Pos}
    (h : wpAny (model prog w) A (setFlight e none) (fun _ s₁ => wpP (model prog w) A (execs (b₀ :: body) env) (fun f s₂ => R' (.ok f) s₂) (fun _ _ => False) s₁) (fun _ _ => False) s) :
    codeP (model prog w) A (.handlers e [.ExceptHandler none none (b₀ :: body) pos] env) R' s := by
  refine codeP.tree rfl ?_
  show wpP _ A (do return Fin.done (← (handleWith e env [.ExceptHandler none none (b₀ :: body) pos]).onRaise (fun x => do noteFrame x env; theTreesLotGoes x))) _ _ s
  refine wpP.bind (wpP.onRaise ?_)
  unfold handleWith
  refine wpP.first (wpAny_standAt (wpP.first (wpAny_mono h (fun _ s₁ h₁ => ?_) fun _ _ x => x.elim)))
  exact wpP.mono h₁ (fun f s₂ h₂ => wpP.pure h₂) fun _ _ x => x.elim
theorem handleP {e : Addr} {X T : String} {t : Expr} {b₀ : Stmt} {suite : List Stmt} {pos : Pos} {rest : List ExceptHandler}
    (hexc : isSubtype (.type T) (.type "BaseException") = pure true) (hnt : isSubtype (.type ((Manifest.find? T).elim "type" fun x => x.metatype)) (.type "tuple") = pure false)
    (hsub : isSubtype (.type X) (.type T) = pure true)
    (h : wpAny (model prog w) (A.mark (some (.ref e))) (eval t env) (fun c s₁ => c = .type T ∧ s₁.TypeIs (.ref e) X ∧
      wpAny (model prog w) (A.mark (some (.ref e))) (setFlight (.ref e) none) (fun _ s₂ => wpP (model prog w) (A.mark (some (.ref e))) (execs (b₀ :: suite) env) Q (fun _ _ => False) s₂) (fun _ _ => False) s₁) (fun _ _ => False) s) :
    wpP (model prog w) A (handleBy (.ref e) env (.ExceptHandler (some t) none (b₀ :: suite) pos :: rest)) Q E s := by
  rw [handleBy]
  have hnb' : (some (.ref e) : Option Value) ≠ some byPass := fun x => by cases x
  refine wpP.bind (wpP.holding ?_)
  unfold runOwn
  refine wpP.onRaise (wpP.run (codeP.any (codeAny_handlers_test (wpAny_mono h (fun c s₁ h₁ => ?_) fun _ _ x => x.elim))) hnb')
  obtain ⟨rfl, hX, hk⟩ := h₁
  refine wpAny_excMatches_type hX hexc hnt hsub ?_
  refine wpP.first (wpAny_pure ?_)
  simp only [Bool.not_true, Bool.false_eq_true, if_false]
  refine wpP.bind (wpP.holding (wpP.onRaise (wpP.run (suiteP (wpAny_mono hk (fun _ s₂ h₂ => wpP.mono h₂ (fun f s₃ h₃ => wpP.pure h₃) fun _ _ x => x) fun _ _ x => x)) hnb')))
end
theorem ExC.try_ {sc : Scope} (F : FdIs fd sc) {body hbody rest : List Stmt} {b₀ : Stmt} {np hp pos : Pos} (h1 : ExXC W fd n hd σ body (KntC W fd n hd rest P) R)
    (h2 : R → hd = 0 → ExC W fd n 1 σ (b₀ :: hbody) (KntC W fd n hd rest P)) (h3 : R → hd ≠ 0 → ExC W fd n 2 σ (b₀ :: hbody) (KntC W fd n hd rest P))
    (hb : Bti W (PySem.Str.ofString "ValueError") (.fn (.type "ValueError"))) (hl : sc.names.lookup (PySem.Str.ofString "ValueError") = some .globalImplicit := by rfl) :
    ExC W fd n hd σ (.Try body [.ExceptHandler (some (.Name (PySem.Str.ofString "ValueError") np)) none (b₀ :: hbody) hp] [] [] pos :: rest) P :=
  ExC.stmt fun L a A outer X s m C lo Q E hq => by
    refine tryP ?_
    refine h1 L a A outer X s m C lo _ _ (fun f o h' m' tk' x hn hP hO => ?_) fun e h₁ h' m' tk' ctx fl hR x hn lo₁ st z w u => ?_
    · cases f with
      | next => exact wpP.any (wpAny_execs_nil (hq .next o h' m' tk' x hn hP hO))
      | _ => exact hq _ o h' m' tk' x hn hP hO
    · have C₁ := C.stepL x hn
      have C' := C₁.step st
      have fw : fl = none ∨ fl = some .none ∨ fl = some (rawInt L) := by
        rcases w with w | w | ⟨env, r', L', e1, e2, e3⟩
        · exact .inl w
        · exact .inr (.inl w)
        · cases e1
          cases e2
          exact .inr (.inr e3)
      refine note_go (s := { s with heap := h', toks := tk' }) (base := hideAll h' X) (L := L) C'.sx.stack C'.sx.frames rfl z st.has fw fun h₂ z₂ c₂ => ?_
      refine flight_go (s := { s with heap := h₂, toks := tk' }) (fs := fr (callEnv fd L a :: outer)) z₂ fun h₃ z₃ c₃ => ?_
      have st₃ : Stp (fr (callEnv fd L a :: outer)) h₁ h₃ := (st.ch c₂).ch c₃
      have C₃ := C₁.step st₃
      have lo₃ := lo₁.mono (st₃.hid C.sx.sub)
      have eX : e ∉ X := fun m => by
        obtain ⟨o, q⟩ := C₁.sx.ex e m
        rw [z.new] at q
        cases q
      have mk : ∀ (h : Heap) (fl' : Option Value), Stp (fr (callEnv fd L a :: outer)) h₁ h → Exo h₁ h e ctx fl' → (hd = 0 → Cx W fd L a (A.mark (some (.ref e))) outer X h m' n 1) ∧ (hd ≠ 0 → Cx W fd L a (A.mark (some (.ref e))) outer X h m' n 2) := fun h fl' st' z' => by
        have Ch := C₁.step st'
        obtain ⟨_, oe, vs, a0, b1, b2, b3, b4, b5, _⟩ := z'
        refine ⟨fun h0 => ⟨⟨Ch.sx.gd, Ch.sx.stack, Ch.sx.frames, Ch.sx.sub, Ch.sx.ex, Ch.sx.room, Ch.sx.units, .inr (.inl ⟨rfl, e, oe, vs, rfl, hideAll_get X b1 eX, b3, ?_⟩)⟩, Ch.ns⟩,
          fun h0 => ⟨⟨Ch.sx.gd, Ch.sx.stack, Ch.sx.frames, Ch.sx.sub, Ch.sx.ex, Ch.sx.room, Ch.sx.units, .inr (.inr rfl)⟩, Ch.ns⟩⟩
        have hA : A.handled = none := (h0 ▸ C.sx.hand : HndOk 0 A.handled _).none
        rw [b5, u hA]
      refine handleP (X := "ValueError") (T := "ValueError") PySem.F.isExc_ValueError PySem.F.notTuple_ValueError (by rw [isSubtype_type]; kernel_rfl) ?_
      have run : ∀ (hd' : Nat), (∀ (h : Heap) (fl' : Option Value), Stp (fr (callEnv fd L a :: outer)) h₁ h → Exo h₁ h e ctx fl' → Cx W fd L a (A.mark (some (.ref e))) outer X h m' n hd') → ExC W fd n hd' σ (b₀ :: hbody) (KntC W fd n hd rest P) →
          wpAny (model W.prog W.w) (A.mark (some (.ref e))) (eval (.Name (PySem.Str.ofString "ValueError") np) (callEnv fd L a)) (fun c s₁ => c = .type "ValueError" ∧ s₁.TypeIs (.ref e) "ValueError" ∧
            wpAny (model W.prog W.w) (A.mark (some (.ref e))) (setFlight (.ref e) none) (fun _ s₂ => wpP (model W.prog W.w) (A.mark (some (.ref e))) (execs (b₀ :: hbody) (callEnv fd L a)) Q (fun _ _ => False) s₂) (fun _ _ => False) s₁) (fun _ _ => False) { s with heap := h₃, toks := tk' } := fun hd' mk' hx => by
        refine Ev.bti (hd := hd') F hb hl rfl L a (A.mark (some (.ref e))) outer X { s with heap := h₃, toks := tk' } m' (mk' h₃ _ st₃ z₃) lo₃ _ _ fun v h₄ tk₄ y r => ?_
        have ev : v = .type "ValueError" := by cases r; rfl
        have z₄ : Exo h₁ h₄ e ctx (some .none) := z₃.stp y fun b q m => by
          obtain ⟨o, q'⟩ := C₁.sx.ex b (C.sx.sub b m)
          rw [q] at q'
          cases q'
        have st₄ : Stp (fr (callEnv fd L a :: outer)) h₁ h₄ := st₃.trans y
        refine ⟨ev, ?_, ?_⟩
        · obtain ⟨_, oe, vs, a0, b1, b2, _⟩ := z₄
          exact ⟨oe, b1, b2⟩
        · refine flight_go (s := { s with heap := h₄, toks := tk₄ }) (fs := fr (callEnv fd L a :: outer)) z₄ fun h₅ z₅ c₅ => ?_
          have st₅ := st₄.ch c₅
          exact hx L a (A.mark (some (.ref e))) outer X { s with heap := h₅, toks := tk₄ } m' (mk' h₅ _ st₅ z₅) (lo₁.mono (st₅.hid C.sx.sub)) Q _ fun f o h₆ m₆ tk₆ x₆ hn₆ hP hO => hq f o h₆ m₆ tk₆ ((x.trans st₅.toL).trans x₆) hn₆ hP hO
      by_cases h0 : hd = 0
      · exact run 1 (fun h fl' a b => (mk h fl' a b).1 h0) (h2 hR h0)
      · exact run 2 (fun h fl' a b => (mk h fl' a b).2 h0) (h3 hR h0)
end
section
variable {W : Wd} {n : Nat} {hd : Nat}
theorem CallC.of_body {f : Addr} {oc : Value} {od : Option Addr} {osl : Array (Option Value)} {fd : FuncData} {ds : List D} {d : D} {body : List Stmt} (names : List PySem.Str)
    (ho : W.K.lookup f = some ⟨oc, od, .func fd, osl⟩) (hcd : codeIn W.K fd.code fd.qualname = true) (hbody : fd.body = .stmts body)
    (hb : ∀ vs : List Value, vs.length = ds.length → bindArgs fd ⟨vs, []⟩ = pure (names.zip vs)) (hl : names.length = ds.length) (hloc : ∀ x ∈ names, fd.scope.names.lookup x = some .local)
    (h : ∀ fd' sc, sc = fd.scope → FdIs fd' sc → ExC W fd' n hd ((names.zip ds).reverse) body (fun o => o = .ret d ∨ (d = .none ∧ ∃ σ, o = .next σ)))
    (hcell : ∀ x ∈ fd.scope.names, x.2 ≠ .cell := by decide) (hco : fd.scope.isCoroutine = false := by rfl) (hgen : fd.scope.isGenerator = false := by rfl) (hk : fd.scope.kind = .function := by rfl) (hgl : fd.globals = mainGlobals := by rfl) (hbl : fd.builtins = builtinsNs := by rfl) : CallC W (n + 1) hd (.ref f) ds d := by
  intro A outer X s vs S r Q E hq
  have X₀ := S.gd.X.keeps (fun b o e => of_hideAll X e)
  have len := r.len
  refine wpP.call (codeP.call_def (body := body) (binds := names.zip vs) (by have := S.room; omega) (X₀ _ _ ho) rfl (S.gd.T.nolimit.keeps fun b o e => of_hideAll X e) (codeRec_of X₀ hcd) hbody (.of_eq (hb vs len)) hcell
    (fun y hy => hloc _ (List.of_mem_zip hy).1) (fun h₀ hn hk₀ => ?_) hco hgen hk)
  obtain ⟨C, lo, hLX⟩ := enter_go (f := f) (fd := fd) S r hn hk₀ hl hk
  refine h fd fd.scope rfl ⟨rfl, hk, hgl, hbl⟩ s.heap.objs.size f _ outer (s.heap.objs.size :: X) { s with heap := h₀, toks := s.toks + (names.zip vs).length } _ C lo _ _ fun fl o h' m' tk' x hn' hP hO => ?_
  have st := back_go hk₀ x
  have sub : (hideAll h' (s.heap.objs.size :: X)).StaysIn (hideAll h' X) := hideAll_sub fun b hb => List.mem_cons_of_mem _ hb
  rcases hP with rfl | ⟨rfl, τ, rfl⟩
  · cases fl with
    | ret v => exact hq v h' tk' st (Rep.mono sub hO)
    | _ => exact hO.elim
  · cases fl with
    | next => exact hq .none h' tk' st .none
    | _ => exact hO.elim
end
end Mine
end

section
open PySem PySem.W PySem.Calls PyProof.Rows
set_option Elab.async false
set_option linter.unusedVariables false
namespace Mine

theorem Stp.same {fs : List Addr} {h h₁ h' : Heap} {a : Addr} (x : Stp fs h h₁) (y : Heap.SameBut a h₁ h') (n : h.get? a = none) : Stp fs h h' :=
  ⟨fun b o e m => (y.2 b (fun q => by rw [q, n] at e; cases e)).trans (x.keep b o e m), fun b o e m => by
    obtain ⟨sl, e'⟩ := x.slot b o e m
    exact ⟨sl, (y.2 b (fun q => by rw [q, n] at e; cases e)).trans e'⟩⟩
theorem Stp.ext {fs : List Addr} {h h₁ h' : Heap} {a : Addr} (x : Stp fs h h₁) (y : Heap.ExtBut a h₁ h') (n : h.get? a = none) : Stp fs h h' :=
  ⟨fun b o e m => y b o (fun q => by rw [q, n] at e; cases e) (x.keep b o e m), fun b o e m => by
    obtain ⟨sl, e'⟩ := x.slot b o e m
    exact ⟨sl, y b _ (fun q => by rw [q, n] at e; cases e) e'⟩⟩
section
variable {W : Wd} {fd : FuncData} {n : Nat} {hd : Nat} {σ : Sg}
theorem Sx.grow {A : Around} {outer : List Env} {X N : List Addr} {h h₁ : Heap} (S : Sx W A outer X h n hd) (x : Stp (fr outer) h h₁) (hn : ∀ b ∈ N, h.get? b = none) (he : ∀ b ∈ N, ∃ o, h₁.get? b = some o) :
    Sx W A outer (N ++ X) h₁ n hd ∧ (hideAll h X).StaysIn (hideAll h₁ (N ++ X)) := by
  have k : (hideAll h X).StaysIn (hideAll h₁ (N ++ X)) := fun b o e => by
    have nb : b ∉ X := fun m => by rw [hideAll_none X m] at e; cases e
    have e' := of_hideAll X e
    refine hideAll_get _ (x.keep b o e' fun m => nb (S.sub b m)) fun m => ?_
    rcases List.mem_append.mp m with z | z
    · rw [hn b z] at e'; cases e'
    · exact nb z
  have sub : ∀ b ∈ fr outer, b ∈ N ++ X := fun b hb => List.mem_append_right _ (S.sub b hb)
  refine ⟨⟨S.gd.mono k, S.stack, frames_hid sub (S.step x).frames, sub, fun b hb => ?_, S.room, S.units, S.hand.mono k⟩, k⟩
  rcases List.mem_append.mp hb with z | z
  · exact he b z
  · exact (S.step x).ex b z
theorem flight_set {M : Model} {A : Around} {E : Value → Shared → Prop} {s : Shared} {h0 : Heap} {e L : Addr} {ctx f : Value} {fs : List Addr} {Q : Unit → Shared → Prop} (x : Exo h0 s.heap e ctx (some f)) (h : ∀ h', Exo h0 h' e ctx (some (rawInt L)) → Ch h0 fs s.heap h' → Q () { s with heap := h' }) : wpAny M A (setFlight (.ref e) (some L)) Q E s := by
  obtain ⟨hnew, oe, vs, a0, he, hc, hd, h0', h2, tb⟩ := x
  rcases tb with ⟨q, _⟩ | ⟨f', T, oT, ts, q, h1, hnT, hTe, hT, hdT, h3⟩
  · cases q
  cases q
  have hsz3 : 3 < ts.size := (Array.getElem?_eq_some_iff.mp h3).1
  have other : ∀ b, b ≠ T → (s.heap.update T (Obj.mapFields (·.setIfInBounds 3 ((some L : Option Addr).elim Value.none fun f => rawInt f)))).get? b = s.heap.get? b :=
    fun b hb => Heap.get?_update_other _ _ (Ne.symm hb)
  have hd0 : ∀ b, (∃ o₀, h0.get? b = some o₀) → b ≠ T := fun b ⟨o₀, d⟩ q => by rw [q, hnT] at d; cases d
  unfold setFlight
  refine wpAny_bind (wpAny_field he hd h1 ?_)
  rw [if_pos (show (Value.ref T != Value.none) = true from by simp)]
  refine wpAny_setField hT hdT hsz3 (h _ ⟨hnew, oe, vs, a0, (other e (Ne.symm hTe)).trans he, hc, hd, h0', h2, .inr ⟨_, T, _, _, rfl, h1, hnT, hTe, Heap.get?_update_self _ hT (Obj.isFreed_of_fields (Obj.data_mapFields hdT _)), Obj.data_mapFields hdT _, by simp [hsz3]⟩⟩
    ⟨fun b o d ho _ => (other b (hd0 b d)).trans ho, fun b o d ho _ => ⟨o.slots, (other b (hd0 b d)).trans ho⟩⟩)
theorem Exo.same {h0 h h' : Heap} {e a : Addr} {ctx : Value} {fl : Option Value} (x : Exo h0 h e ctx fl) (y : Heap.SameBut a h h') {oa : Obj} (ha : h.get? a = some oa) (hf : ∀ vs, oa.data ≠ .fields vs) : Exo h0 h' e ctx fl := by
  obtain ⟨hnew, oe, vs, a0, he, hc, hd, h0', h2, tb⟩ := x
  have ne : ∀ {b : Addr} {o : Obj} {ws : Array Value}, h.get? b = some o → o.data = .fields ws → h'.get? b = some o := fun {b o ws} hb hw =>
    (y.2 b fun q => by rw [q, ha] at hb; cases hb; exact hf _ hw).trans hb
  exact ⟨hnew, oe, vs, a0, ne he hd, hc, hd, h0', h2, tb.imp id fun ⟨f, T, oT, ts, c1, c2, c3, c4, c5, c6, c7⟩ => ⟨f, T, oT, ts, c1, c2, c3, c4, ne c5 c6, c6, c7⟩⟩

theorem wpP.noted {α : Type} {M : Model} {A : Around} {E : Value → Shared → Prop} {s : Shared} {env : Env} {m : Sem α} {Q : α → Shared → Prop} (h : wpP M A m Q (notedBy M A env E) s) : wpP M A (m.onRaise fun x => do noteFrame x env; theTreesLotGoes x) Q E s :=
  wpP.onRaise (wpP.mono h (fun _ _ q => q) fun _ _ hx => wpP.first (wpAny_mono hx (fun _ _ e => wpP.any (wpAny_theTreesLotGoes e)) fun _ _ e => e))
section
variable {prog : Program} {w : World} {A : Around} {E : Value → Shared → Prop} {s : Shared} {R' : Result → Shared → Prop} {env : Env}
theorem compStartP {elt target iter ifs rest scope pos it acc env}
    (h0 : codeP (model prog w) A (.compLoop (.ListComp elt (⟨target, iter, ifs, 0⟩ :: rest) scope pos) 0 it acc env) R' s)
    (h : wpAny (model prog w) A (pyIter it) (fun it' s' => codeP (model prog w) A (.compLoop (.ListComp elt (⟨target, iter, ifs, 0⟩ :: rest) scope pos) 0 it' acc env) R' s') (fun _ _ => False) s) :
    codeP (model prog w) A (.compStart (.ListComp elt (⟨target, iter, ifs, 0⟩ :: rest) scope pos) 0 it acc env) R' s := by
  refine codeP.tree rfl (wpP.any ?_)
  show wpAny _ _ ((compStart (.ListComp elt (⟨target, iter, ifs, 0⟩ :: rest) scope pos) 0 it acc env).onRaise (fun x => do noteFrame x env; standAt theWindowsPlace)) _ _ s
  refine wpAny_notedAt (pos := theWindowsPlace) ?_
  unfold compStart
  show wpAny _ _ (ask >>= _) _ _ s
  refine wpAny_bind (wpAny_askSetting (wpAny_ite ?_))
  split
  · first
      | exact wpAny_bind (wpAny_pure (wpAny_pure (And.intro rfl h0)))
      | exact wpAny_pure (And.intro rfl h0)
  · first
      | exact wpAny_bind (wpAny_rule (wpAny_bind (wpAny_standAt (wpAny_bind (wpAny_mono h (fun it' s' h' => wpAny_pure (And.intro rfl h')) fun _ _ x => x.elim)))))
      | (refine wpAny_bind (wpAny_rule ?_); show wpAny _ _ (standAt iter.pos >>= _) _ _ s; exact wpAny_bind (wpAny_standAt (wpAny_bind (wpAny_mono h (fun it' s' h' => wpAny_pure (And.intro rfl h')) fun _ _ x => x.elim))))
theorem compTurnP {elt target iter : Expr} {scope : Scope} {pos : Pos} {it acc : Value} {env : Env}
    (h : wpAny (model prog w) A (pyNext it) (fun r s₁ => match r with
      | none => R' (.ok .next) s₁
      | some v => wpAny (model prog w) A (assign target env v) (fun _ s₂ => wpP (model prog w) A (eval elt env) (fun x s₄ =>
              wpAny (model prog w) A (call (.builtin "list.append") [acc, x]) (fun _ s₅ => codeP (model prog w) A (.compLoop (.ListComp elt [⟨target, iter, [], 0⟩] scope pos) 0 it acc env) R' s₅) (fun _ _ => False) s₄)
            (notedBy (model prog w) A env fun e s' => R' (.error e) s') s₂) (fun _ _ => False) s₁) (fun _ _ => False) s)
    (ht : ∀ v, letOwnedTupleGo target it v = pure () := by intro _; rfl) :
    codeP (model prog w) A (.compLoop (.ListComp elt [⟨target, iter, [], 0⟩] scope pos) 0 it acc env) R' s := by
  refine codeP.tree rfl ?_
  show wpP _ A ((compTurn (.ListComp elt [⟨target, iter, [], 0⟩] scope pos) 0 it acc env).onRaise (fun x => do noteFrame x env; theTreesLotGoes x)) _ _ s
  refine wpP.noted ?_
  rw [compTurn_list1]
  refine wpP.first (wpAny_standAt (wpP.first (wpAny_mono h (fun r s₁ h₁ => ?_) fun _ _ x => x.elim)))
  cases r with
  | none => exact wpP.pure h₁
  | some v =>
    refine wpP.first (wpAny_of_eq (ht v) ?_)
    refine wpP.first (wpAny_mono h₁ (fun _ s₂ h₂ => ?_) fun _ _ x => x.elim)
    refine wpP.bind (wpP.bind (wpP.mono h₂ (fun x s₄ h₄ => wpP.first (wpAny_mono h₄ (fun _ s₅ h₅ => wpP.pure (wpP.pure ⟨rfl, h₅⟩)) fun _ _ x => x.elim)) fun _ _ x => x))
theorem compP {e : Expr} {scope : Scope} {pos : Pos} {newAcc first : Sem Value} {g : Comprehension} {gs : List Comprehension} {Q : Value → Shared → Prop}
    (hcl : clausesOf e = g :: gs) (hs : ∀ x, foldedSetIterable g.iter env x = pure x)
    (hfree : ∀ x ∈ scope.names, x.2 ≠ .free) (hkind : scope.kind = .function) (hnames : ∀ x ∈ scope.names, x.2 = .local → scope.names.lookup x.1 = some .local)
    (h : wpAny (model prog w) A first (fun x s₁ => wpAny (model prog w) A (pyIter x) (fun it s₂ => wpAny (model prog w) A newAcc (fun acc s₃ =>
      wpAny (model prog w) A (newFunctionEnv scope env.globals [] [] env.qual none .none (some env)) (fun cenv s₄ =>
        codeP (model prog w) A (.compStart e 0 it acc { cenv with scope := scope }) (fun r s' => ∃ m, s'.heap.Ns cenv.locals m ∧ ∀ h', Heap.SameBut cenv.locals s'.heap h' →
          match r with | .ok _ => Q acc { s' with heap := h' } | .error x => wpAny (model prog w) A (passOn "comprehension.variables-let-go" x { cenv with scope := scope }) Q E { s' with heap := h' }) s₄) (fun _ _ => False) s₃) (fun _ _ => False) s₂) (fun _ _ => False) s₁) E s) :
    wpP (model prog w) A (comprehension e scope env pos newAcc false first) Q E s := by
  unfold comprehension
  rw [closureFor_none hfree, hcl]
  refine wpP.first (wpAny_mono h (fun x s₁ h₁ => wpP.first (wpAny_standAt (wpP.first (wpAny_of_eq (hs x) (wpP.first (wpAny_holding (wpAny_mono h₁ (fun it s₂ h₂ => ?_) fun _ _ x => x.elim))))))) fun _ _ h' => h')
  have skip : ∀ {k : PUnit → Sem Value}, wpP (model prog w) A (k ⟨⟩) Q E s₂ → wpP (model prog w) A (if (none : Option (Value → Sem Unit)).isSome = true then (standAt e.pos >>= k) else k ⟨⟩) Q E s₂ := fun hk => by
    rw [if_neg (by simp)]; exact hk
  refine skip (wpP.first (wpAny_mono h₂ (fun acc s₃ h₃ => wpP.first (wpAny_pure (wpP.first (wpAny_mono h₃ (fun cenv s₄ h₄ => ?_) fun _ _ x => x.elim)))) fun _ _ x => x.elim))
  dsimp only
  rw [map_eq_self (l := scope.names) (fun x hx => by
    obtain ⟨n, k⟩ := x
    have : (k == NameKind.free) = false := by simpa using hfree _ hx
    simp [this])]
  have hv : ∀ x ∈ (scope.names.filter fun x => (x.2 == .local || x.2 == .cell) && x.1 != (".0" : PySem.Str)).reverse, x.2 = .local →
      Env.kindOf { cenv with scope := scope } x.1 = some .local := fun x hx hl => hnames x (List.mem_filter.mp (List.mem_reverse.mp hx)).1 hl
  refine wpP.holding (wpP.bind (wpP.attempt (wpP.holding (wpP.run (codeP.mono h₄ fun r s' hr => ?_)))))
  obtain ⟨m, hn, hr⟩ := hr
  cases r with
  | ok f => exact wpP.first (wpAny_holding (wpAny_comp_letGo (cenv := { cenv with scope := scope }) hkind _ s' m hv hn fun h' m' _ hs' => wpP.pure (hr h' hs')))
  | error x => exact wpP.first (wpAny_holding (wpAny_comp_letGo (cenv := { cenv with scope := scope }) hkind _ s' m hv hn fun h' m' _ hs' => wpP.any (hr h' hs')))
end
end
end Mine
end

section
open PySem PySem.W PySem.Calls PyProof.Rows
set_option Elab.async false
set_option linter.unusedVariables false
namespace Mine
def mapO {α β : Type} (F : α → Option β) : List α → Option (List β)
  | [] => some []
  | a :: r => match F a with
    | none => none
    | some b => (mapO F r).map (b :: ·)
def Elt (W : Wd) (fd : FuncData) (n : Nat) (hd : Nat) (scope : Scope) (x : PySem.Str) (elt : Expr) (F : D → Option D) (d : D) : Prop :=
  ∀ (L a : Addr) (A : Around) (outer : List Env) (X : List Addr) (s : Shared) (C : Addr) (m : PySem.Str → Option Value) (v : Value), Sx W A (callEnv fd L a :: outer) X s.heap n hd → s.heap.Ns C m → m x = some v → Rep (hideAll s.heap X) v d →
    GoXC W A (callEnv fd L a :: outer) X s (eval elt (compEnv scope C (callEnv fd L a))) (F d)
theorem Stp.isList {fs : List Addr} {h h' : Heap} {l : Addr} {items : Array Value} (x : Stp fs h h') (t : h.IsList l items) : h'.IsList l items := by
  obtain ⟨o, ho, hc, e, hd⟩ := t
  obtain ⟨sl, e'⟩ := x.any ho
  exact ⟨_, e', hc, e, hd⟩
theorem Stp.isIter {fs : List Addr} {h h' : Heap} {I l : Addr} {i : Nat} (x : Stp fs h h') (t : h.IsListIter I l i) : h'.IsListIter I l i := by
  obtain ⟨o, ho, hc, hd⟩ := t
  obtain ⟨sl, e'⟩ := x.any ho
  exact ⟨_, e', hc, hd⟩
theorem hid_same {X : List Addr} {h h' : Heap} {a : Addr} (y : Heap.SameBut a h h') (m : a ∈ X) : (hideAll h X).StaysIn (hideAll h' X) := fun b o e => by
  have nb : b ∉ X := fun m => by rw [hideAll_none X m] at e; cases e
  exact hideAll_get X ((y.2 b fun q => nb (q ▸ m)).trans (of_hideAll X e)) nb
theorem hid_ext {X : List Addr} {h h' : Heap} {a : Addr} (y : Heap.ExtBut a h h') (m : a ∈ X) : (hideAll h X).StaysIn (hideAll h' X) := fun b o e => by
  have nb : b ∉ X := fun m => by rw [hideAll_none X m] at e; cases e
  exact hideAll_get X (y b o (fun q => nb (q ▸ m)) (of_hideAll X e)) nb
section
variable {W : Wd} {fd : FuncData} {n : Nat} {hd : Nat} {σ : Sg}
theorem compLoop_go {L a : Addr} {A : Around} {outer : List Env} {X : List Addr} {h1 : Heap} {I D₀ C ax : Addr} {vs : List Value} {ds : List D} {F : D → Option D} {scope : Scope} {x : PySem.Str} {elt iter : Expr} {px pos : Pos} {R' : Result → Shared → Prop} {g : Array GenState} {dr : Drawn} {os : OsState}
    (S : Sx W A (callEnv fd L a :: outer) X h1 n hd) (nI : h1.get? I = none) (nD : h1.get? D₀ = none) (nC : h1.get? C = none) (hDI : D₀ ≠ I) (hDC : D₀ ≠ C) (hIC : I ≠ C)
    (hl : h1.IsList ax vs.toArray) (rl : RepL (hideAll h1 X) vs ds) (hx : scope.names.lookup x = some .local) (hk : scope.kind = .function) (hz : vs.length ≤ 10000)
    (hh : mapO F ds ≠ none → hd = 0) (helt : ∀ d ∈ ds, Elt W fd n hd scope x elt F d) :
    ∀ (k i : Nat), i + k = vs.length → ∀ (h : Heap) (tk : Nat) (ys : List Value) (dys : List D) (m : PySem.Str → Option Value), Stp (fr (callEnv fd L a :: outer)) h1 h → h.IsListIter I ax i → h.IsList D₀ ys.toArray →
      RepL (hideAll h ([C, D₀, I] ++ X)) ys dys → h.Ns C m → ys.length = i → (mapO F (ds.drop i) ≠ none → mapO F ds ≠ none) →
      (∀ h' tk' ys' m' l, mapO F (ds.drop i) = some l → Stp (fr (callEnv fd L a :: outer)) h1 h' → h'.IsList D₀ ys'.toArray → RepL (hideAll h' ([C, D₀, I] ++ X)) ys' (dys ++ l) → h'.Ns C m' → R' (.ok .next) ⟨h', g, dr, tk', os⟩) →
      (∀ e h' tk' ctx m', mapO F (ds.drop i) = none → Stp (fr (callEnv fd L a :: outer)) h1 h' → Exo h1 h' e ctx (some (rawInt L)) → (A.handled = none → ctx = .none) → h'.Ns C m' → R' (.error (.ref e)) ⟨h', g, dr, tk', os⟩) →
      codeP (model W.prog W.w) A (.compLoop (.ListComp elt [⟨.Name x px, iter, [], 0⟩] scope pos) 0 (.ref I) (.ref D₀) (compEnv scope C (callEnv fd L a))) R' ⟨h, g, dr, tk, os⟩
  | 0, i, hi, h, tk, ys, dys, m, st, it, li, ry, hn, hys, hall, hend, hbad => by
    have e0 : ds.drop i = [] := List.drop_eq_nil_of_le (by rw [← rl.len]; omega)
    refine compTurnP (wpAny_pyNext_list_end ?_ it (st.isList hl) (by simp; omega) fun h₁ x₁ => ?_)
    · have h0 : hd = 0 := hh (hall (by rw [e0]; simp [mapO]))
      exact (h0 ▸ S.hand : HndOk 0 A.handled _).none
    · obtain ⟨oD, hoD, qD⟩ := li
      obtain ⟨oC, es, ep, hoC, hdC, qC⟩ := hn
      exact hend h₁ tk ys m [] (by rw [e0]; rfl) (st.ext x₁ nI) ⟨oD, x₁ _ _ hDI hoD, qD⟩ (by rw [List.append_nil]; exact ry.mono (hid_ext x₁ (by simp))) ⟨oC, es, ep, x₁ _ _ (Ne.symm hIC) hoC, hdC, qC⟩
  | k + 1, i, hi, h, tk, ys, dys, m, st, it, li, ry, hn, hys, hall, hend, hbad => by
    have hlt : i < vs.length := by omega
    have hltd : i < ds.length := by rw [← rl.len]; exact hlt
    have hv : vs.toArray[i]? = some vs[i] := by simp [hlt]
    obtain ⟨v, hv', rv⟩ := rl.get (List.getElem?_eq_getElem hltd)
    have ev : v = vs[i] := by rw [List.getElem?_eq_getElem hlt] at hv'; exact (Option.some.inj hv').symm
    subst ev
    have ed : ds.drop i = ds[i] :: ds.drop (i + 1) := (List.drop_eq_getElem_cons hltd)
    refine compTurnP (wpAny_pyNext_list_item it (st.isList hl) hv fun h₁ it₁ s₁ => ?_)
    have st₁ := st.same s₁ nI
    obtain ⟨oD, hoD, qD⟩ := li
    obtain ⟨oC, es, ep, hoC, hdC, qC⟩ := hn
    have hn₁ : h₁.Ns C m := ⟨oC, es, ep, (s₁.2 _ (Ne.symm hIC)).trans hoC, hdC, qC⟩
    refine wpAny_assign_Name (wpAny_storeName_local (env := compEnv scope C (callEnv fd L a)) hx hn₁ (fun h₂ hn₂ s₂ => ?_) (by show (scope.kind == .class || (scope.kind == .module && _)) = false; rw [hk]; rfl))
    have s₂ : Heap.SameBut C h₁ h₂ := s₂
    obtain ⟨m₂, em, hn₂⟩ : ∃ m₂ : PySem.Str → Option Value, m₂ x = some vs[i] ∧ h₂.Ns C m₂ := ⟨_, if_pos rfl, hn₂⟩
    have st₂ := st₁.same s₂ nC
    have it₂ : h₂.IsListIter I ax (i + 1) := let ⟨o, a, b⟩ := it₁; ⟨o, (s₂.2 _ hIC).trans a, b⟩
    have li₂ : h₂.IsList D₀ ys.toArray := ⟨oD, (s₂.2 _ hDC).trans ((s₁.2 _ hDI).trans hoD), qD⟩
    have ex₂ : ∀ b ∈ [C, D₀, I], ∃ o, h₂.get? b = some o := fun b hb => by
      simp only [List.mem_cons, List.not_mem_nil, or_false] at hb
      rcases hb with rfl | rfl | rfl
      · obtain ⟨o, _, _, e, _⟩ := hn₂; exact ⟨o, e⟩
      · obtain ⟨o, e, _⟩ := li₂; exact ⟨o, e⟩
      · obtain ⟨o, e, _⟩ := it₂; exact ⟨o, e⟩
    obtain ⟨S₂, k₂⟩ := S.grow (N := [C, D₀, I]) st₂ (by intro b hb; simp only [List.mem_cons, List.not_mem_nil, or_false] at hb; rcases hb with rfl | rfl | rfl <;> assumption) ex₂
    have ry₂ : RepL (hideAll h₂ ([C, D₀, I] ++ X)) ys dys := (ry.mono (hid_same s₁ (by simp))).mono (hid_same s₂ (by simp))
    refine helt ds[i] (List.getElem_mem hltd) L a A outer ([C, D₀, I] ++ X) ⟨h₂, g, dr, tk + 1, os⟩ C m₂ vs[i] S₂ hn₂ em (rv.mono k₂) _ _ (fun w h₃ tk₃ d q st₃ rw₃ => ?_) fun e h₃ tk₃ ctx fl q st₃ z w u => ?_
    · refine wpAny_list_append (st₃.isList li₂) (fun h₅ l₅ s₅ => ?_) (by rw [sizeLine_eq]; simp; omega)
      have n₅ : h₅.Ns C m₂ := by
        obtain ⟨o, es, ep, a1, a2, a3⟩ := st₃.ns hn₂
        exact ⟨o, es, ep, (s₅.2 _ (Ne.symm hDC)).trans a1, a2, a3⟩
      have k₃ : (hideAll h₂ ([C, D₀, I] ++ X)).StaysIn (hideAll h₃ ([C, D₀, I] ++ X)) := st₃.hid S₂.sub
      have ry₅ : RepL (hideAll h₅ ([C, D₀, I] ++ X)) (ys ++ [w]) (dys ++ [d]) := ((ry₂.mono k₃).app (.cons rw₃ .nil)).mono (hid_same s₅ (by simp))
      have it₅ : h₅.IsListIter I ax (i + 1) := by
        obtain ⟨o, a1, a2⟩ := st₃.isIter it₂
        exact ⟨o, (s₅.2 _ (Ne.symm hDI)).trans a1, a2⟩
      have st₅ : Stp (fr (callEnv fd L a :: outer)) h1 h₅ := (st₂.trans st₃).same s₅ nD
      have l₅' : h₅.IsList D₀ (ys ++ [w]).toArray := by simpa using l₅
      refine compLoop_go S nI nD nC hDI hDC hIC hl rl hx hk hz hh helt k (i + 1) (by omega) h₅ tk₃ (ys ++ [w]) (dys ++ [d]) m₂ st₅ it₅ l₅' ry₅ n₅ (by simp [hys]) (fun q' => hall ?_) (fun h' tk' ys' m' l q' x1 x2 x3 x4 => hend h' tk' ys' m' (d :: l) ?_ x1 x2 (by simpa using x3) x4) fun e h' tk' ctx m' q' x1 x2 x3 x4 => hbad e h' tk' ctx m' ?_ x1 x2 x3 x4
      · rw [ed, mapO, q]
        cases hq : mapO F (ds.drop (i + 1)) with
        | none => exact absurd hq q'
        | some l => simp
      · rw [ed, mapO, q, q']; rfl
      · rw [ed, mapO, q, q']; rfl
    · have fw : fl = none ∨ fl = some .none ∨ fl = some (rawInt L) := by
        rcases w with w | w | ⟨env, r', L', e1, e2, e3⟩
        · exact .inl w
        · exact .inr (.inl w)
        · cases e1
          cases e2
          exact .inr (.inr e3)
      have S₃ := S₂.step st₃
      show wpAny _ _ (noteFrame (.ref e) (callEnv fd L a)) _ _ _
      refine note_go (s := ⟨h₃, g, dr, tk₃, os⟩) (h0 := h₂) (base := hideAll h₃ ([C, D₀, I] ++ X)) (L := L) S₃.stack S₃.frames rfl z st₃.has fw fun h₄ z₄ c₄ => ?_
      have st₄ := st₃.ch c₄
      exact hbad e h₄ tk₃ ctx _ (by rw [ed, mapO, q]) (st₂.trans st₄) (z₄.base st₂.has) u (st₄.ns hn₂)
theorem EvXC.comp {elt iter : Expr} {x : PySem.Str} {px pos : Pos} {scope : Scope} {ds : List D} {F : D → Option D} (h1 : Ev W fd n hd σ iter (.list ds)) (hx : scope.names.lookup x = some .local) (helt : ∀ d ∈ ds, Elt W fd n hd scope x elt F d) (hz : ds.length ≤ 10000) (hh : mapO F ds ≠ none → hd = 0)
    (hfree : ∀ y ∈ scope.names, y.2 ≠ .free) (hcell : ∀ y ∈ scope.names, y.2 ≠ .cell) (hk : scope.kind = .function) (hnames : ∀ y ∈ scope.names, y.2 = .local → scope.names.lookup y.1 = some .local)
    (hs : ∀ env v, foldedSetIterable iter env v = pure v := by intro _ _; rfl) : EvXC W fd n hd σ (.ListComp elt [⟨.Name x px, iter, [], 0⟩] scope pos) ((mapO F ds).map D.list) :=
  fun L a A outer X s m C lo Q E hq hr => by
    rw [eval_ListComp]
    refine compP (g := ⟨.Name x px, iter, [], 0⟩) (gs := []) rfl (hs _) hfree hk hnames ?_
    show wpAny _ A (eval iter (callEnv fd L a)) _ E s
    refine h1 L a A outer X s m C lo _ _ fun v h₁ tk₁ x1 r1 => ?_
    have C1 := C.step x1
    cases r1 with
    | list ht rl =>
    rename_i ax vs
    refine wpAny_pyIter_list (list_hid ht) (wpAny_newObj_type (wpAny_newFunctionEnv hcell (by intro y hy; simp at hy) (fun h₂ hn₂ s₂ => ?_) hk) (by show (0 : Nat) ≤ sizeLine; omega))
    dsimp only at hn₂ s₂ ⊢
    generalize hH1 : h₁.push { cls := .type "list_iterator", data := .fields #[.ref ax, .int 0 0] } = H1 at hn₂ s₂ ⊢
    have hD : H1.objs.size = h₁.objs.size + 1 := by rw [← hH1, Heap.size_push]
    generalize hH2 : H1.push { cls := .type "list", dict := none, data := .seq ([] : List Value).toArray } = H2 at hn₂ s₂ ⊢
    have hC : H2.objs.size = h₁.objs.size + 2 := by rw [← hH2, Heap.size_push, hD]
    have hDI : H1.objs.size ≠ h₁.objs.size := by omega
    have hDC : H1.objs.size ≠ H2.objs.size := by omega
    have hIC : h₁.objs.size ≠ H2.objs.size := by omega
    have szl : (0 : Nat) ≤ sizeLine := Nat.zero_le _
    have none_of : ∀ b, h₁.objs.size ≤ b → h₁.get? b = none := fun b hb => Heap.get?_none_of_le hb
    have nI := none_of _ (Nat.le_refl h₁.objs.size)
    have nD := none_of H1.objs.size (by omega)
    have nC := none_of H2.objs.size (by omega)
    have old : ∀ b o, h₁.get? b = some o → h₂.get? b = some o := fun b o e =>
      s₂.extBut b o (fun q => by rw [q] at e; exact absurd (nC.symm.trans e) (by simp)) (Heap.get?_push_of_some _ (hH2 ▸ Heap.get?_push_of_some _ (hH1 ▸ Heap.get?_push_of_some _ e)))
    have it : h₂.IsListIter h₁.objs.size ax 0 := ⟨_, s₂.extBut _ _ hIC (Heap.get?_push_of_some _ (hH2 ▸ Heap.get?_push_of_some _ (hH1 ▸ Heap.get?_push_size _ rfl))), rfl, rfl⟩
    have li : h₂.IsList H1.objs.size ([] : List Value).toArray := ⟨_, s₂.extBut _ _ hDC (Heap.get?_push_of_some _ (hH2 ▸ Heap.get?_push_size _ rfl)), rfl, _, rfl⟩
    have hn₂ : h₂.Ns H2.objs.size _ := hn₂
    have loop : codeP (model W.prog W.w) A (.compLoop (.ListComp elt [⟨.Name x px, iter, [], 0⟩] scope pos) 0 (.ref h₁.objs.size) (.ref H1.objs.size) (compEnv scope H2.objs.size (callEnv fd L a))) (fun r s' => ∃ m, s'.heap.Ns H2.objs.size m ∧ ∀ h', Heap.SameBut H2.objs.size s'.heap h' →
          match r with | .ok _ => Q (.ref H1.objs.size) { s' with heap := h' } | .error x => wpAny (model W.prog W.w) A (PySem.passOn "comprehension.variables-let-go" x (compEnv scope H2.objs.size (callEnv fd L a))) Q E { s' with heap := h' }) ⟨h₂, s.gens, s.drawn, tk₁, s.os⟩ := by
      refine compLoop_go (ax := ax) (vs := vs) (ds := ds) (F := F) C1.sx nI nD nC hDI hDC hIC (list_hid ht) rl hx hk (by rw [rl.len]; exact hz) hh helt vs.length 0 (by omega) h₂ tk₁ [] [] _ (.of_keeps old) it li .nil hn₂ rfl (fun q => q) (fun h' tk' ys' m' l q st li' ry' hn' => ?_) fun e h' tk' ctx m' q st z u hn' => ?_
      · refine ⟨m', hn', fun h'' sb => ?_⟩
        have stt := x1.trans (st.same sb nC)
        obtain ⟨oD, hoD, qD⟩ := li'
        refine hq _ h'' tk' (.list l) (by rw [List.drop_zero] at q; rw [q]; rfl) stt (.list (vs := ys') ⟨oD, hideAll_get X ((sb.2 _ hDC).trans hoD) fun mm => ?_, qD⟩ ?_)
        · obtain ⟨o, e⟩ := C1.sx.ex _ mm
          exact absurd (nD.symm.trans e) (by simp)
        · have r' : RepL (hideAll h'' ([H2.objs.size, H1.objs.size, h₁.objs.size] ++ X)) ys' l := by simpa using ry'.mono (hid_same sb (by simp))
          exact r'.mono (hideAll_sub fun b hb => List.mem_append_right _ hb)
      · refine ⟨m', hn', fun h'' sb => ?_⟩
        obtain ⟨oC, es, ep, hoC, hdC, qC⟩ := hn'
        have z' := z.same sb hoC (fun vs q => by rw [hdC] at q; cases q)
        have zz := z'
        obtain ⟨_, oe, vs', a0, he, _, hd', _, _, tb⟩ := zz
        rcases tb with ⟨q', _⟩ | ⟨f, T, oT, ts, _, h1', hnT, hTe, hT, hdT, h3⟩
        · cases q'
        show wpAny _ _ (PySem.passOn "comprehension.variables-let-go" (.ref e) (compEnv scope H2.objs.size (callEnv fd L a))) Q E _
        unfold PySem.passOn
        refine wpAny_bind (wpAny_field he hd' h1' ?_)
        rw [if_neg (show ¬ ((Value.ref T == Value.none) = true) from by simp)]
        refine wpAny_bind (flight_set (s := ⟨h'', s.gens, s.drawn, tk', s.os⟩) (L := L) (fs := fr (callEnv fd L a :: outer)) z' fun h₄ z₄ c₄ => wpAny_throw ?_)
        have st₄ := (st.same sb nC).ch c₄
        exact hr e h₄ tk' ctx _ (by rw [List.drop_zero] at q; rw [q]; rfl) (x1.trans st₄) (z₄.base x1.has) (.inr (.inr ⟨callEnv fd L a, outer, L, rfl, rfl, rfl⟩)) u
    exact compStartP loop (wpAny_pyIter_listiter it loop)
theorem Elt.call1 {sc : Scope} (F' : FdIs fd sc) {scope : Scope} {x f : PySem.Str} {np xp pos : Pos} {v : Value} {F : D → Option D} {d : D} (hb : Bti W f (.fn v)) (hkeep : Keep W v) (hc : CallXC W n hd v [d] (F d)) (hk : scope.kind = .function)
    (hf : scope.names.lookup f = some .globalImplicit) (hx : scope.names.lookup x = some .local) (df : (f == ("__debug__" : PySem.Str)) = false := by rfl) (dx : (x == ("__debug__" : PySem.Str)) = false := by rfl) : Elt W fd n hd scope x (.Call (.Name f np) [.Name x xp] [] pos) F d :=
  fun L a A outer X s C m w S hn hm r Q E hq hr => by
    have he : ∀ env, eval (.Call (.Name f np) [.Name x xp] [] pos) env = (do callWith pos (← eval (.Name f np) env) [] (backTo pos (starEach [.Name x xp] env)) []) := by intro _; rfl
    have hs : ∀ env, starEach [.Name x xp] env = [(false, eval (.Name x xp) env)] := by intro _; rfl
    have G := S.gd
    obtain ⟨hmn, v', hv', rv'⟩ := hb _ G
    have ev : v' = v := by cases rv'; rfl
    subst ev
    rw [he, hs]
    refine wpP.first (Name_function_global (env := compEnv scope C (callEnv fd L a)) hk hf (loadGlobal_builtin (mg := W.mg) (mb := W.mb) ?_ hmn ?_ hv' ?_) df)
    · show s.heap.Ns fd.globals W.mg
      rw [F'.g]
      exact G.T.g.keeps fun b o e => of_hideAll X e
    · show s.heap.Ns fd.builtins W.mb
      rw [F'.b]
      exact G.T.b.keeps fun b o e => of_hideAll X e
    · refine callWith_of' (P := fun h => Gd W (hideAll h X)) rfl (fun hh G => ?_) ?_
      · obtain ⟨k, hk, l⟩ := hkeep _ G
        exact ⟨k, hk, l.keeps fun b o e => of_hideAll X e⟩
      · show wpP _ A (evalArgs v' true [(false, eval (.Name x xp) (compEnv scope C (callEnv fd L a)))] []) _ E _
        refine wpP.any (evalArgs_plain (spliced_cons (wpAny_Name (wpAny_loadName_local (env := compEnv scope C (callEnv fd L a)) hk hx hn hm (spliced_nil ?_)) dx)))
        exact ⟨G, hc A _ X s [w] S (.cons r .nil) Q E hq hr⟩
end
end Mine
end

section
open PySem PySem.W PySem.Calls PyProof.Rows
set_option Elab.async false
set_option linter.unusedVariables false
namespace Mine
section
variable {W : Wd} {fd : FuncData} {n : Nat} {hd : Nat} {σ : Sg}
theorem wpP.operating {M : Model} {A : Around} {E : Value → Shared → Prop} {s : Shared} {vs : List Value} {m : Sem Value} {Q : Value → Shared → Prop} (h : wpP M A m Q E s) : wpP M A (operate vs m) Q E s :=
  fun Γ p hΓ hC => by rw [Sem.wp_operate]; exact h Γ p hΓ hC
theorem callStar {M : Model} {A : Around} {E : Value → Shared → Prop} {s : Shared} {pos : Pos} {f : Value} {t : Sem Value} {Q : Value → Shared → Prop} {P : Heap → Prop}
    (hk : ∀ h, P h → ∃ k, (k = Keeper.frame ∨ k = Keeper.machine ∨ k = Keeper.boundFrame) ∧ Looks M h (keeperOf f) k)
    (h : wpP M A (evalArgs f true [(true, t)] []) (fun a s₁ => P s₁.heap ∧ wpP M A (call f ([] ++ a.pos) a.kw) Q E s₁) E s) : wpP M A (callWith pos f [] [(true, t)] []) Q E s := by
  unfold callWith
  refine wpP.bind (wpP.holding (wpP.mono h (fun a s₁ h₁ => wpP.first (wpAny_standAt ?_)) fun _ _ x => x))
  obtain ⟨k, hk', L⟩ := hk _ h₁.1
  refine wpP.first (L.here ?_)
  have tail : ∀ {t : Sem Value}, wpP M A t Q E s₁ → wpP M A (t >>= fun r => holding [r] point >>= fun _ => pure r) Q E s₁ :=
    fun ht => wpP.bind (wpP.mono ht (fun r s₂ hr => wpP.first (wpAny_holding (wpAny_point (wpP.pure hr)))) fun _ _ x => x)
  have marked (mk : Value) : wpP M A (callMarked mk f ([] ++ a.pos) a.kw) Q E s₁ := by unfold callMarked; exact wpP.keep h₁.2
  rcases hk' with rfl | rfl | rfl
  · exact tail (marked _)
  · exact tail (wpP.operating h₁.2)
  · exact tail (wpP.operating h₁.2)
theorem list_iter_l : typeLookup (.type "list") "__iter__" = pure (some (.builtin "list.__iter__")) := slot_list_iter.lookup
theorem EvXC.star {func e : Expr} {pos ep : Pos} {f : Value} {rs : Option (List D)} {r : Option D} (h1 : Ev W fd n hd σ func (.fn f)) (h2 : EvXC W fd n hd σ e (rs.map D.list)) (hf : Keep W f) (h3 : ∀ ds, rs = some ds → CallXC W n hd f ds r) (hz : ∀ ds, rs = some ds → ds.length ≤ 10000) (hr0 : rs = none → r = none)
    (hs : ∀ env, starEach [.Starred e ep] env = [(true, eval e env)] := by intro _; rfl)
    (he : ∀ env, eval (.Call func [.Starred e ep] [] pos) env = (do callWith pos (← eval func env) [] (backTo pos (starEach [.Starred e ep] env)) []) := by intro _; rfl) : EvXC W fd n hd σ (.Call func [.Starred e ep] [] pos) r :=
  fun L a A outer X s m C lo Q E hq hr => by
    rw [he, hs]
    refine wpP.first (h1 L a A outer X s m C lo _ _ fun v ha tka x1 r1 => ?_)
    have e' : v = f := by cases r1; rfl
    subst e'
    have C1 := C.step x1
    refine callStar (P := fun h => Gd W (hideAll h X)) (fun hh G => ?_) ?_
    · obtain ⟨k, hk, l⟩ := hf _ G
      exact ⟨k, hk, l.keeps fun b o e => of_hideAll X e⟩
    · unfold evalArgs
      refine wpP.bind (wpP.bind ?_)
      have back : wpP (model W.prog W.w) A (eval e (callEnv fd L a)) (fun w s' => ∃ ds, rs = some ds ∧ ∃ h' tk', s' = { s with heap := h', toks := tk' } ∧ Stp (fr (callEnv fd L a :: outer)) ha h' ∧ Rep (hideAll h' X) w (.list ds)) E { s with heap := ha, toks := tka } := by
        refine h2 L a A outer X _ m C1 (lo.mono (x1.hid C.sx.sub)) _ _ (fun w hb tk d q x rw' => ?_) fun e hb tk ctx fl q x z w u => ?_
        · cases rs with
          | none => cases q
          | some ds => cases q; exact ⟨ds, rfl, hb, tk, rfl, x, rw'⟩
        · have hrs : rs = none := by cases rs with | none => rfl | some ds => cases q
          exact hr e hb tk ctx fl (hr0 hrs) (x1.trans x) (z.base x1.has) w u
      refine wpP.mono (show wpP _ _ _ _ _ _ from back) (fun w s' hw => ?_) fun _ _ x => x
      obtain ⟨ds, hds, hb, tk, rfl, x, rw'⟩ := hw
      have C2 := C1.step x
      cases rw' with
      | list ht rl =>
      rename_i l vs
      obtain ⟨o, ho, hc, ep', hd'⟩ := list_hid ht
      refine wpP.first (wpAny_standAt (wpP.pure (wpP.first (wpAny_pure (wpP.holding ?_)))))
      refine wpP.first (wpAny_pure (wpP.first ?_))
      refine wpAny_bind ?_
      unfold notIterableAtAll
      refine wpAny_bind (wpAny_specialOf (T := "list") ⟨o, ho, hc⟩ list_iter_l ?_)
      refine wpAny_pure ?_
      rw [if_neg (by simp)]
      refine wpAny_holding (wpAny_collect_seq l (.inl rfl) ho hc hd' (fun h' k => ?_) (by rw [List.size_toArray, rl.len, sizeLine_eq]; have := hz ds hds; omega))
      refine wpP.pure ?_
      have st : Stp (fr (callEnv fd L a :: outer)) hb h' := .of_keeps k
      have C3 := C2.step st
      refine ⟨C3.sx.gd, ?_⟩
      have rl' : RepL (hideAll h' X) vs ds := rl.mono (st.hid C.sx.sub)
      refine h3 ds hds A _ X _ _ C3.sx (by simpa using rl') _ _ (fun v hc tkc d q y rv => hq v hc tkc d q (x1.trans (x.trans (st.trans y))) rv) fun e hc tkc ctx fl q y z w u => hr e hc tkc ctx fl q (x1.trans (x.trans (st.trans y))) (z.base ((x1.trans x).trans st).has) w u
end
end Mine
end

section
open PySem PySem.W PySem.Calls PyProof.Rows PySem.Builtin PySem.Builtin.ObjectAttr
set_option Elab.async false
set_option linter.unusedVariables false
set_option maxRecDepth 100000
namespace Mine
section
variable {prog : Program} {w : World} {A : Around} {E : Value → Shared → Prop} {s : Shared} {K : Frag} {x C dx : Addr} {es : List DictEntry} {n : Nat} {name : PySem.Str} {v : Value}
theorem set_field {Q : Unit → Shared → Prop} (X : K.In s.heap) (hx : s.heap.get? x = some (instObj C dx)) (hdx : s.heap.get? dx = some (dictOf es n))
    (hs : findIn K (.ref C) "__setattr__" = some (some (.builtin "object.__setattr__"))) (hp : plainOver K C = true) (ht : takerIn K C name = some none) (hh : hasDictIn K C = true) (hr : ∀ e ∈ es, e.refKey = false) (hz : es.length ≤ 900)
    (h : ∀ h' tk' hsh key, key.isStr name = true → (⟨hsh, key, v⟩ : DictEntry).refKey = false → h'.get? dx = some (dictOf (putL name hsh key v es) (putN name es n)) → (∀ b, b ≠ dx → h'.get? b = s.heap.get? b) → Q () { s with heap := h', toks := tk' }) :
    wpAny (model prog w) A (setAttr (.ref x) name v) Q E s := by
  obtain ⟨hp₀, g₀, dr₀, tk₀, os₀⟩ := s
  dsimp only at X hx hdx h ⊢
  have I : InstAt hp₀ x (instObj C dx) C (some (dictOf es n)) := ⟨hx, rfl, rfl, hdx⟩
  refine set_plain X I hs (osa_open (s := ⟨hp₀, g₀, dr₀, tk₀ + 1, os₀⟩) X I hp ht fun b => ?_)
  obtain ⟨cd, hc, hd'⟩ := any_some hh
  refine wpAny_bind (wpAny_pure (wpAny_bind (wpAny_bind (wpAny_loadPart hx (wpAny_bind ((looks_clsIn (h := hp₀) X hc).here (s := ⟨hp₀, g₀, dr₀, tk₀ + 1, os₀⟩) ?_))))))
  rw [hd']
  refine wpAny_pure (a := some dx) (wpAny_bind (wpAny_pure (wpAny_bind ?_)))
  unfold nsSet
  refine wpAny_bind (wpAny_bind (wpAny_askSetting (wpAny_pure (wpAny_bind (wpAny_mkText (wpAny_bind (wpAny_loadPart hdx ?_)))))))
  dsimp only
  have c : (!es.toArray.any (·.key.isStr name) && es.toArray.any (·.refKey)) = false := by
    have : es.toArray.any (·.refKey) = false := by
      rw [← Array.any_toList, List.any_eq_false]
      intro e he
      rw [hr e he]; decide
    rw [this, Bool.and_false]
  rw [aRefKeyMayBeTheName_at, c]
  have D' : (hp₀.update dx (Obj.putName name (PyData.keyHash w.params name) (.str name (tk₀ + 1)) v)).get? dx = some (dictOf (putL name (PyData.keyHash w.params name) (.str name (tk₀ + 1)) v es) (putN name es n)) := by
    have e := putName_dict name (PyData.keyHash w.params name) (.str name (tk₀ + 1)) v es n
    rw [← e]
    exact Heap.get?_update_self _ hdx (by rw [e]; rfl)
  refine wpAny_updatePart hdx ?_
  have len : ∀ l : List DictEntry, (putL name (PyData.keyHash w.params name) (.str name (tk₀ + 1)) v l).length ≤ l.length + 1 := fun l => by
    induction l with
    | nil => simp [putL]
    | cons e r ih => unfold putL; split <;> simp; omega
  refine wpAny_bind (wpAny_lookBehind D' (pastItsLine_dict (by rw [List.size_toArray, sizeLine_eq]; have := len es; omega)) ?_)
  exact wpAny_pure (h _ _ _ _ (by show (name == name) = true; simp) rfl D' fun b hb => Heap.get?_update_other _ _ (Ne.symm hb))
end
theorem isStr_str {k : Value} {a b : PySem.Str} (h : k.isStr a = true) : k.isStr b = decide (b = a) := by
  cases k with
  | str s t =>
    have e : s = a := eq_of_beq h
    subst e
    show (s == b) = _
    by_cases q : b = s
    · subst q; simp
    · simp [q, Ne.symm q]
  | _ => cases h
theorem getL_eq {nm : PySem.Str} {es : List DictEntry} (he : ∀ e ∈ es, e.refKey = false) : getL nm es = some ((es.find? (·.key.isStr nm)).map (·.val)) := by
  unfold getL
  cases q : es.find? (·.key.isStr nm) with
  | some e => rfl
  | none =>
    have : es.any (·.refKey) = false := by
      rw [List.any_eq_false]
      intro e h
      rw [he e h]; decide
    simp only [this, Bool.false_eq_true, if_false]
    rfl
theorem find_put {name nm : PySem.Str} {hsh : Int} {key v : Value} (hk : key.isStr name = true) : ∀ {es : List DictEntry},
    ((putL name hsh key v es).find? (·.key.isStr nm)).map (·.val) = if nm = name then some v else (es.find? (·.key.isStr nm)).map (·.val)
  | [] => by
    show (([⟨hsh, key, v⟩] : List DictEntry).find? (·.key.isStr nm)).map (·.val) = _
    rw [List.find?_cons]
    have e := isStr_str (b := nm) hk
    by_cases q : nm = name
    · subst q; rw [if_pos rfl]; simp only [hk]; rfl
    · rw [if_neg q]; simp only [e, q, decide_false]
  | e :: r => by
    unfold putL
    by_cases z : e.key.isStr name = true
    · rw [if_pos z, List.find?_cons, List.find?_cons]
      have e' := isStr_str (b := nm) z
      by_cases q : nm = name
      · subst q; rw [if_pos rfl]; simp only [z]; rfl
      · rw [if_neg q]; simp only [e', q, decide_false]
    · rw [if_neg z, List.find?_cons, List.find?_cons]
      by_cases y : e.key.isStr nm = true
      · simp only [y]
        have : nm ≠ name := fun q => z (q ▸ y)
        rw [if_neg this]
      · have y' : e.key.isStr nm = false := by simpa using y
        simp only [y']
        exact find_put hk
theorem putL_ref {name : PySem.Str} {hsh : Int} {key v : Value} : ∀ {es : List DictEntry}, (∀ e ∈ es, e.refKey = false) → (⟨hsh, key, v⟩ : DictEntry).refKey = false → ∀ e ∈ putL name hsh key v es, e.refKey = false
  | [], _, hr, e, h => by simp [putL] at h; rw [h]; exact hr
  | a :: r, he, hr, e, h => by
    unfold putL at h
    split at h
    · rcases List.mem_cons.mp h with rfl | h
      · exact he a (.head _)
      · exact he e (.tail _ h)
    · rcases List.mem_cons.mp h with rfl | h
      · exact he _ (.head _)
      · exact putL_ref (fun e' h' => he e' (.tail _ h')) hr e h
theorem Fields.put {name : PySem.Str} {hsh : Int} {key : Value} {i : Int} {t : Tok} {es : List DictEntry} {fs : List (PySem.Str × Int)} (h : Fields es fs) (hk : key.isStr name = true) (hr : (⟨hsh, key, .int i t⟩ : DictEntry).refKey = false) : Fields (putL name hsh key (.int i t) es) ((name, i) :: fs) := by
  refine ⟨putL_ref h.1 hr, fun nm j hj => ?_⟩
  rw [getL_eq (putL_ref h.1 hr), find_put hk]
  rw [List.lookup_cons] at hj
  by_cases q : nm = name
  · subst q
    rw [if_pos rfl]
    simp at hj
    exact ⟨t, by rw [hj]⟩
  · have : (nm == name) = false := by simpa using q
    rw [this] at hj
    obtain ⟨t', e⟩ := h.2 nm j hj
    rw [getL_eq h.1] at e
    rw [if_neg q]
    exact ⟨t', e⟩
theorem putL_len {name : PySem.Str} {hsh : Int} {key v : Value} : ∀ l : List DictEntry, (putL name hsh key v l).length ≤ l.length + 1
  | [] => by simp [putL]
  | e :: r => by unfold putL; split <;> simp; exact putL_len r
theorem Fields.nil : Fields [] [] := ⟨fun _ h => (nomatch h), fun _ _ h => by cases h⟩
end Mine
end

section
open PySem PySem.W PySem.Calls PyProof.Rows
set_option Elab.async false
set_option linter.unusedVariables false
set_option maxRecDepth 100000
namespace Mine

structure Ini (W : Wd) (fd : FuncData) (n : Nat) (hd : Nat) (C : Addr) (hb : Heap) (x dx L a : Addr) (A : Around) (outer : List Env) (X : List Addr) (h : Heap) (m : PySem.Str → Option Value) (fs : List (PySem.Str × Int)) (b : Nat) : Prop where
  cx : Cx W fd L a A outer X h m n hd
  st : Stp (fr outer) hb h
  nx : hb.get? x = none
  nd : hb.get? dx = none
  nL : hb.get? L = none
  old : ∀ b ∈ fr outer, ∃ o, hb.get? b = some o
  mx : x ∈ X
  md : dx ∈ X
  ne : x ≠ dx
  nLx : L ≠ x
  nLd : L ≠ dx
  hx : h.get? x = some (instObj C dx)
  hdx : ∃ es k, h.get? dx = some (dictOf es k) ∧ Fields es fs ∧ es.length + b ≤ 900
def ExI (W : Wd) (fd : FuncData) (n : Nat) (hd : Nat) (C : Addr) (σ : Addr → Sg) (fs : List (PySem.Str × Int)) (b : Nat) (ss : List Stmt) (r : Option (List (PySem.Str × Int))) : Prop :=
  ∀ (hb : Heap) (x dx L a : Addr) (A : Around) (outer : List Env) (X : List Addr) (s : Shared) (m : PySem.Str → Option Value), Ini W fd n hd C hb x dx L a A outer X s.heap m fs b → Loc (hideAll s.heap X) m (σ x) →
    ∀ (Q : Flow → Shared → Prop) (E : Value → Shared → Prop), (∀ h' m' tk' fs', r = some fs' → Ini W fd n hd C hb x dx L a A outer X h' m' fs' 0 → Q .next { s with heap := h', toks := tk' }) →
      (∀ e h₁ h' m' tk' ctx fl, r = none → Stp (fr outer) hb h₁ → Cx W fd L a A outer X h₁ m' n hd → Stp (fr (callEnv fd L a :: outer)) h₁ h' → Exo h₁ h' e ctx fl → FlOk (callEnv fd L a :: outer) fl → (A.handled = none → ctx = .none) → E (.ref e) { s with heap := h', toks := tk' }) →
      wpAny (model W.prog W.w) A (execs ss (callEnv fd L a)) Q E s
section
variable {W : Wd} {fd : FuncData} {n : Nat} {hd : Nat} {C : Addr} {σ : Addr → Sg} {fs : List (PySem.Str × Int)} {b : Nat} {r : Option (List (PySem.Str × Int))}
theorem Ini.stepL {hb : Heap} {x dx L a : Addr} {A : Around} {outer : List Env} {X : List Addr} {h h' : Heap} {m m' : PySem.Str → Option Value} (I : Ini W fd n hd C hb x dx L a A outer X h m fs b) (y : StpL L (fr outer) h h') (hn : h'.Ns L m') : Ini W fd n hd C hb x dx L a A outer X h' m' fs b := by
  have out : ∀ c, hb.get? c = none → c ∉ fr outer := fun c hc q => by
    obtain ⟨o, e⟩ := I.old c q
    rw [hc] at e; cases e
  refine ⟨I.cx.stepL y hn, ⟨fun c o e q => ?_, fun c o e q => ?_⟩, I.nx, I.nd, I.nL, I.old, I.mx, I.md, I.ne, I.nLx, I.nLd, y.keep _ _ I.hx (Ne.symm I.nLx) (out _ I.nx), ?_⟩
  · exact y.keep c o (I.st.keep c o e q) (fun z => by rw [z, I.nL] at e; cases e) q
  · obtain ⟨s1, e1⟩ := I.st.slot c o e q
    obtain ⟨s2, e2⟩ := y.slot c _ e1 (fun z => by rw [z, I.nL] at e; cases e) q
    exact ⟨s2, e2⟩
  · obtain ⟨es, k, h1, h2⟩ := I.hdx
    exact ⟨es, k, y.keep _ _ h1 (Ne.symm I.nLd) (out _ I.nd), h2⟩
theorem ExI.nil : ExI W fd n hd C σ fs b [] (some fs) := fun hb x dx L a A outer X s m I lo Q E hq hr =>
  wpAny_execs_nil (hq s.heap m s.toks fs rfl ⟨I.cx, I.st, I.nx, I.nd, I.nL, I.old, I.mx, I.md, I.ne, I.nLx, I.nLd, I.hx, let ⟨es, k, a, b, c⟩ := I.hdx; ⟨es, k, a, b, by omega⟩⟩)
theorem ExI.pre {st : Stmt} {rest : List Stmt} {τ : Addr → Sg} {R : Prop} [Decidable R] (h1 : ∀ x, ExX W fd n hd (σ x) [st] (fun o => o = .next (τ x)) R) (hR : R → r = none) (h2 : ExI W fd n hd C τ fs b rest r) : ExI W fd n hd C σ fs b (st :: rest) r :=
  fun hb x dx L a A outer X s m I lo Q E hq hr => by
    refine wpAny_execs_cons (Ex.single (L := L) (a := a) (h1 x L a A outer X s m I.cx lo _ _ (fun f o h' m' tk' y hn hP hO => ?_) fun e h₁ h' m' tk' ctx fl q y hn lo' st z w u => ?_))
    · subst hP
      cases f with
      | next =>
        have I' := I.stepL y hn
        exact h2 hb x dx L a A outer X { s with heap := h', toks := tk' } m' I' hO Q E (fun h'' m'' tk'' fs' q I'' => hq h'' m'' tk'' fs' q I'') fun e h₁ h'' m'' tk'' ctx fl q a1 a2 a3 a4 a5 a6 => hr e h₁ h'' m'' tk'' ctx fl q a1 a2 a3 a4 a5 a6
      | _ => exact hO.elim
    · have I' := I.stepL y hn
      exact hr e h₁ h' m' tk' ctx fl (hR q) I'.st I'.cx st z w u
theorem Ini.put {hb : Heap} {x dx L a : Addr} {A : Around} {outer : List Env} {X : List Addr} {h h' : Heap} {m : PySem.Str → Option Value} {fs' : List (PySem.Str × Int)} {b' : Nat} (I : Ini W fd n hd C hb x dx L a A outer X h m fs b) (o : ∀ c, c ≠ dx → h'.get? c = h.get? c) (hd' : ∃ es k, h'.get? dx = some (dictOf es k) ∧ Fields es fs' ∧ es.length + b' ≤ 900) : Ini W fd n hd C hb x dx L a A outer X h' m fs' b' := by
  have out : ∀ c, hb.get? c = none → c ∉ fr outer := fun c hc q => by
    obtain ⟨o, e⟩ := I.old c q
    rw [hc] at e; cases e
  have S := I.cx.sx
  have k : (hideAll h X).StaysIn (hideAll h' X) := fun c oc e => by
    have nb : c ∉ X := fun mm => by rw [hideAll_none X mm] at e; cases e
    exact hideAll_get X ((o c fun q => nb (q ▸ I.md)).trans (of_hideAll X e)) nb
  have st2 : Stp (fr outer) hb h' := ⟨fun c oc e q => (o c (fun z => by rw [z, I.nd] at e; cases e)).trans (I.st.keep c oc e q), fun c oc e q => by
    obtain ⟨sl, e1⟩ := I.st.slot c oc e q
    exact ⟨sl, (o c (fun z => by rw [z, I.nd] at e; cases e)).trans e1⟩⟩
  have fro : ∀ {l : List Env}, (∀ c ∈ fr l, c ≠ dx ∧ c ∈ X) → h.FunFrames (hideAll h X) l → h'.FunFrames (hideAll h' X) l := fun {l} => by
    induction l with
    | nil => intro _ _; trivial
    | cons env r ih =>
      rintro hs ⟨hk, ⟨L₁, oL, hf, _, ho, hd⟩, hr⟩
      have mL : L₁ ∈ fr (env :: r) := by simp [fr, hf]
      exact ⟨hk, ⟨L₁, oL, hf, hideAll_none X (hs L₁ mL).2, (o L₁ (hs L₁ mL).1).trans ho, hd⟩, ih (fun c hc => hs c (by rw [fr, List.filterMap_cons, hf]; exact List.mem_cons_of_mem _ hc)) hr⟩
  have hn' : h'.Ns L m := let ⟨oL, es, ep, e, q⟩ := I.cx.ns; ⟨oL, es, ep, (o L I.nLd).trans e, q⟩
  refine ⟨⟨⟨S.gd.mono k, S.stack, fro (fun c hc => ⟨?_, S.sub c hc⟩) S.frames, S.sub, fun c hc => ?_, S.room, S.units, S.hand.mono k⟩, hn'⟩, st2, I.nx, I.nd, I.nL, I.old, I.mx, I.md, I.ne, I.nLx, I.nLd, (o x I.ne).trans I.hx, hd'⟩
  · rcases List.mem_cons.mp (show c ∈ L :: fr outer from hc) with z | z
    · rw [z]; exact I.nLd
    · exact fun q => out dx I.nd (q ▸ z)
  · by_cases q : c = dx
    · subst q; obtain ⟨es, kk, e, _⟩ := hd'; exact ⟨_, e⟩
    · obtain ⟨oc, e⟩ := S.ex c hc; exact ⟨oc, (o c q).trans e⟩
structure Sto (K : Frag) (C : Addr) (name : PySem.Str) : Prop where
  s : findIn K (.ref C) "__setattr__" = some (some (.builtin "object.__setattr__"))
  o : plainOver K C = true
  t : takerIn K C name = some none
  d : hasDictIn K C = true
theorem setField_go {hb : Heap} {x dx L a : Addr} {A : Around} {outer : List Env} {X : List Addr} {s : Shared} {m : PySem.Str → Option Value} {name : PySem.Str} {v : Value} {i : Int} {Q : Unit → Shared → Prop} {E : Value → Shared → Prop} (I : Ini W fd n hd C hb x dx L a A outer X s.heap m fs (b + 1)) (st : Sto W.K C name) (r : ∃ t, v = .int i t)
    (h : ∀ h' tk', Ini W fd n hd C hb x dx L a A outer X h' m ((name, i) :: fs) b → (hideAll s.heap X).StaysIn (hideAll h' X) → Q () { s with heap := h', toks := tk' }) : wpAny (model W.prog W.w) A (setAttr (.ref x) name v) Q E s := by
  obtain ⟨es, k, h1, h2, h3⟩ := I.hdx
  obtain ⟨t, rfl⟩ := r
  refine set_field (I.cx.sx.gd.X.keeps fun b o e => of_hideAll X e) I.hx h1 st.s st.o st.t st.d h2.1 (by omega) fun h' tk' hsh key a1 a2 a3 a4 => h h' tk' (I.put a4 ⟨_, _, a3, h2.put a1 a2, by have := putL_len (name := name) (hsh := hsh) (key := key) (v := Value.int i t) es; omega⟩) fun c oc e => ?_
  have nb : c ∉ X := fun mm => by rw [hideAll_none X mm] at e; cases e
  exact hideAll_get X ((a4 c fun q => nb (q ▸ I.md)).trans (of_hideAll X e)) nb
theorem ExI.store {sc : Scope} (F : FdIs fd sc) {name : PySem.Str} {e : Expr} {p1 p2 pos : Pos} {rest : List Stmt} {i : Int} (h1 : ∀ x, Ev W fd n hd (σ x) e (.int i)) (hself : ∀ x, List.lookup (PySem.Str.ofString "self") (σ x) = some (D.fn (.ref x))) (st : Sto W.K C name) (h2 : ExI W fd n hd C σ ((name, i) :: fs) b rest r)
    (hl : sc.names.lookup (PySem.Str.ofString "self") = some .local := by rfl)
    (hs : ∀ env, swapsWith e (some (.Attribute (.Name "self" p1) name p2)) pos.line env = pure false := by intro _; rfl) : ExI W fd n hd C σ fs (b + 1) (.Assign [.Attribute (.Name "self" p1) name p2] e pos :: rest) r :=
  fun hb x dx L a A outer X s m I lo Q E hq hr => by
    refine wpAny_execs_cons (plainObj_wpAny_Assign_Attribute (h1 x L a A outer X s m I.cx lo _ _ fun v h₁ tk₁ y rv => ?_) (hs _))
    have I₁ := I.stepL y.toL (y.ns I.cx.ns)
    have lo₁ := lo.mono (y.hid I.cx.sx.sub)
    refine Ev.loc F (hself x) hl rfl L a A outer X { s with heap := h₁, toks := tk₁ } m I₁.cx lo₁ _ _ fun v' h₂ tk₂ y₂ rs => ?_
    have ev : v' = .ref x := by cases rs; rfl
    subst ev
    have I₂ := I₁.stepL y₂.toL (y₂.ns I₁.cx.ns)
    have lo₂ := lo₁.mono (y₂.hid I.cx.sx.sub)
    refine setField_go (s := { s with heap := h₂, toks := tk₂ }) I₂ st (by cases rv; exact ⟨_, rfl⟩) fun h₃ tk₃ I₃ k₃ => ?_
    exact h2 hb x dx L a A outer X { s with heap := h₃, toks := tk₃ } m I₃ (lo₂.mono k₃) Q E (fun h'' m'' tk'' fs' q I'' => hq h'' m'' tk'' fs' q I'') fun e h₁ h'' m'' tk'' ctx fl q a1 a2 a3 a4 a5 a6 => hr e h₁ h'' m'' tk'' ctx fl q a1 a2 a3 a4 a5 a6
end
def CallKX (W : Wd) (n : Nat) (hd : Nat) (f : Value) (ds : List D) (keys : List PySem.Str) (kds : List D) (r : Option D) : Prop :=
  ∀ (A : Around) (outer : List Env) (X : List Addr) (s : Shared) (vs kvs : List Value), Sx W A outer X s.heap n hd → RepL (hideAll s.heap X) vs ds → RepL (hideAll s.heap X) kvs kds → GoX W A outer X s (call f vs (keys.zip kvs)) r
theorem Sx.under {W : Wd} {A : Around} {outer : List Env} {X : List Addr} {h : Heap} {n hd : Nat} {c : Code} (S : Sx W A outer X h (n + 1) hd) (hw : c.weight ≤ 1) (hu : c.cUnits ≤ 8) (he : c.envs = []) : Sx W (A.under c) outer X h n hd := by
  refine ⟨S.gd, ?_, S.frames, S.sub, S.ex, ?_, ?_, S.hand⟩
  · show pushEnvs c.envs A.frames = some outer
    rw [he]; exact S.stack
  · have := S.room; show A.depth + c.weight + n < recursionLimit; omega
  · have := S.units; show A.units + c.cUnits + 8 * n + 80 < cLine; omega
section
variable {W : Wd} {n : Nat} {hd : Nat}
theorem weight_make (C : Addr) (rest : List Value) (kw : List (PySem.Str × Value)) : (Code.builtin "type.__call__" ⟨.ref C :: rest, kw⟩).weight = 1 := rfl
theorem CallKX.cls {C fI : Addr} {oc : Value} {od : Option Addr} {osl : Array (Option Value)} {fd : FuncData} {ds kds wds : List D} {keys names : List PySem.Str} {body : List Stmt} {r : Option (List (PySem.Str × Int))}
    (hm : makesIn W.K C = true) (hi : findIn W.K (.ref C) "__init__" = some (some (.ref fI))) (hf : typeIn W.K (.ref fI) = some (.type "function"))
    (ho : W.K.lookup fI = some ⟨oc, od, .func fd, osl⟩) (hcd : codeIn W.K fd.code fd.qualname = true) (hbody : fd.body = .stmts body)
    (hb : ∀ (x : Addr) (vs kvs : List Value), vs.length = ds.length → kvs.length = kds.length → ∃ wvs, (∀ S, peek W.K S (bindArgs fd ⟨.ref x :: vs, keys.zip kvs⟩) = some (names.zip (.ref x :: wvs))) ∧ ∀ g, RepL g vs ds → RepL g kvs kds → RepL g wvs wds)
    (hl : names.length = wds.length + 1) (hloc : ∀ x ∈ names, fd.scope.names.lookup x = some .local)
    (hinit : ∀ fd' sc, sc = fd.scope → FdIs fd' sc → ExI W fd' n hd C (fun x => (names.zip (.fn (.ref x) :: wds)).reverse) [] 20 body r)
    (hcell : ∀ x ∈ fd.scope.names, x.2 ≠ .cell := by decide) (hco : fd.scope.isCoroutine = false := by rfl) (hgen : fd.scope.isGenerator = false := by rfl) (hk : fd.scope.kind = .function := by rfl) (hgl : fd.globals = mainGlobals := by rfl) (hbl : fd.builtins = builtinsNs := by rfl) :
    CallKX W (n + 2) hd (.ref C) ds keys kds (r.map (D.obj C)) := by
  intro A outer X s vs kvs S rv rk Q E hq hr
  obtain ⟨h, g, dr, tk, os⟩ := s
  have X₀ : W.K.In h := S.gd.X.keeps (fun b o e => of_hideAll X e)
  obtain ⟨wvs, hpeek, hrep⟩ := hb (h.objs.size + 1) vs kvs rv.len rk.len
  refine wpAny_call (make_core (makes_of X₀ hm) (looks_findIn X₀ hi) (fun self => bind_fn X₀ self hf) (.inl rfl) ?_)
  generalize hH : (h.push emptyDict).push (instObj C h.objs.size) = h₁
  have p1 := Stp.push (fs := fr outer) (h := h) emptyDict
  have p2 := Stp.push (fs := fr outer) (h := h.push emptyDict) (instObj C h.objs.size)
  have st₁ : Stp (fr outer) h h₁ := hH ▸ p1.trans p2
  have kp : ∀ b o, h.get? b = some o → h₁.get? b = some o := fun b o e => hH ▸ Heap.get?_push_of_some _ (Heap.get?_push_of_some _ e)
  have hx : h₁.get? (h.objs.size + 1) = some (instObj C h.objs.size) := by
    rw [← hH]; have := Heap.get?_push_size (h.push emptyDict) (o := instObj C h.objs.size) rfl; rwa [Heap.size_push] at this
  have hdx : h₁.get? h.objs.size = some emptyDict := by rw [← hH]; exact Heap.get?_push_of_some _ (Heap.get?_push_size _ rfl)
  have nx : h.get? (h.objs.size + 1) = none := Heap.get?_none_of_le (Nat.le_succ _)
  have nd : h.get? h.objs.size = none := Heap.get?_none_of_le (Nat.le_refl _)
  obtain ⟨S₁, k₁⟩ := S.grow (N := [h.objs.size + 1, h.objs.size]) st₁ (by intro b hb; simp only [List.mem_cons, List.not_mem_nil, or_false] at hb; rcases hb with rfl | rfl <;> assumption)
    (by intro b hb; simp only [List.mem_cons, List.not_mem_nil, or_false] at hb; rcases hb with rfl | rfl; exact ⟨_, hx⟩; exact ⟨_, hdx⟩)
  have S₂ := S₁.under (c := .builtin "type.__call__" ⟨.ref C :: vs, keys.zip kvs⟩) (Nat.le_of_eq (weight_make _ _ _)) (by show (1 : Nat) ≤ 8; decide) rfl
  have X₁ : W.K.In h₁ := X₀.keeps kp
  have rw₁ : RepL (hideAll h₁ ([h.objs.size + 1, h.objs.size] ++ X)) (.ref (h.objs.size + 1) :: wvs) (.fn (.ref (h.objs.size + 1)) :: wds) := .cons (.fn _) (hrep _ (rv.mono k₁) (rk.mono k₁))
  have len : (names.zip (Value.ref (h.objs.size + 1) :: wvs)).length = names.length := by rw [List.length_zip, List.length_cons, show wvs.length = wds.length from by have := rw₁.len; simpa using this]; omega
  refine codeAny_call_def (body := body) (binds := names.zip (.ref (h.objs.size + 1) :: wvs)) (by have := S₂.room; omega) (X₁ _ _ ho) rfl (S₁.gd.T.nolimit.keeps fun b o e => of_hideAll _ e) (codeRec_of X₁ hcd) hbody (kp_binds X₁ hpeek) hcell
    (fun y hy => hloc _ (List.of_mem_zip hy).1) (fun h₀ hn hk₀ => ?_) hco hgen hk
  obtain ⟨Cx₀, lo, hLX⟩ := enter_go (s := ⟨h₁, g, dr, tk, os⟩) (f := fI) (fd := fd) S₂ rw₁ hn hk₀ (by rw [List.length_cons]; exact hl) hk
  have old : ∀ b ∈ fr outer, ∃ o, h.get? b = some o := fun b hb => S.ex b (S.sub b hb)
  have nL : h.get? h₁.objs.size = none := Heap.get?_none_of_le (by rw [← hH, Heap.size_push, Heap.size_push]; exact Nat.le_trans (Nat.le_succ _) (Nat.le_succ _))
  have I : Ini W fd n hd C h (h.objs.size + 1) h.objs.size h₁.objs.size fI ((A.under (.builtin "type.__call__" ⟨.ref C :: vs, keys.zip kvs⟩)).deeper (callEnv fd h₁.objs.size fI)) outer (h₁.objs.size :: ([h.objs.size + 1, h.objs.size] ++ X)) h₀ (fun y => (names.zip (.ref (h.objs.size + 1) :: wvs)).reverse.lookup y) [] 20 := by
    refine ⟨Cx₀, st₁.trans (.of_keeps hk₀), nx, nd, nL, old, by simp, by simp, Nat.succ_ne_self _, fun q => ?_, fun q => ?_, hk₀ _ _ hx, ⟨[], 0, hk₀ _ _ hdx, Fields.nil, by simp⟩⟩
    · have := Heap.lt_size hx; rw [q] at this; exact Nat.lt_irrefl _ this
    · have := Heap.lt_size hdx; rw [q] at this; exact Nat.lt_irrefl _ this
  have back : ∀ {h' : Heap}, Stp (fr outer) h h' → ∀ {h'' : Heap}, Stp (fr (callEnv fd h₁.objs.size fI :: outer)) h' h'' → Stp (fr outer) h h'' := fun {h'} x {h''} y => by
    refine ⟨fun b o e q => y.keep b o (x.keep b o e q) fun z => ?_, fun b o e q => ?_⟩
    · rcases List.mem_cons.mp (show b ∈ h₁.objs.size :: fr outer from z) with z | z
      · rw [z, nL] at e; cases e
      · exact q z
    · obtain ⟨s1, e1⟩ := x.slot b o e q
      obtain ⟨s2, e2⟩ := y.slot b _ e1 (show b ∈ h₁.objs.size :: fr outer from .tail _ q)
      exact ⟨s2, e2⟩
  refine hinit fd fd.scope rfl ⟨rfl, hk, hgl, hbl⟩ h _ _ _ fI _ outer _ ⟨h₀, g, dr, tk + (names.zip (Value.ref (h.objs.size + 1) :: wvs)).length, os⟩ _ I lo _ _ (fun h' m' tk' fs' q I' => ?_) fun e h₂ h' m' tk' ctx fl q a1 a2 a3 a4 a5 a6 => ?_
  · obtain ⟨es, k, e1, e2, _⟩ := I'.hdx
    exact ⟨rfl, hq _ h' tk' (.obj C fs') (by rw [q]; rfl) I'.st (.obj (hideAll_get X I'.hx fun mm => by obtain ⟨o, e⟩ := S.ex _ mm; rw [nx] at e; cases e) (hideAll_get X e1 fun mm => by obtain ⟨o, e⟩ := S.ex _ mm; rw [nd] at e; cases e) e2)⟩
  · have C' := a2.step a3
    have fw : fl = none ∨ fl = some .none ∨ fl = some (rawInt h₁.objs.size) := by
      rcases a5 with w | w | ⟨env, r', L', e1, e2, e3⟩
      · exact .inl w
      · exact .inr (.inl w)
      · cases e1
        cases e2
        exact .inr (.inr e3)
    refine leaving_go (s := ⟨h', g, dr, tk', os⟩) (base := hideAll h' (h₁.objs.size :: ([h.objs.size + 1, h.objs.size] ++ X))) (L := h₁.objs.size) C'.sx.stack C'.sx.frames rfl a4 a3.has fw fun h'' z' c => ?_
    have st' : Stp (fr outer) h h'' := back a1 (a3.ch c)
    exact hr e h'' tk' ctx (some .none) (by rw [q]; rfl) st' (z'.base fun b o e => a1.has b o e) (.inr (.inl rfl)) a6
theorem CallX.of_k {f : Value} {ds : List D} {r : Option D} (h : CallKX W n hd f ds [] [] r) : CallX W n hd f ds r := fun A outer X s vs S rv => h A outer X s vs [] S rv .nil
end
end Mine
end

section
open PySem PySem.W PySem.Calls PyProof.Rows
set_option Elab.async false
set_option linter.unusedVariables false
set_option maxRecDepth 100000
namespace Mine
section
variable {W : Wd} {fd : FuncData} {n : Nat} {hd : Nat} {σ : Sg}
def KitD (W : Wd) (d : D) (t : Value) : Prop := ∀ (s : Shared) (X : List Addr) (v : Value), Gd W (hideAll s.heap X) → Rep (hideAll s.heap X) v d → v ≠ .builtin "__main__.__loader__#opaque" ∧ ∃ H, KitX W.K v t H ∧ H s.heap
theorem KitD.int {i : Int} : KitD W (.int i) (.type "int") := fun s X v G r => by cases r; exact ⟨(fun q => by cases q), _, kitx_int, trivial⟩
theorem KitD.str {x : PySem.Str} : KitD W (.str x) (.type "str") := fun s X v G r => by cases r; exact ⟨(fun q => by cases q), _, kitx_str, trivial⟩
theorem KitD.bytes {x : Array UInt8} : KitD W (.bytes x) (.type "bytes") := fun s X v G r => by cases r; exact ⟨(fun q => by cases q), _, kitx_bytes, trivial⟩
theorem KitD.tup {l : List D} : KitD W (.tup l) (.type "tuple") := fun s X v G r => by
  cases r with
  | tup ht _ => obtain ⟨o, ho, hc, _⟩ := tup_hid ht; exact ⟨(fun q => by cases q), _, kitx_tuple, o, ho, hc⟩
theorem KitD.list {l : List D} : KitD W (.list l) (.type "list") := fun s X v G r => by
  cases r with
  | list ht _ => obtain ⟨o, ho, hc, _⟩ := list_hid ht; exact ⟨(fun q => by cases q), _, kitx_list, o, ho, hc⟩
structure OwnCls (K : Frag) (C : Addr) : Prop where
  g : plainGet K C "__class__" = true
  d : hasDictIn K C = true
  a : findIn K (.ref C) "__class__" = some (some (.builtin "object.__class__"))
  n : specialIn K (.builtin "object.__class__") "__get__" = some (some (.builtin "getset_descriptor.__get__"))
  t : takesIn K (.builtin "object.__class__") = some true
  m : mroIn K C (.type "object") = some true
theorem KitD.obj {C : Addr} {fs : List (PySem.Str × Int)} (o : OwnCls W.K C) : KitD W (.obj C fs) (.ref C) := fun s X v G r => by
  cases r with
  | obj h1 h2 h3 => exact ⟨(fun q => by cases q), _, kitx_own (ox := instObj C _) (od := dictOf _ _) o.g o.d o.a o.n o.t o.m, ⟨of_hideAll X h1, rfl, rfl, of_hideAll X h2⟩⟩
theorem Call.isi {d : D} {t c : Value} {b : Bool} (k : KitD W d t) (e : kitOne W.K t c = some b) : Call W n hd (.builtin "isinstance") [d, .fn c] (.bool b) := fun A outer X s vs S r Q E hq => by
  cases r with
  | cons r1 r2 =>
  cases r2 with
  | cons r2 r3 =>
  cases r3
  have ec := r2
  obtain ⟨hx, H, Z, p⟩ := k s X _ S.gd r1
  cases ec
  exact kia_one Z (S.gd.X.keeps fun b o e => of_hideAll X e) p e hx fun tk => hq _ _ _ .refl (.bool _)
theorem RepL.fns {g : Heap} : ∀ {vs its : List Value}, RepL g vs (its.map D.fn) → vs = its
  | _, [], .nil => rfl
  | _, _ :: _, .cons h r => by
    have := r.fns
    cases h
    rw [this]
theorem Call.isiTup {d : D} {t : Value} {its : List Value} {b : Bool} (k : KitD W d t) (e : kitAny W.K t its = some b) : Call W n hd (.builtin "isinstance") [d, .tup (its.map D.fn)] (.bool b) := fun A outer X s vs S r Q E hq => by
  cases r with
  | cons r1 r2 =>
  cases r2 with
  | cons r2 r3 =>
  cases r3
  obtain ⟨hx, H, Z, p⟩ := k s X _ S.gd r1
  cases r2 with
  | tup ht rl =>
  have ev := rl.fns
  subst ev
  obtain ⟨o, ho, hc, ep, hd'⟩ := tup_hid ht
  obtain ⟨oc, od, oda, osl⟩ := o
  dsimp only at hc hd'
  subst hc hd'
  exact kia_tup Z (S.gd.X.keeps fun b o e => of_hideAll X e) p ho e hx fun tk => hq _ _ _ .refl (.bool _)
structure Rdd (K : Frag) (C : Addr) (name : PySem.Str) : Prop where
  g : findIn K (.ref C) "__getattribute__" = some (some (.builtin "object.__getattribute__"))
  d : hasDictIn K C = true
  a : findIn K (.ref C) name = some none
theorem Ev.attr {x name : PySem.Str} {np pos : Pos} {C : Addr} {fs : List (PySem.Str × Int)} {i : Int} (h1 : Ev W fd n hd σ (.Name x np) (.obj C fs)) (hf : fs.lookup name = some i) (R : Rdd W.K C name) : Ev W fd n hd σ (.Attribute (.Name x np) name pos) (.int i) :=
  fun L a A outer X s m Cx lo Q E hq => Attribute_name (h1 L a A outer X s m Cx lo _ _ fun v h' tk y r => by
    have C1 := Cx.step y
    cases r with
    | obj e1 e2 e3 =>
      obtain ⟨t, ht⟩ := e3.2 name i hf
      refine get_value (s := { s with heap := h', toks := tk }) (C := C) (ox := instObj C _) (od := some (dictOf _ _)) (C1.sx.gd.X.keeps fun b o e => of_hideAll X e) ⟨of_hideAll X e1, rfl, rfl, of_hideAll X e2⟩ R.g (findObj_own R.d R.a rfl (by rw [lookIn_dict]; exact ht)) rfl ?_
      exact hq _ h' (tk + 1) y (.int _ _))
end
end Mine
end

section
open PySem PySem.W PySem.Calls PyProof.Rows
set_option Elab.async false
set_option linter.unusedVariables false
set_option maxRecDepth 100000
namespace Mine
section
variable {W : Wd} {fd : FuncData} {n : Nat} {hd : Nat} {σ : Sg}
theorem Cx.turn {L a : Addr} {A : Around} {outer : List Env} {X : List Addr} {h h' : Heap} {m : PySem.Str → Option Value} {I : Addr} (C : Cx W fd L a A outer X h m n hd) (mI : I ∈ X) (nL : I ≠ L) (nf : I ∉ fr outer) (o : ∀ b ob, b ≠ I → h.get? b = some ob → h'.get? b = some ob) (ex : ∃ ob, h'.get? I = some ob) :
    Cx W fd L a A outer X h' m n hd ∧ (hideAll h X).StaysIn (hideAll h' X) ∧ StpL L (fr outer) (hideAll h [I]) h' := by
  have S := C.sx
  have k : (hideAll h X).StaysIn (hideAll h' X) := fun c oc e => by
    have nb : c ∉ X := fun mm => by rw [hideAll_none X mm] at e; cases e
    exact hideAll_get X (o c _ (fun q => nb (q ▸ mI)) (of_hideAll X e)) nb
  have fro : ∀ {l : List Env}, (∀ c ∈ fr l, c ≠ I ∧ c ∈ X) → h.FunFrames (hideAll h X) l → h'.FunFrames (hideAll h' X) l := fun {l} => by
    induction l with
    | nil => intro _ _; trivial
    | cons env r ih =>
      rintro hs ⟨hk, ⟨L₁, oL, hf, _, ho, hd⟩, hr⟩
      have mL : L₁ ∈ fr (env :: r) := by simp [fr, hf]
      exact ⟨hk, ⟨L₁, oL, hf, hideAll_none X (hs L₁ mL).2, o L₁ _ (hs L₁ mL).1 ho, hd⟩, ih (fun c hc => hs c (by rw [fr, List.filterMap_cons, hf]; exact List.mem_cons_of_mem _ hc)) hr⟩
  refine ⟨⟨⟨S.gd.mono k, S.stack, fro (fun c hc => ⟨?_, S.sub c hc⟩) S.frames, S.sub, fun c hc => ?_, S.room, S.units, S.hand.mono k⟩, let ⟨oL, es, ep, e, q⟩ := C.ns; ⟨oL, es, ep, o L _ (Ne.symm nL) e, q⟩⟩, k, ⟨fun b ob e _ _ => ?_, fun b ob e _ _ => ⟨ob.slots, ?_⟩⟩⟩
  · rcases List.mem_cons.mp (show c ∈ L :: fr outer from hc) with z | z
    · rw [z]; exact Ne.symm nL
    · exact fun q => nf (q ▸ z)
  · by_cases q : c = I
    · subst q; exact ex
    · obtain ⟨oc, e⟩ := S.ex c hc; exact ⟨oc, o c _ q e⟩
  · exact o b ob (fun q => by rw [q, hideAll_none [I] (by simp)] at e; cases e) (of_hideAll [I] e)
  · exact o b ob (fun q => by rw [q, hideAll_none [I] (by simp)] at e; cases e) (of_hideAll [I] e)
structure ItOk (W : Wd) (A : Around) (h1 : Heap) (X : List Addr) (I : Addr) (fp wr : List Addr) (items : List D) (P : Nat → Value → Prop) (St : Nat → Heap → Prop) : Prop where
  wk : Walks W.prog W.w A I fp wr items.length P St
  wr : ∀ b ∈ wr, b = I
  ex : ∀ i h, St i h → ∃ o, h.get? I = some o
  fp : ∀ b ∈ fp, b = I ∨ ∃ o, (hideAll h1 X).get? b = some o
  item : ∀ i v, P i v → ∃ d, items[i]? = some d ∧ Rep (hideAll h1 X) v d
def Itb (W : Wd) (n hd : Nat) (d : D) (items : List D) : Prop := ∀ (A : Around) (outer : List Env) (X : List Addr) (s : Shared) (v : Value), Sx W A outer X s.heap n hd → Rep (hideAll s.heap X) v d → ∀ (Q : Value → Shared → Prop) (E : Value → Shared → Prop),
  (∀ I h' tk' fp wr P St, s.heap.get? I = none → Stp (fr outer) s.heap h' → ItOk W A s.heap X I fp wr items P St → St 0 h' → Q (.ref I) { s with heap := h', toks := tk' }) → wpAny (model W.prog W.w) A (pyIter v) Q E s
def Tgt (W : Wd) (fd : FuncData) (n hd : Nat) (t : Expr) (d : D) (f : Sg → Sg) : Prop :=
  ∀ (σ : Sg) (L a : Addr) (A : Around) (outer : List Env) (X : List Addr) (s : Shared) (m : PySem.Str → Option Value) (v : Value), Cx W fd L a A outer X s.heap m n hd → Loc (hideAll s.heap X) m σ → Rep (hideAll s.heap X) v d → ∀ (Q : Unit → Shared → Prop) (E : Value → Shared → Prop),
    (∀ h' m' tk', StpL L (fr outer) s.heap h' → h'.Ns L m' → Loc (hideAll h' X) m' (f σ) → Q () { s with heap := h', toks := tk' }) → wpAny (model W.prog W.w) A (assign t (callEnv fd L a) v) Q E s
theorem Tgt.name {sc : Scope} (F : FdIs fd sc) {x : PySem.Str} {p : Pos} {d : D} (hl : sc.names.lookup x = some .local := by rfl) : Tgt W fd n hd (.Name x p) d (fun σ => (x, d) :: σ) :=
  fun σ L a A outer X s m v C lo r Q E hq => wpAny_assign_Name (store_go C lo r (fun h' tk' y hn l => hq h' _ tk' y hn l) F hl)
def LoopP (G : Sg) (P : Out → Prop) (o : Out) : Prop := (∃ τ, (o = .next τ ∨ o = .cont τ) ∧ Sup τ G) ∨ ∃ d, o = .ret d ∧ P (.ret d)
theorem forTurn_eq (t : Expr) (it : Value) (body : List Stmt) (env : Env) : forTurn t it body [] env = (standAt t.pos >>= fun _ => ((pyNext it).onRaise fun _ => standAt { t.pos with line := 0 }) >>= fun r => match r with
    | none => again (.block [] env)
    | some v => letOwnedTupleGo t it v >>= fun _ => assign t env v >>= fun _ => execs body env >>= fun f => match f with
      | .next | .cont => again (.forLoop t it body [] env)
      | .brk => pure (.done .next)
      | .ret v => pure (.done (.ret v))) := rfl
theorem forLoop_go {L a : Addr} {A : Around} {outer : List Env} {X : List Addr} {h1 : Heap} {m1 : PySem.Str → Option Value} {I : Addr} {fp wr : List Addr} {items : List D} {Pv : Nat → Value → Prop} {St : Nat → Heap → Prop} {G : Nat → Sg} {t : Expr} {f : Nat → Sg → Sg} {body : List Stmt} {P : Out → Prop} {R' : Result → Shared → Prop} {g : Array GenState} {dr : Drawn} {os : OsState}
    (O : ItOk W A h1 X I fp wr items Pv St) (nI : h1.get? I = none) (C1 : Cx W fd L a A outer X h1 m1 n hd) (ht : ∀ i d, items[i]? = some d → Tgt W fd n hd t d (f i)) (hgo : ∀ it v, letOwnedTupleGo t it v = pure ())
    (hb : ∀ i d, items[i]? = some d → ExC W fd n hd (f i (G i)) body (LoopP (G (i + 1)) P)) :
    ∀ (k i : Nat), i + k = items.length → ∀ (h : Heap) (tk : Nat) (m : PySem.Str → Option Value), StpL L (fr outer) h1 h → h.Ns L m → Loc (hideAll h (I :: X)) m (G i) → St i h →
      (∀ h' tk' m', StpL L (fr outer) h1 h' → h'.Ns L m' → Loc (hideAll h' (I :: X)) m' (G items.length) → R' (.ok .next) ⟨h', g, dr, tk', os⟩) →
      (∀ v d h' tk' m', P (.ret d) → StpL L (fr outer) h1 h' → h'.Ns L m' → Rep (hideAll h' (I :: X)) v d → R' (.ok (.ret v)) ⟨h', g, dr, tk', os⟩) →
      codeP (model W.prog W.w) A (.forLoop t (.ref I) body [] (callEnv fd L a)) R' ⟨h, g, dr, tk, os⟩ := by
  have S1 := C1.sx
  have hL1 : L ∈ X := S1.sub L (show L ∈ L :: fr outer from .head _)
  have nL : I ≠ L := fun q => by obtain ⟨o, e⟩ := S1.ex L hL1; rw [← q, nI] at e; cases e
  have nf : I ∉ fr outer := fun q => by obtain ⟨o, e⟩ := S1.ex I (S1.sub I (show I ∈ L :: fr outer from .tail _ q)); rw [nI] at e; cases e
  have hidI : ∀ {h h' : Heap}, (∀ b ob, b ≠ I → h.get? b = some ob → h'.get? b = some ob) → StpL L (fr outer) h1 h → StpL L (fr outer) h1 h' := fun {h h'} o st =>
    ⟨fun b ob e q mm => o b _ (fun z => by rw [z, nI] at e; cases e) (st.keep b ob e q mm), fun b ob e q mm => by
      obtain ⟨sl, e'⟩ := st.slot b ob e q mm
      exact ⟨sl, o b _ (fun z => by rw [z, nI] at e; cases e) e'⟩⟩
  have up : ∀ {h : Heap}, StpL L (fr outer) h1 h → (hideAll h1 X).StaysIn (hideAll h (I :: X)) := fun {h} st b o e => by
    have nb : b ∉ X := fun m => by rw [hideAll_none X m] at e; cases e
    have e' := of_hideAll X e
    refine hideAll_get _ (st.keep b o e' (fun q => nb (q ▸ hL1)) fun mm => nb (S1.sub b (show b ∈ L :: fr outer from .tail _ mm))) fun mm => ?_
    rcases List.mem_cons.mp mm with z | z
    · rw [z, nI] at e'; cases e'
    · exact nb z
  have mkC : ∀ {h : Heap} {m : PySem.Str → Option Value}, StpL L (fr outer) h1 h → h.Ns L m → (∃ o, h.get? I = some o) → Cx W fd L a A outer (I :: X) h m n hd := fun {h m} st hn ex => by
    have C2 := C1.stepL st hn
    have sub : ∀ b ∈ fr (callEnv fd L a :: outer), b ∈ I :: X := fun b hb => .tail _ (S1.sub b hb)
    refine ⟨⟨S1.gd.mono (up st), S1.stack, frames_hid sub C2.sx.frames, sub, fun b hb => ?_, S1.room, S1.units, S1.hand.mono (up st)⟩, hn⟩
    rcases List.mem_cons.mp hb with z | z
    · rw [z]; exact ex
    · exact C2.sx.ex b z
  intro k
  induction k with
  | zero =>
    intro i hi h tk m st hn lo hst hend hret
    have ei : i = items.length := by omega
    subst ei
    refine codeP.tree rfl ?_
    show wpP _ A ((forTurn t (.ref I) body [] (callEnv fd L a)).onRaise (fun x => do noteFrame x (callEnv fd L a); theTreesLotGoes x)) _ _ _
    refine wpP.noted ?_
    rw [forTurn_eq]
    refine wpP.first (wpAny_standAt (wpP.first (wpAny_onRaise (O.wk.done ⟨h, g, dr, tk, os⟩ _ _ hst fun h' tk' ok => ?_))))
    have o : ∀ b ob, b ≠ I → h.get? b = some ob → h'.get? b = some ob := fun b ob hb e => ok b ob (fun q => hb (O.wr b q)) e
    have hn' : h'.Ns L m := let ⟨oL, es, ep, e, q⟩ := hn; ⟨oL, es, ep, o L _ (Ne.symm nL) e, q⟩
    have k' : (hideAll h (I :: X)).StaysIn (hideAll h' (I :: X)) := fun b ob e => by
      have nb : b ∉ I :: X := fun mm => by rw [hideAll_none _ mm] at e; cases e
      exact hideAll_get _ (o b _ (fun q => nb (q ▸ .head _)) (of_hideAll _ e)) nb
    exact wpP.pure ⟨rfl, codeP.any (codeAny_block (wpAny_execs_nil (hend h' tk' m (hidI o st) hn' (lo.mono k'))))⟩
  | succ k ih =>
    intro i hi h tk m st hn lo hst hend hret
    refine codeP.tree rfl ?_
    show wpP _ A ((forTurn t (.ref I) body [] (callEnv fd L a)).onRaise (fun x => do noteFrame x (callEnv fd L a); theTreesLotGoes x)) _ _ _
    refine wpP.noted ?_
    rw [forTurn_eq]
    refine wpP.first (wpAny_standAt (wpP.first (wpAny_onRaise (O.wk.item i ⟨h, g, dr, tk, os⟩ _ _ (by omega) hst fun v h' tk' pv st' ok => ?_))))
    have o : ∀ b ob, b ≠ I → h.get? b = some ob → h'.get? b = some ob := fun b ob hb e => ok b ob (fun q => hb (O.wr b q)) e
    have hn' : h'.Ns L m := let ⟨oL, es, ep, e, q⟩ := hn; ⟨oL, es, ep, o L _ (Ne.symm nL) e, q⟩
    have k' : (hideAll h (I :: X)).StaysIn (hideAll h' (I :: X)) := fun b ob e => by
      have nb : b ∉ I :: X := fun mm => by rw [hideAll_none _ mm] at e; cases e
      exact hideAll_get _ (o b _ (fun q => nb (q ▸ .head _)) (of_hideAll _ e)) nb
    have st1 := hidI o st
    have C' := mkC st1 hn' (O.ex _ _ st')
    obtain ⟨d, hd', rv⟩ := O.item i v pv
    refine wpP.first (wpAny_of_eq (hgo _ v) (wpP.first ?_))
    refine ht i d hd' (G i) L a A outer (I :: X) ⟨h', g, dr, tk', os⟩ m v C' (lo.mono k') (rv.mono (up st1)) _ _ fun h2 m2 tk2 y2 hn2 lo2 => ?_
    have C2 := C'.stepL y2 hn2
    refine wpP.bind (hb i d hd' L a A outer (I :: X) ⟨h2, g, dr, tk2, os⟩ m2 C2 lo2 _ _ fun fl out h3 m3 tk3 y3 hn3 hP hO => ?_)
    have st3 : StpL L (fr outer) h1 h3 := (st1.trans y2).trans y3
    have st'' : St (i + 1) h3 := by
      refine O.wk.frame (i + 1) h' h3 st' fun b hb ob e => ?_
      have nbL : b ≠ L ∧ b ∉ fr outer := by
        rcases O.fp b hb with z | ⟨ob', e'⟩
        · rw [z]; exact ⟨nL, nf⟩
        · have nb : b ∉ X := fun mm => by rw [hideAll_none X mm] at e'; cases e'
          exact ⟨fun q => nb (q ▸ hL1), fun q => nb (S1.sub b (show b ∈ L :: fr outer from .tail _ q))⟩
      exact (y2.trans y3).keep b ob e nbL.1 nbL.2
    rcases hP with ⟨τ, ho, hs⟩ | ⟨d', ho, hPd⟩
    · have lo3 : Loc (hideAll h3 (I :: X)) m3 (G (i + 1)) := by
        rcases ho with rfl | rfl
        · cases fl with
          | next => exact fun x e he => hO x e (hs x e he)
          | _ => exact hO.elim
        · cases fl with
          | cont => exact fun x e he => hO x e (hs x e he)
          | _ => exact hO.elim
      have again := ih (i + 1) (by omega) h3 tk3 m3 st3 hn3 lo3 st'' hend hret
      rcases ho with rfl | rfl
      · cases fl with
        | next => exact wpP.pure ⟨rfl, again⟩
        | _ => exact hO.elim
      · cases fl with
        | cont => exact wpP.pure ⟨rfl, again⟩
        | _ => exact hO.elim
    · subst ho
      cases fl with
      | ret v' => exact wpP.pure (hret v' d' h3 tk3 m3 hPd st3 hn3 hO)
      | _ => exact hO.elim
theorem ExC.for {G : Nat → Sg} {t iter : Expr} {f : Nat → Sg → Sg} {body rest : List Stmt} {pos : Pos} {P : Out → Prop} {d : D} {items : List D} (h1 : Ev W fd n hd σ iter d) (hi : Itb W n hd d items) (h0 : Sup σ (G 0)) (ht : ∀ i d, items[i]? = some d → Tgt W fd n hd t d (f i))
    (hb : ∀ i d, items[i]? = some d → ExC W fd n hd (f i (G i)) body (LoopP (G (i + 1)) P)) (h2 : ExC W fd n hd (G items.length) rest P)
    (hgo : ∀ it v, letOwnedTupleGo t it v = pure () := by intro _ _; rfl) (hs : ∀ env v, foldedSetIterable iter env v = pure v := by intro _ _; rfl) : ExC W fd n hd σ (.For t iter body [] pos :: rest) P :=
  ExC.stmt fun L a A outer X s m C lo Q E hq => by
    rw [arm_exec_For]
    refine wpP.first (wpAny_standAt (wpP.first (h1 L a A outer X s m C lo _ _ fun v h₁ tk₁ x1 r1 => wpP.first (wpAny_of_eq (hs _ v) (wpP.first (wpAny_standAt (wpP.first (wpAny_holding ?_))))))))
    have C1 := C.step x1
    have lo1 := lo.mono (x1.hid C.sx.sub)
    refine hi A _ X { s with heap := h₁, toks := tk₁ } v C1.sx r1 _ _ fun I h₂ tk₂ fp wr Pv St nI x2 O hst => ?_
    have sub2 : (hideAll h₁ X).StaysIn (hideAll h₂ (I :: X)) := fun b o e => by
      have nb : b ∉ X := fun m => by rw [hideAll_none X m] at e; cases e
      have e' := of_hideAll X e
      refine hideAll_get _ (x2.keep b o e' fun q => nb (C.sx.sub b q)) fun mm => ?_
      rcases List.mem_cons.mp mm with z | z
      · have nI' : h₁.get? I = none := nI
        rw [z, nI'] at e'; cases e'
      · exact nb z
    have lo2 : Loc (hideAll h₂ (I :: X)) m (G 0) := fun x e he => (lo1.mono sub2) x e (h0 x e he)
    unfold runOwn
    refine wpP.onRaise (wpP.run (h := none) (forLoop_go O nI C1 ht hgo hb items.length 0 (by omega) h₂ tk₂ m x2.toL (x2.ns C1.ns) lo2 hst (fun h' tk' m' st hn lo' => ?_) fun v d h' tk' m' hP st hn r => ?_))
    · exact hq .next (.next (G items.length)) h' m' tk' (x1.toL.trans st) hn h2 (lo'.mono (hideAll_sub fun b hb => .tail _ hb))
    · exact hq (.ret v) (.ret d) h' m' tk' (x1.toL.trans st) hn hP (r.mono (hideAll_sub fun b hb => .tail _ hb))
end
end Mine
end

section
open PySem PySem.W PySem.Calls PyProof.Rows
set_option Elab.async false
set_option linter.unusedVariables false
set_option maxRecDepth 100000
namespace Mine
section
variable {W : Wd} {fd : FuncData} {n : Nat} {hd : Nat} {σ : Sg}
theorem forLoopA_go {L a : Addr} {A : Around} {outer : List Env} {X : List Addr} {h1 : Heap} {m1 : PySem.Str → Option Value} {I : Addr} {fp wr : List Addr} {items : List D} {Pv : Nat → Value → Prop} {St : Nat → Heap → Prop} {G : Nat → Sg} {t : Expr} {f : Nat → Sg → Sg} {body : List Stmt} {P : Out → Prop} {R' : Result → Shared → Prop} {g : Array GenState} {dr : Drawn} {os : OsState}
    (O : ItOk W A h1 X I fp wr items Pv St) (nI : h1.get? I = none) (C1 : Cx W fd L a A outer X h1 m1 n hd) (ht : ∀ i d, items[i]? = some d → Tgt W fd n hd t d (f i)) (hgo : ∀ it v, letOwnedTupleGo t it v = pure ())
    (hb : ∀ i d, items[i]? = some d → Ex W fd n hd (f i (G i)) body (LoopP (G (i + 1)) P)) :
    ∀ (k i : Nat), i + k = items.length → ∀ (h : Heap) (tk : Nat) (m : PySem.Str → Option Value), StpL L (fr outer) h1 h → h.Ns L m → Loc (hideAll h (I :: X)) m (G i) → St i h →
      (∀ h' tk' m', StpL L (fr outer) h1 h' → h'.Ns L m' → Loc (hideAll h' (I :: X)) m' (G items.length) → R' (.ok .next) ⟨h', g, dr, tk', os⟩) →
      (∀ v d h' tk' m', P (.ret d) → StpL L (fr outer) h1 h' → h'.Ns L m' → Rep (hideAll h' (I :: X)) v d → R' (.ok (.ret v)) ⟨h', g, dr, tk', os⟩) →
      codeAny (model W.prog W.w) A (.forLoop t (.ref I) body [] (callEnv fd L a)) R' ⟨h, g, dr, tk, os⟩ := by
  have S1 := C1.sx
  have hL1 : L ∈ X := S1.sub L (show L ∈ L :: fr outer from .head _)
  have nL : I ≠ L := fun q => by obtain ⟨o, e⟩ := S1.ex L hL1; rw [← q, nI] at e; cases e
  have nf : I ∉ fr outer := fun q => by obtain ⟨o, e⟩ := S1.ex I (S1.sub I (show I ∈ L :: fr outer from .tail _ q)); rw [nI] at e; cases e
  have hidI : ∀ {h h' : Heap}, (∀ b ob, b ≠ I → h.get? b = some ob → h'.get? b = some ob) → StpL L (fr outer) h1 h → StpL L (fr outer) h1 h' := fun {h h'} o st =>
    ⟨fun b ob e q mm => o b _ (fun z => by rw [z, nI] at e; cases e) (st.keep b ob e q mm), fun b ob e q mm => by
      obtain ⟨sl, e'⟩ := st.slot b ob e q mm
      exact ⟨sl, o b _ (fun z => by rw [z, nI] at e; cases e) e'⟩⟩
  have up : ∀ {h : Heap}, StpL L (fr outer) h1 h → (hideAll h1 X).StaysIn (hideAll h (I :: X)) := fun {h} st b o e => by
    have nb : b ∉ X := fun m => by rw [hideAll_none X m] at e; cases e
    have e' := of_hideAll X e
    refine hideAll_get _ (st.keep b o e' (fun q => nb (q ▸ hL1)) fun mm => nb (S1.sub b (show b ∈ L :: fr outer from .tail _ mm))) fun mm => ?_
    rcases List.mem_cons.mp mm with z | z
    · rw [z, nI] at e'; cases e'
    · exact nb z
  have mkC : ∀ {h : Heap} {m : PySem.Str → Option Value}, StpL L (fr outer) h1 h → h.Ns L m → (∃ o, h.get? I = some o) → Cx W fd L a A outer (I :: X) h m n hd := fun {h m} st hn ex => by
    have C2 := C1.stepL st hn
    have sub : ∀ b ∈ fr (callEnv fd L a :: outer), b ∈ I :: X := fun b hb => .tail _ (S1.sub b hb)
    refine ⟨⟨S1.gd.mono (up st), S1.stack, frames_hid sub C2.sx.frames, sub, fun b hb => ?_, S1.room, S1.units, S1.hand.mono (up st)⟩, hn⟩
    rcases List.mem_cons.mp hb with z | z
    · rw [z]; exact ex
    · exact C2.sx.ex b z
  intro k
  induction k with
  | zero =>
    intro i hi h tk m st hn lo hst hend hret
    have ei : i = items.length := by omega
    subst ei
    refine codeAny_of_tree ?_
    show wpAny _ A ((forTurn t (.ref I) body [] (callEnv fd L a)).onRaise (fun x => do noteFrame x (callEnv fd L a); theTreesLotGoes x)) _ _ _
    refine wpAny_noted ?_
    rw [forTurn_eq]
    refine wpAny_bind (wpAny_standAt (wpAny_bind (wpAny_onRaise (O.wk.done ⟨h, g, dr, tk, os⟩ _ _ hst fun h' tk' ok => ?_))))
    have o : ∀ b ob, b ≠ I → h.get? b = some ob → h'.get? b = some ob := fun b ob hb e => ok b ob (fun q => hb (O.wr b q)) e
    have hn' : h'.Ns L m := let ⟨oL, es, ep, e, q⟩ := hn; ⟨oL, es, ep, o L _ (Ne.symm nL) e, q⟩
    have k' : (hideAll h (I :: X)).StaysIn (hideAll h' (I :: X)) := fun b ob e => by
      have nb : b ∉ I :: X := fun mm => by rw [hideAll_none _ mm] at e; cases e
      exact hideAll_get _ (o b _ (fun q => nb (q ▸ .head _)) (of_hideAll _ e)) nb
    exact wpAny_pure ⟨rfl, codeAny_block (wpAny_execs_nil (hend h' tk' m (hidI o st) hn' (lo.mono k')))⟩
  | succ k ih =>
    intro i hi h tk m st hn lo hst hend hret
    refine codeAny_of_tree ?_
    show wpAny _ A ((forTurn t (.ref I) body [] (callEnv fd L a)).onRaise (fun x => do noteFrame x (callEnv fd L a); theTreesLotGoes x)) _ _ _
    refine wpAny_noted ?_
    rw [forTurn_eq]
    refine wpAny_bind (wpAny_standAt (wpAny_bind (wpAny_onRaise (O.wk.item i ⟨h, g, dr, tk, os⟩ _ _ (by omega) hst fun v h' tk' pv st' ok => ?_))))
    have o : ∀ b ob, b ≠ I → h.get? b = some ob → h'.get? b = some ob := fun b ob hb e => ok b ob (fun q => hb (O.wr b q)) e
    have hn' : h'.Ns L m := let ⟨oL, es, ep, e, q⟩ := hn; ⟨oL, es, ep, o L _ (Ne.symm nL) e, q⟩
    have k' : (hideAll h (I :: X)).StaysIn (hideAll h' (I :: X)) := fun b ob e => by
      have nb : b ∉ I :: X := fun mm => by rw [hideAll_none _ mm] at e; cases e
      exact hideAll_get _ (o b _ (fun q => nb (q ▸ .head _)) (of_hideAll _ e)) nb
    have st1 := hidI o st
    have C' := mkC st1 hn' (O.ex _ _ st')
    obtain ⟨d, hd', rv⟩ := O.item i v pv
    refine wpAny_bind (wpAny_of_eq (hgo _ v) (wpAny_bind ?_))
    refine ht i d hd' (G i) L a A outer (I :: X) ⟨h', g, dr, tk', os⟩ m v C' (lo.mono k') (rv.mono (up st1)) _ _ fun h2 m2 tk2 y2 hn2 lo2 => ?_
    have C2 := C'.stepL y2 hn2
    refine wpAny_bind (hb i d hd' L a A outer (I :: X) ⟨h2, g, dr, tk2, os⟩ m2 C2 lo2 _ _ fun fl out h3 m3 tk3 y3 hn3 hP hO => ?_)
    have st3 : StpL L (fr outer) h1 h3 := (st1.trans y2).trans y3
    have st'' : St (i + 1) h3 := by
      refine O.wk.frame (i + 1) h' h3 st' fun b hb ob e => ?_
      have nbL : b ≠ L ∧ b ∉ fr outer := by
        rcases O.fp b hb with z | ⟨ob', e'⟩
        · rw [z]; exact ⟨nL, nf⟩
        · have nb : b ∉ X := fun mm => by rw [hideAll_none X mm] at e'; cases e'
          exact ⟨fun q => nb (q ▸ hL1), fun q => nb (S1.sub b (show b ∈ L :: fr outer from .tail _ q))⟩
      exact (y2.trans y3).keep b ob e nbL.1 nbL.2
    rcases hP with ⟨τ, ho, hs⟩ | ⟨d', ho, hPd⟩
    · have lo3 : Loc (hideAll h3 (I :: X)) m3 (G (i + 1)) := by
        rcases ho with rfl | rfl
        · cases fl with
          | next => exact fun x e he => hO x e (hs x e he)
          | _ => exact hO.elim
        · cases fl with
          | cont => exact fun x e he => hO x e (hs x e he)
          | _ => exact hO.elim
      have again := ih (i + 1) (by omega) h3 tk3 m3 st3 hn3 lo3 st'' hend hret
      rcases ho with rfl | rfl
      · cases fl with
        | next => exact wpAny_pure ⟨rfl, again⟩
        | _ => exact hO.elim
      · cases fl with
        | cont => exact wpAny_pure ⟨rfl, again⟩
        | _ => exact hO.elim
    · subst ho
      cases fl with
      | ret v' => exact wpAny_pure (hret v' d' h3 tk3 m3 hPd st3 hn3 hO)
      | _ => exact hO.elim
theorem Ex.for {G : Nat → Sg} {t iter : Expr} {f : Nat → Sg → Sg} {body rest : List Stmt} {pos : Pos} {P : Out → Prop} {d : D} {items : List D} (h1 : Ev W fd n hd σ iter d) (hi : Itb W n hd d items) (h0 : Sup σ (G 0)) (ht : ∀ i d, items[i]? = some d → Tgt W fd n hd t d (f i))
    (hb : ∀ i d, items[i]? = some d → Ex W fd n hd (f i (G i)) body (LoopP (G (i + 1)) P)) (h2 : Ex W fd n hd (G items.length) rest P)
    (hgo : ∀ it v, letOwnedTupleGo t it v = pure () := by intro _ _; rfl) (hs : ∀ env v, foldedSetIterable iter env v = pure v := by intro _ _; rfl) : Ex W fd n hd σ (.For t iter body [] pos :: rest) P :=
  Ex.stmt fun L a A outer X s m C lo Q E hq => by
    rw [arm_exec_For]
    refine wpAny_bind (wpAny_standAt (wpAny_bind (h1 L a A outer X s m C lo _ _ fun v h₁ tk₁ x1 r1 => wpAny_bind (wpAny_of_eq (hs _ v) (wpAny_bind (wpAny_standAt (wpAny_bind (wpAny_holding ?_))))))))
    have C1 := C.step x1
    have lo1 := lo.mono (x1.hid C.sx.sub)
    refine hi A _ X { s with heap := h₁, toks := tk₁ } v C1.sx r1 _ _ fun I h₂ tk₂ fp wr Pv St nI x2 O hst => ?_
    have sub2 : (hideAll h₁ X).StaysIn (hideAll h₂ (I :: X)) := fun b o e => by
      have nb : b ∉ X := fun m => by rw [hideAll_none X m] at e; cases e
      have e' := of_hideAll X e
      refine hideAll_get _ (x2.keep b o e' fun q => nb (C.sx.sub b q)) fun mm => ?_
      rcases List.mem_cons.mp mm with z | z
      · have nI' : h₁.get? I = none := nI
        rw [z, nI'] at e'; cases e'
      · exact nb z
    have lo2 : Loc (hideAll h₂ (I :: X)) m (G 0) := fun x e he => (lo1.mono sub2) x e (h0 x e he)
    unfold runOwn
    refine wpAny_onRaise (wpAny_run (h := none) (forLoopA_go O nI C1 ht hgo hb items.length 0 (by omega) h₂ tk₂ m x2.toL (x2.ns C1.ns) lo2 hst (fun h' tk' m' st hn lo' => ?_) fun v d h' tk' m' hP st hn r => ?_))
    · exact hq .next (.next (G items.length)) h' m' tk' (x1.toL.trans st) hn h2 (lo'.mono (hideAll_sub fun b hb => .tail _ hb))
    · exact hq (.ret v) (.ret d) h' m' tk' (x1.toL.trans st) hn hP (r.mono (hideAll_sub fun b hb => .tail _ hb))

theorem tup_size {g : Heap} {vs : List Value} {ds : List D} (r : RepL g vs ds) : vs.toArray.size = ds.length := by rw [List.size_toArray]; exact r.len
theorem Itb.list {ds : List D} (hh : hd = 0) : Itb W n hd (.list ds) ds := fun A outer X s v S r Q E hq => by
  cases r with
  | list ht rl =>
  rename_i l vs
  have hl := list_hid ht
  have hA : A.handled = none := (hh ▸ S.hand : HndOk 0 A.handled _).none
  obtain ⟨ol, hol, hc, e, hd'⟩ := id hl
  have ne : l ≠ s.heap.objs.size := fun q => by have := Heap.lt_size hol; rw [q] at this; exact Nat.lt_irrefl _ this
  refine wpAny_pyIter_list hl (hq s.heap.objs.size _ s.toks [s.heap.objs.size, l] [s.heap.objs.size] _ _ (Heap.get?_none_of_le (Nat.le_refl _)) (.push _) ⟨tup_size rl ▸ Walks.list hA s.heap.objs.size l ne vs.toArray, fun b hb => by simpa using hb, fun i h st => ?_, fun b hb => ?_, fun i v hv => ?_⟩ ⟨⟨_, Heap.get?_push_size _ rfl, rfl, rfl⟩, ⟨ol, Heap.get?_push_of_some _ hol, hc, e, hd'⟩⟩)
  · obtain ⟨o, e, _⟩ := st.1; exact ⟨o, e⟩
  · simp only [List.mem_cons, List.not_mem_nil, or_false] at hb
    rcases hb with rfl | rfl
    · exact .inl rfl
    · obtain ⟨o, e, _⟩ := ht; exact .inr ⟨o, e⟩
  · have hlt : i < ds.length := by rw [← tup_size rl]; exact (Array.getElem?_eq_some_iff.mp hv).1
    obtain ⟨v', e, rv⟩ := rl.get (List.getElem?_eq_getElem hlt)
    have : v' = v := by simp at hv; rw [hv] at e; exact (Option.some.inj e).symm
    subst this
    exact ⟨_, List.getElem?_eq_getElem hlt, rv⟩
theorem Itb.tup {ds : List D} (hh : hd = 0) : Itb W n hd (.tup ds) ds := fun A outer X s v S r Q E hq => by
  cases r with
  | tup ht rl =>
  rename_i l vs
  have hl := tup_hid ht
  have hA : A.handled = none := (hh ▸ S.hand : HndOk 0 A.handled _).none
  obtain ⟨ol, hol, hc, e, hd'⟩ := id hl
  have ne : l ≠ s.heap.objs.size := fun q => by have := Heap.lt_size hol; rw [q] at this; exact Nat.lt_irrefl _ this
  have hl' : s.heap.IsTuple l vs.toArray := ⟨ol, hol, hc, e, hd'⟩
  refine wpAny_pyIter_tuple hl' (hq s.heap.objs.size _ s.toks [s.heap.objs.size, l] [s.heap.objs.size] _ _ (Heap.get?_none_of_le (Nat.le_refl _)) (.push _) ⟨tup_size rl ▸ Walks.tuple hA s.heap.objs.size l ne vs.toArray, fun b hb => by simpa using hb, fun i h st => ?_, fun b hb => ?_, fun i v hv => ?_⟩ ⟨⟨_, Heap.get?_push_size _ rfl, rfl, rfl⟩, ⟨ol, Heap.get?_push_of_some _ hol, hc, e, hd'⟩⟩)
  · obtain ⟨o, e, _⟩ := st.1; exact ⟨o, e⟩
  · simp only [List.mem_cons, List.not_mem_nil, or_false] at hb
    rcases hb with rfl | rfl
    · exact .inl rfl
    · obtain ⟨o, e, _⟩ := ht; exact .inr ⟨o, e⟩
  · have hlt : i < ds.length := by rw [← tup_size rl]; exact (Array.getElem?_eq_some_iff.mp hv).1
    obtain ⟨v', e, rv⟩ := rl.get (List.getElem?_eq_getElem hlt)
    have : v' = v := by simp at hv; rw [hv] at e; exact (Option.some.inj e).symm
    subst this
    exact ⟨_, List.getElem?_eq_getElem hlt, rv⟩
theorem walks_lt {prog : Program} {w : World} {A : Around} {I : Addr} {fp wr : List Addr} {n : Nat} {P : Nat → Value → Prop} {St : Nat → Heap → Prop} (W : Walks prog w A I fp wr n P St) : Walks prog w A I fp wr n (fun i v => i < n ∧ P i v) St :=
  ⟨W.sub, W.frame, fun i s Q E hi st hQ => W.item i s Q E hi st fun v h' tk p st' ok => hQ v h' tk ⟨hi, p⟩ st' ok, W.done, W.self⟩
theorem Itb.rng {a b c : Int} {k : Nat} (hh : hd = 0) (hs : Builtin.Range.small a b c = true) (hk : Builtin.Range.rangeSize a b c = k) : Itb W n hd (.rng a b c) ((List.range k).map fun i => .int (a + (i : Nat) * c)) := fun A outer X s v S r Q E hq => by
  cases r with
  | rng ht =>
  have hl := of_hideAll X ht
  have hA : A.handled = none := (hh ▸ S.hand : HndOk 0 A.handled _).none
  have len : ((List.range k).map fun i => D.int (a + (i : Nat) * c)).length = k := by simp
  refine wpAny_pyIter_range hl hs (hq s.heap.objs.size _ s.toks [s.heap.objs.size] [s.heap.objs.size] _ _ (Heap.get?_none_of_le (Nat.le_refl _)) (.push _) ⟨len.symm ▸ walks_lt (Walks.range hA s.heap.objs.size a c k), fun b hb => by simpa using hb, fun i h st => ⟨_, st⟩, fun b hb => .inl (by simpa using hb), fun i v hv => ?_⟩ ?_)
  · obtain ⟨hi, t, rfl⟩ := hv
    have hi' : i < k := len ▸ hi
    exact ⟨.int (a + (i : Nat) * c), by rw [List.getElem?_map, List.getElem?_range hi']; rfl, .int _ _⟩
  · have e1 : a + ((0 : Nat) : Int) * c = a := by simp
    have e2 : ((((List.range k).map fun i => D.int (a + (i : Nat) * c)).length : Nat) : Int) - ((0 : Nat) : Int) = Builtin.Range.rangeSize a b c := by rw [hk, len]; simp

    rw [e1, e2]
    exact Heap.get?_push_size _ rfl
end
end Mine
end

section
open PySem PySem.W PySem.Calls PyProof.Rows
set_option Elab.async false
set_option linter.unusedVariables false
namespace Mine

inductive At where
  | i (n : Int) | s (x : PySem.Str)
  deriving DecidableEq
def At.d : At → D
  | .i n => .int n
  | .s x => .str x
def At.p : At → PyData
  | .i n => .int n
  | .s x => .str x
def At.ok : At → Bool
  | .i _ => true
  | .s x => PyData.strOk x
theorem At.reads {g : Heap} {v : Value} : ∀ {a : At}, Rep g v a.d → Reads g v a.p []
  | .i _, .int _ _ => .int _ _
  | .s _, .str _ _ => .str _ _
theorem At.readsAll {g : Heap} : ∀ {l : List At} {vs : List Value}, RepL g vs (l.map At.d) → ReadsAll g vs (l.map At.p) []
  | [], _, .nil => .nil
  | a :: l, _, .cons h r => ReadsAll.cons (as := []) (bs := []) (At.reads h) (At.readsAll r)
theorem At.eqv (a b : At) : PyData.eqv a.p b.p = decide (a = b) := by
  cases a <;> cases b <;> simp [At.p, PyData.eqv, str_beq]
  rfl
theorem At.eqvAll : ∀ l l' : List At, PyData.eqvAll (l.map At.p) (l'.map At.p) = decide (l = l')
  | [], [] => by simp [PyData.eqvAll]
  | [], _ :: _ => by simp [PyData.eqvAll]
  | _ :: _, [] => by simp [PyData.eqvAll]
  | a :: l, b :: l' => by
    simp only [List.map_cons, PyData.eqvAll, At.eqv, At.eqvAll l l']
    by_cases h : a = b <;> by_cases k : l = l' <;> simp [h, k]
theorem At.lay : ∀ {l : List At}, l.all At.ok = true → PyData.canLayAll0 (l.map At.p) = true
  | [], _ => rfl
  | .i _ :: l, h => by simp only [List.all_cons, Bool.and_eq_true] at h; simp [At.p, PyData.canLayAll0, PyData.canLay0, At.lay h.2]
  | .s x :: l, h => by simp only [List.all_cons, Bool.and_eq_true] at h; simp [At.p, PyData.canLayAll0, PyData.canLay0, At.lay h.2]; exact h.1
theorem At.flat : ∀ {l : List At}, PyData.depthAll (l.map At.p) = 0
  | [] => rfl
  | .i _ :: l => by simp [At.p, PyData.depthAll, PyData.depth, At.flat (l := l)]
  | .s x :: l => by simp [At.p, PyData.depthAll, PyData.depth, At.flat (l := l)]
theorem At.shaped {l : List At} (h : l.all At.ok = true) : PySem.SeqAt.shaped (.tuple (l.map At.p)) = true := by
  simp only [PySem.SeqAt.shaped, PyData.canLay0, PyData.depth, At.flat, At.lay h]; decide
section
variable {W : Wd} {n : Nat} {hd : Nat}
theorem At.tup {h : Heap} {X : List Addr} {v : Value} {l : List At} (r : Rep (hideAll h X) v (.tup (l.map At.d))) : Reads h v (.tuple (l.map At.p)) [] := by
  have k : (hideAll h X).StaysIn h := fun b o e => of_hideAll X e
  cases r with
  | tup h1 h2 =>
    obtain ⟨o, a, b, q, c⟩ := tup_hid h1
    exact .tuple a b c (At.readsAll (h2.mono k))
theorem Cmp.eqT {l l' : List At} (h1 : l.all At.ok = true) (h2 : l'.all At.ok = true) : Cmp W n hd .Eq (.tup (l.map At.d)) (.tup (l'.map At.d)) (.bool (decide (l = l'))) := fun A outer X s v1 v2 S r1 r2 Q E h => by
  refine eq_dataH (At.tup r1) (At.tup r2) (At.shaped h1) (At.shaped h2) (by have := S.units; omega) ?_
  show Q (.bool (PyData.eqv _ _)) s
  rw [PyData.eqv, At.eqvAll]
  exact h _ _ _ .refl (.bool _)
theorem Cmp.neT {l l' : List At} (h1 : l.all At.ok = true) (h2 : l'.all At.ok = true) : Cmp W n hd .NotEq (.tup (l.map At.d)) (.tup (l'.map At.d)) (.bool (decide (l ≠ l'))) := fun A outer X s v1 v2 S r1 r2 Q E h => by
  refine ne_dataH (At.tup r1) (At.tup r2) (At.shaped h1) (At.shaped h2) (by have := S.units; omega) ?_
  show Q (.bool (!PyData.eqv _ _)) s
  rw [PyData.eqv, At.eqvAll, show (!decide (l = l')) = decide (l ≠ l') by simp]
  exact h _ _ _ .refl (.bool _)
theorem ints_of {g : Heap} : ∀ {ns : List Int} {vs : List Value}, RepL g vs (ns.map D.int) → IntsAre vs ns
  | [], _, .nil => .nil
  | _ :: _, _, .cons (.int _ _) r => .cons _ _ (ints_of r)
theorem Cmp.inI {ns : List Int} {x : Int} : Cmp W n hd .In (.int x) (.tup (ns.map D.int)) (.bool (ns.any (· == x))) := fun A outer X s v1 v2 S r1 r2 Q E h => by
  cases r1
  cases r2 with
  | tup h1 h2 => exact in_tuple_ints (tup_hid h1) (ints_of h2) (h _ _ _ .refl (.bool _))
end
end Mine
end

section
open PySem PySem.W PySem.Calls PyProof.Rows
set_option Elab.async false
set_option linter.unusedVariables false
set_option maxRecDepth 100000
namespace Mine
def bindAll : List PySem.Str → List D → Sg → Sg
  | x :: xs, d :: ds, σ => bindAll xs ds ((x, d) :: σ)
  | _, _, σ => σ
inductive Nms (sc : Scope) : List Expr → List PySem.Str → Prop
  | nil : Nms sc [] []
  | cons {x : PySem.Str} {p : Pos} {es : List Expr} {xs : List PySem.Str} : sc.names.lookup x = some .local → Nms sc es xs → Nms sc (.Name x p :: es) (x :: xs)
theorem Nms.each {sc : Scope} {es : List Expr} {xs : List PySem.Str} (h : Nms sc es xs) (env : Env) : (assignEach es env).length = xs.length ∧ (assignEach es env).findIdx? (·.1) = none := by
  induction h with
  | nil => exact ⟨rfl, rfl⟩
  | @cons x p es xs hl r ih =>
    have e : assignEach (.Name x p :: es) env = (false, assign (.Name x p) env) :: assignEach es env := rfl
    rw [e]
    refine ⟨by simp [ih.1], ?_⟩
    rw [List.findIdx?_cons, ih.2]
    rfl
section
variable {W : Wd} {fd : FuncData} {n : Nat} {hd : Nat} {σ : Sg}
def Unp (W : Wd) (n hd : Nat) (d : D) (ds : List D) : Prop := ∀ (A : Around) (outer : List Env) (X : List Addr) (s : Shared) (v : Value), Sx W A outer X s.heap n hd → Rep (hideAll s.heap X) v d → ∀ (Q : List Value → Shared → Prop) (E : Value → Shared → Prop),
  (∀ vs h' tk', Stp (fr outer) s.heap h' → RepL (hideAll h' X) vs ds → Q vs { s with heap := h', toks := tk' }) → wpAny (model W.prog W.w) A (unpackItems v ds.length none) Q E s
theorem Stp.extB {fs : List Addr} {h h' : Heap} (e : Heap.ExtBut h.objs.size h h') : Stp fs h h' := .of_keeps fun b o q => e b o (Nat.ne_of_lt (Heap.lt_size q)) q
theorem Unp.tup {ds : List D} (hh : hd = 0) : Unp W n hd (.tup ds) ds := fun A outer X s v S r Q E hq => by
  cases r with
  | tup ht rl =>
  have hA : A.handled = none := (hh ▸ S.hand : HndOk 0 A.handled _).none
  rw [← tup_size rl]
  refine unpackItems_tuple hA (tup_hid ht) fun h' he => ?_
  have x : Stp (fr outer) s.heap h' := .extB he
  exact hq _ h' _ x (rl.mono (x.hid S.sub))
theorem Unp.list {ds : List D} (hh : hd = 0) : Unp W n hd (.list ds) ds := fun A outer X s v S r Q E hq => by
  cases r with
  | list ht rl =>
  have hA : A.handled = none := (hh ▸ S.hand : HndOk 0 A.handled _).none
  rw [← tup_size rl]
  refine kun_itemsOf hA (list_hid ht) fun h' he => ?_
  have x : Stp (fr outer) s.heap h' := .extB he
  exact hq _ h' _ x (rl.mono (x.hid S.sub))
theorem names_go {sc : Scope} (F : FdIs fd sc) {L a : Addr} {A : Around} {outer : List Env} {X : List Addr} : ∀ {xs : List PySem.Str} {ds : List D} {vs : List Value} {fs : List (Value → Sem Unit)} {σ : Sg} {s : Shared} {m : PySem.Str → Option Value} {Q : Unit → Shared → Prop} {E : Value → Shared → Prop},
    xs.length = ds.length → (∀ x ∈ xs, sc.names.lookup x = some .local) → fs.length = xs.length →
    (∀ (k : Nat) (v : Value) (s : Shared) (x : PySem.Str) (Q : Unit → Shared → Prop), xs[k]? = some x → wpAny (model W.prog W.w) A (storeName (callEnv fd L a) x v) Q E s → ∃ f, fs[k]? = some f ∧ wpAny (model W.prog W.w) A (f v) Q E s) →
    Cx W fd L a A outer X s.heap m n hd → Loc (hideAll s.heap X) m σ → RepL (hideAll s.heap X) vs ds →
    (∀ h' m' tk', StpL L (fr outer) s.heap h' → h'.Ns L m' → Loc (hideAll h' X) m' (bindAll xs ds σ) → Q () { s with heap := h', toks := tk' }) →
    wpAny (model W.prog W.w) A (assignInOrder fs vs) Q E s
  | [], [], _, fs, σ, s, m, Q, E, _, _, hf, hs, C, lo, .nil, hq => by
    obtain rfl : fs = [] := List.length_eq_zero_iff.mp hf
    exact wpAny_pure (hq _ m _ .refl C.ns lo)
  | x :: xs, d :: ds, _, [], σ, s, m, Q, E, hl, hloc, hf, hs, C, lo, .cons r rs, hq => by simp at hf
  | x :: xs, d :: ds, _, f :: fs, σ, s, m, Q, E, hl, hloc, hf, hs, C, lo, .cons (v := v) (vs := vs) r rs, hq => by
    show wpAny _ _ (holding vs (f v) >>= fun _ => assignInOrder fs vs) Q E s
    refine wpAny_bind (wpAny_holding ?_)
    have key : wpAny (model W.prog W.w) A (storeName (callEnv fd L a) x v) (fun _ s' => wpAny (model W.prog W.w) A (assignInOrder fs vs) Q E s') E s := by
      refine store_go C lo r (fun h' tk' y hn l => ?_) F (hloc x (.head _))
      have k := C.hidL y
      refine names_go F (xs := xs) (ds := ds) (by simpa using hl) (fun z hz => hloc z (.tail _ hz)) (by simpa using hf) (fun k v s x Q hk h => ?_) (C.stepL y hn) l (rs.mono k) fun h2 m2 tk2 y2 hn2 l2 => ?_
      · obtain ⟨f', e, h⟩ := hs (k + 1) v s x Q (by simpa using hk) h
        exact ⟨f', by simpa using e, h⟩
      · exact hq h2 m2 tk2 (y.trans y2) hn2 l2
    obtain ⟨f', e, h⟩ := hs 0 v s x _ rfl key
    obtain rfl : f = f' := by simpa using e
    exact h
theorem Nms.store {sc : Scope} {es : List Expr} {xs : List PySem.Str} (h : Nms sc es xs) {env : Env} {M : Model} {A : Around} {E : Value → Shared → Prop} : ∀ (k : Nat) (v : Value) (s : Shared) (x : PySem.Str) (Q : Unit → Shared → Prop), xs[k]? = some x → wpAny M A (storeName env x v) Q E s → ∃ f, ((assignEach es env).map (·.2))[k]? = some f ∧ wpAny M A (f v) Q E s := by
  induction h with
  | nil => intro k v s x Q hk; simp at hk
  | @cons x p es xs hl r ih =>
    intro k v s y Q hk hw
    have e : assignEach (.Name x p :: es) env = (false, assign (.Name x p) env) :: assignEach es env := rfl
    rw [e]
    cases k with
    | zero =>
      obtain rfl : x = y := by simpa using hk
      exact ⟨_, rfl, wpAny_assign_Name hw⟩
    | succ k => exact ih k v s y Q (by simpa using hk) hw
theorem Nms.loc {sc : Scope} {es : List Expr} {xs : List PySem.Str} (h : Nms sc es xs) : ∀ x ∈ xs, sc.names.lookup x = some .local := by
  induction h with
  | nil => intro x hx; cases hx
  | cons hl r ih => intro x hx; rcases List.mem_cons.mp hx with q | q
                    · exact q ▸ hl
                    · exact ih x q
theorem Tgt.tuple {sc : Scope} (F : FdIs fd sc) {es : List Expr} {xs : List PySem.Str} {k : Nat} {p : Pos} {d : D} {ds : List D} (hu : Unp W n hd d ds) (hn : Nms sc es xs) (hl : xs.length = ds.length) : Tgt W fd n hd (.Tuple es k p) d (bindAll xs ds) :=
  fun σ L a A outer X s m v C lo r Q E hq => by
    rw [assign_Tuple]
    refine wpAny_bind (wpAny_standAt ?_)
    unfold unpack
    obtain ⟨e1, e2⟩ := hn.each (callEnv fd L a)
    rw [e1, e2, hl]
    refine wpAny_bind (wpAny_holding (hu A _ X s v C.sx r _ _ fun vs h' tk' x rl => ?_))
    have C1 := C.step x
    exact names_go F hl hn.loc (by rw [List.length_map, e1]) hn.store C1 (lo.mono (x.hid C.sx.sub)) rl fun h2 m2 tk2 y2 hn2 l2 => hq h2 m2 tk2 (x.toL.trans y2) hn2 l2
variable {P : Out → Prop}
theorem Ex.assignT {sc : Scope} (F : FdIs fd sc) {es : List Expr} {xs : List PySem.Str} {k : Nat} {tp pos : Pos} {e : Expr} {d : D} {ds : List D} {rest : List Stmt} (h1 : Ev W fd n hd σ e d) (hu : Unp W n hd d ds) (hn : Nms sc es xs) (hl : xs.length = ds.length) (h2 : Ex W fd n hd (bindAll xs ds σ) rest P)
    (hs : ∀ env, swapsWithSole [.Tuple es k tp] e pos.line env = pure false := by intro _; rfl) (hw : ∀ env, swappedStores [.Tuple es k tp] e env = pure none := by intro _; rfl) : Ex W fd n hd σ (.Assign [.Tuple es k tp] e pos :: rest) P :=
  Ex.stmt fun L a A outer X s m C lo Q E hq => Assign_Tuple (h1 L a A outer X s m C lo _ _ fun v h₁ tk₁ x1 r1 =>
    Tgt.tuple F hu hn hl σ L a A outer X _ m v (C.step x1) (lo.mono (x1.hid C.sx.sub)) r1 _ _ fun h' m' tk' y hn' l => hq .next (.next _) h' m' tk' (x1.toL.trans y) hn' h2 l) (hs _) (hw _)
theorem Ex.assignS {sc : Scope} (F : FdIs fd sc) {es : List Expr} {xs : List PySem.Str} {k : Nat} {tp pos : Pos} {e : Expr} {d : D} {ds : List D} {rest : List Stmt} (h1 : Ev W fd n hd σ e d) (hu : Unp W n hd d ds) (hn : Nms sc es xs) (hl : xs.length = ds.length) (h2 : Ex W fd n hd (bindAll xs.reverse ds.reverse σ) rest P)
    (hw : ∀ env : Env, env.scope = sc → swappedStores [.Tuple es k tp] e env = pure (some xs)) (hs : ∀ env, swapsWithSole [.Tuple es k tp] e pos.line env = pure false := by intro _; rfl) : Ex W fd n hd σ (.Assign [.Tuple es k tp] e pos :: rest) P :=
  Ex.stmt fun L a A outer X s m C lo Q E hq => Assign_Tuple_swapped (names := xs) (h1 L a A outer X s m C lo _ _ fun v h₁ tk₁ x1 r1 => by
    rw [hl]
    have C1 := C.step x1
    refine hu A _ X { s with heap := h₁, toks := tk₁ } v C1.sx r1 _ _ fun vs h2' tk2 x2 rl => ?_
    refine names_go (xs := xs.reverse) (ds := ds.reverse) F (by simpa using hl) (fun x hx => hn.loc x (by simpa using hx)) (by simp) (fun k v s x Q hk h => ?_) (C1.step x2) ((lo.mono (x1.hid C.sx.sub)).mono (x2.hid C.sx.sub)) rl.rev fun h' m' tk' y hn' l => hq .next (.next _) h' m' tk' ((x1.toL.trans x2.toL).trans y) hn' h2 l
    exact ⟨_, by rw [List.getElem?_map, hk]; rfl, bindName_ h⟩) (hs _) (hw _ (by show fd.scope = sc; exact F.s))
end
end Mine
end

section
open PySem PySem.W PySem.Calls PyProof.Rows
set_option Elab.async false
set_option linter.unusedVariables false
set_option maxRecDepth 100000
namespace Mine
def zp (w : Nat) (a : Int) : PySem.Str := ⟨(List.replicate (w - (Nat.toDigits 10 a.natAbs).length) 48).toArray⟩ ++ strI a
section
variable {W : Wd} {fd : FuncData} {n : Nat} {hd : Nat} {σ : Sg}
theorem Ev.fmt {value : Expr} {spec : PySem.Str} {a : Int} {w : Nat} {p p2 pos : Pos} {kk : Nat} (h1 : Ev W fd n hd σ value (.int a)) (h0 : 0 ≤ a) (h2 : a < 10000000000) (hok : intSpecOk spec = true) (hw : intSpecWidthOf spec = w) (hz : intSpecZeroOf spec = true) (hsz : spec.length ≤ 16777216) :
    Ev W fd n hd σ (.FormattedValue value (-1) (some (.JoinedStr [.Constant (.str spec) kk p] p2)) pos) (.str (zp w a)) := fun L a' A outer X s m C lo Q E h =>
  wpAny_FormattedValue_spec (h1 L a' A outer X s m C lo _ _ fun v h₁ tk₁ x1 r1 => wpAny_JoinedStr_one (Constant_str ⟨spec, _, rfl, by
    cases r1
    have N : Heap.NoDigits h₁ := by
      have T := ((C.step x1).sx.gd.T.keeps fun b o e => of_hideAll X e).nodigits
      exact T
    exact KXf.field_sym (W := w) N h0 (by omega) hok hw hsz fun t' k f _ _ => by
      rw [f.zeroG hz h0]
      exact h _ _ _ x1 (.str _ _)⟩))
theorem Ev.fms {value : Expr} {x : PySem.Str} {pos : Pos} (h1 : Ev W fd n hd σ value (.str x)) (hz : x.length ≤ 16777216) : Ev W fd n hd σ (.FormattedValue value (-1) none pos) (.str x) := fun L a' A outer X s m C lo Q E h =>
  FormattedValue_plain (h1 L a' A outer X s m C lo _ _ fun v h₁ tk₁ x1 r1 => by
    cases r1
    exact formatField_str (fun t' tk => h _ _ _ x1 (.str _ _)) hz)
def EvJ (W : Wd) (fd : FuncData) (n hd : Nat) (σ : Sg) (es : List Expr) (x : PySem.Str) : Prop :=
  ∀ (out : PySem.Str) (L a : Addr) (A : Around) (outer : List Env) (X : List Addr) (s : Shared) (m : PySem.Str → Option Value), Cx W fd L a A outer X s.heap m n hd → Loc (hideAll s.heap X) m σ → (out ++ x).length ≤ 16777216 →
    Go W A (callEnv fd L a :: outer) X s (joinParts out (evalEach es (callEnv fd L a))) (.str (out ++ x))
theorem EvJ.nil : EvJ W fd n hd σ [] PySem.Str.empty := fun out L a A outer X s m C lo hz Q E h => by
  have e : out ++ PySem.Str.empty = out := Str.append_empty out
  rw [e] at hz h
  exact joinParts_nil (h _ _ _ .refl (.str _ _)) hz
theorem EvJ.cons {e : Expr} {es : List Expr} {y x : PySem.Str} (h1 : Ev W fd n hd σ e (.str y)) (h2 : EvJ W fd n hd σ es x) : EvJ W fd n hd σ (e :: es) (y ++ x) := fun out L a A outer X s m C lo hz Q E h => by
  have ea : out ++ (y ++ x) = (out ++ y) ++ x := (Str.append_assoc out y x).symm
  rw [ea] at hz h
  show wpAny _ _ (joinParts out (eval e (callEnv fd L a) :: evalEach es (callEnv fd L a))) Q E s
  refine joinParts_cons (h1 L a A outer X s m C lo _ _ fun v h₁ tk₁ x1 r1 => ?_)
  cases r1
  refine ⟨by rw [Str.length_append] at hz; show (out ++ y).length ≤ 16777216; omega, h2 (out ++ y) L a A outer X _ m (C.step x1) (lo.mono (x1.hid C.sx.sub)) hz _ _ fun v h₂ tk₂ x2 r2 => h v h₂ tk₂ (x1.trans x2) r2⟩
theorem Ev.joined {e1 e2 : Expr} {es : List Expr} {x : PySem.Str} {pos : Pos} (h1 : EvJ W fd n hd σ (e1 :: e2 :: es) x) (hz : x.length ≤ 16777216) : Ev W fd n hd σ (.JoinedStr (e1 :: e2 :: es) pos) (.str x) := fun L a A outer X s m C lo Q E h =>
  JoinedStr_many (h1 PySem.Str.empty L a A outer X s m C lo (by rw [Str.empty_append]; exact hz) Q E (by rw [Str.empty_append]; exact h))
def Inp (W : Wd) (n : Nat) (hd : Nat) (op : Operator) (d1 d2 d : D) : Prop :=
  ∀ (A : Around) (outer : List Env) (X : List Addr) (s : Shared) (v1 v2 : Value), Sx W A outer X s.heap n hd → Rep (hideAll s.heap X) v1 d1 → Rep (hideAll s.heap X) v2 d2 → Go W A outer X s (inplaceOp op v1 v2) d
theorem Inp.addI {i j : Int} : Inp W n hd .Add (.int i) (.int j) (.int (i + j)) := fun A outer X s v1 v2 S r1 r2 Q E h => by
  cases r1; cases r2
  refine AutoIntOps.iadd_0 ?_
  exact h _ _ _ .refl (.int _ _)
variable {P : Out → Prop}
theorem Ex.aug {sc : Scope} (F : FdIs fd sc) {x : PySem.Str} {xp pos : Pos} {op : Operator} {e : Expr} {d0 d1 d : D} {rest : List Stmt} (h0 : σ.lookup x = some d0) (h1 : Ev W fd n hd σ e d1) (hi : Inp W n hd op d0 d1 d) (h2 : Ex W fd n hd ((x, d) :: σ) rest P)
    (hl : sc.names.lookup x = some .local := by rfl) : Ex W fd n hd σ (.AugAssign (.Name x xp) op e pos :: rest) P :=
  Ex.stmt fun L a A outer X s m C lo Q E hq => by
    obtain ⟨v0, hv0, r0⟩ := lo x d0 h0
    refine wpAny_AugAssign_Name (wpAny_loadName_local F.k (show fd.scope.names.lookup x = _ by rw [F.s]; exact hl) C.ns hv0 (h1 L a A outer X _ m C lo _ _ fun v h₁ tk₁ x1 r1 => ?_))
    have C1 := C.step x1
    have lo1 := lo.mono (x1.hid C.sx.sub)
    refine hi A _ X { s with heap := h₁, toks := tk₁ } v0 v C1.sx (r0.mono (x1.hid C.sx.sub)) r1 _ _ fun v' h₂ tk₂ x2 r2 => ?_
    exact store_go (C1.step x2) (lo1.mono (x2.hid C.sx.sub)) r2 (fun h' tk' y hn l => hq .next (.next _) h' _ tk' ((x1.toL.trans x2.toL).trans y) hn h2 l) F hl
theorem Bin.addL {xs ys : List D} (hz : xs.length + ys.length ≤ 16777216) : Bin W n hd .Add (.list xs) (.list ys) (.list (xs ++ ys)) := fun A outer X s v1 v2 S r1 r2 Q E h => by
  cases r1 with
  | list h1 l1 =>
  cases r2 with
  | list h2 l2 =>
  rename_i a vs b ws
  obtain ⟨⟨cls, dd, data, sl⟩, ho, hc, k, hdd⟩ := list_hid h1
  obtain ⟨⟨cls2, dd2, data2, sl2⟩, ho2, hc2, k2, hdd2⟩ := list_hid h2
  simp only at hc hdd hc2 hdd2
  subst hc hdd hc2 hdd2
  have e : vs.toArray ++ ws.toArray = (vs ++ ws).toArray := by simp
  refine concat_meets ⟨_, ho, rfl⟩ ⟨_, ho2, rfl⟩ noFill_list_add seq_list_add PySem.F.slot_list_add PySem.F.entry_list_add (PySem.F.args_list_add_2 _ _) (list_addW a b vs.toArray ws.toArray k k2 dd dd2 sl sl2 (by have := l1.len; have := l2.len; simp only [List.size_toArray]; show vs.length + ws.length ≤ 16777216; omega)) ⟨ho, ho2, ?_⟩
  rw [e]
  have p := Stp.push (fs := fr outer) (h := s.heap) { cls := .type "list", data := .seq (vs ++ ws).toArray }
  exact h _ _ _ p (.list ⟨_, hideAll_get X (Heap.get?_push_size _ rfl) S.fresh, rfl, _, rfl⟩ ((l1.app l2).mono (p.hid S.sub)))
theorem RepL.rep {g : Heap} {vs : List Value} {ds : List D} (h : RepL g vs ds) : ∀ k : Nat, RepL g (List.replicate k vs).flatten (List.replicate k ds).flatten
  | 0 => .nil
  | k + 1 => by simp only [List.replicate_succ, List.flatten_cons]; exact h.app (h.rep k)
theorem Bin.mulL {xs : List D} {i : Int} (h0 : 0 ≤ i) (h1 : i < 1000) (hz : xs.length ≤ 1000) : Bin W n hd .Mult (.list xs) (.int i) (.list (List.replicate i.toNat xs).flatten) := fun A outer X s v1 v2 S r1 r2 Q E h => by
  cases r2
  rename_i u
  cases r1 with
  | list h1' l1 =>
  rename_i l vs
  obtain ⟨⟨cls, d, data, sl⟩, ho, hcl, k, hd'⟩ := list_hid h1'
  simp only at hcl hd'
  subst hcl hd'
  have len := l1.len
  have hsz' : vs.toArray.size * i.toNat ≤ 2 ^ 24 := by
    have : vs.length * i.toNat ≤ 1000 * 1000 := Nat.mul_le_mul (by omega) (by omega)
    simp only [List.size_toArray]
    omega
  refine wpAny_binaryOp_repeat_ref (T := "list") (U := "int") (by decide) ⟨_, ho, rfl⟩ (fun s' => typeIs_int s' i u) noFill_list_mul F.fills_int_mul F.slot_int_rmul repeat_list F.slot_int_index.lookup
    (call_meets F.slot_int_rmul (typeIs_int s i u) F.entry_int_rmul (F.args_int_rmul_2 _ _) (lm_int_rmul_list_any i u l vs.toArray k d sl)
      ⟨ho, rfl, ⟨_, ho, rfl⟩, call_meets F.slot_list_mul ⟨_, ho, rfl⟩ F.entry_list_mul (F.args_list_mul_2 _ _)
        (lm_list_mul_any l vs.toArray k d sl i u (by simp [Builtin.List.listFitsIndex]; omega) (by omega) (by simp [Builtin.List.listTooLong, sizeLine]; omega))
        ⟨ho, ?_⟩⟩)
  rw [listMul_foldl_if]
  have p := Stp.push (fs := fr outer) (h := s.heap) { cls := .type "list", data := .seq (List.replicate i.toNat vs).flatten.toArray }
  exact h _ _ _ p (.list ⟨_, hideAll_get X (Heap.get?_push_size _ rfl) S.fresh, rfl, _, rfl⟩ ((l1.rep _).mono (p.hid S.sub)))
theorem Call.range {a b c : Int} (hc : c ≠ 0) (hs : Builtin.divisionGoesByPylong (b - a) c = false) : Call W n hd (.type "range") [.int a, .int b, .int c] (.rng a b c) := fun A outer X s vs S r Q E hq => by
  cases r with | cons r1 r =>
  cases r with | cons r2 r =>
  cases r with | cons r3 r =>
  cases r
  cases r1; cases r2; cases r3
  rename_i t u v
  refine call_range_3 hc ?_ (.inl hs)
  have p := Stp.push (fs := fr outer) (h := s.heap) { cls := .type "range", data := .fields #[.int a t, .int b u, .int c v] }
  exact hq _ _ _ p (.rng (hideAll_get X (Heap.get?_push_size _ rfl) S.fresh))
end
end Mine
end

section
open PySem PySem.W PySem.Calls PyProof.Rows
set_option Elab.async false
set_option linter.unusedVariables false
set_option maxRecDepth 100000
namespace Mine
section
variable {W : Wd} {fd : FuncData} {n : Nat} {hd : Nat} {σ : Sg}
inductive EvK (W : Wd) (fd : FuncData) (n hd : Nat) (σ : Sg) : List Keyword → List PySem.Str → List D → Prop
  | nil : EvK W fd n hd σ [] [] []
  | cons {x : PySem.Str} {e : Expr} {p : Pos} {kws : List Keyword} {d : D} {xs : List PySem.Str} {ds : List D} : Ev W fd n hd σ e d → EvK W fd n hd σ kws xs ds → EvK W fd n hd σ (⟨some x, e, p⟩ :: kws) (x :: xs) (d :: ds)
theorem EvK.go {pos : Pos} {L a : Addr} {A : Around} {outer : List Env} {X : List Addr} {m : PySem.Str → Option Value} {kws : List Keyword} {xs : List PySem.Str} {ds : List D} (h : EvK W fd n hd σ kws xs ds) :
    ((backToKw pos (keywordEach kws (callEnv fd L a))).all (·.1.isSome) = true ∧ (backToKw pos (keywordEach kws (callEnv fd L a))).any (·.1.isNone) = false ∧ (backToKw pos (keywordEach kws (callEnv fd L a))).filterMap (·.1) = xs) ∧
    ∀ {s : Shared} {Q : List Value → Shared → Prop} {E : Value → Shared → Prop}, Cx W fd L a A outer X s.heap m n hd → Loc (hideAll s.heap X) m σ → (∀ vs h' tk', Stp (fr (callEnv fd L a :: outer)) s.heap h' → RepL (hideAll h' X) vs ds → Q vs { s with heap := h', toks := tk' }) →
      wpAny (model W.prog W.w) A (evalAll ((backToKw pos (keywordEach kws (callEnv fd L a))).map (·.2))) Q E s := by
  induction h with
  | nil => exact ⟨⟨rfl, rfl, rfl⟩, fun C lo hq => kwAll_nil (hq _ _ _ .refl .nil)⟩
  | @cons x e p kws d xs ds h1 h2 ih =>
    have ek : backToKw pos (keywordEach (⟨some x, e, p⟩ :: kws) (callEnv fd L a)) = (some x, (do let v ← eval e (callEnv fd L a); standAt pos; pure v)) :: backToKw pos (keywordEach kws (callEnv fd L a)) := rfl
    refine ⟨?_, fun {s Q E} C lo hq => ?_⟩
    · rw [ek]
      obtain ⟨a1, a2, a3⟩ := ih.1
      exact ⟨by rw [List.all_cons, a1]; rfl, by rw [List.any_cons, a2]; rfl, by rw [List.filterMap_cons, a3]⟩
    · refine kwAll_cons (h1 L a A outer X s m C lo _ _ fun v h₁ tk₁ x1 r1 => ?_)
      have C1 := C.step x1
      exact ih.2 (s := { s with heap := h₁, toks := tk₁ }) C1 (lo.mono (x1.hid C.sx.sub)) fun vs h₂ tk₂ x2 r2 => hq (v :: vs) h₂ tk₂ (x1.trans x2) (.cons (r1.mono (x2.hid C.sx.sub)) r2)
theorem EvX.callK {func : Expr} {kws : List Keyword} {pos : Pos} {f : Value} {xs : List PySem.Str} {kds : List D} {r : Option D} (h1 : Ev W fd n hd σ func (.fn f)) (h2 : EvK W fd n hd σ kws xs kds) (hf : Keep W f) (h3 : CallKX W n hd f [] xs kds r)
    (he : ∀ env, eval (.Call func [] kws pos) env = (do callWith pos (← eval func env) [] (backTo pos (starEach [] env)) (backToKw pos (keywordEach kws env))) := by intro _; rfl) : EvX W fd n hd σ (.Call func [] kws pos) r :=
  fun L a A outer X s m C lo Q E hq hr => by
    rw [he]
    refine wpAny_bind (h1 L a A outer X s m C lo _ _ fun v ha tka x1 r1 => ?_)
    have e : v = f := by cases r1; rfl
    subst e
    have C1 := C.step x1
    obtain ⟨⟨a1, a2, a3⟩, go⟩ := EvK.go (pos := pos) (L := L) (a := a) (A := A) (outer := outer) (X := X) (m := m) h2
    refine callWith_of (P := fun h => Gd W (hideAll h X)) (by rw [a2]; rfl) (fun hh G => ?_) ?_
    · obtain ⟨k, hk, l⟩ := hf _ G
      exact ⟨k, hk, l.keeps fun b o e => of_hideAll X e⟩
    · refine evalArgs_kw2_nil a1 (go (s := { s with heap := ha, toks := tka }) C1 (lo.mono (x1.hid C.sx.sub)) fun vs hb tk x r => ?_)
      rw [a3]
      have C' := C1.step x
      exact ⟨C'.sx.gd, h3 A _ X { s with heap := hb, toks := tk } [] vs C'.sx .nil r _ _ (fun v hc tkc d q y rv => hq v hc tkc d q ((x1.trans x).trans y) rv)
          fun e hc tkc ctx fl q y z w u => hr e hc tkc ctx fl q ((x1.trans x).trans y) (z.base (x1.trans x).has) w u⟩
theorem EvX.ev {e : Expr} {d : D} (h : EvX W fd n hd σ e (some d)) : Ev W fd n hd σ e d := fun L a A outer X s m C lo Q E hq =>
  h L a A outer X s m C lo Q E (fun v h' tk' d' q x r => by cases q; exact hq v h' tk' x r) fun e h' tk' ctx fl q => by cases q
theorem CallX.call {f : Value} {ds : List D} {d : D} (h : CallX W n hd f ds (some d)) : Call W n hd f ds d := fun A outer X s vs S r Q E hq =>
  h A outer X s vs S r Q E (fun v h' tk' d' q x r => by cases q; exact hq v h' tk' x r) fun e h' tk' ctx fl q => by cases q
theorem Bin.own {op : Operator} {C f C' : Addr} {fs fs' : List (PySem.Str × Int)} {k : Int} {fo ro : Option Value} (hc : selfFirst W.K C = true)
    (hs : findIn W.K (.ref C) (PySem.dunder op.info.2) = some (some (.ref f))) (hf : isFn W.K (.ref f) = true) (hr : findIn W.K (.ref C) (dunderR op.info.2) = some none)
    (h1 : findIn W.K (.type "int") (PySem.dunder op.info.2) = some fo) (h2 : findIn W.K (.type "int") (dunderR op.info.2) = some ro) (hsub : subIn W.K (.type "int") (.ref C) = some false)
    (h : Call W n hd (.ref f) [.obj C fs, .int k] (.obj C' fs')) : Bin W n hd op (.obj C fs) (.int k) (.obj C' fs') := fun A outer X s v1 v2 S r1 r2 Q E hq => by
  have XK : W.K.In s.heap := S.gd.X.keeps fun b o e => of_hideAll X e
  have q := h A outer X s [v1, v2] S (.cons r1 (.cons r2 .nil)) (PySem.W.CmpBack Q) E fun v h' tk' x r => by
    cases r
    exact hq _ h' tk' x (.obj (by assumption) (by assumption) (by assumption))
  cases r2
  cases r1
  rename_i t x dx es m e2 e1 e3
  have I : InstAt s.heap x (instObj C dx) C (some (dictOf es m)) := ⟨of_hideAll X e1, rfl, rfl, of_hideAll X e2⟩
  obtain ⟨cd, rest, hcd, hm⟩ := ksp_first hc
  rcases hi : op.info with ⟨sym, nm'⟩
  rw [hi] at hs hr h1 h2
  dsimp only at hs hr h1 h2
  have one := ksp_try (name := PySem.dunder nm') XK I hs hf q
  obtain ⟨hh, g, d, tt, os⟩ := s
  have L1 : Looks (model W.prog W.w) hh (typeOf (.ref x)) (.ref C) := I.type
  have L2 : Looks (model W.prog W.w) hh (typeOf (.int k t)) (.type "int") := Looks.of_pure rfl
  have L3 : Looks (model W.prog W.w) hh (fillsNumberSlot (.ref C) nm') true := fills_K XK hcd hm hs
  have L4 : Looks (model W.prog W.w) hh (fillsNumberSlot (.type "int") nm') ((fo.isSome && !isSeqSlot fo) || (ro.isSome && !isSeqSlot ro)) := ksp_fillsT XK h1 h2
  have L5 : Looks (model W.prog W.w) hh (isSubtype (.type "int") (.ref C)) false := looks_subIn XK hsub
  have L6 : Looks (model W.prog W.w) hh (numberSlotInPython (.ref C) nm') true := ksp_inPy XK hs hr (.inl rfl)
  have L7 : Looks (model W.prog W.w) hh (numberSlotInPython (.type "int") nm') false := Looks.of_pure rfl
  have L8 : Looks (model W.prog W.w) hh (typeLookup (.type "int") (dunderR nm')) ro := looks_findIn XK h2
  generalize ((fo.isSome && !isSeqSlot fo) || (ro.isSome && !isSeqSlot ro)) = right at L4
  have hne : (Value.ref C == Value.type "int") = false := Bool.eq_false_iff.mpr fun q => by cases beq_iff_eq.mp q
  simp only [binaryOp, hi]
  refine wpAny_holding (wpAny_bind ?_)
  unfold binaryOp1
  refine wpAny_bind (L1.at (wpAny_bind (L2.at (wpAny_bind (L3.at ?_)))))
  simp only [hne, Bool.false_eq_true, if_false]
  cases right
  all_goals
    ksp_lk
    refine wpAny_mono one (fun r s' hr' => ?_) fun _ _ e => e
    obtain ⟨v, rfl, hq⟩ := hr'
    ksp_lk
    exact hq
end
end Mine
end

section
open PySem PySem.W PySem.Calls PyProof.Rows
set_option Elab.async false
set_option linter.unusedVariables false
set_option maxRecDepth 100000
namespace Mine
section
variable {W : Wd} {fd : FuncData} {n : Nat} {hd : Nat} {σ : Sg}
theorem Call.of_star {f : Addr} {oc : Value} {od : Option Addr} {osl : Array (Option Value)} {fd : FuncData} {ds : List D} {d : D} {body : List Stmt} (x : PySem.Str)
    (ho : W.K.lookup f = some ⟨oc, od, .func fd, osl⟩) (hcd : codeIn W.K fd.code fd.qualname = true) (hbody : fd.body = .stmts body)
    (hb : ∀ vs : List Value, vs.length = ds.length → bindArgs fd ⟨vs, []⟩ = (newTuple vs >>= fun t => pure [(x, t)])) (hz : ds.length ≤ 16777216) (hloc : fd.scope.names.lookup x = some .local)
    (h : ∀ fd' sc, sc = fd.scope → FdIs fd' sc → Ex W fd' n hd [(x, .tup ds)] body (fun o => o = .ret d ∨ (d = .none ∧ ∃ σ, o = .next σ)))
    (hcell : ∀ x ∈ fd.scope.names, x.2 ≠ .cell := by decide) (hco : fd.scope.isCoroutine = false := by rfl) (hgen : fd.scope.isGenerator = false := by rfl) (hk : fd.scope.kind = .function := by rfl) (hgl : fd.globals = mainGlobals := by rfl) (hbl : fd.builtins = builtinsNs := by rfl) : Call W (n + 1) hd (.ref f) ds d := by
  intro A outer X s vs S r Q E hq
  have X₀ := S.gd.X.keeps (fun b o e => of_hideAll X e)
  have len := r.len
  refine wpAny_call (codeAny_call_function (by have := S.room; omega) (X₀ _ _ ho) rfl hco hgen hbody (codeRec_of X₀ hcd) ?_)
  rw [hb vs len]
  refine wpAny_bind (wpAny_newTuple (wpAny_pure ?_) (by rw [len]; exact hz))
  have p := Stp.push (fs := fr outer) (h := s.heap) { cls := .type "tuple", data := .seq vs.toArray }
  have S1 := S.step p
  have rt : Rep (hideAll (s.heap.push { cls := .type "tuple", data := .seq vs.toArray }) X) (.ref s.heap.objs.size) (.tup ds) := .tup ⟨_, hideAll_get X (Heap.get?_push_size _ rfl) S.fresh, rfl, _, rfl⟩ (r.mono (p.hid S.sub))
  generalize hs1 : s.heap.push { cls := .type "tuple", data := .seq vs.toArray } = h1 at p S1 rt ⊢
  refine wpAny_newFunctionEnv hcell (fun y hy => by obtain rfl : y = (x, _) := by simpa using hy
                                                    exact hloc) (fun h₀ hn hsb₀ => ⟨(S1.gd.T.nolimit.keeps fun b o e => of_hideAll X e).fresh _ hsb₀, codeAny_func ?_⟩) hk
  have hk₀ : ∀ b o, h1.get? b = some o → h₀.get? b = some o := fun b o e => hsb₀.extBut b o (Nat.ne_of_lt (Heap.lt_size e)) (Heap.get?_push_of_some _ e)
  obtain ⟨C, lo, hLX⟩ := enter_go (f := f) (fd := fd) (names := [x]) (ds := [.tup ds]) (s := { s with heap := h1 }) S1 (.cons rt .nil) hn hk₀ rfl hk
  refine h fd fd.scope rfl ⟨rfl, hk, hgl, hbl⟩ h1.objs.size f _ outer (h1.objs.size :: X) { s with heap := h₀, toks := s.toks + 1 } _ C lo _ _ fun fl o h' m' tk' x hn' hP hO => ?_
  have st := back_go hk₀ x
  have sub : (hideAll h' (h1.objs.size :: X)).StaysIn (hideAll h' X) := hideAll_sub fun b hb => List.mem_cons_of_mem _ hb
  rcases hP with rfl | ⟨rfl, τ, rfl⟩
  · cases fl with
    | ret v => exact hq v h' tk' (p.trans st) (Rep.mono sub hO)
    | _ => exact hO.elim
  · cases fl with
    | next => exact hq .none h' tk' (p.trans st) .none
    | _ => exact hO.elim
end
end Mine
end

section
open PySem PySem.W PySem.Calls PyProof.Rows
set_option Elab.async false
set_option linter.unusedVariables false
set_option maxRecDepth 100000
namespace Mine
open Builtin Builtin._codecs
theorem loop1 {β : Type} {F : Nat → β → Sem (ForInStep β)} {s1 s2 : β} {l : List Nat} (hl : l ≠ []) (h1 : ∀ k, F k s1 = pure (.yield s2)) (h2 : ∀ k, F k s2 = pure (.done s2)) : forIn l s1 F = pure s2 := by
  cases l with
  | nil => exact absurd rfl hl
  | cons a r =>
    rw [List.forIn_cons, h1]
    simp only [pure_bind]
    cases r with
    | nil => rfl
    | cons b r => rw [List.forIn_cons, h2]; simp only [pure_bind]
theorem sizeL : sizeLine = 16777216 := sizeLine_eq
theorem enc_narrow (id : String) (self : Value) (x : PySem.Str) (hz : x.length ≤ 1000) (ha : ∀ c ∈ x.cps.toList, c < 128) : encodeNarrow id asciiCodec none self x = pure (x.cps.map Nat.toUInt8) := by
  have hbad : ∀ c ∈ x.cps, asciiCodec.bad c = false := fun c hc => by
    have := ha c (by simpa using hc)
    show decide (c ≥ 128) = false
    exact decide_eq_false (by omega)
  have hfold : ∀ (l : List Nat) (acc : Array UInt8), l.foldl (fun acc y => acc ++ (asciiCodec.bytesOf y).toArray) acc = acc ++ (l.map Nat.toUInt8).toArray := by
    intro l
    induction l with
    | nil => intro acc; simp
    | cons c r ih => intro acc; rw [List.foldl_cons, ih]; simp [asciiCodec]
  unfold encodeNarrow
  simp only [Std.Legacy.Range.forIn_eq_forIn_range']
  have hsz : x.length = x.cps.size := rfl
  by_cases he : x.cps.size = 0
  · have e : x.cps = #[] := Array.eq_empty_of_size_eq_zero he
    have : x.length = 0 := by rw [hsz, he]
    simp [this, e, Std.Legacy.Range.size]
  · have hl : List.range' 0 ([:x.length] : Std.Legacy.Range).size 1 ≠ [] := by
      simp [Std.Legacy.Range.size, hsz]
      intro q; exact he (by simp [q])
    rw [loop1 (s2 := (x.cps.size, x.cps.map Nat.toUInt8, ({} : Faults))) hl (fun k => ?_) (fun k => ?_)]
    · rfl
    · dsimp only
      rw [if_neg (by simp)]
      have h0 : x.cps[0]? = some (x.cps[0]'(by omega)) := Array.getElem?_eq_getElem (by omega)
      rw [h0]
      dsimp only
      rw [if_pos (by rw [hbad _ (Array.getElem_mem _)]; rfl)]
      have hex : x.cps.extract 0 = x.cps := by simp
      have hfi : Array.findIdx? asciiCodec.bad x.cps = none := by
        rw [Array.findIdx?_eq_none_iff]
        exact fun c hc => by rw [hbad c hc]
      rw [hex, hfi]
      simp only [Option.getD_none, Array.extract_size, Nat.zero_add]
      congr 4
      rw [← Array.foldl_toList, hfold]
      apply Array.toList_inj.mp
      simp
    · dsimp only
      rw [if_neg (by simp [sizeL]; omega)]
      rw [Array.getElem?_eq_none (by omega)]
theorem loop2 {β : Type} {F : Nat → β → Sem (ForInStep β)} (st : Nat → β) : ∀ (l : List Nat) (i n : Nat), i + l.length = n → (∀ k i, i < n → F k (st i) = pure (.yield (st (i + 1)))) → forIn l (st i) F = pure (st n)
  | [], i, n, h, _ => by obtain rfl : i = n := by simpa using h
                         rfl
  | a :: r, i, n, h, hF => by
    rw [List.forIn_cons, hF a i (by simp only [List.length_cons] at h; omega)]
    simp only [pure_bind]
    exact loop2 st r (i + 1) n (by simp only [List.length_cons] at h; omega) hF
theorem loop3 {β : Type} {F : Nat → β → Sem (ForInStep β)} (st : Nat → β) {s0 : β} (h0 : s0 = st 0) {l : List Nat} {n : Nat} (hn : l.length = n) (hF : ∀ k i, i < n → F k (st i) = pure (.yield (st (i + 1)))) : forIn l s0 F = pure (st n) := by
  subst h0
  exact loop2 st l 0 n (by omega) hF
theorem dec_run (id : String) (held : List Value) (b : Array UInt8) (hz : b.size ≤ 1000) (ha : ∀ c ∈ b, c.toNat < 128) : runDecoder id asciiDecoder none true b 0 held = pure (b.map UInt8.toNat, b.size) := by
  unfold runDecoder
  simp only [Std.Legacy.Range.forIn_eq_forIn_range']
  have hlen : (List.range' 0 ([:b.size] : Std.Legacy.Range).size 1).length = b.size := by simp [Std.Legacy.Range.size]
  rw [loop3 (fun i => (i, (b.map UInt8.toNat).extract 0 i, ({ held := held } : Faults))) (by simp) hlen (fun k i hi => ?_)]
  · simp only [pure_bind]
    congr 2
    have : b.size = (b.map UInt8.toNat).size := by simp
    rw [this, Array.extract_size]
  · dsimp only
    rw [if_neg (by simp [sizeL]; omega), if_neg (by omega)]
    have hb : b[i]? = some (b[i]'hi) := Array.getElem?_eq_getElem hi
    have hlt : (b[i]'hi).toNat < 128 := ha _ (Array.getElem_mem _)
    have hf : asciiDecoder.find true b i = .char (b[i]'hi).toNat (i + 1) := by
      show (if (b.getD i 0).toNat < 128 then _ else _) = _
      rw [show b.getD i 0 = b[i]'hi by simp [Array.getD, hi], if_pos hlt]
    rw [hf]
    show pure (ForInStep.yield (i + 1, (b.map UInt8.toNat).extract 0 i ++ [(b[i]'hi).toNat].toArray, ({ held := held } : Faults))) = _
    congr 4
    apply Array.toList_inj.mp
    simp only [Array.toList_append, Array.toList_extract, Array.toList_map, List.extract_eq_drop_take, List.drop_zero, Nat.sub_zero]
    rw [List.take_add_one, List.getElem?_map]
    simp [hi]
end Mine
end

section
open PySem PySem.W PySem.Calls PyProof.Rows
set_option Elab.async false
set_option linter.unusedVariables false
set_option maxRecDepth 100000
namespace Mine
open Builtin Builtin._codecs
def toB (x : PySem.Str) : Array UInt8 := x.cps.map Nat.toUInt8
theorem encode_eq (x : PySem.Str) (t u : Tok) : «str.encode» ⟨[.str x t, .str (PySem.Str.ofString "ascii") u], []⟩ = ((encodeNarrow "str.encode" asciiCodec none (.str x t) x >>= fun b => mkBytes b) >>= fun v => ret v) := by kernel_rfl
theorem road_ascii {id : String} {b : Array UInt8} {held : List Value} : decodeRoad id b (PySem.Str.ofString "ascii") none held = (runDecoder id asciiDecoder none true b 0 held >>= fun r => mkStr ⟨r.1⟩) := by kernel_rfl
theorem decode_cons (c : UInt8) (cs : List UInt8) (t u : Tok) : «bytes.decode» ⟨[.bytes (c :: cs).toArray t, .str (PySem.Str.ofString "ascii") u], []⟩ = (mkStr (PySem.Str.ofString "utf-8") >>= fun e0 => mkStr (PySem.Str.ofString "ascii") >>= fun e => mkStr (PySem.Str.ofString "bytes.decode") >>= fun d =>
    call (.builtin "_codecs.decode.text") [.bytes (c :: cs).toArray t, e, .none, d] >>= fun v => ret v) := by kernel_rfl
theorem decode_nil (t u : Tok) : «bytes.decode» ⟨[.bytes #[] t, .str (PySem.Str.ofString "ascii") u], []⟩ = (rule "bytes.decode.empty" >>= fun _ => retStr PySem.Str.empty) := by kernel_rfl
theorem meets_asc {b : Array UInt8} {x : PySem.Str} {k : Nat} {t t1 t2 : Tok} {d : PySem.Str} (hd : ∀ id, runDecoder id asciiDecoder none true b 0 [] = pure (x.cps, k)) :
    Meets («_codecs.decode.text» ⟨[.bytes b t, .str (PySem.Str.ofString "ascii") t1, .none, .str d t2], []⟩) (fun _ R s => x.length ≤ sizeLine ∧ R (.ok (.ret (.str x s.toks))) { s with toks := s.toks + 1 }) := by
  refine .of_wp fun prog w A R s hS => ?_
  obtain ⟨hsz, h⟩ := hS
  show wpAny _ _ (Bytes.bytesLike _ (.bytes b t) >>= fun r => _) _ _ s
  refine wpAny_bind (wpAny_of_eq KBd.like_eq ?_)
  refine wpAny_bind (wpAny_of_eq KBd.held_eq ?_)
  show wpAny _ _ (decodeRoad _ b (PySem.Str.ofString "ascii") none [] >>= fun v => _) _ _ s
  rw [road_ascii, hd]
  refine wpAny_bind (wpAny_bind (wpAny_pure ?_))
  exact wpAny_mkStr (wpAny_pure ⟨_, rfl, h⟩) hsz
section
variable {W : Wd} {n hd : Nat}
theorem toB_size (x : PySem.Str) : (toB x).size = x.length := by simp [toB, PySem.Str.length]
theorem Call.encode {x : PySem.Str} (hz : x.length ≤ 1000) (ha : ∀ c ∈ x.cps.toList, c < 128) : Call W n hd (.builtin "str.encode") [.str x, .str (PySem.Str.ofString "ascii")] (.bytes (toB x)) :=
  Call.slot (Meth.str F.slot_str_encode F.type_str_encode) F.entry_str_encode (fun vs hl => by match vs, hl with | [a, b], _ => exact F.args_str_encode_2 _ _) fun A outer X s vs S r Q E hq => by
    cases r with | cons r1 r =>
    cases r with | cons r2 r =>
    cases r
    cases r1; cases r2
    rw [encode_eq, enc_narrow _ _ _ hz ha]
    refine wpAny_bind (wpAny_bind (wpAny_pure (wpAny_mkBytes (wpAny_pure (hq _ _ _ .refl (.bytes _ _))) ?_)))
    show (toB x).size ≤ sizeLine
    rw [toB_size, sizeL]; omega
theorem Call.decode {x : PySem.Str} (hz : x.length ≤ 1000) (ha : ∀ c ∈ x.cps.toList, c < 128) : Call W n hd (.builtin "bytes.decode") [.bytes (toB x), .str (PySem.Str.ofString "ascii")] (.str x) :=
  Call.slot (Meth.bytes FB.slot_bytes_decode FB.type_bytes_decode) FB.entry_bytes_decode (fun vs hl => by match vs, hl with | [a, b], _ => unfold argsOk; kernel_rfl) fun A outer X s vs S r Q E hq => by
    cases r with | cons r1 r =>
    cases r with | cons r2 r =>
    cases r
    cases r1; cases r2
    rename_i t u
    have hmap : (toB x).map UInt8.toNat = x.cps := by
      apply Array.toList_inj.mp
      simp only [toB, Array.toList_map, List.map_map]
      refine (List.map_congr_left (g := _root_.id) fun c hc => ?_).trans (List.map_id _)
      have := ha c hc
      show (Nat.toUInt8 c).toNat = c
      simp only [Nat.toUInt8, UInt8.toNat_ofNat']
      omega
    have hlt : ∀ c ∈ toB x, c.toNat < 128 := fun c hc => by
      have h1 : c.toNat ∈ ((toB x).map UInt8.toNat) := Array.mem_map.mpr ⟨c, hc, rfl⟩
      rw [hmap] at h1
      exact ha _ (by simpa using h1)
    have hrun : ∀ id, runDecoder id asciiDecoder none true (toB x) 0 [] = pure (x.cps, (toB x).size) := fun id => by
      rw [dec_run id [] (toB x) (by rw [toB_size]; exact hz) hlt, hmap]
    cases hb : (toB x).toList with
    | nil =>
      have e0 : toB x = #[] := Array.toList_eq_nil_iff.mp hb
      have ex : x = PySem.Str.empty := by
        have : x.length = 0 := by rw [← toB_size, e0]; rfl
        exact PySem.Str.ext' (by rw [show x.cps = #[] from Array.eq_empty_of_size_eq_zero this]; rfl)
      subst ex
      rw [e0, decode_nil]
      exact wpAny_bind (wpAny_rule (wpAny_bind (wpAny_mkStr (wpAny_pure (hq _ _ _ .refl (.str _ _))) (by decide))))
    | cons c cs =>
      have e1 : toB x = (c :: cs).toArray := by apply Array.toList_inj.mp; rw [hb]
      rw [e1] at hrun ⊢
      rw [decode_cons]
      refine wpAny_bind (wpAny_mkStr ?_ (by decide))
      refine wpAny_bind (wpAny_mkStr ?_ (by decide))
      refine wpAny_bind (wpAny_mkStr ?_ (by decide))
      refine wpAny_bind (call_function_meets KBd.kind_text KBd.plain_text KBd.entry_text (KBd.args_text _ _ _ _) (meets_asc hrun) ⟨by rw [sizeL]; omega, ?_⟩)
      exact wpAny_pure (hq _ _ _ .refl (.str _ _))
end
end Mine
end

section
open PySem PySem.W PySem.Calls PyProof.Rows
set_option Elab.async false
set_option linter.unusedVariables false
set_option maxRecDepth 100000
namespace Mine
open Builtin
theorem owner_bytearray : Manifest.owners.lookup (String.ofList ['y', 'a', 'r', 'r', 'a', 'e', 't', 'y', 'b'].reverse) = some Manifest.sig_bytearray := by kernel_rfl
theorem ba_mro : mroOf (.type "bytearray") = pure [.type "bytearray", .type "object"] := by rw [mroOf_type]; kernel_rfl
theorem ba_lookup_new : typeLookup (.type "bytearray") "__new__" = pure (some (.builtin "bytearray.__new__")) := by rw [typeLookup_type, builtinLookup_eq_fast]; kernel_rfl
theorem slot_ba_init : Slot "bytearray" "__init__" "bytearray.__init__" :=
  .of (owner := "bytearray") (n := "__init__") (by rw [typeLookup_type, builtinLookup_eq_fast]; kernel_rfl) (by decide +kernel) (by decide +kernel) (by decide +kernel)
    (by first | exact .inl (by decide +kernel) | exact .inr (by decide +kernel)) (by rw [isSubtype_type]; kernel_rfl)
theorem slot_ba_decode : Slot "bytearray" "decode" "bytearray.decode" :=
  .of (owner := "bytearray") (n := "decode") (by rw [typeLookup_type, builtinLookup_eq_fast]; kernel_rfl) (by decide +kernel) (by decide +kernel) (by decide +kernel)
    (by first | exact .inl (by decide +kernel) | exact .inr (by decide +kernel)) (by rw [isSubtype_type]; kernel_rfl)
theorem type_ba_decode : typeOf (.builtin "bytearray.decode") = pure (.type "method_descriptor") := by show builtinType _ = _; rw [builtinType_eq_fast]; kernel_rfl
theorem entry_ba_decode : entryFor table "bytearray.decode" = some Builtin.«bytearray.decode» := entryFor_of_tree (by kernel_rfl)
theorem entry_ba_init : entryFor table "bytearray.__init__" = some Builtin.«bytearray.__init__» := entryFor_of_tree (by kernel_rfl)
theorem plainAttrs_ba : PlainAttrs "bytearray" :=
  ⟨⟨"bytearray.__getattribute__", by rw [typeLookup_type, builtinLookup_eq_fast]; kernel_rfl, by decide +kernel⟩, by rw [typeLookup_type, builtinLookup_eq_fast]; kernel_rfl⟩
theorem ba_called : TypeCalled "bytearray" "bytearray.__new__" "bytearray.__init__" :=
  ⟨by decide +kernel, by decide +kernel, ⟨_, _, ba_mro⟩, madeBy_type ba_mro ba_lookup_new (by decide +kernel), by decide +kernel, by rw [isSubtype_type]; kernel_rfl, slot_ba_init⟩
theorem ba_typeCall (a : Value) : checkTypeCall "bytearray" ⟨[a], []⟩ = pure () := by kernel_rfl
theorem ba_newCall (a : Value) : checkBuiltinCall "bytearray.__new__" ⟨[.type "bytearray", a], []⟩ = pure () := by kernel_rfl
set_option maxRecDepth 1000000 in
set_option maxHeartbeats 4000000 in
theorem owner_ba_new : ("bytearray.__new__".splitOn ".__new__").headD "" = "bytearray" := by simp +decide [String.splitOn, String.splitOnAux]
theorem plain_ba_new : plainId "bytearray.__new__" = true := by decide +kernel
theorem ba_none : table "bytearray.__new__" = none := by rw [table_eq_fast, fastTable_eq_tree]; kernel_rfl
theorem ba_list : table "list.__new__" = some Builtin.«list.__new__» := by rw [table_eq_fast, fastTable_eq_tree]; kernel_rfl
theorem ba_cut : "bytearray.__new__".cutAt '#' = ["bytearray.__new__"] := by decide +kernel
theorem ba_canon : (Manifest.canonical ("bytearray.__new__".map fun c => if c.isAlphanum || c == '_' || c == '.' then c else '_') ++ "") = "list.__new__" := by decide +kernel
theorem entry_ba_new : entryFor table "bytearray.__new__" = some Builtin.«list.__new__» := by
  unfold entryFor
  rw [ba_none, ba_cut]
  dsimp only
  rw [ba_canon, ba_list]
theorem sub_ba_self : isSubtype (.type "bytearray") (.type "bytearray") = pure true := by rw [isSubtype_type]; kernel_rfl
section
variable {prog : Program} {w : World} {A : Around} {E : Value → Shared → Prop} {s : Shared}
set_option maxHeartbeats 4000000 in
theorem code_ba_new (a : Value) {Q₁ : Value → Shared → Prop}
    (h : Q₁ (.ref s.heap.objs.size) { s with heap := s.heap.push { cls := .type "bytearray", data := .bytearray #[] } }) :
    codeAny (model prog w) A (.call (.builtin "bytearray.__new__") ⟨[.type "bytearray", a], []⟩) (wants Q₁ E) s := by
  refine codeAny_of_tree ?_
  show wpAny _ A.in1 (do checkBuiltinCall "bytearray.__new__" ⟨[.type "bytearray", a], []⟩; again (.builtin "bytearray.__new__" ⟨[.type "bytearray", a], []⟩)) _ _ s
  refine wpAny_bind (wpAny_of_eq (ba_newCall a) (wpAny_pure ⟨plainId_quiet plain_ba_new _, codeAny_builtin_stack entry_ba_new rfl fun p st => ?_⟩))
  rw [Around.under_plainId plain_ba_new _]
  have hsub := sub_ba_self
  have hown := owner_ba_new
  obtain ⟨hp, g, d, tk, os⟩ := s
  simp only [hown]
  wp_walk
  exact h
end
theorem args_ba_init (a b : Value) : argsOk "bytearray.__init__" ⟨[a, b], []⟩ := by unfold argsOk; kernel_rfl
theorem args_ba_decode (a b : Value) : argsOk "bytearray.decode" ⟨[a, b], []⟩ := by unfold argsOk; kernel_rfl
theorem ba_release : typeLookup (.type "bytearray") "__release_buffer__" = pure (some (.builtin "bytearray.__release_buffer__")) := by rw [typeLookup_type, builtinLookup_eq_fast]; kernel_rfl
theorem ba_buffer : typeLookup (.type "bytearray") "__buffer__" = pure (some (.builtin "bytearray.__buffer__")) := by rw [typeLookup_type, builtinLookup_eq_fast]; kernel_rfl
theorem b_buffer : typeLookup (.type "bytes") "__buffer__" = pure (some (.builtin "bytes.__buffer__")) := by rw [typeLookup_type, builtinLookup_eq_fast]; kernel_rfl
theorem b_release : typeLookup (.type "bytes") "__release_buffer__" = pure none := by rw [typeLookup_type, builtinLookup_eq_fast]; kernel_rfl
theorem b_index : typeLookup (.type "bytes") "__index__" = pure none := by rw [typeLookup_type, builtinLookup_eq_fast]; kernel_rfl
end Mine
end

section
open PySem PySem.W PySem.Calls PyProof.Rows
set_option Elab.async false
set_option linter.unusedVariables false
set_option maxRecDepth 100000
namespace Mine
open Builtin
section
variable {prog : Program} {w : World} {A : Around} {E : Value → Shared → Prop} {s : Shared}
theorem exportedP {M : Model} {a : Addr} {Q : Bool → Shared → Prop} (h : Q false s) : wpP M A (Bytes.exported (.ref a)) Q E s := by
  unfold Bytes.exported
  refine wpP.bind (wpP.stack fun st ok => wpP.pure ?_)
  have hc := ok.clean
  rw [List.all_map, List.all_eq_true] at hc
  refine Eq.mp (congrArg (fun b => Q b s) (Eq.symm ?_)) h
  refine List.any_eq_false.mpr fun x hx => ?_
  have q := hc x hx
  obtain ⟨c, p⟩ := x
  have q : cleanC c = true := q
  cases c <;> try exact Bool.false_ne_true
  rename_i id args
  simp only [cleanC, Bool.not_eq_true', Bool.or_eq_false_iff] at q
  obtain ⟨q1, q2⟩ := q
  split <;> rename_i heq
  · cases heq; exact absurd q2 (by decide)
  · cases heq; exact absurd q2 (by decide)
  · cases heq; exact absurd q2 (by decide)
  · cases heq; exact absurd q2 (by decide)
  · cases heq; exact absurd q2 (by decide)
  · cases heq; rw [q1, Bool.and_false]; exact Bool.false_ne_true
  · exact Bool.false_ne_true
theorem rel_ends : ("bytearray.__release_buffer__".endsWith ("." ++ "__release_buffer__")) = true := by decide +kernel
theorem rel_drop : ("bytearray.__release_buffer__".dropRight ("__release_buffer__".length + 1)) = "bytearray" := by decide +kernel
theorem buf_ends : ("bytearray.__buffer__".endsWith ("." ++ "__buffer__")) = true := by decide +kernel
theorem buf_drop : ("bytearray.__buffer__".dropRight ("__buffer__".length + 1)) = "bytearray" := by decide +kernel
theorem bbuf_ends : ("bytes.__buffer__".endsWith ("." ++ "__buffer__")) = true := by decide +kernel
theorem bbuf_drop : ("bytes.__buffer__".dropRight ("__buffer__".length + 1)) = "bytes" := by decide +kernel
theorem ba_release_own {a : Addr} {Q : Bool → Shared → Prop} (hT : s.TypeIs (.ref a) "bytearray") (h : Q false s) : wpAny (model prog w) A (Bytes.ownRelease (.ref a)) Q E s := by
  unfold Bytes.ownRelease Bytes.slotIsOwn
  refine wpAny_bind (wpAny_bind (wpAny_specialOf hT ba_release ?_))
  show wpAny _ _ (if (!"bytearray.__release_buffer__".endsWith ("." ++ "__release_buffer__")) = true then pure false else isInstance (.ref a) (.type ("bytearray.__release_buffer__".dropRight ("__release_buffer__".length + 1)))) _ _ _
  rw [rel_ends, rel_drop]
  exact wpAny_isInstance hT sub_ba_self (wpAny_pure h)
theorem ba_slot_own {a : Addr} {Q : Bool → Shared → Prop} (hT : s.TypeIs (.ref a) "bytearray") (h : Q true s) : wpAny (model prog w) A (Bytes.slotIsOwn (.ref a) "__buffer__") Q E s := by
  unfold Bytes.slotIsOwn
  refine wpAny_bind (wpAny_specialOf hT ba_buffer ?_)
  show wpAny _ _ (if (!"bytearray.__buffer__".endsWith ("." ++ "__buffer__")) = true then pure false else isInstance (.ref a) (.type ("bytearray.__buffer__".dropRight ("__buffer__".length + 1)))) _ _ _
  rw [buf_ends, buf_drop]
  exact wpAny_isInstance hT sub_ba_self h
theorem b_bufferF {b : Array UInt8} {t : Tok} {id : String} : Bytes.buffer? id (.bytes b t) true = pure (some b) := by
  unfold Bytes.buffer?
  rw [KBy.special_eq KBy.look_buffer, KBy.own_buffer, KBy.own_release]
  kernel_rfl
theorem b_noindex {b : Array UInt8} {t : Tok} : specialOf (.bytes b t) "__index__" = pure none := KBy.special_eq b_index
theorem write_ba {a : Addr} {b b' : Array UInt8} {f : Array UInt8 → Array UInt8} {Q : Unit → Shared → Prop} (ho : s.heap.get? a = some { cls := .type "bytearray", data := .bytearray b }) (hf : f b = b') (hz : b'.size ≤ 16777216)
    (h : ∀ h', Heap.SameBut a s.heap h' → h'.get? a = some { cls := .type "bytearray", data := .bytearray b' } → Q () { s with heap := h' }) : wpAny (model prog w) A (Bytes.write (.ref a) f) Q E s := by
  subst hf
  show wpAny _ _ (updateBytearray a f) Q E s
  unfold updateBytearray
  refine wpAny_bind (wpAny_load ho ?_)
  dsimp only
  have hu := Heap.get?_update_self (Obj.mapBytearray f) ho rfl
  refine wpAny_bind (wpAny_update ho ?_)
  refine wpAny_lookBehind hu ?_ (h _ (Heap.SameBut.update ..) hu)
  show (if (f b).size > sizeLine then some "bytearray:memory" else none) = none
  rw [if_neg]
  rw [sizeL]; omega
theorem bind_init {v : Value} : Bytes.bindOptional "bytearray.__init__" "bytearray" ["source", "encoding", "errors"] [v] [] = pure [some v, none, none] := by kernel_rfl
theorem initP {a : Addr} {b : Array UInt8} {t : Tok} {Q : PySem.Fin → Shared → Prop} (ho : s.heap.get? a = some { cls := .type "bytearray", data := .bytearray #[] }) (hz : b.size ≤ 1000)
    (h : ∀ h', Heap.SameBut a s.heap h' → h'.get? a = some { cls := .type "bytearray", data := .bytearray b } → Q (.done (.ret .none)) { s with heap := h' }) : 
    wpP (model prog w) A (Builtin.«bytearray.__init__» ⟨[.ref a, .bytes b t], []⟩) Q E s := by
  show wpP _ _ (Bytes.ownRelease (.ref a) >>= _) _ _ s
  refine wpP.first (ba_release_own ⟨_, ho, rfl⟩ ?_)
  show wpP _ _ (Bytes.bindOptional _ _ _ _ _ >>= _) _ _ s
  refine wpP.first (wpAny_of_eq bind_init ?_)
  show wpP _ _ (Bytes.checkCodecArg _ _ _ none >>= _) _ _ s
  refine wpP.first (wpAny_of_eq (by kernel_rfl : Bytes.checkCodecArg _ _ _ none = pure ()) ?_)
  show wpP _ _ (Bytes.checkCodecArg _ _ _ none >>= _) _ _ s
  refine wpP.first (wpAny_of_eq (by kernel_rfl : Bytes.checkCodecArg _ _ _ none = pure ()) ?_)
  show wpP _ _ ((Bytes.exported (.ref a) <||> _) >>= _) _ _ s
  refine wpP.bind (wpP.bind (exportedP ?_))
  refine wpP.first (m := Bytes.exportsOf _) (wpAny_bind (wpAny_load ho (wpAny_pure ?_)))
  refine wpP.pure ?_
  show wpP _ _ (Bytes.write (.ref a) (fun _ => #[]) >>= _) _ _ s
  refine wpP.first (write_ba ho rfl (by simp) fun h1 sb1 g1 => ?_)
  show wpP _ _ (asStr? (.bytes b t) >>= _) _ _ _
  refine wpP.first (wpAny_of_eq (rfl : asStr? (.bytes b t) = pure none) ?_)
  refine wpP.first (wpAny_of_eq (a := ()) rfl ?_)
  refine wpP.first (wpAny_of_eq b_noindex ?_)
  show wpP _ _ (Bytes.buffer? "bytearray.__init__" (.bytes b t) true >>= _) _ _ _
  refine wpP.first (wpAny_of_eq b_bufferF ?_)
  show wpP _ _ (rule _ >>= _) _ _ _
  refine wpP.first (wpAny_rule ?_)
  refine wpP.first (write_ba g1 rfl (by omega) fun h2 sb2 g2 => ?_)
  exact wpP.pure (h h2 (sb1.trans sb2) g2)
theorem codeP.builtinX {id : String} {args : Args} {b : Builtin} {R : Result → Shared → Prop} (hb : entryFor table id = some b) (hcl : cleanC (.builtin id args) = true)
    (h : wpP (model prog w) (A.under (.builtin id args)) (b args) (fun fin s' => match fin with | .done f => R (.ok f) s' | .again c' => c'.quiet = true ∧ codeP (model prog w) A c' R s') (fun e s' => R (.error e) s') s) :
    codeP (model prog w) A (.builtin id args) R s := by
  refine codeP.tree hcl ?_
  have hden : (model prog w).den (.builtin id args) = b args := by
    show (match entryFor table id with | some b => b args | none => unsupported ((withoutEnding? id "#data").getD id)) = _
    rw [hb]
  rw [hden]
  exact h
theorem clean_call {a : Args} : cleanC (.builtin "type.__call__" a) = true := by
  show (!(Bytes.decodersThatHold.contains "type.__call__" || ["bytearray.__contains__", "bytearray.__mod__", "bytearray.__rmod__", "_struct.pack_into.held", "bytearray.find.held"].contains "type.__call__")) = true
  decide +kernel
theorem specialP {M : Model} {self : Value} {T : String} {name : PySem.Str} {id : String} {args : List Value} {kw : List (PySem.Str × Value)}
    {Q : Option Value → Shared → Prop} (hT : s.TypeIs self T) (h : Slot T name id)
    (hc : wpP M A (call (.builtin id) (self :: args) kw) (fun v => Q (some v)) E s) : wpP M A (callSpecial? self name args kw) Q E s := by
  simp only [callSpecial?]
  refine wpP.first (wpAny_specialOf hT h.lookup ?_)
  simp only [h.bind]
  exact wpP.holding (wpP.first (wpAny_pure (wpP.bind (wpP.mono hc (fun v s' h' => wpP.pure h') fun _ _ h' => h'))))
theorem clean_init {a : Args} : cleanC (.builtin "bytearray.__init__" a) = true := by
  show (!(Bytes.decodersThatHold.contains "bytearray.__init__" || ["bytearray.__contains__", "bytearray.__mod__", "bytearray.__rmod__", "_struct.pack_into.held", "bytearray.find.held"].contains "bytearray.__init__")) = true
  decide +kernel
theorem makeP {b : Array UInt8} {t : Tok} {Q : Value → Shared → Prop} (hz : b.size ≤ 1000)
    (h : ∀ h', (∀ c o, s.heap.get? c = some o → h'.get? c = some o) → h'.get? s.heap.objs.size = some { cls := .type "bytearray", data := .bytearray b } → Q (.ref s.heap.objs.size) { s with heap := h' }) :
    wpP (model prog w) A (call (.type "bytearray") [.bytes b t]) Q E s := by
  have ft := ba_called
  obtain ⟨c, tl, hmro⟩ := ft.mro
  have hmade := ft.made
  have hsub := ft.sub
  refine wpP.call (codeP.tree rfl ?_)
  show wpP _ _ (callAny (.type "bytearray") _) _ _ _
  refine wpP.pure ⟨Code.quiet_builtin _ (by decide +kernel), codeP.builtinX F.entry_type_call clean_call ?_⟩
  have h1 := ft.notType
  have h2 := ft.canCreate
  unfold Builtin.«type.__call__»
  dsimp only
  rw [h1, if_neg Bool.false_ne_true, h2, if_neg Bool.false_ne_true]
  refine wpP.first (wpAny_of_eq (ba_typeCall _) ?_)
  refine wpP.first (wpAny_of_eq hmro ?_)
  rw [if_neg (by exact Bool.false_ne_true)]
  refine wpP.first (wpAny_of_eq hmade ?_)
  refine wpP.first (wpAny_pure ?_)
  refine wpP.first (wpAny_holding (wpAny_call (codeAny_mono (code_ba_new (E := fun _ _ => False) _ (Q₁ := fun obj s₁ => obj = .ref s.heap.objs.size ∧ s₁ = { s with heap := s.heap.push { cls := .type "bytearray", data := .bytearray #[] } }) ⟨rfl, rfl⟩) fun r s₁ hr => ?_)))
  cases r with
  | error e => exact hr.elim
  | ok fl =>
    cases fl with
    | ret obj =>
      obtain ⟨rfl, rfl⟩ := hr
      have hS : (s.heap.push { cls := .type "bytearray", data := .bytearray #[] }).get? s.heap.objs.size = some { cls := .type "bytearray", data := .bytearray #[] } := Heap.get?_push_size _ rfl
      refine wpP.first (wpAny_isInstance (T := "bytearray") (b := true) ⟨_, hS, rfl⟩ hsub ?_)
      rw [if_neg (by exact Bool.false_ne_true)]
      refine wpP.bind (wpP.holding (specialP (T := "bytearray") ⟨_, hS, rfl⟩ slot_ba_init ?_))
      refine wpP.call (codeP.tree rfl ?_)
      show wpP _ _ (do checkBuiltinCall "bytearray.__init__" ⟨[.ref s.heap.objs.size, .bytes b t], []⟩; again (.builtin "bytearray.__init__" ⟨[.ref s.heap.objs.size, .bytes b t], []⟩)) _ _ _
      refine wpP.first (slot_ba_init.check _ _ _ _ _ _ _ _ ⟨_, hS, rfl⟩ (args_ba_init _ _) ?_)
      refine wpP.pure ⟨plainId_quiet slot_ba_init.plain _, codeP.builtinX entry_ba_init clean_init ?_⟩
      refine initP hS hz fun h' sb g => ?_
      refine wpP.pure (h h' (fun c o e => ?_) g)
      exact sb.extBut c o (Nat.ne_of_lt (Heap.lt_size e)) (Heap.get?_push_of_some _ e)
    | _ => exact hr.elim
end
end Mine
end

section
open PySem PySem.W PySem.Calls PyProof.Rows
set_option Elab.async false
set_option linter.unusedVariables false
set_option maxRecDepth 100000
namespace Mine
open Builtin Builtin._codecs
section
variable {prog : Program} {w : World} {A : Around} {E : Value → Shared → Prop} {s : Shared}
theorem payload_ba {a : Addr} {b : Array UInt8} {o : Obj} {Q : Array UInt8 → Shared → Prop} (ho : s.heap.get? a = some o) (hd : o.data = .bytearray b) (h : Q b s) : wpAny (model prog w) A (Bytes.payload (.ref a)) Q E s := by
  unfold Bytes.payload Bytes.payload?
  refine wpAny_bind (wpAny_bind (wpAny_load ho ?_))
  rw [hd]
  exact wpAny_pure (wpAny_pure h)
theorem buffer_ba {a : Addr} {b : Array UInt8} {o : Obj} {id : String} {Q : Option (Array UInt8) → Shared → Prop} (ho : s.heap.get? a = some o) (hc : o.cls = .type "bytearray") (hd : o.data = .bytearray b) (h : Q (some b) s) : wpAny (model prog w) A (Bytes.buffer? id (.ref a)) Q E s := by
  have hT : s.TypeIs (.ref a) "bytearray" := ⟨_, ho, hc⟩
  unfold Bytes.buffer?
  refine wpAny_bind (wpAny_specialOf hT ba_buffer ?_)
  refine wpAny_bind (ba_slot_own hT ?_)
  rw [if_neg (by decide)]
  refine wpAny_bind (wpAny_specialOf hT ba_buffer ?_)
  show wpAny _ _ (Bytes.ownRelease (.ref a) >>= _) _ _ _
  refine wpAny_bind (ba_release_own hT ?_)
  rw [if_neg (by decide)]
  exact wpAny_bind (payload_ba ho hd (wpAny_pure h))
theorem bind_dec {v : Value} : Bytes.bindOptional "bytearray.decode" "decode" ["encoding", "errors"] [v] [] = pure [some v, none] := by kernel_rfl
theorem held_ba {a : Addr} {b : Array UInt8} {o : Obj} {id : String} {Q : List Value → Shared → Prop} (ho : s.heap.get? a = some o) (hc : o.cls = .type "bytearray") (hd : o.data = .bytearray b) (h : Q [.ref a] s) : wpAny (model prog w) A (dataHeld id (.ref a)) Q E s := by
  unfold dataHeld Bytes.bytesLike
  refine wpAny_bind (wpAny_bind (buffer_ba ho hc hd (wpAny_pure (wpAny_pure h))))
end
theorem meets_ascB {prog : Program} {w : World} {A : Around} {E : Value → Shared → Prop} {s : Shared} {a : Addr} {o : Obj} {b : Array UInt8} {x : PySem.Str} {k : Nat} {t1 t2 : Tok} {d : PySem.Str} {Q : PySem.Fin → Shared → Prop}
    (ho : s.heap.get? a = some o) (hc : o.cls = .type "bytearray") (hdd : o.data = .bytearray b) (hd : ∀ id held, runDecoder id asciiDecoder none true b 0 held = pure (x.cps, k)) (hz : x.length ≤ sizeLine) (h : Q (.done (.ret (.str x s.toks))) { s with toks := s.toks + 1 }) :
    wpAny (model prog w) A («_codecs.decode.text» ⟨[.ref a, .str (PySem.Str.ofString "ascii") t1, .none, .str d t2], []⟩) Q E s := by
  show wpAny _ _ (Bytes.bytesLike _ (.ref a) >>= fun r => _) _ _ s
  refine wpAny_bind (wpAny_bind (buffer_ba ho hc hdd (wpAny_pure ?_)))
  refine wpAny_bind (held_ba ho hc hdd ?_)
  show wpAny _ _ (decodeRoad _ b (PySem.Str.ofString "ascii") none [.ref a] >>= fun v => _) _ _ s
  rw [road_ascii, hd]
  refine wpAny_bind (wpAny_bind (wpAny_pure ?_))
  exact wpAny_mkStr (wpAny_pure h) hz
theorem check_fn {M : Model} {A : Around} {E : Value → Shared → Prop} {s : Shared} {id : String} {args : Args} {Q : Unit → Shared → Prop} (kind : builtinKind id = none) (ok : argsOk id args) (h : Q () s) : wpAny M A (checkBuiltinCall id args) Q E s := by
  simp only [checkBuiltinCall, kind]
  cases hsig : Manifest.signature? id with
  | none => exact wpAny_pure h
  | some sig =>
    simp only [argsOk, hsig] at ok
    have h2 : Bind.checkArgs id sig args = pure () := ok
    show wpAny _ _ (Bind.checkArgs id sig args) _ _ s
    rw [h2]; exact wpAny_pure h
theorem check_text {M : Model} {A : Around} {E : Value → Shared → Prop} {s : Shared} {a b c d : Value} {Q : Unit → Shared → Prop} (h : Q () s) : wpAny M A (checkBuiltinCall "_codecs.decode.text" ⟨[a, b, c, d], []⟩) Q E s := by
  have k : argsOk "_codecs.decode.text" ⟨[a, b, c, d], []⟩ := KBd.args_text a b c d
  have k2 : builtinKind "_codecs.decode.text" = none := KBd.kind_text
  generalize "_codecs.decode.text" = idd at k k2 ⊢
  exact check_fn k2 k h
theorem call_ascB {prog : Program} {w : World} {A : Around} {E : Value → Shared → Prop} {s : Shared} {a : Addr} {o : Obj} {b : Array UInt8} {x : PySem.Str} {k : Nat} {t1 t2 : Tok} {d : PySem.Str} {Q : Value → Shared → Prop}
    (ho : s.heap.get? a = some o) (hc : o.cls = .type "bytearray") (hdd : o.data = .bytearray b) (hd : ∀ id held, runDecoder id asciiDecoder none true b 0 held = pure (x.cps, k)) (hz : x.length ≤ sizeLine) (h : ∀ tk t, Q (.str x t) { s with toks := tk }) :
    wpAny (model prog w) A (call (.builtin "_codecs.decode.text") [.ref a, .str (PySem.Str.ofString "ascii") t1, .none, .str d t2]) Q E s := by
  refine wpAny_call (codeAny_call_builtin (b := Builtin.«_codecs.decode.text») KBd.plain_text KBd.entry_text ?_)
  refine check_text ?_
  refine meets_ascB (k := k) (b := b) (o := o) (x := x) ho hc hdd hd hz ?_
  exact h _ _
theorem toB_facts {x : PySem.Str} (ha : ∀ c ∈ x.cps.toList, c < 128) : (toB x).map UInt8.toNat = x.cps ∧ ∀ c ∈ toB x, c.toNat < 128 := by
  have hmap : (toB x).map UInt8.toNat = x.cps := by
    apply Array.toList_inj.mp
    simp only [toB, Array.toList_map, List.map_map]
    refine (List.map_congr_left (g := _root_.id) fun c hc => ?_).trans (List.map_id _)
    have := ha c hc
    show (Nat.toUInt8 c).toNat = c
    simp only [Nat.toUInt8, UInt8.toNat_ofNat']
    omega
  exact ⟨hmap, fun c hc => by
    have h1 : c.toNat ∈ ((toB x).map UInt8.toNat) := Array.mem_map.mpr ⟨c, hc, rfl⟩
    rw [hmap] at h1
    exact ha _ (by simpa using h1)⟩
section
variable {W : Wd} {n hd : Nat}
theorem Meth.bar {b : Array UInt8} : Meth W "decode" (.bar b) "bytearray" "bytearray.decode" :=
  ⟨plainAttrs_ba, slot_ba_decode, type_ba_decode, fun s X v G r => by
    cases r with
    | bar h1 h2 h3 h4 => exact ⟨⟨_, of_hideAll X h1, h2⟩, fun a' e => by cases e; exact ⟨_, of_hideAll X h1, h3⟩⟩⟩
theorem CallC.bytearray {b : Array UInt8} (hz : b.size ≤ 1000) : CallC W n hd (.type "bytearray") [.bytes b] (.bar b) := fun A outer X s vs S r Q E hq => by
  cases r with | cons r1 r =>
  cases r
  cases r1
  refine makeP hz fun h' k g => ?_
  exact hq _ _ _ (.of_keeps k) (.bar (hideAll_get X g S.fresh) rfl rfl rfl)
theorem Call.decodeB {x : PySem.Str} (hz : x.length ≤ 1000) (ha : ∀ c ∈ x.cps.toList, c < 128) : Call W n hd (.builtin "bytearray.decode") [.bar (toB x), .str (PySem.Str.ofString "ascii")] (.str x) :=
  Call.slot Meth.bar entry_ba_decode (fun vs hl => by match vs, hl with | [a, b], _ => exact args_ba_decode _ _) fun A outer X s vs S r Q E hq => by
    cases r with | cons r1 r =>
    cases r with | cons r2 r =>
    cases r
    cases r2
    cases r1 with
    | bar h1 h2 h3 h4 =>
    rename_i u a o
    have ho := of_hideAll X h1
    have hT : s.TypeIs (.ref a) "bytearray" := ⟨_, ho, h2⟩
    show wpAny _ _ (Bytes.bindOptional _ _ _ _ _ >>= _) _ _ s
    refine wpAny_bind (wpAny_of_eq bind_dec ?_)
    refine wpAny_bind (wpAny_of_eq (by kernel_rfl : Bytes.checkCodecArg _ _ _ (some (.str (PySem.Str.ofString "ascii") u)) = pure ()) ?_)
    refine wpAny_bind (wpAny_of_eq (by kernel_rfl : Bytes.checkCodecArg _ _ _ none = pure ()) ?_)
    show wpAny _ _ (Bytes.ownRelease (.ref a) >>= _) _ _ s
    refine wpAny_bind (ba_release_own hT ?_)
    show wpAny _ _ (specialOf (.ref a) (PySem.Str.ofString "__buffer__") >>= _) _ _ s
    refine wpAny_bind (wpAny_specialOf hT ba_buffer ?_)
    refine wpAny_bind (ba_slot_own hT ?_)
    show wpAny _ _ (Bytes.payload (.ref a) >>= _) _ _ s
    refine wpAny_bind (payload_ba ho h4 ?_)
    obtain ⟨hmap, hlt⟩ := toB_facts ha
    have hrun : ∀ id held, runDecoder id asciiDecoder none true (toB x) 0 held = pure (x.cps, (toB x).size) := fun id held => by
      rw [dec_run id held (toB x) (by rw [toB_size]; exact hz) hlt, hmap]
    by_cases he : (toB x).isEmpty = true
    · rw [if_pos he]
      have ex : x = PySem.Str.empty := by
        have : x.length = 0 := by rw [← toB_size]; simpa using he
        exact PySem.Str.ext' (by rw [show x.cps = #[] from Array.eq_empty_of_size_eq_zero this]; rfl)
      subst ex
      exact wpAny_bind (wpAny_rule (wpAny_bind (wpAny_mkStr (wpAny_pure (hq _ _ _ .refl (.str _ _))) (by decide))))
    · rw [if_neg he]
      refine wpAny_bind (wpAny_mkStr ?_ (by decide))
      refine wpAny_bind (wpAny_bind (wpAny_of_eq (rfl : asStr? (.str (PySem.Str.ofString "ascii") u) = pure (some (PySem.Str.ofString "ascii"))) (wpAny_mkStr ?_ (by decide))))
      refine wpAny_bind (wpAny_pure ?_)
      refine wpAny_bind (wpAny_mkStr ?_ (by decide))
      exact wpAny_bind (call_ascB (k := (toB x).size) (b := toB x) ho h2 h4 hrun (by rw [sizeL]; omega) fun tk t => wpAny_pure (hq (.str x t) s.heap tk .refl (.str _ _)))
end
end Mine
end

section
open PySem PySem.W PySem.Calls PyProof.Rows
set_option Elab.async false
set_option linter.unusedVariables false
set_option maxRecDepth 100000
namespace Mine
open PySem.Builtin PySem.Builtin.Str
section
variable {W : Wd} {n hd : Nat}
theorem rep_strs {g : Heap} : ∀ {l : List (PySem.Str × Tok)}, RepL g (strValues l) ((l.map (·.1)).map D.str)
  | [] => .nil
  | (x, t) :: l => .cons (.str _ _) rep_strs
theorem Call.split {x y : PySem.Str} {k : Int} (hy : (y.length == 0) = false) (hk : (decide (k < -(2 ^ 63 : Int)) || decide (k ≥ 2 ^ 63)) = false) (hz : x.length + 2 ≤ 16777216) :
    Call W n hd (.builtin "str.split") [.str x, .str y, .int k] (.list ((Txt.splitMax x y k).map D.str)) := fun A outer X s vs S r Q E hq => by
  cases r with | cons r1 r =>
  cases r with | cons r2 r =>
  cases r with | cons r3 r =>
  cases r
  cases r1; cases r2; cases r3
  rename_i t u v
  have hn : (partsBetween x (occurrences x y 0 x.length (limitOf x k)) y.length).length ≤ sizeLine := by
    have e1 := StrLaws.occ_length_le_len x y 0 x.length (limitOf x k)
    rw [length_partsBetween, sizeL]; omega
  have h' : ∀ l tk, l.map (·.1) = Txt.splitMax x y k → Q (.ref s.heap.objs.size) { s with heap := s.heap.push { cls := .type "list", data := .seq (strValues l).toArray }, toks := tk } := fun l tk e => by
    have p := Stp.push (fs := fr outer) (h := s.heap) { cls := .type "list", data := .seq (strValues l).toArray }
    refine hq _ _ _ p (.list ⟨_, hideAll_get X (Heap.get?_push_size _ rfl) S.fresh, rfl, _, rfl⟩ ?_)
    rw [← e]
    exact rep_strs
  cases h1 : (decide (x.length < y.length) || decide (strKind x < strKind y))
  · cases hf : (occurrences x y 0 x.length (limitOf x k)).isEmpty
    · refine call_meets F.slot_str_split (typeIs_str _ _ _) F.entry_str_split (F.args_str_split_3 _ _ _) (meets_str_split_sep_max x y k _ _ _ hk h1 hy hf (by rw [sizeL]; omega) hn) ?_
      show wants Q E _ { s with toks := _, heap := s.heap.push { cls := .type "list", data := .seq (strsFrom s.toks (partsBetween x (occurrences x y 0 x.length (limitOf x k)) y.length)).toArray } }
      rw [strsFrom_eq]
      exact h' (numbered s.toks _) _ ((numbered_texts _ _).trans ((if_neg (ne_true_of_eq_false h1)).trans (if_neg (ne_true_of_eq_false hf))).symm)
    · exact call_meets F.slot_str_split (typeIs_str _ _ _) F.entry_str_split (F.args_str_split_3 _ _ _) (meets_str_split_max_not_found x y k _ _ _ hk h1 hy hf)
        (h' [(x, _)] s.toks ((if_neg (ne_true_of_eq_false h1)).trans (if_pos hf)).symm)
  · exact call_meets F.slot_str_split (typeIs_str _ _ _) F.entry_str_split (F.args_str_split_3 _ _ _) (meets_str_split_max_cannot_occur x y k _ _ _ hk h1)
      (h' [(x, _)] s.toks (if_pos h1).symm)
theorem Call.ljust {x f : PySem.Str} {i : Int} (hp : PadOk i = true) (hf : f.length = 1) : Call W n hd (.builtin "str.ljust") [.str x, .int i, .str f] (.str (Txt.ljustF x i (f.cps.getD 0 0))) := fun A outer X s vs S r Q E hq => by
  cases r with | cons r1 r =>
  cases r with | cons r2 r =>
  cases r with | cons r3 r =>
  cases r
  cases r1; cases r2; cases r3
  exact ljust_fill hp hf fun t' k => hq _ _ _ .refl (.str _ _)
theorem Call.list {ds : List D} (hz : ds.length ≤ 16777216) : Call W n hd (.type "list") [.tup ds] (.list ds) := fun A outer X s vs S r Q E hq => by
  cases r with | cons r1 r =>
  cases r
  cases r1 with
  | tup h1 h2 =>
  obtain ⟨o, ho, hc, m, hd'⟩ := tup_hid h1
  refine call_list_seq _ (.inr rfl) ho hc hd' (fun h' c' k g => ?_) (by rw [tup_size h2]; exact hz)
  have x : Stp (fr outer) s.heap h' := .of_keeps k
  exact hq _ _ _ x (.list ⟨_, hideAll_get X g S.fresh, rfl, _, rfl⟩ (h2.mono (x.hid S.sub)))
end
end Mine
end

section
open PySem PySem.W PySem.Calls PyProof.Rows
set_option Elab.async false
set_option linter.unusedVariables false
set_option maxRecDepth 100000
namespace Mine
section
variable {prog : Program} {w : World} {A : Around} {E : Value → Shared → Prop} {s : Shared}
theorem setItem_neg {l : Addr} {items : Array Value} {k : Int} {t : Tok} {v : Value} {Q : Unit → Shared → Prop} (hl : s.heap.IsList l items)
    (h0 : k < 0) (h1 : -(items.size : Int) ≤ k) (hfit : -(2 ^ 63) ≤ k)
    (hQ : ∀ h', h'.IsList l (items.setIfInBounds (k + items.size).toNat v) → Heap.SameBut l s.heap h' → Q () { s with heap := h' }) :
    wpAny (model prog w) A (setItem (.ref l) (.int k t) v) Q E s := by
  obtain ⟨o, ho, hc, ne, hd⟩ := id hl
  unfold setItem
  try with_reducible refine wpAny_holding ?_
  first | refine wpAny_bind (wpAny_pure ?_) | skip
  refine wpAny_bind (wpAny_sequenceKey hl.typeIs (by decide) ?_)
  refine wpAny_bind (wpAny_callSpecial?_slot (name := Str.ofString "__setitem__") hl.typeIs slot_list_setitem
    (wpAny_call_entry slot_list_setitem hl.typeIs entry_list_setitem ?_ (args_list_setitem _ _ _)))
  show wpAny _ _ (Builtin.List.listSubscript? (.int k t) >>= _) _ _ s
  refine wpAny_bind (wpAny_listSubscript_int (fitsIndex_neg h0 hfit) ?_)
  clear hfit
  have hidx := seqIndex_neg h0 h1
  have hj : (k + items.size).toNat < items.size := by omega
  generalize hjj : (k + items.size).toNat = j at hidx hj hQ
  have hx' : items[j]? = some items[j] := Array.getElem?_eq_getElem hj
  obtain ⟨m, rfl⟩ : ∃ m : Nat, k = Int.negSucc m := by
    cases k with
    | ofNat n => exact absurd h0 (Int.not_lt.mpr (Int.natCast_nonneg n))
    | negSucc n => exact ⟨n, rfl⟩
  show wpAny _ _ ((Builtin.List.listItems (.ref l) >>= fun xs => pure ((seqIndex? (Int.negSucc m) xs.size).bind fun i => xs[i]?.map (i, ·))) >>= _) _ _ s
  refine wpAny_bind (wpAny_bind ?_)
  show wpAny _ _ (seqItems? (.ref l) >>= _) _ _ s
  refine wpAny_bind (wpAny_seqItems ho hd (wpAny_pure (wpAny_pure ?_)))
  rw [hidx]
  simp only [Option.bind_some, hx', Option.map_some]
  show wpAny _ _ (setSeqItemAt l j v >>= _) _ _ s
  obtain ⟨n', hd'⟩ := Obj.data_mapSeq hd (·.setIfInBounds j v)
  have hfin : (s.heap.update l (Obj.mapSeq (·.setIfInBounds j v))).IsList l (items.setIfInBounds j v) :=
    ⟨_, Heap.get?_update_self _ ho (Obj.isFreed_of_seq hd'), (Obj.cls_mapSeq ..).trans hc, n', hd'⟩
  refine wpAny_bind (wpAny_setSeqItemAt ho hd ?_)
  first
    | exact wpAny_bind (wpAny_pure (wpAny_pure ⟨.none, rfl, wpAny_pure (hQ _ hfin (Heap.SameBut.update ..))⟩))
    | exact wpAny_pure ⟨.none, rfl, wpAny_pure (hQ _ hfin (Heap.SameBut.update ..))⟩
end
section
variable {W : Wd} {fd : FuncData} {n : Nat} {hd : Nat} {σ : Sg} {P : Out → Prop}
theorem Sub.neg {ds : List D} {k : Int} {d : D} (h0 : k < 0) (h1 : -(ds.length : Int) ≤ k) (hx : ds[(k + ds.length).toNat]? = some d) (hlo : -(2 ^ 63) ≤ k := by decide) : Sub W n hd (.list ds) (.int k) d :=
  fun value slice hs A outer X s v0 vi S r1 r2 Q E h => by
    cases r1 with
    | list ht rl =>
      cases r2
      obtain ⟨v, hv, rv⟩ := rl.get hx
      have e := tup_size rl
      exact tail_any (list_hid ht).typeIs slot_list_getitem.lookup (wpAny_getItem_list_neg (list_hid ht) h0 (by rw [e]; exact h1) hlo (by rw [e]; simpa using hv) (h _ _ _ .refl rv)) (hs _ _)
def GoN (W : Wd) (A : Around) (outer : List Env) (X : List Addr) (s : Shared) (t : Sem Value) (ds : List D) : Prop :=
  ∀ (Q : Value → Shared → Prop) (E : Value → Shared → Prop), (∀ l h' tk', s.heap.get? l = none → Stp (fr outer) s.heap h' → Rep (hideAll h' X) (.ref l) (.list ds) → Q (.ref l) { s with heap := h', toks := tk' }) → wpAny (model W.prog W.w) A t Q E s
def EvN (W : Wd) (fd : FuncData) (n : Nat) (hd : Nat) (σ : Sg) (e : Expr) (ds : List D) : Prop :=
  ∀ (L a : Addr) (A : Around) (outer : List Env) (X : List Addr) (s : Shared) (m : PySem.Str → Option Value), Cx W fd L a A outer X s.heap m n hd → Loc (hideAll s.heap X) m σ →
    GoN W A (callEnv fd L a :: outer) X s (eval e (callEnv fd L a)) ds
theorem EvN.list {func e : Expr} {pos : Pos} {ds : List D} (h1 : Ev W fd n hd σ func (.fn (.type "list"))) (h2 : Ev W fd n hd σ e (.tup ds)) (hz : ds.length ≤ 16777216) 
    (hs : ∀ env, starEach [e] env = (false, eval e env) :: starEach [] env := by intro _; rfl)
    (he : ∀ env, eval (.Call func [e] [] pos) env = (do callWith pos (← eval func env) [] (backTo pos (starEach [e] env)) []) := by intro _; rfl) : EvN W fd n hd σ (.Call func [e] [] pos) ds :=
  fun L a A outer X s m C lo Q E hq => by
    rw [he]
    refine wpAny_bind (h1 L a A outer X s m C lo _ _ fun v ha tka x1 r1 => ?_)
    have e' : v = .type "list" := by cases r1; rfl
    subst e'
    have C1 := C.step x1
    refine callWith_of (P := fun h => Gd W (hideAll h X)) (by rw [backTo_any, hs]; rfl) (fun hh G => ?_) ?_
    · obtain ⟨k, hk, l⟩ := keep_type (W := W) (i := "list") _ G
      exact ⟨k, hk, l.keeps fun b o e => of_hideAll X e⟩
    · refine evalArgs_spl (by rw [backTo_any, hs]; rfl) ?_
      refine (EvL.cons h2 EvL.nil hs) pos L a A outer X _ m C1 (lo.mono (x1.hid C.sx.sub)) _ _ fun vs hb tk x r => ?_
      have C' := C1.step x
      refine ⟨C'.sx.gd, ?_⟩
      cases r with | cons rr1 r =>
      cases r
      cases rr1 with
      | tup t1 t2 =>
      obtain ⟨o, ho, hc, mm, hd'⟩ := tup_hid t1
      refine call_list_seq _ (.inr rfl) ho hc hd' (fun h' c' k g => ?_) (by rw [tup_size t2]; exact hz)
      have y : Stp (fr (callEnv fd L a :: outer)) hb h' := .of_keeps k
      refine hq _ _ _ ?_ ((x1.trans x).trans y) (.list ⟨_, hideAll_get X g C'.sx.fresh, rfl, _, rfl⟩ (t2.mono (y.hid C.sx.sub)))
      cases z : s.heap.get? hb.objs.size with
      | none => rfl
      | some ob =>
        obtain ⟨_, q⟩ := (x1.trans x).any z
        exact absurd (Heap.lt_size q) (Nat.lt_irrefl _)
theorem RepL.set {g : Heap} {v : Value} {d : D} (r : Rep g v d) : ∀ {vs : List Value} {ds : List D} (k : Nat), RepL g vs ds → RepL g (vs.set k v) (ds.set k d)
  | _, _, _, .nil => .nil
  | _, _, 0, .cons a b => .cons r b
  | _, _, k + 1, .cons a b => .cons a (b.set r k)
end
end Mine
end

section
open PySem PySem.W PySem.Calls PyProof.Rows
set_option Elab.async false
set_option linter.unusedVariables false
set_option maxRecDepth 100000
namespace Mine
def D.flat : D → Bool
  | .none | .int _ | .str _ | .bool _ | .bytes _ => true
  | _ => false
theorem flat_one {g g' : Heap} : ∀ {v : Value} {d : D}, d.flat = true → Rep g v d → Rep g' v d
  | _, _, _, .none => .none
  | _, _, _, .bool b => .bool b
  | _, _, _, .int i t => .int i t
  | _, _, _, .str i t => .str i t
  | _, _, _, .bytes i t => .bytes i t
  | _, _, h, .tup _ _ => by cases h
  | _, _, h, .list _ _ => by cases h
  | _, _, h, .fn _ => by cases h
  | _, _, h, .dct _ _ => by cases h
  | _, _, h, .rng _ => by cases h
  | _, _, h, .obj _ _ _ => by cases h
  | _, _, h, .bar _ _ _ _ => by cases h
  | _, _, h, .mat _ _ _ _ _ => by cases h
theorem flat_any {g g' : Heap} : ∀ {ds : List D} {vs : List Value}, ds.all D.flat = true → RepL g vs ds → RepL g' vs ds
  | [], _, _, .nil => .nil
  | d :: ds, _, h, .cons a b => by
    simp only [List.all_cons, Bool.and_eq_true] at h
    exact .cons (flat_one h.1 a) (flat_any h.2 b)
section
variable {W : Wd} {fd : FuncData} {n : Nat} {hd : Nat} {σ : Sg} {P : Out → Prop} {R : Prop}
theorem ExX.put {sc : Scope} (F : FdIs fd sc) {x : PySem.Str} {xp p1 np p2 p3 : Pos} {e1 e2 ei : Expr} {ds : List D} {k i : Int} {rest : List Stmt}
    (h1 : EvN W fd n hd σ e1 ds) (h2 : Ev W fd n hd ((x, .list ds) :: σ) e2 (.int i)) (h3 : Ev W fd n hd ((x, .list ds) :: σ) ei (.int k)) (hk0 : k < 0) (hk1 : -(ds.length : Int) ≤ k) (hfit : -(2 ^ 63) ≤ k)
    (hr : ExX W fd n hd ((x, .list (ds.set (k + ds.length).toNat (.int i))) :: σ) rest P R) (hR : σ.lookup x = none) (hflat : ds.all D.flat = true)
    (hl : sc.names.lookup x = some .local := by rfl) (hs1 : ∀ env, swapsWith e1 (some (.Name x xp)) p1.line env = pure false := by intro _; rfl) (hs2 : ∀ env, swapsWith e2 (some (.Subscript (.Name x np) ei p2)) p3.line env = pure false := by intro _; rfl) (hb : (x == ("__debug__" : PySem.Str)) = false := by rfl) :
    ExX W fd n hd σ (.Assign [.Name x xp] e1 p1 :: .Assign [.Subscript (.Name x np) ei p2] e2 p3 :: rest) P R := fun L a A outer X s m C lo Q E hq hx => by
  refine wpAny_execs_cons ?_
  refine wpAny_Assign_Name ?_ (hs1 _)
  refine h1 L a A outer X s m C lo _ _ fun l h₁ tk₁ new x1 r1 => ?_
  have C1 := C.step x1
  refine store_go C1 (lo.mono (x1.hid C.sx.sub)) r1 (fun h₂ tk₂ y2 hn2 l2 => ?_) F hl
  have C2 := C1.stepL y2 hn2
  refine wpAny_execs_cons ?_
  refine wpAny_Assign_Subscript ?_ (hs2 _)
  refine h2 L a A outer X { s with heap := h₂, toks := tk₂ } _ C2 l2 _ _ fun v h₃ tk₃ x3 r3 => ?_
  have C3 := C2.step x3
  have l3 := l2.mono (x3.hid C2.sx.sub)
  have hk3 : (hideAll h₂ X).StaysIn (hideAll h₃ X) := x3.hid C2.sx.sub
  refine wpAny_Name (wpAny_loadName_local F.k (show fd.scope.names.lookup x = _ by rw [F.s]; exact hl) C3.ns (v := .ref l) (if_pos rfl) ?_) hb
  refine h3 L a A outer X { s with heap := h₃, toks := tk₃ } _ C3 l3 _ _ fun vk h₄ tk₄ x4 r4 => ?_
  have C4 := C3.step x4
  have st4 : StpL L (fr outer) s.heap h₄ := ((x1.toL.trans y2).trans x3.toL).trans x4.toL
  have nX : l ∉ X := fun mm => by obtain ⟨o, e⟩ := C.sx.ex l mm; rw [new] at e; cases e
  have hk24 : (hideAll h₁ X).StaysIn (hideAll h₄ X) := fun b o e => (x4.hid C3.sx.sub) _ _ (hk3 _ _ (C1.hidL y2 _ _ e))
  have r4' := r1.mono hk24
  cases r4
  cases r3
  cases r4' with
  | list t1 t2 =>
  rename_i tk u vs
  have e := tup_size t2
  refine setItem_neg (s := { s with heap := h₄, toks := tk₄ }) (list_hid t1) hk0 (by rw [e]; exact hk1) hfit fun h₅ g sb => ?_
  rw [e] at g
  have sb : Heap.SameBut l h₄ h₅ := sb
  have st5 : StpL L (fr outer) s.heap h₅ := ⟨fun b o q z z' => (sb.2 b (fun w => by rw [w, new] at q; cases q)).trans (st4.keep b o q z z'), fun b o q z z' => by
    obtain ⟨slt, q'⟩ := st4.slot b o q z z'
    exact ⟨slt, (sb.2 b (fun w => by rw [w, new] at q; cases q)).trans q'⟩⟩
  have nL : L ≠ l := fun w => by obtain ⟨o, q⟩ := C.sx.ex L (C.sx.sub L (show L ∈ L :: fr outer from .head _)); rw [w, new] at q; cases q
  have hn5 : h₅.Ns L (fun y => if y = x then some (.ref l) else m y) := let ⟨oL, es, ep, q, z⟩ := C4.ns; ⟨oL, es, ep, (sb.2 L nL).trans q, z⟩
  have C5 := C.stepL st5 hn5
  have k5 := C.hidL (L := L) st5
  have rl : Rep (hideAll h₅ X) (.ref l) (.list (ds.set (k + ds.length).toNat (.int i))) := by
    obtain ⟨o, q1, q2, q3⟩ := g
    refine .list (vs := (vs.set (k + ds.length).toNat (.int i u))) ⟨o, hideAll_get X q1 nX, q2, ?_⟩ ((flat_any hflat t2).set (.int i u) _)
    obtain ⟨nn, q3⟩ := q3
    exact ⟨nn, by rw [q3]; simp⟩
  refine hr L a A outer X { s with heap := h₅, toks := tk₄ } _ C5 ((lo.mono k5).set rl) Q E (fun f o h' m' tk' y hn' hP hO => hq f o h' m' tk' (st5.trans y) hn' hP hO) fun ea ha h' m' tk' ctx fl q1 q2 q3 q4 q5 q6 q7 q8 => hx ea ha h' m' tk' ctx fl q1 (st5.trans q2) q3 (fun y d hy => q4 y d ?_) q5 q6 q7 q8
  rw [List.lookup_cons]
  by_cases z : y = x
  · rw [z, hR] at hy; cases hy
  · rw [beq_false_of_ne z]; exact hy
end
end Mine
end

section
open PySem PySem.W PySem.Calls PyProof.Rows
set_option Elab.async false
set_option linter.unusedVariables false
set_option maxRecDepth 100000
namespace Mine
section
variable {W : Wd} {fd : FuncData} {n : Nat} {hd : Nat} {C : Addr} {σ : Addr → Sg} {fs : List (PySem.Str × Int)} {b : Nat} {r : Option (List (PySem.Str × Int))}
theorem Call.divmod {i j : Int} (hj : 0 < j) (hk : j < 1000000000000000) : Call W n hd (.builtin "divmod") [.int i, .int j] (.tup [.int (i / j), .int (i % j)]) := fun A outer X s vs S r Q E hq => by
  match vs, r with
  | [v1, v2], .cons r1 (.cons r2 .nil) =>
    cases r1; cases r2
    refine divmod_int (by omega) ?_ (hp := .inl (small_log hj hk))
    rw [Int.fdiv_eq_ediv_of_nonneg _ (by omega), Int.fmod_eq_emod_of_nonneg _ (by omega)]
    have p := Stp.push (fs := fr outer) (h := s.heap) { cls := .type "tuple", data := .seq #[.int (i / j) s.toks, .int (i % j) (s.toks + 1)] }
    exact hq _ _ _ p (.tup (vs := [.int (i / j) s.toks, .int (i % j) (s.toks + 1)]) ⟨_, hideAll_get X (Heap.get?_push_size _ rfl) fun m => S.fresh m, rfl, _, rfl⟩ (.cons (.int _ _) (.cons (.int _ _) .nil)))
theorem ExI.guard {sc : Scope} (F : FdIs fd sc) {name : PySem.Str} {e1 e2 : Expr} {lo hi i : Int} {np ap cp up pos : Pos} {body rest : List Stmt} (h1 : ∀ x, Ev W fd n hd (σ x) e1 (.int lo)) (h2 : ∀ x, Ev W fd n hd (σ x) e2 (.int hi)) (hf : fs.lookup name = some i) (R : Rdd W.K C name) (hlo : lo ≤ i) (hhi : i ≤ hi)
    (hself : ∀ x, List.lookup (PySem.Str.ofString "self") (σ x) = some (D.fn (.ref x))) (h3 : ExI W fd n hd C σ fs b rest r)
    (hl : sc.names.lookup (PySem.Str.ofString "self") = some .local := by rfl) (hm : lastMarks [.LtE, .LtE] [.Attribute (.Name (PySem.Str.ofString "self") np) name ap, e2] = false := by rfl) :
    ExI W fd n hd C σ fs b (.If (.UnaryOp .Not (.Compare e1 [.LtE, .LtE] [.Attribute (.Name (PySem.Str.ofString "self") np) name ap, e2] cp) up) body [] pos :: rest) r :=
  fun hb x dx L a A outer X s m I lo' Q E hq hr => by
    refine wpAny_execs_cons (wpAny_If (isTrue_not (isTrue_chain (h1 x L a A outer X s m I.cx lo' _ _ fun v0 h₁ tk₁ y0 q0 => ?_) hm)))
    have I1 := I.stepL y0.toL (y0.ns I.cx.ns)
    have l1 := lo'.mono (y0.hid I.cx.sx.sub)
    refine test_link (Attribute_name (Ev.loc F (hself x) hl rfl L a A outer X { s with heap := h₁, toks := tk₁ } m I1.cx l1 _ _ fun vs h₂ tk₂ y1 rs => ?_))
    have ev : vs = .ref x := by cases rs; rfl
    subst ev
    have I2 := I1.stepL y1.toL (y1.ns I1.cx.ns)
    have l2 := l1.mono (y1.hid I1.cx.sx.sub)
    obtain ⟨es, k, d1, d2, d3⟩ := I2.hdx
    obtain ⟨t, ht⟩ := d2.2 name i hf
    refine get_value (s := { s with heap := h₂, toks := tk₂ }) (C := C) (ox := instObj C _) (od := some (dictOf _ _)) (I2.cx.sx.gd.X.keeps fun b o e => of_hideAll X e) ⟨I2.hx, rfl, rfl, d1⟩ R.g (findObj_own R.d R.a rfl (by rw [lookIn_dict]; exact ht)) rfl ?_
    refine Cmp.leI A _ X { s with heap := h₂, toks := tk₂ + 1 } v0 (.int i _) I2.cx.sx (q0.mono (y1.hid I1.cx.sx.sub)) (.int _ _) _ _ fun vc h₃ tk₃ y2 r2 => ?_
    cases r2
    refine wpAny_pure (show if _ then _ else _ from ?_)
    rw [if_pos (by simpa using hlo)]
    have I3 := I2.stepL y2.toL (y2.ns I2.cx.ns)
    have l3 := l2.mono (y2.hid I2.cx.sx.sub)
    refine test_last (h2 x L a A outer X { s with heap := h₃, toks := tk₃ } m I3.cx l3 _ _ fun v2 h₄ tk₄ y3 q3 => ?_)
    have I4 := I3.stepL y3.toL (y3.ns I3.cx.ns)
    have l4 := l3.mono (y3.hid I3.cx.sx.sub)
    refine Cmp.leI A _ X { s with heap := h₄, toks := tk₄ } (.int i _) v2 I4.cx.sx (.int _ _) q3 _ _ fun v h₅ tk₅ y4 q4 => ?_
    cases q4
    have I5 := I4.stepL y4.toL (y4.ns I4.cx.ns)
    have l5 := l4.mono (y4.hid I4.cx.sx.sub)
    refine wpAny_pure ?_
    rw [decide_eq_true hhi]
    exact wpAny_execs_nil (h3 hb x dx L a A outer X { s with heap := h₅, toks := tk₅ } m I5 l5 Q E (fun h'' m'' tk'' fs' q I'' => hq h'' m'' tk'' fs' q I'') fun e h₁ h'' m'' tk'' ctx fl q a1 a2 a3 a4 a5 a6 => hr e h₁ h'' m'' tk'' ctx fl q a1 a2 a3 a4 a5 a6)
end
end Mine
end

section
open PySem PySem.W PySem.Calls PyProof.Rows
set_option Elab.async false
set_option linter.unusedVariables false
set_option maxRecDepth 100000
namespace Mine
section
variable {W : Wd} {fd : FuncData} {n : Nat} {hd : Nat} {C : Addr} {σ : Addr → Sg} {fs : List (PySem.Str × Int)} {b : Nat} {r : Option (List (PySem.Str × Int))}
theorem release_go {M : Model} {A : Around} {E : Value → Shared → Prop} {s : Shared} {vs : List Value} {l : List Value} {Q : Unit → Shared → Prop} (h : Q () s) : wpAny M A (release vs l) Q E s := fun Γ p hΓ => by
  rw [Sem.wp_release]; exact h
theorem assignAttr_go {sc : Scope} (F : FdIs fd sc) {name : PySem.Str} {p1 p2 : Pos} {hb : Heap} {x dx L a : Addr} {A : Around} {outer : List Env} {X : List Addr} {s : Shared} {m : PySem.Str → Option Value} {v : Value} {i : Int} {Q : Unit → Shared → Prop} {E : Value → Shared → Prop} {τ : Sg}
    (I : Ini W fd n hd C hb x dx L a A outer X s.heap m fs (b + 1)) (lo : Loc (hideAll s.heap X) m τ) (st : Sto W.K C name) (rv : Rep (hideAll s.heap X) v (.int i)) (hself : τ.lookup (PySem.Str.ofString "self") = some (D.fn (.ref x)))
    (h : ∀ h' tk', Ini W fd n hd C hb x dx L a A outer X h' m ((name, i) :: fs) b → (hideAll s.heap X).StaysIn (hideAll h' X) → Q () { s with heap := h', toks := tk' })
    (hl : sc.names.lookup (PySem.Str.ofString "self") = some .local := by rfl) : wpAny (model W.prog W.w) A (assign (.Attribute (.Name (PySem.Str.ofString "self") p1) name p2) (callEnv fd L a) v) Q E s := by
  rw [arm_assign_Attribute]
  refine wpAny_bind (wpAny_holding (Ev.loc F hself hl rfl L a A outer X s m I.cx lo _ _ fun v' h₂ tk₂ y₂ rs => ?_))
  have ev : v' = .ref x := by cases rs; rfl
  subst ev
  have I₂ := I.stepL y₂.toL (y₂.ns I.cx.ns)
  have k2 := y₂.hid I.cx.sx.sub
  refine wpAny_bind (wpAny_standAt (wpAny_bind (wpAny_holding ?_)))
  refine setField_go (s := { s with heap := h₂, toks := tk₂ }) I₂ st (by cases rv; exact ⟨_, rfl⟩) fun h₃ tk₃ I₃ k₃ => ?_
  exact release_go (h h₃ tk₃ I₃ fun b o e => k₃ _ _ (k2 _ _ e))
theorem ExI.store1 {sc : Scope} (F : FdIs fd sc) {name y : PySem.Str} {e : Expr} {p1 p2 p3 p4 pos : Pos} {k : Nat} {rest : List Stmt} {d : D} {i j : Int} (h1 : ∀ x, Ev W fd n hd (σ x) e d) (hu : Unp W n hd d [.int i, .int j]) (hself : ∀ x, List.lookup (PySem.Str.ofString "self") (σ x) = some (D.fn (.ref x))) (st : Sto W.K C name)
    (h2 : ExI W fd n hd C (fun x => (y, .int j) :: σ x) ((name, i) :: fs) b rest r)
    (hl : sc.names.lookup (PySem.Str.ofString "self") = some .local := by rfl) (hy : sc.names.lookup y = some .local := by rfl)
    (hs : ∀ env, swapsWithSole [.Tuple [.Attribute (.Name (PySem.Str.ofString "self") p1) name p2, .Name y p3] k p4] e pos.line env = pure false := by intro _; rfl) (hw : ∀ env, swappedStores [.Tuple [.Attribute (.Name (PySem.Str.ofString "self") p1) name p2, .Name y p3] k p4] e env = pure none := by intro _; rfl) :
    ExI W fd n hd C σ fs (b + 1) (.Assign [.Tuple [.Attribute (.Name (PySem.Str.ofString "self") p1) name p2, .Name y p3] k p4] e pos :: rest) r :=
  fun hb x dx L a A outer X s m I lo Q E hq hr => by
    refine wpAny_execs_cons (Assign_Tuple (h1 x L a A outer X s m I.cx lo _ _ fun v h₁ tk₁ y1 rv => ?_) (hs _) (hw _))
    have I₁ := I.stepL y1.toL (y1.ns I.cx.ns)
    have lo₁ := lo.mono (y1.hid I.cx.sx.sub)
    rw [assign_Tuple]
    refine wpAny_bind (wpAny_standAt ?_)
    unfold unpack
    refine wpAny_bind (wpAny_holding (hu A _ X { s with heap := h₁, toks := tk₁ } v I₁.cx.sx rv _ _ fun vs h₂ tk₂ y2 rl => ?_))
    have I₂ := I₁.stepL y2.toL (y2.ns I₁.cx.ns)
    have lo₂ := lo₁.mono (y2.hid I₁.cx.sx.sub)
    match vs, rl with
    | [v1, v2], .cons r1 (.cons r2 .nil) =>
      show wpAny _ _ (holding [v2] (assign (.Attribute (.Name (PySem.Str.ofString "self") p1) name p2) (callEnv fd L a) v1) >>= fun _ => (holding [] (assign (.Name y p3) (callEnv fd L a) v2) >>= fun _ => pure ())) _ _ _
      refine wpAny_bind (wpAny_holding (assignAttr_go (s := { s with heap := h₂, toks := tk₂ }) F I₂ lo₂ st r1 (hself x) (fun h₃ tk₃ I₃ k₃ => ?_) hl))
      refine wpAny_bind (wpAny_holding (wpAny_assign_Name (store_go I₃.cx (lo₂.mono k₃) (r2.mono k₃) (fun h₄ tk₄ y4 hn4 l4 => ?_) F hy)))
      have I₄ := I₃.stepL y4 hn4
      exact wpAny_pure (h2 hb x dx L a A outer X { s with heap := h₄, toks := tk₄ } _ I₄ l4 Q E (fun h'' m'' tk'' fs' q I'' => hq h'' m'' tk'' fs' q I'') fun e h₁ h'' m'' tk'' ctx fl q a1 a2 a3 a4 a5 a6 => hr e h₁ h'' m'' tk'' ctx fl q a1 a2 a3 a4 a5 a6)
theorem ExI.store2 {sc : Scope} (F : FdIs fd sc) {name nam2 : PySem.Str} {e : Expr} {p1 p2 p3 p5 p4 pos : Pos} {k : Nat} {rest : List Stmt} {d : D} {i j : Int} (h1 : ∀ x, Ev W fd n hd (σ x) e d) (hu : Unp W n hd d [.int i, .int j]) (hself : ∀ x, List.lookup (PySem.Str.ofString "self") (σ x) = some (D.fn (.ref x))) (st : Sto W.K C name) (st2 : Sto W.K C nam2)
    (h2 : ExI W fd n hd C σ ((nam2, j) :: (name, i) :: fs) b rest r)
    (hl : sc.names.lookup (PySem.Str.ofString "self") = some .local := by rfl)
    (hs : ∀ env, swapsWithSole [.Tuple [.Attribute (.Name (PySem.Str.ofString "self") p1) name p2, .Attribute (.Name (PySem.Str.ofString "self") p3) nam2 p5] k p4] e pos.line env = pure false := by intro _; rfl) (hw : ∀ env, swappedStores [.Tuple [.Attribute (.Name (PySem.Str.ofString "self") p1) name p2, .Attribute (.Name (PySem.Str.ofString "self") p3) nam2 p5] k p4] e env = pure none := by intro _; rfl) :
    ExI W fd n hd C σ fs (b + 1 + 1) (.Assign [.Tuple [.Attribute (.Name (PySem.Str.ofString "self") p1) name p2, .Attribute (.Name (PySem.Str.ofString "self") p3) nam2 p5] k p4] e pos :: rest) r :=
  fun hb x dx L a A outer X s m I lo Q E hq hr => by
    refine wpAny_execs_cons (Assign_Tuple (h1 x L a A outer X s m I.cx lo _ _ fun v h₁ tk₁ y1 rv => ?_) (hs _) (hw _))
    have I₁ := I.stepL y1.toL (y1.ns I.cx.ns)
    have lo₁ := lo.mono (y1.hid I.cx.sx.sub)
    rw [assign_Tuple]
    refine wpAny_bind (wpAny_standAt ?_)
    unfold unpack
    refine wpAny_bind (wpAny_holding (hu A _ X { s with heap := h₁, toks := tk₁ } v I₁.cx.sx rv _ _ fun vs h₂ tk₂ y2 rl => ?_))
    have I₂ := I₁.stepL y2.toL (y2.ns I₁.cx.ns)
    have lo₂ := lo₁.mono (y2.hid I₁.cx.sx.sub)
    match vs, rl with
    | [v1, v2], .cons r1 (.cons r2 .nil) =>
      show wpAny _ _ (holding [v2] (assign (.Attribute (.Name (PySem.Str.ofString "self") p1) name p2) (callEnv fd L a) v1) >>= fun _ => (holding [] (assign (.Attribute (.Name (PySem.Str.ofString "self") p3) nam2 p5) (callEnv fd L a) v2) >>= fun _ => pure ())) _ _ _
      refine wpAny_bind (wpAny_holding (assignAttr_go (s := { s with heap := h₂, toks := tk₂ }) F I₂ lo₂ st r1 (hself x) (fun h₃ tk₃ I₃ k₃ => ?_) hl))
      refine wpAny_bind (wpAny_holding (assignAttr_go (s := { s with heap := h₃, toks := tk₃ }) F I₃ (lo₂.mono k₃) st2 (r2.mono k₃) (hself x) (fun h₄ tk₄ I₄ k₄ => ?_) hl))
      exact wpAny_pure (h2 hb x dx L a A outer X { s with heap := h₄, toks := tk₄ } _ I₄ ((lo₂.mono k₃).mono k₄) Q E (fun h'' m'' tk'' fs' q I'' => hq h'' m'' tk'' fs' q I'') fun e h₁ h'' m'' tk'' ctx fl q a1 a2 a3 a4 a5 a6 => hr e h₁ h'' m'' tk'' ctx fl q a1 a2 a3 a4 a5 a6)
end
end Mine
end

section
open PySem PySem.W PySem.Calls PyProof.Rows
set_option Elab.async false
set_option linter.unusedVariables false
set_option maxRecDepth 100000
namespace Mine
theorem slot_ba_ga : Slot "bytearray" "__getattribute__" "bytearray.__getattribute__" :=
  .of (owner := "bytearray") (n := "__getattribute__") (by rw [typeLookup_type, builtinLookup_eq_fast]; kernel_rfl) (by decide +kernel) (by decide +kernel) (by decide +kernel)
    (by first | exact .inl (by decide +kernel) | exact .inr (by decide +kernel)) (by rw [isSubtype_type]; kernel_rfl)
theorem args_ba_ga (a b : Value) : argsOk "bytearray.__getattribute__" ⟨[a, b], []⟩ := by unfold argsOk; kernel_rfl
theorem entry_ba_ga : entryFor table "bytearray.__getattribute__" = some Builtin.«object.__getattribute__» :=
  entryFor_alias (id' := "object.__getattribute__") (by kernel_rfl) (by first | rfl | decide +kernel) (by decide +kernel) (by kernel_rfl)
theorem lk_ba_class : typeLookup (.type "bytearray") "__class__" = pure (some (.builtin "object.__class__")) := by rw [typeLookup_type, builtinLookup_eq_fast]; kernel_rfl
theorem sub_ba_owner : isSubtype (.type "bytearray") (.type (".".intercalate ("object.__class__".cutAt '.').dropLast)) = pure true := by
  rw [F.owner_object_class, isSubtype_type]; kernel_rfl
section
variable {prog : Program} {w : World} {A : Around} {E : Value → Shared → Prop} {h : Heap} {g : Array GenState} {d : Drawn} {t : Nat} {os : OsState} {a : Addr} {o : Obj}
theorem ba_get {R : Result → Shared → Prop} (hx : h.get? a = some o) (hc : o.cls = .type "bytearray") (hq : R (.ok (.ret (.type "bytearray"))) ⟨h, g, d, t, os⟩) :
    codeAny (model prog w) A (.call (.builtin "getset_descriptor.__get__") ⟨[.builtin "object.__class__", .ref a, .type "bytearray"], []⟩) R ⟨h, g, d, t, os⟩ := by
  have hT : (⟨h, g, d, t, os⟩ : Shared).TypeIs (.ref a) "bytearray" := ⟨_, hx, hc⟩
  have hT5 : (⟨h, g, d, t, os⟩ : Shared).TypeIs (.builtin "object.__class__") "getset_descriptor" := F.typeOf_object_class
  have f8 := sub_ba_owner
  refine codeAny_call_builtin F.slot_gs_get.plain F.entry_gs_get (F.slot_gs_get.check _ _ _ _ _ _ _ _ hT5 (F.args_gs_get _ _ _) ?_)
  repeat (any_goals (first | assumption | wp_step))
  refine ⟨Code.quiet_builtin _ (by decide +kernel), codeAny_builtin F.entry_object_class ?_⟩
  repeat (any_goals (first | assumption | wp_step))
theorem ba_entry {tk : Tok} {Q : Fin → Shared → Prop} (hx : h.get? a = some o) (hc : o.cls = .type "bytearray") (hq : Q (.done (.ret (.type "bytearray"))) ⟨h, g, d, t, os⟩) :
    wpAny (model prog w) A (Builtin.«object.__getattribute__» ⟨[.ref a, .str "__class__" tk], []⟩) Q E ⟨h, g, d, t, os⟩ := by
  have hT : (⟨h, g, d, t, os⟩ : Shared).TypeIs (.ref a) "bytearray" := ⟨_, hx, hc⟩
  have hT5 : (⟨h, g, d, t, os⟩ : Shared).TypeIs (.builtin "object.__class__") "getset_descriptor" := F.typeOf_object_class
  have f4 := lk_ba_class
  have f5 := F.typeOf_object_class
  have f6 := F.slot_gs_get.lookup
  have f7 := F.slot_gs_set.lookup
  repeat (any_goals (first | assumption | wp_step))
  refine ba_get hx hc ?_
  repeat (any_goals (first | assumption | wp_step))
theorem ba_call {tk : Tok} {R : Result → Shared → Prop} (hx : h.get? a = some o) (hc : o.cls = .type "bytearray") (hq : R (.ok (.ret (.type "bytearray"))) ⟨h, g, d, t, os⟩) :
    codeAny (model prog w) A (.call (.builtin "bytearray.__getattribute__") ⟨[.ref a, .str "__class__" tk], []⟩) R ⟨h, g, d, t, os⟩ :=
  codeAny_call_builtin slot_ba_ga.plain entry_ba_ga (slot_ba_ga.check _ _ _ _ _ _ _ _ (show (⟨h, g, d, t, os⟩ : Shared).TypeIs (.ref a) "bytearray" from ⟨_, hx, hc⟩) (args_ba_ga _ _) (ba_entry hx hc hq))
theorem ba_by {tk : Tok} {Q : Value → Shared → Prop} (hx : h.get? a = some o) (hc : o.cls = .type "bytearray") (hq : Q (.type "bytearray") ⟨h, g, d, t, os⟩) : wpAny (model prog w) A (getAttrBy (.ref a) (.str "__class__" tk) false) Q E ⟨h, g, d, t, os⟩ := by
  have hT : (⟨h, g, d, t, os⟩ : Shared).TypeIs (.ref a) "bytearray" := ⟨_, hx, hc⟩
  have f2 := slot_ba_ga.lookup
  have f3 := slot_ba_ga.bind (.ref a)
  repeat (any_goals (first | assumption | wp_step))
  refine ba_call hx hc ?_
  repeat (any_goals (first | assumption | wp_step))
theorem ba_attr {Q : Option Value → Shared → Prop} (hx : h.get? a = some o) (hc : o.cls = .type "bytearray") (hq : Q (some (.type "bytearray")) ⟨h, g, d, t + 1, os⟩) : wpAny (model prog w) A (getAttr? (.ref a) "__class__") Q E ⟨h, g, d, t, os⟩ := by
  unfold getAttr? getAttrBy?
  repeat (any_goals (first | assumption | with_reducible apply ba_by hx hc | wp_step))
end
theorem kitx_ba {K : Frag} {a : Addr} : KitX K (.ref a) (.type "bytearray") (KitAt a "bytearray") := kitx_of kitAt_ty (fun {_ _ _ _ _ s} p k => by obtain ⟨h, g, d, t, os⟩ := s; obtain ⟨o, h1, h2⟩ := p; exact ba_attr h1 h2 k)
theorem KitD.bar {W : Wd} {b : Array UInt8} : KitD W (.bar b) (.type "bytearray") := fun s X v G r => by
  cases r with
  | bar h1 h2 h3 h4 => exact ⟨(fun q => by cases q), _, kitx_ba, _, of_hideAll X h1, h2⟩

section
variable {W : Wd} {fd : FuncData} {n : Nat} {hd : Nat} {σ : Sg} {P : Out → Prop} {R : Prop}
theorem wp_execs_app {M : Model} {Γ : Ctx} {env : Env} {rest : List Stmt} : ∀ {ss : List Stmt} {p : Pos} {s : Shared} {Q : Flow → Pos → Shared → Prop} {E : Value → Pos → Shared → Prop},
    Sem.wp M Γ (execs ss env) (fun f p' s' => match f with | .next => Sem.wp M Γ (execs rest env) Q E p' s' | f => Q f p' s') E p s → Sem.wp M Γ (execs (ss ++ rest) env) Q E p s
  | [], p, s, Q, E, h => by
    rw [List.nil_append]
    rw [show execs [] env = pure .next from rfl] at h
    exact h
  | st :: ss, p, s, Q, E, h => by
    rw [List.cons_append]
    rw [PySem.execs_cons, Sem.wp_bind'] at h ⊢
    refine Sem.wp_mono M Γ _ (fun f p' s' h' => ?_) (fun _ _ _ h' => h') _ _ h
    cases f with
    | next => exact wp_execs_app h'
    | _ => exact h'
theorem ExXC.app {ss rest : List Stmt} {τ : Sg} (h1 : ExX W fd n hd σ ss (fun o => o = .next τ) R) (hs : Sup τ σ) (h2 : ExXC W fd n hd τ rest P R) : ExXC W fd n hd σ (ss ++ rest) P R :=
  fun L a A outer X s m C lo Q E hq hr Γ p hΓ hC => by
    refine wp_execs_app (h1 L a A outer X s m C lo (fun f s' => ∀ p', match f with | .next => Sem.wp (model W.prog W.w) Γ (execs rest (callEnv fd L a)) (fun a _ s => Q a s) (fun e _ s => E e s) p' s' | f => Q f s') E (fun f o h' m' tk' x hn hP hO => ?_) (fun e h₁ h' m' tk' ctx fl q y hn lo' st z w u => hr e h₁ h' m' tk' ctx fl q y hn lo' st z w u) Γ p hΓ |> fun z => Sem.wp_mono _ Γ _ (fun f p' s' h' => ?_) (fun _ _ _ h' => h') _ _ z)
    · have := h' p'
      cases f <;> exact this
    · subst hP
      cases f with
      | next =>
        intro p'
        exact h2 L a A outer X { s with heap := h', toks := tk' } m' (C.stepL x hn) hO Q E (fun f o h'' m'' tk'' y hn' hP' hO' => hq f o h'' m'' tk'' (x.trans y) hn' hP' hO')
          (fun e h₁ h'' m'' tk'' ctx fl q y hn' lo' st z w u => hr e h₁ h'' m'' tk'' ctx fl q (x.trans y) hn' (fun k d e => lo' k d (hs k d e)) st z w u) Γ p' hΓ hC
      | _ => exact hO.elim
end
end Mine
end

section
open PySem PySem.W PySem.Calls PyProof.Rows
set_option Elab.async false
set_option linter.unusedVariables false
set_option maxRecDepth 100000
namespace Mine
section
variable {W : Wd} {fd : FuncData} {n : Nat} {hd : Nat} {σ : Sg}
theorem Call.typeOf {C : Addr} {fs : List (PySem.Str × Int)} : Call W n hd (.type "type") [.obj C fs] (.fn (.ref C)) := fun A outer X s vs S r Q E hq => by
  match vs, r with
  | [v], .cons r1 .nil =>
    cases r1 with
    | obj h1 h2 h3 => exact kto_own (C := C) (ox := instObj C _) (od := some (dictOf _ _)) ⟨of_hideAll X h1, rfl, rfl, of_hideAll X h2⟩ (hq _ _ _ .refl (.fn _))
theorem Cmp.isNone : Cmp W n hd .Is .none .none (.bool true) := fun A outer X s v1 v2 S r1 r2 Q E h => by
  cases r1; cases r2
  exact is_none_none (h _ _ _ .refl (.bool _))
structure NmOf (K : Frag) (C : Addr) (q : PySem.Str) : Prop where
  o : ∃ od dt sl t, K.lookup C = some ⟨.type "type", od, dt, sl⟩ ∧ sl[2]? = some (some (.str q t))
  e : findCls K (.ref C) (.type "type") "__name__" = some (.get (.builtin "getset_descriptor.__get__") (.builtin "type.__name__") (.ref C) (.type "type"))
open Builtin Builtin.ObjectAttr Builtin.Getset_descriptor in
theorem name_dga (d tp : Value) (C : Addr) : descrGetArgs ⟨[d, .ref C, tp], []⟩ = pure (d, some (.ref C), given tp) := by kernel_rfl
theorem name_get {prog : Program} {w : World} {A : Around} {s : Shared} {K : Frag} {R : Result → Shared → Prop} {C : Addr} {q : PySem.Str} {t : Tok} {od : Option Addr} {dt : Data} {sl : Array (Option Value)} {tp : Value} (X : K.In s.heap) (ho : K.lookup C = some ⟨.type "type", od, dt, sl⟩) (h2 : sl[2]? = some (some (.str q t)))
    (h : R (.ok (.ret (.str q t))) s) : codeAny (model prog w) A (.call (.builtin "getset_descriptor.__get__") ⟨[.builtin "type.__name__", .ref C, tp], []⟩) R s := by
  obtain ⟨hh, g, dr, tk, os⟩ := s
  have hC : hh.get? C = some ⟨.type "type", od, dt, sl⟩ := X _ _ ho
  have L0 : Looks (model prog w) hh (typeOf (.ref C)) (.type "type") := (Looks.ld hC).andThen .now
  have L1 : Looks (model prog w) hh (isSubtype (.type "type") (.type "type")) true := Looks.of_pure (by rw [isSubtype_type]; kernel_rfl)
  refine codeAny_call_builtin KF.slot_gs.plain KF.entry_gs (KF.slot_gs.check _ _ _ _ _ _ _ _ ktyn_type (KF.args_gs _ _ _) ?_)
  unfold Builtin.«getset_descriptor.__get__» Builtin.Getset_descriptor.descrGet
  rw [name_dga]
  refine wpAny_bind (wpAny_pure ?_)
  unfold Builtin.Getset_descriptor.descrGetter Builtin.Getset_descriptor.descrCheckInstance Builtin.Getset_descriptor.descrNameAndClass isInstance
  simp only [ktyn_owner]
  repeat lk
  refine ⟨Code.quiet_builtin _ (by decide +kernel), codeAny_builtin ktyn_entry ?_⟩
  unfold Builtin.«type.__name__» Builtin.keptObject slotAt
  dsimp only
  refine wpAny_bind (wpAny_bind (wpAny_loadPart hC (wpAny_pure ?_)))
  rw [h2]
  exact wpAny_pure h
theorem Ev.clsName {e : Expr} {pos : Pos} {C : Addr} {q : PySem.Str} (h1 : Ev W fd n hd σ e (.fn (.ref C))) (N : NmOf W.K C q) (hop : nsIn W.K cStatics "thirdparty.any" = some none)
    (he : ∀ env, eval (.Attribute e "__name__" pos) env = (do
      let o ← eval e env
      standAt pos.atName
      let r ← holding [o] (getAttr o "__name__" true)
      letTemporaryGo e o r
      pure r) := by intro _; with_unfolding_all rfl) : Ev W fd n hd σ (.Attribute e "__name__" pos) (.str q) := fun L a A outer X s m Cx lo Q E hq => by
  refine Attribute_any_ (h1 L a A outer X s m Cx lo _ _ fun v h' tk y r => ?_) (he _)
  have ev : v = .ref C := by cases r; rfl
  subst ev
  have C1 := Cx.step y
  have XK : W.K.In h' := C1.sx.gd.X.keeps fun b o e => of_hideAll X e
  obtain ⟨od, dt, sl, t, ho, h2⟩ := N.o
  have hC : h'.get? C = some ⟨.type "type", od, dt, sl⟩ := XK _ _ ho
  have L0 : Looks (model W.prog W.w) h' (typeOf (.ref C)) (.type "type") := (Looks.ld hC).andThen .now
  refine cls_open (s := { s with heap := h', toks := tk }) XK (looks_opaque XK hop) L0 type_tga (looks_hook XK (r := none) (by rfl)) (by show subIn W.K _ _ = _; rfl) N.e ?_
  show wpAny _ _ (do ret (← holding [Value.builtin "type.__name__"] (PySem.call (.builtin "getset_descriptor.__get__") [.builtin "type.__name__", .ref C, .type "type"]))) _ _ _
  refine wpAny_bind (wpAny_holding (wpAny_call (name_get (K := W.K) (s := { s with heap := h', toks := tk + 1 }) XK ho h2 ?_)))
  exact wpAny_pure (handed_on rfl (hq _ h' (tk + 1) y (.str _ _)))
inductive PairsAre : List (Value × Value) → List (PySem.Str × Value) → Prop
  | nil : PairsAre [] []
  | cons {x : PySem.Str} {t : Tok} {v : Value} {vs : List (Value × Value)} {l : List (PySem.Str × Value)} : PairsAre vs l → PairsAre ((.str x t, v) :: vs) ((x, v) :: l)
theorem PairsAre.keys : ∀ {vs : List (Value × Value)} {l : List (PySem.Str × Value)}, PairsAre vs l → allStrKeys vs = true ∧ strPairs vs = l
  | _, _, .nil => ⟨rfl, rfl⟩
  | _, _, .cons p => ⟨p.keys.1, congrArg _ p.keys.2⟩
inductive EvD (W : Wd) (fd : FuncData) (n hd : Nat) (σ : Sg) : List (Option Expr) → List Expr → List (PySem.Str × Value) → Prop
  | nil : EvD W fd n hd σ [] [] []
  | cons {k v : Expr} {ks : List (Option Expr)} {vs : List Expr} {x : PySem.Str} {f : Value} {l : List (PySem.Str × Value)} : Ev W fd n hd σ k (.str x) → Ev W fd n hd σ v (.fn f) → EvD W fd n hd σ ks vs l → EvD W fd n hd σ (some k :: ks) (v :: vs) ((x, f) :: l)
theorem EvD.go {pos : Pos} {L a : Addr} {A : Around} {outer : List Env} {X : List Addr} {m : PySem.Str → Option Value} {ks : List (Option Expr)} {vs : List Expr} {l : List (PySem.Str × Value)} (h : EvD W fd n hd σ ks vs l) :
    ∀ {s : Shared} {Q : List (Value × Value) → Shared → Prop} {E : Value → Shared → Prop}, Cx W fd L a A outer X s.heap m n hd → Loc (hideAll s.heap X) m σ → (∀ ps h' tk', Stp (fr (callEnv fd L a :: outer)) s.heap h' → PairsAre ps l → Q ps { s with heap := h', toks := tk' }) →
      wpAny (model W.prog W.w) A (evalPairs (pairTrees ks vs (callEnv fd L a) pos)) Q E s := by
  induction h with
  | nil => exact fun C lo hq => pairTrees_nil_walk (hq _ _ _ .refl .nil)
  | @cons k v ks vs x f l h1 h2 _ ih =>
    intro s Q E C lo hq
    refine pairTrees_cons_walk (h1 L a A outer X s m C lo _ _ fun kv h₁ tk₁ x1 r1 => ?_)
    have C1 := C.step x1
    have l1 := lo.mono (x1.hid C.sx.sub)
    refine h2 L a A outer X { s with heap := h₁, toks := tk₁ } m C1 l1 _ _ fun vv h₂ tk₂ x2 r2 => ?_
    have C2 := C1.step x2
    refine ih (s := { s with heap := h₂, toks := tk₂ }) C2 (l1.mono (x2.hid C1.sx.sub)) fun ps h' tk' x3 p => ?_
    have e : vv = f := by cases r2; rfl
    subst e
    cases r1
    exact hq _ h' tk' ((x1.trans x2).trans x3) (.cons p)
theorem Ev.dict {ks : List (Option Expr)} {vs : List Expr} {l : List (PySem.Str × Value)} {pos : Pos} (h : EvD W fd n hd σ ks vs l) (hn : (l.map (·.1)).Nodup) (hall : ks.all (·.isSome) = true) (hl : ks.length = vs.length) (h0 : ks ≠ []) (hlen : ks.length ≤ 15) :
    Ev W fd n hd σ (.Dict ks vs pos) (.dct W.prog W.w l) := fun L a A outer X s m C lo Q E hq => by
  have p := Stp.push (fs := fr (callEnv fd L a :: outer)) (h := s.heap) { cls := .type "dict", data := .dict #[] }
  have C1 := C.step p
  have n0 : s.heap.get? s.heap.objs.size = none := Heap.get?_none_of_le (Nat.le_refl _)
  refine wpAny_Dict_walk (knd := strKind W.prog W.w) hall hl h0 hlen (h.go (s := { s with heap := s.heap.push { cls := .type "dict", data := .dict #[] } }) C1 (lo.mono (p.hid C.sx.sub)) fun ps h₁ tk₁ x pa => ?_)
  obtain ⟨k1, k2⟩ := pa.keys
  obtain ⟨o, es, ep, ho, rr⟩ := Heap.DictOf.new (knd := strKind W.prog W.w) s.heap
  have nf : s.heap.objs.size ∉ fr (callEnv fd L a :: outer) := fun q => C.sx.fresh (C.sx.sub _ q)
  have hd1 : h₁.DictOf (strKind W.prog W.w) s.heap.objs.size [] := ⟨o, es, ep, x.keep _ _ ho nf, rr⟩
  refine display_done_str k1 (by rw [k2]; exact hn) hd1 fun h' hd' hs' => ?_
  rw [k2] at hd'
  have lo' : (s.heap.objs.size == sysModules) = false := beq_eq_false_iff_ne.mpr (Nat.ne_of_gt (modules_low (C.sx.gd.T.nolimit.keeps fun b o e => of_hideAll X e)))
  obtain ⟨o', es', ep', ho', rr'⟩ := hd'
  exact hq _ h' _ ((p.trans x).same hs' n0) (.dct lo' ⟨o', es', ep', hideAll_get X ho' C.sx.fresh, rr'⟩)
theorem dct_hid {h : Heap} {X : List Addr} {a : Addr} {l : List (PySem.Str × Value)} (t : (hideAll h X).DictOf (strKind W.prog W.w) a l) : h.DictOf (strKind W.prog W.w) a l := let ⟨o, es, ep, ho, r⟩ := t; ⟨o, es, ep, of_hideAll X ho, r⟩
theorem Meth.dct {l : List (PySem.Str × Value)} : Meth W "get" (.dct W.prog W.w l) "dict" "dict.get" :=
  ⟨PySem.F.plainAttrs_dict, PySem.F.slot_dict_get, PySem.F.type_dict_get, fun s X v G r => by
    cases r with
    | dct z t => exact ⟨(dct_hid t).typeIs, (dct_hid t).mapOf.noDict⟩⟩
theorem isStr_self {prog : Program} {w : World} (x : PySem.Str) (t : Tok) : (PySem.strKind prog w).is x (.str x t) = true := by
  show Value.isStrOf x (.str x t) = true
  simp [Value.isStrOf]
theorem Call.dctGet {l : List (PySem.Str × Value)} {x : PySem.Str} {f : Value} (hv : valueAt l x = some f) : Call W n hd (.builtin "dict.get") [.dct W.prog W.w l, .str x] (.fn f) := fun A outer X s vs S r Q E hq => by
  match vs, r with
  | [v1, v2], .cons r1 (.cons r2 .nil) =>
    cases r2
    cases r1 with
    | dct z t =>
      refine call_meetsIn PySem.F.slot_dict_get (dct_hid t).typeIs PySem.F.entry_dict_get (PySem.F.args_dict_get_2 _ _) (meets_dict_get (k := x) (strKind W.prog W.w) _ (isStr_self x _) z) ⟨_, (dct_hid t).mapOf, ?_⟩
      rw [hv]
      exact hq _ _ _ .refl (.fn _)
theorem Call.of_bodyP {f : Addr} {oc : Value} {od : Option Addr} {osl : Array (Option Value)} {fd : FuncData} {ds wds : List D} {d : D} {body : List Stmt} (names : List PySem.Str)
    (ho : W.K.lookup f = some ⟨oc, od, .func fd, osl⟩) (hcd : codeIn W.K fd.code fd.qualname = true) (hbody : fd.body = .stmts body)
    (hb : ∀ vs : List Value, vs.length = ds.length → ∃ wvs, (∀ S, peek W.K S (bindArgs fd ⟨vs, []⟩) = some (names.zip wvs)) ∧ ∀ g, RepL g vs ds → RepL g wvs wds) (hl : names.length = wds.length) (hloc : ∀ x ∈ names, fd.scope.names.lookup x = some .local)
    (h : ∀ fd' sc, sc = fd.scope → FdIs fd' sc → Ex W fd' n hd ((names.zip wds).reverse) body (fun o => o = .ret d ∨ (d = .none ∧ ∃ σ, o = .next σ)))
    (hcell : ∀ x ∈ fd.scope.names, x.2 ≠ .cell := by decide) (hco : fd.scope.isCoroutine = false := by rfl) (hgen : fd.scope.isGenerator = false := by rfl) (hk : fd.scope.kind = .function := by rfl) (hgl : fd.globals = mainGlobals := by rfl) (hbl : fd.builtins = builtinsNs := by rfl) : Call W (n + 1) hd (.ref f) ds d := by
  intro A outer X s vs S r Q E hq
  have X₀ := S.gd.X.keeps (fun b o e => of_hideAll X e)
  obtain ⟨wvs, hpeek, hrep⟩ := hb vs r.len
  have rw := hrep _ r
  refine wpAny_call (codeAny_call_def (body := body) (binds := names.zip wvs) (by have := S.room; omega) (X₀ _ _ ho) rfl (S.gd.T.nolimit.keeps fun b o e => of_hideAll X e) (codeRec_of X₀ hcd) hbody (kp_binds X₀ hpeek) hcell
    (fun y hy => hloc _ (List.of_mem_zip hy).1) (fun h₀ hn hk₀ => ?_) hco hgen hk)
  obtain ⟨C, lo, hLX⟩ := enter_go (f := f) (fd := fd) S rw hn hk₀ hl hk
  refine h fd fd.scope rfl ⟨rfl, hk, hgl, hbl⟩ s.heap.objs.size f _ outer (s.heap.objs.size :: X) { s with heap := h₀, toks := s.toks + (names.zip wvs).length } _ C lo _ _ fun fl o h' m' tk' x hn' hP hO => ?_
  have st := back_go hk₀ x
  have sub : (hideAll h' (s.heap.objs.size :: X)).StaysIn (hideAll h' X) := hideAll_sub fun b hb => List.mem_cons_of_mem _ hb
  rcases hP with rfl | ⟨rfl, τ, rfl⟩
  · cases fl with
    | ret v => exact hq v h' tk' st (Rep.mono sub hO)
    | _ => exact hO.elim
  · cases fl with
    | next => exact hq .none h' tk' st .none
    | _ => exact hO.elim
end
end Mine
end

section
open PySem PySem.W PySem.Calls PyProof.Rows
set_option Elab.async false
set_option linter.unusedVariables false
set_option maxRecDepth 100000
namespace Mine
section
variable {W : Wd} {fd : FuncData} {n : Nat} {hd : Nat} {σ : Sg} {P : Out → Prop}
theorem EvC.cmpL {l r : Expr} {op : CmpOp} {pos : Pos} {d1 d2 d : D} (h1 : EvC W fd n hd σ l d1) (h2 : Ev W fd n hd σ r d2) (h3 : Cmp W n hd op d1 d2 d)
    (hm : behindInMarks op r = false := by rfl) : EvC W fd n hd σ (.Compare l [op] [r] pos) d :=
  fun L a A outer X s m C lo Q E h => by
    rw [eval_Compare1, markedBehindIn_of_false hm]
    refine wpP.bind (h1 L a A outer X s m C lo _ _ fun v1 ha tka x1 r1 => wpP.first (wpAny_holding ?_))
    have C1 := C.step x1
    refine h2 L a A outer X { s with heap := ha, toks := tka } m C1 (lo.mono (x1.hid C.sx.sub)) _ _ fun v2 hb tkb x2 r2 => ?_
    refine wpP.first (wpAny_standAt (wpP.operating (wpP.any ?_)))
    exact h3 A _ X { s with heap := hb, toks := tkb } v1 v2 (C1.step x2).sx (r1.mono (x2.hid C.sx.sub)) r2 _ _ fun v hc tkc x3 r3 => h v hc tkc ((x1.trans x2).trans x3) r3
theorem TrC.cmpL {l r : Expr} {op : CmpOp} {pos : Pos} {d1 d2 : D} {b : Bool} (h1 : EvC W fd n hd σ l d1) (h2 : Ev W fd n hd σ r d2) (h3 : Cmp W n hd op d1 d2 (.bool b))
    (hm : behindInMarks op r = false := by rfl) : TrC W fd n hd σ (.Compare l [op] [r] pos) b :=
  fun L a A outer X s m C lo Q E h => by
    rw [isTrue_Compare1, markedBehindIn_of_false hm]
    refine wpP.bind (h1 L a A outer X s m C lo _ _ fun v1 ha tka x1 r1 => wpP.first (wpAny_holding ?_))
    have C1 := C.step x1
    refine h2 L a A outer X { s with heap := ha, toks := tka } m C1 (lo.mono (x1.hid C.sx.sub)) _ _ fun v2 hb tkb x2 r2 => ?_
    refine wpP.first (wpAny_standAt (wpP.bind (wpP.operating (wpP.any ?_))))
    refine h3 A _ X { s with heap := hb, toks := tkb } v1 v2 (C1.step x2).sx (r1.mono (x2.hid C.sx.sub)) r2 _ _ fun v hc tkc x3 r3 => ?_
    cases r3
    exact wpP.any (wpAny_holding (wpAny_truthy_bool (h hc tkc ((x1.trans x2).trans x3))))
theorem TrC.and {e : Expr} {es : List Expr} {pos : Pos} {b c : Bool} (h1 : TrC W fd n hd σ e b) (h2 : b = true → TrC W fd n hd σ (.BoolOp .And es pos) c) : TrC W fd n hd σ (.BoolOp .And (e :: es) pos) (b && c) :=
  fun L a A outer X s m C lo Q E h => by
    show wpP (model W.prog W.w) A (do
      match BoolOp.And, ← isTrue e (callEnv fd L a) (eval e (callEnv fd L a)) with
      | .And, false => pure false
      | .Or, true => pure true
      | _, _ => allTrue .And es (callEnv fd L a)) Q E s
    refine wpP.bind (h1 L a A outer X s m C lo _ _ fun h' tk' x => ?_)
    cases b with
    | false => exact wpP.pure (h h' tk' x)
    | true => exact h2 rfl L a A outer X { s with heap := h', toks := tk' } m (C.step x) (lo.mono (x.hid C.sx.sub)) Q E fun h'' tk'' y => h h'' tk'' (x.trans y)
theorem ExC.app {ss rest : List Stmt} {τ : Sg} (h1 : Ex W fd n hd σ ss (fun o => o = .next τ)) (h2 : ExC W fd n hd τ rest P) : ExC W fd n hd σ (ss ++ rest) P :=
  fun L a A outer X s m C lo Q E hq Γ p hΓ hC => by
    refine wp_execs_app (h1 L a A outer X s m C lo (fun f s' => ∀ p', match f with | .next => Sem.wp (model W.prog W.w) Γ (execs rest (callEnv fd L a)) (fun a _ s => Q a s) (fun e _ s => E e s) p' s' | f => Q f s') E (fun f o h' m' tk' x hn hP hO => ?_) Γ p hΓ |> fun z => Sem.wp_mono _ Γ _ (fun f p' s' h' => ?_) (fun _ _ _ h' => h') _ _ z)
    · have := h' p'
      cases f <;> exact this
    · subst hP
      cases f with
      | next =>
        intro p'
        exact h2 L a A outer X { s with heap := h', toks := tk' } m' (C.stepL x hn) hO Q E (fun f o h'' m'' tk'' y hn' hP' hO' => hq f o h'' m'' tk'' (x.trans y) hn' hP' hO') Γ p' hΓ hC
      | _ => exact hO.elim
theorem glb_tup {K : Frag} (hK : W.K = K) {x : PySem.Str} {a : Addr} {ds : List D} {vs : List Value} {k : Nat} {od : Option Addr} {sl : Array (Option Value)} (e : nsIn K mainGlobals x = some (some (.ref a))) (ho : K.lookup a = some ⟨.type "tuple", od, .seq vs.toArray k, sl⟩) (r : ∀ g, RepL g vs ds) : Glb W x (.tup ds) := fun g G =>
  ⟨.ref a, mg_of G.X G.T.g (hK ▸ e), .tup ⟨_, G.X _ _ (hK ▸ ho), rfl, _, rfl⟩ (r g)⟩
theorem seqIx {k : Int} {n : Nat} (h0 : 0 ≤ k) (h1 : k < n) : seqIndex? k n = some k.toNat := by
  unfold seqIndex?
  have e : ¬ k < 0 := by omega
  simp [e, h0, h1]
end
end Mine
end

section
open PySem PySem.W PySem.Calls PyProof.Rows PySem.Builtin.Re
set_option Elab.async false
set_option linter.unusedVariables false
set_option maxRecDepth 100000
namespace Mine
namespace FRe
theorem plainAttrs_pat : PlainAttrs "re.Pattern" :=
  ⟨⟨"object.__getattribute__", by rw [typeLookup_type, builtinLookup_eq_fast]; kernel_rfl, by decide +kernel⟩, by rw [typeLookup_type, builtinLookup_eq_fast]; kernel_rfl⟩
theorem plainAttrs_mat : PlainAttrs "re.Match" :=
  ⟨⟨"object.__getattribute__", by rw [typeLookup_type, builtinLookup_eq_fast]; kernel_rfl, by decide +kernel⟩, by rw [typeLookup_type, builtinLookup_eq_fast]; kernel_rfl⟩
theorem slot_full : Slot "re.Pattern" "fullmatch" "re.Pattern.fullmatch" :=
  .of (owner := "re.Pattern") (n := "fullmatch") (by rw [typeLookup_type, builtinLookup_eq_fast]; kernel_rfl) (by decide +kernel) (by decide +kernel) (by decide +kernel)
    (by first | exact .inl (by decide +kernel) | exact .inr (by decide +kernel)) (by rw [isSubtype_type]; kernel_rfl)
theorem type_full : typeOf (.builtin "re.Pattern.fullmatch") = pure (.type "method_descriptor") := by show builtinType _ = _; rw [builtinType_eq_fast]; kernel_rfl
theorem entry_full : entryFor table "re.Pattern.fullmatch" = some Builtin.«re.Pattern.fullmatch» := entryFor_of_tree (by kernel_rfl)
theorem args_full (a b : Value) : argsOk "re.Pattern.fullmatch" ⟨[a, b], []⟩ := by unfold argsOk; kernel_rfl
theorem slot_groups : Slot "re.Match" "groups" "re.Match.groups" :=
  .of (owner := "re.Match") (n := "groups") (by rw [typeLookup_type, builtinLookup_eq_fast]; kernel_rfl) (by decide +kernel) (by decide +kernel) (by decide +kernel)
    (by first | exact .inl (by decide +kernel) | exact .inr (by decide +kernel)) (by rw [isSubtype_type]; kernel_rfl)
theorem type_groups : typeOf (.builtin "re.Match.groups") = pure (.type "method_descriptor") := by show builtinType _ = _; rw [builtinType_eq_fast]; kernel_rfl
theorem entry_groups : entryFor table "re.Match.groups" = some Builtin.«re.Match.groups» := entryFor_of_tree (by kernel_rfl)
theorem args_groups (a : Value) : argsOk "re.Match.groups" ⟨[a], []⟩ := by unfold argsOk; kernel_rfl
end FRe
section
variable {M : Model} {A : Around} {E : Value → Shared → Prop} {s : Shared} {x : PySem.Str} {t : Tok} {p : Value}
theorem named_eq : reNamed "re.Pattern.fullmatch" "fullmatch" ["string", "pos", "endpos"] 1 [.str x t] [] = pure [some (.str x t), none, none] := by kernel_rfl
theorem textOf_eq : reTextOf (.str x t) = pure (x.cps, 0) := by kernel_rfl
theorem noColl_eq : reNoCollectionInside (.str x t) 0 = pure () := by kernel_rfl
def intsV (C : Array Nat) : Array Value := C.map fun c => .int (c : Nat) 0
theorem intsV_raw (C : Array Nat) : ((intsV C).map reRawOf).map (·.toNat) = C := by
  unfold intsV
  simp only [Array.map_map]
  refine Array.ext (by simp) fun i h1 h2 => ?_
  simp [reRawOf]
theorem target_go {a q : Addr} {o oq : Obj} {v0 v1 v3 v4 : Value} {C : Array Nat} {groups : Nat} {tg : Tok} {Q : ReTarget → Shared → Prop} (ho : s.heap.get? a = some o) (hd : o.data = .fields #[v0, v1, .int groups tg, v3, v4, .ref q, .int 0 0])
    (hq : s.heap.get? q = some oq) (hqd : oq.data = .seq (intsV C)) (hz : x.cps.size ≤ 100000) (h : Q { pattern := .ref a, string := .str x t, code := C, text := x.cps, kind := 0, groups := groups, pos := 0, lim := x.cps.size } s) :
    wpAny M A (reTarget "re.Pattern.fullmatch" "fullmatch" ⟨[.ref a, .str x t], []⟩) Q E s := by
  unfold reTarget
  refine wpAny_bind ?_
  show wpAny M A (reNamed "re.Pattern.fullmatch" "fullmatch" ["string", "pos", "endpos"] 1 [.str x t] []) _ E s
  rw [named_eq]
  refine wpAny_pure (wpAny_bind (wpAny_pure (wpAny_bind (wpAny_pure (wpAny_bind (wpAny_fieldsOf ho hd (wpAny_bind ?_)))))))
  rw [textOf_eq]
  refine wpAny_pure ?_
  show wpAny M A (if (_ && false) = true then _ else _) _ E s
  rw [Bool.and_false, if_neg Bool.false_ne_true]
  show wpAny M A (if (false && _) = true then _ else _) _ E s
  rw [Bool.false_and, if_neg Bool.false_ne_true]
  refine wpAny_bind ?_
  rw [noColl_eq]
  refine wpAny_pure (wpAny_bind ?_)
  unfold reRawItems
  refine wpAny_bind (wpAny_seqItems hq hqd (wpAny_pure (wpAny_pure ?_)))
  have e1 : (((some (intsV C)).getD #[]).map reRawOf).map (·.toNat) = C := intsV_raw C
  have e2 : min ((2 : Int) ^ 63 - 1).toNat x.cps.size = x.cps.size := Nat.min_eq_right (Nat.le_trans hz (by decide))
  have e3 : min (0 : Int).toNat x.cps.size = 0 := by simp
  dsimp only
  rw [e1, e2, e3]
  exact h
def mspan (m : Sre.M) (g : Nat) : Option (Nat × Nat) := match (if ((2 * g + 1 : Nat) : Int) ≤ m.lastmark then (m.marks.getD (2 * g) none, m.marks.getD (2 * g + 1) none) else (none, none)) with
  | (some b, some e) => some (b, e)
  | _ => none
abbrev Sps := List (Option (Nat × Nat))
structure ReDoes (C : Array Nat) (groups : Nat) (spec : Array Nat → Option Sps) : Prop where
  run : ∀ (T : Array Nat) (M : Model) (A : Around) (E : Value → Shared → Prop) (s : Shared) (Q : Option Sre.M → Shared → Prop), T.size ≤ 100000 →
    (∀ m sp, spec T = some sp → m.start = 0 → (List.range groups).map (mspan m) = sp → Q (some m) s) → (spec T = none → Q none s) → wpAny M A (reRunToEnd (Sre.forMatch C T groups 0 T.size true false)) Q E s
  le : ∀ T sp b q, spec T = some sp → some (b, q) ∈ sp → b ≤ q
def flatMine (m : Sre.M) (l : List Nat) : List Value := l.flatMap fun g =>
    match if ((2 * g + 1 : Nat) : Int) ≤ m.lastmark then (m.marks.getD (2 * g) none, m.marks.getD (2 * g + 1) none) else (none, none) with
    | (some b, some e) => [rawInt b, rawInt e]
    | _ => [rawInt (-1), rawInt (-1)]
theorem spans_eq (m : Sre.M) (l : List Nat) : flatMine m l = (l.map (mspan m)).flatMap spanV := by
  unfold flatMine
  induction l with
  | nil => rfl
  | cons g r ih =>
    rw [List.flatMap_cons, List.map_cons, List.flatMap_cons, ih]
    congr 1
    unfold mspan
    generalize (if ((2 * g + 1 : Nat) : Int) ≤ m.lastmark then (m.marks.getD (2 * g) none, m.marks.getD (2 * g + 1) none) else (none, none)) = z
    obtain ⟨a, b⟩ := z
    cases a <;> cases b <;> rfl
def anyMine (m : Sre.M) (l : List Nat) : Bool := l.any (fun g => match m.marks.getD (2 * g) none, m.marks.getD (2 * g + 1) none with | some b, some e => ((2 * g + 1 : Nat) : Int) ≤ m.lastmark && e < b | _, _ => false)
theorem anywrong (m : Sre.M) (l : List Nat) (h : ∀ b q, some (b, q) ∈ l.map (mspan m) → b ≤ q) : anyMine m l = false := by
  unfold anyMine
  rw [List.any_eq_false]
  intro g hg
  have := h
  intro z
  have z' : ∃ b e, m.marks.getD (2 * g) none = some b ∧ m.marks.getD (2 * g + 1) none = some e ∧ ((2 * g + 1 : Nat) : Int) ≤ m.lastmark ∧ e < b := by
    revert z
    generalize m.marks.getD (2 * g) none = u
    generalize m.marks.getD (2 * g + 1) none = v
    intro z
    cases u with
    | none => cases z
    | some b =>
      cases v with
      | none => cases z
      | some e =>
        have z : (decide (((2 * g + 1 : Nat) : Int) ≤ m.lastmark) && decide (e < b)) = true := z
        rw [Bool.and_eq_true, decide_eq_true_eq, decide_eq_true_eq] at z
        exact ⟨b, e, rfl, rfl, z.1, z.2⟩
  obtain ⟨b, e, e1, e2, e3, e4⟩ := z'
  have : mspan m g = some (b, e) := by unfold mspan; rw [if_pos e3, e1, e2]
  have := h b e (by rw [← this]; exact List.mem_map_of_mem hg)
  omega
theorem new_eq (p st : Value) (groups lim : Nat) (m : Sre.M) : reNewMatch p st groups 0 lim m = (if anyMine m (List.range groups) = true then ((reWrongSpan : Sem Unit) >>= fun _ => newTuple (rawInt m.start :: rawInt m.handed :: flatMine m (List.range groups)) >>= fun t => newFields "re.Match" [st, p, rawInt (0 : Nat), rawInt lim, rawInt m.lastindex, t])
    else newTuple (rawInt m.start :: rawInt m.handed :: flatMine m (List.range groups)) >>= fun t => newFields "re.Match" [st, p, rawInt (0 : Nat), rawInt lim, rawInt m.lastindex, t]) := by
  rfl
theorem match_go {W : Wd} {A₁ : Around} {n hd : Nat} {outer : List Env} {X : List Addr} {spec : Array Nat → Option Sps} {a q : Addr} {o oq : Obj} {v0 v1 v3 v4 : Value} {C : Array Nat} {groups : Nat} {tg : Tok} (S : Sx W A₁ outer X s.heap n hd) (ho : s.heap.get? a = some o) (hd : o.data = .fields #[v0, v1, .int groups tg, v3, v4, .ref q, .int 0 0])
    (hq : s.heap.get? q = some oq) (hqd : oq.data = .seq (intsV C)) (R : ReDoes C groups spec) (hz : x.cps.size ≤ 100000) (hg : groups ≤ 1000) {Q : Fin → Shared → Prop}
    (h : ∀ v h' tk', Stp (fr outer) s.heap h' → Rep (hideAll h' X) v (match spec x.cps with | some sp => .mat x sp | none => .none) → Q (.done (.ret v)) { s with heap := h', toks := tk' }) :
    wpAny M A (Builtin.«re.Pattern.fullmatch» ⟨[.ref a, .str x t], []⟩) Q E s := by
  unfold Builtin.«re.Pattern.fullmatch»
  refine wpAny_bind (target_go ho hd hq hqd hz ?_)
  unfold reAnswer
  refine wpAny_bind (R.run x.cps _ _ _ _ _ hz (fun m sp hs hst hsp => ?_) fun hs => ?_)
  · rw [hs] at h
    show wpAny M A (reNewMatch (.ref a) (.str x t) groups 0 x.cps.size m >>= _) Q E s
    rw [new_eq, anywrong m _ (by rw [hsp]; intro b q hb; exact R.le _ _ b q hs hb), if_neg Bool.false_ne_true, spans_eq, hsp, hst]
    have sl : sp.length = groups := by rw [← hsp]; simp
    have sz : ∀ l : Sps, (l.flatMap spanV).length = 2 * l.length := fun l => by
      induction l with
      | nil => rfl
      | cons o r ih => rw [List.flatMap_cons, List.length_append, ih, List.length_cons]; cases o <;> simp [spanV] <;> omega
    refine wpAny_bind (wpAny_bind (wpAny_newObj_type ?_ (by
      show (rawInt _ :: rawInt _ :: sp.flatMap spanV).toArray.size ≤ sizeLine
      rw [List.size_toArray, List.length_cons, List.length_cons, sz, sl, sizeLine_eq]; omega)))
    unfold newFields
    refine wpAny_newObj_type ?_ (by show 6 ≤ sizeLine + 2; rw [sizeLine_eq]; decide)
    have p1 := Stp.push (fs := fr outer) (h := s.heap) { cls := .type "tuple", data := .seq (rawInt (0 : Nat) :: rawInt m.handed :: sp.flatMap spanV).toArray }
    have S1 := S.step p1
    have p2 := Stp.push (fs := fr outer) (h := s.heap.push { cls := .type "tuple", data := .seq (rawInt (0 : Nat) :: rawInt m.handed :: sp.flatMap spanV).toArray }) { cls := .type "re.Match", data := .fields #[.str x t, .ref a, rawInt (0 : Nat), rawInt x.cps.size, rawInt m.lastindex, .ref s.heap.objs.size] }
    refine wpAny_pure (h _ _ _ (p1.trans p2) (.mat (hideAll_get X (Heap.get?_push_size _ rfl) S1.fresh) rfl rfl rfl ⟨_, hideAll_get X (Heap.get?_push_of_some _ (Heap.get?_push_size _ rfl)) S.fresh, rfl, _, rfl⟩))
  · rw [hs] at h
    exact wpAny_pure (h _ _ _ .refl .none)

theorem groups_named : reNamed "re.Match.groups" "groups" ["default"] 0 [] [] = pure [none] := by kernel_rfl
def slc (x : PySem.Str) : Option (Nat × Nat) → D
  | some (b, e) => .str ⟨x.cps.extract b e⟩
  | none => .none
theorem spanGet (sp : Sps) : ∀ (g : Nat), ∀ (e0 : Nat), g < sp.length → (((rawInt (0 : Nat) :: rawInt e0 :: sp.flatMap spanV).map reRawOf)[2 * (g + 1)]?, ((rawInt (0 : Nat) :: rawInt e0 :: sp.flatMap spanV).map reRawOf)[2 * (g + 1) + 1]?) =
    (match sp[g]? with | some (some (b, e)) => (some ((b : Nat) : Int), some ((e : Nat) : Int)) | _ => (some (-1), some (-1))) := by
  have : ∀ (sp : Sps) (g : Nat), g < sp.length → (((sp.flatMap spanV).map reRawOf)[2 * g]?, ((sp.flatMap spanV).map reRawOf)[2 * g + 1]?) = (match sp[g]? with | some (some (b, e)) => (some ((b : Nat) : Int), some ((e : Nat) : Int)) | _ => (some (-1), some (-1))) := by
    intro sp
    induction sp with
    | nil => intro g h; simp at h
    | cons o r ih =>
      intro g h
      rw [List.flatMap_cons, List.map_append]
      have l2 : ((spanV o).map reRawOf).length = 2 := by cases o <;> rfl
      cases g with
      | zero => cases o <;> rfl
      | succ g =>
        rw [List.getElem?_append_right (by omega), List.getElem?_append_right (by omega), l2]
        have := ih g (by simpa using h)
        rw [show 2 * (g + 1) - 2 = 2 * g by omega, show 2 * (g + 1) + 1 - 2 = 2 * g + 1 by omega]
        simpa using this
  intro g e0 h
  have := this sp g h
  rw [show 2 * (g + 1) = 2 * g + 1 + 1 by omega]
  simpa using this
theorem groups_map {X : List Addr} {f : Nat → Sem Value} {h0 : Heap} {gn : Array GenState} {dr : Drawn} {os : OsState} {ds : Nat → D} : ∀ (l : List Nat) (tk : Nat) (Q : List Value → Shared → Prop),
    (∀ g ∈ l, ∀ tk (Q : Value → Shared → Prop), (∀ v tk', Rep (hideAll h0 X) v (ds g) → Q v ⟨h0, gn, dr, tk', os⟩) → wpAny M A (f g) Q E ⟨h0, gn, dr, tk, os⟩) →
    (∀ vs tk', RepL (hideAll h0 X) vs (l.map ds) → Q vs ⟨h0, gn, dr, tk', os⟩) → wpAny M A (l.mapM f) Q E ⟨h0, gn, dr, tk, os⟩
  | [], tk, Q, hf, h => by rw [List.mapM_nil]; exact wpAny_pure (h _ _ .nil)
  | g :: l, tk, Q, hf, h => by
    rw [List.mapM_cons]
    refine wpAny_bind (hf g (.head _) tk _ fun v tk' r => wpAny_bind (groups_map l tk' _ (fun g' hg' => hf g' (.tail _ hg')) fun vs tk'' rs => wpAny_pure (h _ _ (.cons r rs))))
theorem groups_go {W : Wd} {A₁ : Around} {n hd : Nat} {outer : List Env} {X : List Addr} {v : Value} {sp : Sps} (S : Sx W A₁ outer X s.heap n hd) (r : Rep (hideAll s.heap X) v (.mat x sp)) (hz : sp.length ≤ 1000) (hx : x.cps.size ≤ 100000) {Q : Fin → Shared → Prop}
    (h : ∀ v h' tk', Stp (fr outer) s.heap h' → Rep (hideAll h' X) v (.tup (sp.map (slc x))) → Q (.done (.ret v)) { s with heap := h', toks := tk' }) : wpAny M A (Builtin.«re.Match.groups» ⟨[v], []⟩) Q E s := by
  cases r with
  | mat h1 h2 h3 h4 h5 =>
  rename_i a q o t p u1 u2 u3 e0
  obtain ⟨oq, hq, hqc, hqd⟩ := tup_hid h5
  obtain ⟨ep, hqd⟩ := hqd
  unfold Builtin.«re.Match.groups» reWithDefault
  refine wpAny_bind (wpAny_bind ?_)
  show wpAny M A (reNamed "re.Match.groups" "groups" ["default"] 0 [] []) _ E s
  rw [groups_named]
  refine wpAny_pure (wpAny_bind ?_)
  unfold reFound
  refine wpAny_bind (wpAny_fieldsOf (of_hideAll X h1) h4 (wpAny_bind ?_))
  unfold reRawItems
  refine wpAny_bind (wpAny_seqItems hq hqd (wpAny_pure (wpAny_pure (wpAny_pure ?_))))
  have sz : ∀ l : Sps, (l.flatMap spanV).length = 2 * l.length := fun l => by
    induction l with
    | nil => rfl
    | cons o r ih => rw [List.flatMap_cons, List.length_append, ih, List.length_cons]; cases o <;> simp [spanV] <;> omega
  have e1 : ((some (rawInt (0 : Nat) :: rawInt e0 :: sp.flatMap spanV).toArray).getD #[]).map reRawOf = ((rawInt (0 : Nat) :: rawInt e0 :: sp.flatMap spanV).map reRawOf).toArray := by simp
  dsimp only
  rw [e1]
  have e2 : ((rawInt (0 : Nat) :: rawInt e0 :: sp.flatMap spanV).map reRawOf).toArray.size / 2 - 1 = sp.length := by
    rw [List.size_toArray, List.length_map, List.length_cons, List.length_cons, sz]; omega
  rw [e2]
  obtain ⟨h0, gn, dr, tk, os⟩ := s
  refine wpAny_bind ?_
  refine (groups_map (X := X) (ds := fun g => match sp[g]? with | some o => slc x o | none => .none) _ _ _ (fun g hg tk Q hq => ?_) fun vs tk' rs => ?_)
  · have hg : g < sp.length := by simpa using hg
    have sg := spanGet sp g e0 hg
    obtain ⟨s1, s2⟩ := Prod.mk.inj sg
    unfold reGroupText
    dsimp only
    rw [Array.getD_eq_getD_getElem?, Array.getD_eq_getD_getElem?, List.getElem?_toArray, List.getElem?_toArray, s1, s2]
    obtain ⟨o, ho⟩ : ∃ o, sp[g]? = some o := ⟨_, List.getElem?_eq_getElem hg⟩
    rw [ho] at hq ⊢
    cases o with
    | none => exact wpAny_pure (hq _ _ .none)
    | some be =>
      obtain ⟨b, e⟩ := be
      show wpAny M A (if _ then _ else _) Q E _
      rw [if_neg (by simp)]
      refine wpAny_bind ?_
      show wpAny M A (reTextOf (.str x t)) _ E _
      rw [textOf_eq]
      refine wpAny_pure ?_
      show wpAny M A (mkStr ⟨x.cps.extract b e⟩) Q E _
      refine wpAny_mkStr (hq _ _ (.str _ _)) ?_
      rw [sizeLine_eq]
      simp only [PySem.Str.length, Array.size_extract]
      omega
  · have e3 : (List.range sp.length).map (fun g => match sp[g]? with | some o => slc x o | none => .none) = sp.map (slc x) := by
      apply List.ext_getElem?
      intro i
      simp only [List.getElem?_map]
      by_cases q : i < sp.length
      · rw [List.getElem?_range q, List.getElem?_eq_getElem q]
        simp [List.getElem?_eq_getElem q]
      · rw [List.getElem?_eq_none (by simpa using q), List.getElem?_eq_none (by simpa using q)]; rfl
    rw [e3] at rs
    refine wpAny_bind (wpAny_newObj_type ?_ (by show vs.toArray.size ≤ sizeLine; rw [List.size_toArray, rs.len, List.length_map, sizeLine_eq]; omega))
    have p := Stp.push (fs := fr outer) (h := h0) { cls := .type "tuple", data := .seq vs.toArray }
    refine wpAny_pure (h _ _ _ p (.tup ⟨_, hideAll_get X (Heap.get?_push_size _ rfl) fun m => S.fresh m, rfl, _, rfl⟩ (rs.mono (p.hid S.sub))))

def pr2 : Option Nat → Option Nat → Option (Nat × Nat)
  | some b, some q => some (b, q)
  | _, _ => none
def spOf (groups : Nat) (l : Spans) : Sps := (List.range groups).map fun g => pr2 (app (fun _ => none) l (2 * g)) (app (fun _ => none) l (2 * g + 1))
theorem app_le : ∀ (l : Spans) (e : Ef), (∀ g b q, e (2 * g) = some b → e (2 * g + 1) = some q → b ≤ q) → (∀ x ∈ l, x.2.1 ≤ x.2.2) → ∀ g b q, app e l (2 * g) = some b → app e l (2 * g + 1) = some q → b ≤ q
  | [], e, he, _ => he
  | (g0, b0, q0) :: l, e, he, hl => by
    refine app_le l _ (fun g b q h1 h2 => ?_) (fun x hx => hl x (.tail _ hx))
    unfold upd at h1 h2
    by_cases w : g = g0
    · subst w
      rw [if_neg (by omega), if_pos rfl] at h1
      rw [if_pos rfl] at h2
      cases h1; cases h2
      exact hl _ (.head _)
    · rw [if_neg (by omega), if_neg (by omega)] at h1
      rw [if_neg (by omega), if_neg (by omega)] at h2
      exact he g b q h1 h2
theorem scanT_le {T : Array Nat} {g p : Nat} {l : Spans} (h : scanT T g p = some l) : ∀ x ∈ l, x.2.1 ≤ x.2.2 := by
  unfold scanT at h
  split at h
  · cases h; intro x hx; cases hx
  · split at h
    · cases h
      intro x hx
      rw [List.mem_singleton.mp hx]
      exact Nat.le_add_right _ _
    · cases h
theorem scan_le {T : Array Nat} {gt : Nat} : ∀ {its : List It} {p : Nat} {l : Spans}, scan T gt its p = some l → ∀ x ∈ l, x.2.1 ≤ x.2.2
  | [], p, l, h => scanT_le h
  | .lit c :: r, p, l, h => by
    unfold scan at h
    split at h
    · exact scan_le h
    · cases h
  | .sep a b :: r, p, l, h => by
    unfold scan at h
    split at h
    · exact scan_le h
    · cases h
  | .grp g k :: r, p, l, h => by
    unfold scan at h
    split at h
    · cases h
    · cases hs : scan T gt r (p + digN T k p) with
      | none => rw [hs] at h; cases h
      | some l' =>
        rw [hs] at h
        cases h
        intro x hx
        rcases List.mem_cons.mp hx with rfl | hx
        · exact Nat.le_add_right _ _
        · exact scan_le hs x hx
theorem scanS_le {T : Array Nat} {c gt : Nat} {its : List It} {p : Nat} {l : Spans} (h : scanS T c gt its p = some l) : ∀ x ∈ l, x.2.1 ≤ x.2.2 := by
  unfold scanS at h
  split at h
  · cases hs : scan T gt its (p + 1) with
    | none => rw [hs] at h; cases h
    | some l' =>
      rw [hs] at h
      cases h
      intro x hx
      rcases List.mem_cons.mp hx with rfl | hx
      · exact Nat.le_add_right _ _
      · exact scan_le hs x hx
  · exact scan_le h
theorem mspan_eff {C T : Array Nat} {v : V} {a : Option Bool} {sn : Sre.Seen} {o : Option Sre.Outcome} (g : Nat) : mspan { mkM C T v a sn with outcome := o } g = pr2 (eff v (2 * g)) (eff v (2 * g + 1)) := by
  unfold mspan eff
  show (match (if ((2 * g + 1 : Nat) : Int) ≤ v.lm then (v.marks.getD (2 * g) none, v.marks.getD (2 * g + 1) none) else (none, none)) with | (some b, some e) => some (b, e) | _ => none) = _
  by_cases q : ((2 * g + 1 : Nat) : Int) ≤ v.lm
  · rw [if_pos q, if_pos q, if_pos (by omega)]
    generalize v.marks.getD (2 * g) none = x
    generalize v.marks.getD (2 * g + 1) none = y
    cases x <;> cases y <;> rfl
  · rw [if_neg q, if_neg q]
    generalize (if ((2 * g : Nat) : Int) ≤ v.lm then v.marks.getD (2 * g) none else none) = x
    cases x <;> rfl
structure ReOk (C : Array Nat) (groups least : Nat) (sp0 : Array Nat → Option Spans) : Prop where
  win : ∀ T l, sp0 T = some l → ∃ k, k ≤ 50000 ∧ Win C T k (v0 groups 5) (app (fun _ => none) l)
  fail : ∀ T, sp0 T = none → ∃ k, k ≤ 50000 ∧ Fail C T k (v0 groups 5)
  len : ∀ T l, sp0 T = some l → least ≤ T.size
  le : ∀ T l, sp0 T = some l → ∀ x ∈ l, x.2.1 ≤ x.2.2
theorem redoes {C : Array Nat} {groups least : Nat} {sp0 : Array Nat → Option Spans} (hh : Sre.header C = (least, 5)) (K : ReOk C groups least sp0) : ReDoes C groups (fun T => (sp0 T).map (spOf groups)) := by
  refine ⟨fun T M A E s Q hz hy hn => ?_, fun T sp b q hs hm => ?_⟩
  · have fm : Sre.forMatch C T groups 0 T.size true false = if (least != 0 && decide (0 ≤ T.size) && decide (T.size - 0 < least)) = true then mkM C T (v0 groups 5) (some false) (({} : Sre.Seen).add 14) else mkM C T (v0 groups 5) none (({} : Sre.Seen).add 14) := by
      show (if ((Sre.header C).1 != 0 && decide (0 ≤ T.size) && decide (T.size - 0 < (Sre.header C).1)) = true then Sre.M.say { code := C, text := T, lim := T.size, start := 0, pc := (Sre.header C).2, pos := 0, handed := 0, marks := Array.replicate (2 * groups) none, mustAdvance := false, wholeText := true, seen := if (Sre.header C).2 == 0 then {} else ({} : Sre.Seen).add 14 } false
        else { code := C, text := T, lim := T.size, start := 0, pc := (Sre.header C).2, pos := 0, handed := 0, marks := Array.replicate (2 * groups) none, mustAdvance := false, wholeText := true, seen := if (Sre.header C).2 == 0 then {} else ({} : Sre.Seen).add 14 }) = _
      rw [hh]
      rfl
    rw [fm]
    split
    · rename_i q
      have lt : T.size < least := by
        rw [Bool.and_eq_true, decide_eq_true_eq] at q
        have := q.2
        omega
      have none : sp0 T = none := by
        cases e : sp0 T with
        | none => rfl
        | some l => have := K.len T l e; omega
      refine end_go (k := 1) (by decide) (fin := { mkM C T (v0 groups 5) (some false) (({} : Sre.Seen).add 14) with outcome := some .failed }) (fun j => ?_) (.inr ⟨rfl, hn (by rw [none]; rfl)⟩)
      rw [runFor_add]
      exact runFor_halt _ _ rfl
    · cases e : sp0 T with
      | none =>
        obtain ⟨k, hk, v', g, hF, _⟩ := K.fail T e
        obtain ⟨fin, sn, f1, f2⟩ := fin_go g hF (({} : Sre.Seen).add 14)
        exact end_go (k := k + 1) (by omega) f1 (.inr ⟨by rw [f2]; rfl, hn (by rw [e]; rfl)⟩)
      | some l =>
        obtain ⟨k, hk, v', g, hF, hE, hH⟩ := K.win T l e
        obtain ⟨fin, sn, f1, f2⟩ := fin_go g hF (({} : Sre.Seen).add 14)
        refine end_go (k := k + 1) (by omega) f1 (.inl ⟨by rw [f2]; rfl, hy fin (spOf groups l) (by rw [e]; rfl) (by rw [f2]; rfl) ?_⟩)
        unfold spOf
        refine List.map_congr_left fun g hg => ?_
        rw [f2, mspan_eff, hE]
  · cases e : sp0 T with
    | none => rw [e] at hs; cases hs
    | some l =>
      rw [e] at hs
      cases hs
      unfold spOf at hm
      obtain ⟨g, hg, hp⟩ := List.mem_map.mp hm
      have := app_le l (fun _ => none) (fun g b q h => by cases h) (K.le T l e) g
      cases e1 : app (fun _ => none) l (2 * g) with
      | none => rw [e1] at hp; cases hp
      | some b' =>
        cases e2 : app (fun _ => none) l (2 * g + 1) with
        | none => rw [e1, e2] at hp; cases hp
        | some q' =>
          rw [e1, e2] at hp
          cases hp
          exact this b q e1 e2
theorem reok_its {C : Array Nat} {groups least gt : Nat} {its : List It} (I : ItsAt C 5 its gt) (ok : ItsOk (2 * groups) its) (hg : gt < groups) (hgr : groups ≤ 50) (hl : its.length ≤ 50) (hle : least ≤ its.length) : ReOk C groups least (fun T => scan T gt its 0) := by
  have ms : (v0 groups 5).marks.size = 2 * groups := by simp [v0]
  refine ⟨fun T l h => ⟨44 + 300 * its.length, by omega, ?_⟩, fun T h => ⟨44 + 400 * its.length, by omega, ?_⟩, fun T l h => by have := scan_len h; omega, fun T l h => scan_le h⟩
  · have := its_win (C := C) (T := T) (v := v0 groups 5) I (by rw [ms]; exact ok) (by rw [ms]; omega) h (by show 0 + _ ≤ _; omega) (by rw [ms]; omega) (by rw [ms]; show (-1 : Int) + 1 ≤ _; omega)
    rw [v0_eff] at this
    exact this
  · exact its_fail (C := C) (T := T) (v := v0 groups 5) I (by rw [ms]; exact ok) h (by show 0 + _ ≤ _; omega) (by rw [ms]; omega)
theorem reok_sign {C : Array Nat} {groups least gt c g k : Nat} {its : List It} (D : SignAt C 5 c) (I : ItsAt C 16 (.grp g k :: its) gt) (ok : ItsOk (2 * groups) (.grp g k :: its)) (hc : dec c = false) (hg : gt < groups) (h2 : 2 ≤ groups) (hgr : groups ≤ 50) (hl : its.length ≤ 40) (hle : least ≤ its.length + 1) :
    ReOk C groups least (fun T => scanS T c gt (.grp g k :: its) 0) := by
  have ms : (v0 groups 5).marks.size = 2 * groups := by simp [v0]
  refine ⟨fun T l h => ⟨500 + 300 * its.length, by omega, ?_⟩, fun T h => ⟨2000 + 800 * its.length, by omega, ?_⟩, fun T l h => by have := scanS_len h; rw [List.length_cons] at this; omega, fun T l h => scanS_le h⟩
  · have := sign_win (C := C) (T := T) (v := v0 groups 5) D I (by rw [ms]; exact ok) (by rw [ms]; omega) hc h (by show 0 + _ + 200 ≤ _; omega) (by rw [ms]; omega) (by rw [ms]; show (-1 : Int) + 1 ≤ _; omega) (by rw [ms]; omega)
    rw [v0_eff] at this
    exact this
  · exact sign_fail (C := C) (T := T) (v := v0 groups 5) D I (by rw [ms]; exact ok) hc h (by show 0 + _ + 200 ≤ _; omega) (by rw [ms]; omega)
def codeDT : Array Nat := #[14, 4, 0, 11, 26, 17, 0, 24, 9, 1, 4, 13, 4, 8, 10, 0, 1, 17, 1, 16, 45, 17, 2, 24, 9, 1, 2, 13, 4, 8, 10, 0, 1, 17, 3, 16, 45, 17, 4, 24, 9, 1, 2, 13, 4, 8, 10, 0, 1, 17, 5, 13, 6, 16, 84, 16, 32, 0, 17, 6, 24, 9, 1, 2, 13, 4, 8, 10, 0, 1, 17, 7, 16, 58, 17, 8, 24, 9, 1, 2, 13, 4, 8, 10, 0, 1, 17, 9, 16, 58, 17, 10, 24, 9, 1, 2, 13, 4, 8, 10, 0, 1, 17, 11, 23, 19, 0, 1, 16, 46, 17, 12, 24, 9, 1, 6, 13, 4, 8, 10, 0, 1, 17, 13, 18, 1]
def codeTD : Array Nat := #[14, 4, 0, 5, 17, 23, 9, 0, 1, 17, 0, 16, 45, 17, 1, 18, 17, 2, 24, 9, 1, 3, 13, 4, 8, 10, 0, 1, 17, 3, 16, 58, 17, 4, 24, 9, 1, 2, 13, 4, 8, 10, 0, 1, 17, 5, 16, 58, 17, 6, 24, 9, 1, 2, 13, 4, 8, 10, 0, 1, 17, 7, 23, 19, 0, 1, 16, 46, 17, 8, 24, 9, 1, 6, 13, 4, 8, 10, 0, 1, 17, 9, 18, 1]
def codeTM : Array Nat := #[14, 4, 0, 5, 15, 17, 0, 24, 9, 1, 2, 13, 4, 8, 10, 0, 1, 17, 1, 16, 58, 17, 2, 24, 9, 1, 2, 13, 4, 8, 10, 0, 1, 17, 3, 16, 58, 17, 4, 24, 9, 1, 2, 13, 4, 8, 10, 0, 1, 17, 5, 23, 19, 0, 1, 16, 46, 17, 6, 24, 9, 1, 6, 13, 4, 8, 10, 0, 1, 17, 7, 18, 1]
def itsDT : List It := [.grp 0 4, .lit 45, .grp 1 2, .lit 45, .grp 2 2, .sep 84 32, .grp 3 2, .lit 58, .grp 4 2, .lit 58, .grp 5 2]
def itsTD : List It := [.grp 1 3, .lit 58, .grp 2 2, .lit 58, .grp 3 2]
def itsTM : List It := [.grp 0 2, .lit 58, .grp 1 2, .lit 58, .grp 2 2]
theorem dec_45 : dec 45 = false := by decide +kernel
theorem dec_58 : dec 58 = false := by decide +kernel
theorem dec_84 : dec 84 = false := by decide +kernel
theorem dec_32 : dec 32 = false := by decide +kernel
def itB (C : Array Nat) : Nat → List It → Nat → Bool
  | P, [], g => decide (P + 20 + 1 < C.size) && C.getD P 0 == 23 && C.getD (P + 1) 0 == 19 && C.getD (P + 2) 0 == 0 && C.getD (P + 3) 0 == 1 && C.getD (P + 20) 0 == 18 && C.getD (P + 4) 0 == 16 && C.getD (P + 5) 0 == 46 && C.getD (P + 6) 0 == 17 && C.getD (P + 7) 0 == 2 * g && dgB C (P + 8) 6 && C.getD (P + 18) 0 == 17 && C.getD (P + 19) 0 == 2 * g + 1 && C.getD (P + 21) 0 == 1
  | P, .grp g k :: r, gt => C.getD P 0 == 17 && C.getD (P + 1) 0 == 2 * g && dgB C (P + 2) k && C.getD (P + 12) 0 == 17 && C.getD (P + 13) 0 == 2 * g + 1 && itB C (P + 14) r gt
  | P, .lit c :: r, gt => decide (P < C.size) && C.getD P 0 == 16 && C.getD (P + 1) 0 == c && itB C (P + 2) r gt
  | P, .sep a b :: r, gt => decide (P + 7 < C.size) && C.getD P 0 == 13 && C.getD (P + 1) 0 == 6 && C.getD (P + 2) 0 == 16 && C.getD (P + 3) 0 == a && C.getD (P + 4) 0 == 16 && C.getD (P + 5) 0 == b && C.getD (P + 6) 0 == 0 && itB C (P + 7) r gt
where dgB (C : Array Nat) (P k : Nat) : Bool := decide (P + 10 < C.size) && C.getD P 0 == 24 && C.getD (P + 1) 0 == 9 && C.getD (P + 2) 0 == 1 && C.getD (P + 3) 0 == k && C.getD (P + 4) 0 == 13 && C.getD (P + 6) 0 == 8 && C.getD (P + 7) 0 == 10 && C.getD (P + 8) 0 == 0
theorem dgB_at {C : Array Nat} {P k : Nat} (h : itB.dgB C P k = true) : DigAt C P k := by
  simp only [itB.dgB, Bool.and_eq_true, decide_eq_true_eq, beq_iff_eq] at h
  obtain ⟨⟨⟨⟨⟨⟨⟨⟨a, b⟩, c⟩, d⟩, e⟩, f⟩, g⟩, i⟩, j⟩ := h
  exact ⟨a, b, c, d, e, f, g, i, j⟩
theorem itB_at {C : Array Nat} : ∀ {P : Nat} {its : List It} {gt : Nat}, itB C P its gt = true → ItsAt C P its gt
  | P, [], g, h => by
    simp only [itB, Bool.and_eq_true, decide_eq_true_eq, beq_iff_eq] at h
    obtain ⟨⟨⟨⟨⟨⟨⟨⟨⟨⟨⟨⟨⟨a, b⟩, c⟩, d⟩, e⟩, f⟩, g⟩, i⟩, j⟩, k⟩, l⟩, m⟩, n⟩, o⟩ := h
    exact ⟨⟨a, by omega, b, by omega, d, e, f⟩, g, i, j, k, dgB_at l, m, n, o⟩
  | P, .grp g k :: r, gt, h => by
    simp only [itB, Bool.and_eq_true, decide_eq_true_eq, beq_iff_eq] at h
    obtain ⟨⟨⟨⟨⟨a, b⟩, c⟩, d⟩, e⟩, f⟩ := h
    exact ⟨a, b, dgB_at c, d, e, itB_at f⟩
  | P, .lit c :: r, gt, h => by
    simp only [itB, Bool.and_eq_true, decide_eq_true_eq, beq_iff_eq] at h
    obtain ⟨⟨⟨a, b⟩, c⟩, d⟩ := h
    exact ⟨a, b, c, itB_at d⟩
  | P, .sep x y :: r, gt, h => by
    simp only [itB, Bool.and_eq_true, decide_eq_true_eq, beq_iff_eq] at h
    obtain ⟨⟨⟨⟨⟨⟨⟨⟨a, b⟩, c⟩, d⟩, e⟩, f⟩, g⟩, i⟩, j⟩ := h
    exact ⟨⟨a, b, c, d, e, f, g, i⟩, itB_at j⟩
theorem re_DT : ReDoes codeDT 7 (fun T => (scan T 6 itsDT 0).map (spOf 7)) :=
  redoes (least := 11) (by decide +kernel) (reok_its (itB_at (by decide +kernel)) ⟨dec_45, by decide, by decide, dec_45, by decide, by decide, ⟨dec_84, dec_32⟩, by decide, by decide, dec_58, by decide, by decide, dec_58, by decide, by decide, trivial, by decide, by decide, trivial⟩ (by decide) (by decide) (by decide) (by decide))
theorem re_TM : ReDoes codeTM 4 (fun T => (scan T 3 itsTM 0).map (spOf 4)) :=
  redoes (least := 5) (by decide +kernel) (reok_its (itB_at (by decide +kernel)) ⟨dec_58, by decide, by decide, dec_58, by decide, by decide, trivial, by decide, by decide, trivial⟩ (by decide) (by decide) (by decide) (by decide))
theorem sgB : SignAt codeTD 5 45 := ⟨⟨by decide +kernel, by decide, by decide +kernel, by decide +kernel, by decide +kernel, by decide +kernel, by decide +kernel⟩, by decide +kernel, by decide +kernel, by decide +kernel, by decide +kernel, by decide +kernel, by decide +kernel⟩
theorem re_TD : ReDoes codeTD 5 (fun T => (scanS T 45 4 itsTD 0).map (spOf 5)) :=
  redoes (least := 5) (by decide +kernel) (reok_sign sgB (itB_at (by decide +kernel)) ⟨dec_58, by decide, by decide, dec_58, by decide, by decide, trivial, by decide, by decide, trivial⟩ dec_45 (by decide) (by decide) (by decide) (by decide) (by decide))
end
end Mine
end

section
open PySem PySem.W PySem.Calls PyProof.Rows PySem.Builtin.Re
set_option Elab.async false
set_option linter.unusedVariables false
set_option maxRecDepth 100000
namespace Mine
section
variable {W : Wd} {fd : FuncData} {n : Nat} {hd : Nat} {σ : Sg}
theorem truthy_plain {M : Model} {A : Around} {E : Value → Shared → Prop} {s : Shared} {a : Addr} {T : String} {Q : Bool → Shared → Prop} (hT : s.TypeIs (.ref a) T) (h1 : typeLookup (.type T) "__bool__" = pure none) (h2 : typeLookup (.type T) "__len__" = pure none) (h : Q true s) : wpAny M A (truthy (.ref a)) Q E s := by
  unfold truthy callSpecial?
  refine wpAny_bind (wpAny_bind (wpAny_specialOf hT h1 (wpAny_pure ?_)))
  exact wpAny_bind (wpAny_specialOf hT h2 (wpAny_pure h))
theorem mat_bool : typeLookup (.type "re.Match") "__bool__" = pure none := by rw [typeLookup_type, builtinLookup_eq_fast]; kernel_rfl
theorem mat_len : typeLookup (.type "re.Match") "__len__" = pure none := by rw [typeLookup_type, builtinLookup_eq_fast]; kernel_rfl
theorem fun_bool : typeLookup (.type "function") "__bool__" = pure none := by rw [typeLookup_type, builtinLookup_eq_fast]; kernel_rfl
theorem fun_len : typeLookup (.type "function") "__len__" = pure none := by rw [typeLookup_type, builtinLookup_eq_fast]; kernel_rfl
theorem Tru.mat {x : PySem.Str} {sp : Sps} : Tru W n hd (.mat x sp) true := fun A outer X s v S r Q E h => by
  cases r with
  | mat h1 h2 h3 h4 h5 => exact truthy_plain (T := "re.Match") ⟨_, of_hideAll X h1, h2⟩ mat_bool mat_len (h _ _ .refl)
theorem Tru.fnK {K : Frag} (hK : W.K = K) {f : Addr} (e : typeIn K (.ref f) = some (.type "function")) : Tru W n hd (.fn (.ref f)) true := fun A outer X s v S r Q E h => by
  cases r
  unfold truthy callSpecial?
  have X₀ : K.In s.heap := hK ▸ S.gd.X.keeps (fun b o e => of_hideAll X e)
  have t := (looks_typeIn (M := model W.prog W.w) X₀ e)
  refine wpAny_bind (wpAny_bind ?_)
  unfold specialOf
  refine wpAny_bind (t _ _ E s (fun _ _ e => e) ?_)
  rw [fun_bool]
  refine wpAny_pure (wpAny_pure (wpAny_bind (wpAny_bind (t _ _ E s (fun _ _ e => e) ?_))))
  rw [fun_len]
  exact wpAny_pure (wpAny_pure (h _ _ .refl))

theorem Meth.pat {K : Frag} (hK : W.K = K) {p : Addr} {dt : Data} {sl : Array (Option Value)} (ho : K.lookup p = some ⟨.type "re.Pattern", none, dt, sl⟩) : Meth W "fullmatch" (.fn (.ref p)) "re.Pattern" "re.Pattern.fullmatch" :=
  ⟨FRe.plainAttrs_pat, FRe.slot_full, FRe.type_full, fun s X v G r => by
    cases r
    have h := of_hideAll X (G.X _ _ (hK ▸ ho))
    exact ⟨⟨_, h, rfl⟩, fun a e => by cases e; exact ⟨_, h, rfl⟩⟩⟩
def matD (x : PySem.Str) : Option Sps → D
  | some sp => .mat x sp
  | none => .none
theorem Call.full {K : Frag} (hK : W.K = K) {p q : Addr} {oq : Obj} {v0 v1 v3 v4 : Value} {C : Array Nat} {groups : Nat} {tg : Tok} {sl : Array (Option Value)} {items : Array Value} {spec : Array Nat → Option Sps} {x : PySem.Str}
    (ho : K.lookup p = some ⟨.type "re.Pattern", none, .fields #[v0, v1, .int groups tg, v3, v4, .ref q, .int 0 0], sl⟩) (hq : K.lookup q = some oq) (hqd : oq.data = .seq items) (hi : items = intsV C) (R : ReDoes C groups spec) (hz : x.cps.size ≤ 100000) (hg : groups ≤ 1000) :
    Call W n hd (.builtin "re.Pattern.fullmatch") [.fn (.ref p), .str x] (matD x (spec x.cps)) :=
  Call.slot (Meth.pat hK ho) FRe.entry_full (fun vs h => by match vs, h with | [a, b], _ => exact FRe.args_full a b) fun A outer X s vs S r Q E h => by
    cases r with
    | cons r1 r2 =>
    cases r2 with
    | cons r2 r3 =>
    cases r3
    cases r1
    cases r2
    have X₀ : K.In s.heap := hK ▸ S.gd.X.keeps (fun b o e => of_hideAll X e)
    obtain ⟨oc, od, oda, osl⟩ := oq
    dsimp only at hqd
    subst hqd hi
    refine match_go S (X₀ _ _ ho) rfl (X₀ _ _ hq) rfl R hz hg fun v h' tk' y r => h v h' tk' y ?_
    revert r
    cases spec x.cps <;> exact id
theorem Meth.mat {x : PySem.Str} {sp : Sps} : Meth W "groups" (.mat x sp) "re.Match" "re.Match.groups" :=
  ⟨FRe.plainAttrs_mat, FRe.slot_groups, FRe.type_groups, fun s X v G r => by
    cases r with
    | mat h1 h2 h3 h4 h5 =>
      have h := of_hideAll X h1
      exact ⟨⟨_, h, h2⟩, fun a e => by cases e; exact ⟨_, h, h3⟩⟩⟩
theorem Call.groups {x : PySem.Str} {sp : Sps} (hz : sp.length ≤ 1000) (hx : x.cps.size ≤ 100000) : Call W n hd (.builtin "re.Match.groups") [.mat x sp] (.tup (sp.map (slc x))) :=
  Call.slot Meth.mat FRe.entry_groups (fun vs h => by match vs, h with | [a], _ => exact FRe.args_groups a) fun A outer X s vs S r Q E h => by
    cases r with
    | cons r1 r2 =>
    cases r2
    exact groups_go S r1 hz hx h
end
end Mine
end

section
open PySem PySem.W PySem.Calls PyProof.Rows PySem.NumText
set_option Elab.async false
set_option linter.unusedVariables false
set_option maxRecDepth 100000
namespace Mine
def cleanId (id : String) : Bool := !(Builtin.Bytes.decodersThatHold.contains id || ["bytearray.__contains__", "bytearray.__mod__", "bytearray.__rmod__", "_struct.pack_into.held", "bytearray.find.held"].contains id)
theorem clean_id {id : String} {args : Args} (h : cleanId id = true) : cleanC (.builtin id args) = true := h
section
variable {prog : Program} {w : World} {A : Around} {E : Value → Shared → Prop} {s : Shared} {x : PySem.Str} {t : Tok}
theorem codeP.builtin {id : String} {args : Args} {b : Builtin} {R : Result → Shared → Prop} (hcl : cleanId id = true) (hb : entryFor table id = some b)
    (h : wpP (model prog w) (A.under (.builtin id args)) (b args) (fun fin s' => match fin with | .done f => R (.ok f) s' | .again c' => c'.quiet = true ∧ codeP (model prog w) A c' R s') (fun e s' => R (.error e) s') s) : codeP (model prog w) A (.builtin id args) R s := by
  refine codeP.tree (clean_id hcl) ?_
  show wpP _ _ (match entryFor table id with | some b => b args | none => unsupported ((withoutEnding? id "#data").getD id)) _ _ s
  rw [hb]; exact h
theorem codeP.call_builtin {id : String} {args : Args} {b : Builtin} {R : Result → Shared → Prop} (hq : (Code.builtin id args).quiet = true) (hcl : cleanId id = true) (hb : entryFor table id = some b) (hcn : checkBuiltinCall id args = pure ())
    (h : wpP (model prog w) (A.under (.builtin id args)) (b args) (fun fin s' => match fin with | .done f => R (.ok f) s' | .again c' => c'.quiet = true ∧ codeP (model prog w) A c' R s') (fun e s' => R (.error e) s') s) : codeP (model prog w) A (.call (.builtin id) args) R s := by
  refine codeP.tree rfl (wpP.any ?_)
  show wpAny _ A.in1 (do checkBuiltinCall id args; again (.builtin id args)) _ _ s
  rw [hcn]
  exact wpAny_bind (wpAny_pure (wpAny_pure ⟨hq, codeP.builtin hcl hb h⟩))
theorem typeCall_int {v : Value} {Q : PySem.Fin → Shared → Prop} (h : wpP (model prog w) A (call (.builtin "int.__new__") [.type "int", v]) (fun _ _ => False) E s) : wpP (model prog w) A (Builtin.«type.__call__» ⟨[.type "int", v], []⟩) Q E s := by
  obtain ⟨c, tl, hmro⟩ := F.called_int.mro
  have hmade := F.called_int.made
  unfold Builtin.«type.__call__»
  have h1 := F.called_int.notType
  have h2 := F.called_int.canCreate
  have h3 := F.typeCall_int_1 v
  dsimp only
  rw [h1, h3]
  simp only [Bool.false_eq_true, if_false]
  rw [h2]
  simp only [Bool.false_eq_true, if_false]
  refine wpP.first (wpAny_pure ?_)
  rw [hmro]
  refine wpP.first (wpAny_pure ?_)
  simp only [List.isEmpty_cons, Bool.false_eq_true, if_false]
  rw [hmade]
  refine wpP.first (wpAny_pure (wpP.first (wpAny_pure ?_)))
  exact wpP.bind (wpP.holding (wpP.mono h (fun _ _ x => x.elim) fun _ _ x => x))
theorem int_new {v : Value} (h : wpP (model prog w) A.in1 (Builtin.«int.__new__» ⟨[.type "int", v], []⟩) (fun _ _ => False) E s) : wpP (model prog w) A (call (.builtin "int.__new__") [.type "int", v]) (fun _ _ => False) E s := by
  refine wpP.call (codeP.call_builtin (Code.quiet_builtin _ (by decide +kernel)) (by decide +kernel) F.entry_int_new (F.newCall_int_1 v) ?_)
  rw [Around.under_plainId (by decide +kernel)]
  exact wpP.mono h (fun _ _ x => x.elim) fun _ _ x => x
theorem int_call {v : Value} (h : wpP (model prog w) A.in1.in1 (Builtin.«int.__new__» ⟨[.type "int", v], []⟩) (fun _ _ => False) E s) : wpP (model prog w) A (call (.type "int") [v]) (fun _ _ => False) E s := by
  refine wpP.call (codeP.tree rfl ?_)
  show wpP _ _ (callAny (.type "int") _) _ _ _
  refine wpP.pure ⟨Code.quiet_builtin _ (by decide +kernel), codeP.builtin (by decide +kernel) F.entry_type_call ?_⟩
  rw [Around.under_plain (weight_type_call_type "int" [v] []) (units_type_call_type "int" [v] [])]
  exact typeCall_int (int_new h)
theorem new_eq1 : Builtin.«int.__new__» ⟨[.type "int", .str x t], []⟩ = ((int_private% "intFromText") (.str x t) (numTextOf x) 10 >>= fun v => ret v) := by kernel_rfl
theorem read_bad (hl : x.length ≤ 640) (hn : PySem.intText? x = none) : (numSeenOf x).length ≤ 640 ∧ ((int_private% "readNumeral") 0 10 (numSeenOf x) = (int_private% "Numeral.invalid") ∨ ∃ m, (int_private% "readNumeral") 0 10 (numSeenOf x) = (int_private% "Numeral.value") m ∧ ((numSeenOf x).length == (numTextOf x).length) = false) := by
  have hs : (numSeenOf x).length ≤ 640 := Nat.le_trans (seen_length x) hl
  refine ⟨hs, ?_⟩
  rcases read0 x hs with ⟨m, h1, h2, h3⟩ | h
  · rw [hn] at h1; cases h1
  · exact h.2.imp id fun ⟨i, a, b⟩ => ⟨i, a, by simpa using b⟩
end
end Mine
end

section
open PySem PySem.W PySem.Calls PyProof.Rows PySem.NumText
set_option Elab.async false
set_option linter.unusedVariables false
set_option maxRecDepth 100000
namespace Mine
section
variable {prog : Program} {w : World} {A : Around} {E : Value → Shared → Prop} {s : Shared} {x : PySem.Str} {t : Tok}
theorem no_mark {own : List String} {l : List Code} (h : Okc l) : pythonCodeMadeTheCall own l = false := by
  unfold pythonCodeMadeTheCall
  change (!(l.any Code.isCaller) && _ && _) = false
  rw [h.caller]; rfl
theorem markP_go {own : List String} {e : Value} {Q : Unit → Shared → Prop} (h : Q () s) : wpP (model prog w) A (markTheRefusal own e) Q E s := by
  unfold markTheRefusal
  refine wpP.bind (wpP.stack fun st hst => ?_)
  rw [no_mark hst, if_neg Bool.false_ne_true]
  exact wpP.pure h
theorem unchain_entry : entryFor table "proto.unchain" = some Builtin.«proto.unchain» := entryFor_of_tree (by kernel_rfl)
theorem raise_chain {α : Type} {e eh : Addr} {oe oh : Obj} {vs hs : Array Value} {Q : α → Shared → Prop} (hh : A.handled = some (.ref eh)) (hne : eh ≠ e) (ho : s.heap.get? eh = some oh) (hd : oh.data = .fields hs) (h2 : hs[2]? = some .none)
    (he : s.heap.get? e = some oe) (hde : oe.data = .fields vs) (hsz : 2 < vs.size)
    (h : ∀ tk', E (.ref e) { s with heap := s.heap.update e (Obj.mapFields (·.setIfInBounds 2 (.ref eh))), toks := tk' }) : wpP (model prog w) A (raiseNew (.ref e) : Sem α) Q E s := by
  unfold raiseNew
  refine wpP.first (wpAny_handled ?_)
  rw [hh]
  dsimp only
  rw [if_pos (show (Value.ref eh != Value.ref e) = true by simpa using hne)]
  refine wpP.bind (wpP.holding (wpP.any (wpAny_runValue (codeAny_builtin unchain_entry ?_))))
  show wpAny _ _ (field (.ref eh) 2 >>= _) _ _ s
  refine wpAny_bind (wpAny_field ho hd h2 ?_)
  rw [if_pos (by rfl)]
  refine wpAny_pure (show wpP _ _ _ _ _ _ from ?_)
  refine wpP.first ?_
  unfold updateField
  refine wpAny_bind (wpAny_load he ?_)
  rw [hde]
  dsimp only
  rw [if_pos hsz]
  exact wpAny_update he (wpP.throw (h _))
theorem intText_bad {v : Value} (hl : x.length ≤ 640) (ha : ∀ c ∈ x.cps.toList, c < 128) (hn : PySem.intText? x = none) 
    (h : ∀ h₁ e msg, Heap.MadeExc s.heap h₁ e "ValueError" [msg] → ∀ tk', wpP (model prog w) A (raiseNew (.ref e) : Sem Value) (fun _ _ => False) E { s with heap := h₁, toks := tk' }) :
    wpP (model prog w) A ((int_private% "intFromText") (.str x t) (numTextOf x) 10) (fun _ _ => False) E s := by
  obtain ⟨hs, hr⟩ := read_bad hl hn
  unfold numSeenOf at hs hr
  have hrl : (reprText x).length ≤ 6402 := Nat.le_trans (StrLaws.reprText_len x fun c hc => Nat.lt_trans (ha c hc) (by decide)) (by omega)
  have fin : ∀ s' : Shared, s'.heap = s.heap → s'.gens = s.gens → s'.drawn = s.drawn → s'.os = s.os → wpP (model prog w) A (pyRepr (.str x t) >>= fun shown => mkStr (Str.ofString (toString "invalid literal for int() with base " ++ toString (10 : Nat) ++ toString ": ") ++ { cps := shown.cps.extract 0 200 }) >>= fun l =>
      newExc (.type "ValueError") [l] >>= fun refusal => markTheRefusal ["int.__new__"] refusal >>= fun _ => (raiseNew refusal : Sem Value)) (fun _ _ => False) E s' := fun s' e1 e2 e3 e4 => by
    refine wpP.first (wpAny_pyRepr_str ?_ (by rw [sizeLine_eq]; omega))
    refine wpP.first (wpAny_mkStr ?_ ?_)
    · refine wpP.first (wpAny_newExc_plain plainExc_ValueError fun h₁ e M => ?_)
      refine wpP.bind (markP_go ?_)
      have := h h₁ e _ (e1 ▸ M) (s'.toks + 1 + 1)
      rw [← e2, ← e3, ← e4] at this
      exact this
    · rw [sizeLine_eq, PySem.Str.length_append]
      have e5 : (Str.ofString (toString "invalid literal for int() with base " ++ toString (10 : Nat) ++ toString ": ")).length = 40 := by decide +kernel
      rw [e5]
      simp only [PySem.Str.length, Array.size_extract]
      omega
  conv => arg 3; whnf
  generalize hd : (Nat.decLe (List.takeWhile (fun x => x != 0) (numTextOf x)).length 640) = d
  cases d with
  | isFalse q => exact absurd hs q
  | isTrue q =>
    dsimp only
    refine wpP.first (wpAny_pure ?_)
    rcases hr with hr | ⟨m, hr, hm⟩
    · rw [hr]
      dsimp only
      refine wpP.first (wpAny_pure ?_)
      rw [if_neg (by simp)]
      refine wpP.first (wpAny_rule (wpP.first (wpAny_pure ?_)))
      exact fin s rfl rfl rfl rfl
    · rw [hr]
      dsimp only
      rw [hm, if_neg Bool.false_ne_true]
      refine wpP.first (wpAny_rule (wpP.first (wpAny_pure ?_)))
      exact fin s rfl rfl rfl rfl
end
end Mine
end

section
open PySem PySem.W PySem.Calls PyProof.Rows PySem.NumText
set_option Elab.async false
set_option linter.unusedVariables false
set_option maxRecDepth 100000
namespace Mine
section
variable {W : Wd} {fd : FuncData} {n : Nat} {hd : Nat} {σ : Sg}
theorem CallXC.int_bad {x : PySem.Str} (hl : x.length ≤ 640) (ha : ∀ c ∈ x.cps.toList, c < 128) (hn : PySem.intText? x = none) (hh : hd ≤ 1) : CallXC W n hd (.type "int") [.str x] none := fun A outer X s vs S r Q E hq hr => by
  cases r with
  | cons r1 r2 =>
  cases r2
  cases r1 with
  | str _ t =>
  refine wpP.mono (int_call (E := E) ?_) (fun _ _ x => x.elim) fun _ _ x => x
  rw [new_eq1]
  refine wpP.bind (wpP.mono (intText_bad (v := .none) hl ha hn fun h₁ e msg M tk' => ?_) (fun _ _ x => x.elim) fun _ _ x => x)
  obtain ⟨tt, he, ht, _⟩ := M.there
  have st : Stp (fr outer) s.heap h₁ := .of_keeps M.keeps
  rcases S.hand with h0 | ⟨h1, eh, oh, hs, e1, e2, e3, e4⟩ | h2
  · exact wpP.any (wpAny_raiseNew_none (A := A.in1.in1) h0 (hr e h₁ tk' .none none rfl st ⟨M.new, _, _, _, he, rfl, rfl, rfl, rfl, .inl ⟨rfl, rfl⟩⟩ (.inl rfl) (fun _ => rfl)))
  · have e2' := of_hideAll X e2
    have hne : eh ≠ e := fun q => by rw [q, M.new] at e2'; cases e2'
    refine raise_chain (A := A.in1.in1) e1 hne (M.keeps _ _ e2') e3 e4 he rfl (by simp) fun tk'' => ?_
    have hd₃ := Obj.data_mapFields (o := { cls := .type "ValueError", data := .fields #[.ref tt, .none, .none, .none, .bool false, .none] }) rfl (·.setIfInBounds 2 (Value.ref eh))
    refine hr e _ tk'' (.ref eh) none rfl ⟨fun b o q m => ?_, fun b o q m => ?_⟩ ⟨M.new, _, _, _, Heap.get?_update_self _ he (Obj.isFreed_of_fields hd₃), Obj.cls_mapFields _ _, hd₃, rfl, rfl, .inl ⟨rfl, rfl⟩⟩ (.inl rfl) (fun q => ?_)
    · have hb : e ≠ b := fun z => by rw [← z, M.new] at q; cases q
      rw [Heap.get?_update_other _ _ hb]
      exact M.keeps _ _ q
    · have hb : e ≠ b := fun z => by rw [← z, M.new] at q; cases q
      refine ⟨o.slots, ?_⟩
      rw [Heap.get?_update_other _ _ hb]
      exact M.keeps _ _ q
    · rw [show A.handled = A.in1.in1.handled from rfl, show A.in1.in1.handled = some (.ref eh) from e1] at q
      cases q
  · omega
theorem CallX.int_good {x : PySem.Str} {i : Int} (hl : x.length ≤ 640) (hn : PySem.intText? x = some i) : CallX W n hd (.type "int") [.str x] (some (.int i)) := fun A outer X s vs S r Q E hq hr => by
  cases r with
  | cons r1 r2 =>
  cases r2
  cases r1 with
  | str _ t => exact KIN.call_text hn hl (hq _ _ _ _ rfl .refl (.int _ _))
theorem Call.int_good {x : PySem.Str} {i : Int} (hl : x.length ≤ 640) (hn : PySem.intText? x = some i) : Call W n hd (.type "int") [.str x] (.int i) := fun A outer X s vs S r Q E hq => by
  cases r with
  | cons r1 r2 =>
  cases r2
  cases r1 with
  | str _ t => exact KIN.call_text hn hl (hq _ _ _ .refl (.int _ _))
theorem Call.int_int {i : Int} : Call W n hd (.type "int") [.int i] (.int i) := fun A outer X s vs S r Q E hq => by
  cases r with
  | cons r1 r2 =>
  cases r2
  cases r1 with
  | int _ t => exact call_int_int (hq _ _ _ .refl (.int _ _))
theorem CallXC.int {x : PySem.Str} (hl : x.length ≤ 640) (ha : ∀ c ∈ x.cps.toList, c < 128) (hh : hd ≤ 1) : CallXC W n hd (.type "int") [.str x] ((PySem.intText? x).map D.int) := by
  cases hn : PySem.intText? x with
  | none => exact CallXC.int_bad hl ha hn hh
  | some i => exact (CallX.int_good hl hn).c
end
end Mine
end

section
open PySem PySem.W PySem.Calls PyProof.Rows
set_option Elab.async false
set_option linter.unusedVariables false
namespace Mine

theorem okc_caller : Okc ((⟨.builtin "claim.caller" {}, none, none, [], none⟩ : Ctx).code :: (⟨.builtin "claim.caller" {}, none, none, [], none⟩ : Ctx).below.map (·.1)) := ⟨by decide +kernel, by decide +kernel⟩

theorem wp_of_wpP_done {M : Model} {t : Sem Fin} {R : Result → Shared → Prop} {s : Shared}
    (h : wpP M callerA t (fun fin s' => ∃ f, fin = .done f ∧ R (.ok f) s') (fun e s' => R (.error e) s') s) (p : Pos) :
    Sem.wp M (⟨.builtin "claim.caller" {}, none, none, [], none⟩ : Ctx) t (Sem.finPost M (⟨.builtin "claim.caller" {}, none, none, [], none⟩ : Ctx) R) (fun e _ s' => R (.error e) s') p s := by
  refine Sem.wp_mono M _ t (fun fin p' s' h' => ?_) (fun _ _ _ h' => h') p s (h _ p caller_in okc_caller)
  obtain ⟨f, rfl, hf⟩ := h'
  exact hf

theorem thread_ends_bothP {prog : Program} {w : World} {t : Sem Fin} {s : Shared} {R : Result → Shared → Prop} (hreg : s.asleep)
    (h : wpP (model prog w) callerA t (fun fin s' => ∃ f, fin = .done f ∧ (R (.ok f) s' ∧ leftWithCleanup s'.gens = false)) (fun e s' => R (.error e) s' ∧ leftWithCleanup s'.gens = false) s) :
    ∃ n r s' s'', runN (denote table) prog w n s ⟨t, .builtin "claim.caller" {}, default, []⟩ = .halted (outcomeOf r) s' ∧
      schedN (denote table) prog w n (.single s ⟨t, .builtin "claim.caller" {}, default, []⟩) = .halted (outcomeOf r) s' ∧ s'.forget = s''.forget ∧ R r s'' := by
  obtain ⟨n, r, s₁, s₂, hs, hn, hfo, hR⟩ := wp_halts_full (M := model prog w) (R := R) hreg (wp_of_wpP_done (R := fun r s' => R r s' ∧ leftWithCleanup s'.gens = false) h default)
  exact ⟨n, r, s₂, s₁, hn, hs, hfo, hR⟩

theorem callFrom_of_specP {c : ClaimW} {tree : List Value → Sem Fin} {w : World} {s : Shared} {free : Addr → Prop} {gens : Prop} {kept : Heap → Prop} (hz : s.asleep) (hgens : s.gens = #[])
    (hspec : ∀ args, c.pre args = true → WData.layableAll args = true →
      ∀ ord : List DictEntry → List DictEntry, (∀ l, (ord l).Perm l) →
      ∃ vs s₁, layAllW c.records (classAt s.heap) w.params ord args s = some (vs, s₁) ∧
        wpP (model c.prog w) callerA (tree vs) (fun fin s' => ∃ f, fin = .done f ∧ (c.Ends s args vs s₁ (.ok f) s' ∧ s'.os = s.os ∧ AllBare s'.gens ∧ kept s'.heap))
          (fun e s' => c.Ends s args vs s₁ (.error e) s' ∧ s'.os = s.os ∧ AllBare s'.gens ∧ kept s'.heap) s₁) :
    c.CallFrom (fun vs => ⟨tree vs, .builtin "claim.caller" {}, default, []⟩) w free gens kept s := by
  intro args hpre hlay ord hord
  obtain ⟨vs, s₁, hlaid, hcode⟩ := hspec args hpre hlay ord hord
  have hal := layAllW_rest _ _ _ hlaid
  obtain ⟨k, r, s', s'', hrun, hsched, hfo, hcase, hos, hkp⟩ := thread_ends_bothP (prog := c.prog) (w := w) (t := tree vs) (s := s₁)
    (R := fun r s' => c.Ends s args vs s₁ r s' ∧ s'.os = s.os ∧ kept s'.heap)
    (Shared.asleep_of_life hal.2.2.2 hz)
    (wpP.mono hcode (by
      rintro fin s' ⟨f, e, h1, h2, h3, h4⟩
      exact ⟨f, e, ⟨h1, h2, h4⟩, leftWithCleanup_false_of_bare h3⟩) (by
      rintro e s' ⟨h1, h2, h3, h4⟩
      exact ⟨⟨h1, h2, h4⟩, leftWithCleanup_false_of_bare h3⟩))
  obtain ⟨eh, _, _, eo, _⟩ := Shared.forget_eq hfo
  have hcase := hcase.congr eh
  have hkp : kept s'.heap := by first | exact eh ▸ hkp | (rw [eh] at hkp; exact hkp) | (rw [← eh] at hkp; exact hkp)
  rw [← eo] at hos
  have hlife : s'.heap.life = s.heap.life := (runN_life _ _ _ hrun).trans hal.2.2.2
  refine ⟨vs, s₁, hlaid, k, _, s', hsched, ?_, (fun _ i x hx => by rw [hgens] at hx; simp at hx), hkp, by rw [hlife], Shared.rest_eq hos⟩
  rcases hcase with ⟨v, rfl, d1, d2, d3, d4, d5⟩ | ⟨e, ob, cls, rfl, d1, d2, d3, d4, d5⟩
  · exact .inl ⟨v, rfl, d1, d2, d3, fun b o y _ => d4 b o y, d5⟩
  · exact .inr ⟨e, ob, cls, rfl, d1, d2, d3, d4, fun b o y _ => d5 b o y⟩

theorem open_anyP {r : RowW} {run : Value → List Value → Sem Value} {tree : List Value → Sem Fin} {q : Program} {loose defs kps : List Str} {writes : Bool} {Xt : Shared → Bool} {XP : (Str → Option Value) → Heap → Prop} {α : Type} {Yf : Shared → α} {Ya : World → α} {YP : World → Heap → Prop} {N : Nat}
    (left : LeftO r.prog q loose Xt Yf Ya N) (hY : ∀ w s, Yf s = Ya w → YP w s.heap) (hYk : ∀ w h h', YP w h → (∀ b o, h.get? b = some o → h'.get? b = some o) → YP w h') (hX : ∀ s, Xt s = true → XP (s.heap.nsMap mainGlobals) s.heap) (hXk : ∀ mg h h', XP mg h → (∀ b o, h.get? b = some o → h'.get? b = some o) → XP mg h')
    (hRf : ∀ s, Xt s = true → RecFacts r.records s.heap) (hwr : (!writes || r.records.isEmpty) = true) (ok : (chainsOk q && opensWell r.prog && (frees r && r.within.isEmpty)) = true) (hb : r.prog.bare) (hw : r.promised)
    (ht : ∀ vs (w : World) (s : Shared) mg f (Q : Fin → Shared → Prop) (E : Value → Shared → Prop), s.heap.Ns mainGlobals mg → mg r.name = some f → wpP (model r.prog w) callerA (run f vs) (fun v s' => Q (.done (.ret v)) s') E s → wpP (model r.prog w) callerA (tree vs) Q E s)
    (pin : ∀ w s, s.heap.isNs mainGlobals = true → Ground q loose [] XP w s (s.heap.nsMap mainGlobals) (s.heap.nsMap builtinsNs) s.heap → ∀ n ∈ defs, isTheDefsW r.prog s.heap n)
    (call : ∀ (w : World) (s₀ s₁ : Shared) (mg mb : Str → Option Value), Ground q loose r.records XP w s₀ mg mb s₁.heap → YP w s₁.heap → ∀ (args : List WData) (vs : List Value) (as : List Addr),
      r.claim.pre args = true → WData.layableAll args = true → Laid r.records w s₀ s₁ args vs as → sysModules < s₀.heap.objs.size → ∃ f, mg r.name = some f ∧
        wpP (model r.prog w) callerA (run f vs) (fun v s' => GoodWG r.claim (classAt s₀.heap) (ExcName.means s₀.heap) args s₁ (.ok (.ret v)) s')
          (fun e s' => GoodWG r.claim (classAt s₀.heap) (ExcName.means s₀.heap) args s₁ (.error e) s') s₁) : r.claim.HoldsOpenBy (fun vs => ⟨tree vs, .builtin "claim.caller" {}, default, []⟩) defs kps writes := by
  obtain ⟨ok, k5⟩ := Bool.and_eq_true_iff.mp ok
  obtain ⟨hch, o1⟩ := Bool.and_eq_true_iff.mp ok
  obtain ⟨k5, k6⟩ := Bool.and_eq_true_iff.mp k5
  obtain ⟨hsame, hu, ha, hap, hm⟩ := frees_parts k5
  refine ⟨⟨hb, o1, by show r.makers.map _ = []; rw [hm]; rfl⟩, hw.witness, fun w => ⟨(left.behind hX hch w).1, fun s' hs' => ?_⟩⟩
  obtain ⟨s₀, hf, hg0, s, hT, hz, hgens, hg, G00, y⟩ := (left.behind (XP := fun mg h => XP mg h ∧ RecFacts r.records h) (fun s hs => ⟨hX s hs, hRf s hs⟩) hch w).2 s' hs'
  have G0 : Ground q loose [] XP w s (s.heap.nsMap mainGlobals) (s.heap.nsMap builtinsNs) s.heap := ⟨G00.T, G00.B, G00.D, G00.TE, G00.TD, G00.W, G00.X.1, G00.cls, G00.has, G00.apart, G00.once, G00.K⟩
  have RF := G00.X.2
  have hT' := hT
  refine ⟨s₀, hf, hg0, s, hT, pin w s hg G0, RF.1, RF.2.1, ?_⟩
  have hgens : s.gens = #[] := Array.eq_empty_of_size_eq_zero (beq_iff_eq.mp hgens)
  have G : Ground q loose r.records XP w s _ _ s.heap := RF.ground G0
  refine callFrom_of_specP (c := r.claim) hz hgens fun args hpre hlay ord hord => ?_
  obtain ⟨⟨vs, s₁⟩, hlaid⟩ := Option.isSome_iff_exists.mp (layAllW_isSome (P := w.params) (ord := ord) G.has args r.args s (pre_splitW hpre).1)
  have keeps := layAllW_keeps _ _ _ hlaid
  have hal := layAllW_rest _ _ _ hlaid
  obtain ⟨as, hrd, hin, hold⟩ := reads_layAllW hord _ _ _ hlaid hlay s₁.heap (fun _ _ e => e)
  have L : Laid r.records w s s₁ args vs as := ⟨⟨ord, hord, hlaid⟩, hrd, hin, hold, keeps, hal.1.trans hgens, hal.2.2.1⟩
  have G₁ := G.keeps hXk keeps
  obtain ⟨f, hf, h⟩ := call w s s₁ _ _ G₁ (hYk _ _ _ (hY w s y) keeps) args vs as hpre hlay L G.low
  have hi := ident_freeW hu ha hap
  have hwi : r.claim.within = [] := List.isEmpty_iff.mp k6
  exact ⟨vs, s₁, hlaid, ht vs w s₁ _ f _ _ G₁.T.g hf (wpP.mono h (fun v s' g => ⟨_, rfl, have z := g.laid (c := r.claim) hsame hwi hi L; ⟨z.1, z.2.1, z.2.2, fun q => ⟨namesKept_of hT' hg kps keeps g.2.1.old, noTable hwr q⟩⟩⟩) fun e s' g => have z := g.laid (c := r.claim) hsame hwi hi L; ⟨z.1, z.2.1, z.2.2, fun q => ⟨namesKept_of hT' hg kps keeps g.2.1.old, noTable hwr q⟩⟩)⟩

abbrev WalkP (q : Program) (loose : List Str) (XP : (Str → Option Value) → Heap → Prop) (YP : World → Heap → Prop) (r : RowW) (d : DefRec) (kwd : List (Str × Expr)) (run : Value → List Value → Sem Value) : Prop :=
  ∀ (w : World) (s₀ s₁ : Shared) (mg mb : Str → Option Value), Ground q loose r.records XP w s₀ mg mb s₁.heap → YP w s₁.heap → ∀ (a : Addr) (o : Obj) (pm cd doc dV kV : Value), s₁.heap.get? a = some o →
    o.data = .func { docDef d.name d.params d.body d.scope pm cd doc with defaults := dV, kwdefaults := kV } → s₁.heap.CodeRec cd d.name → Dflts mg s₁.heap d.params kwd dV kV → mg d.name = some (.ref a) → s₁.gens = #[] →
    ∀ (args : List WData) (vals : List Value) (as : List Addr), r.claim.pre args = true → WData.layableAll args = true → ReadsAllW r.records (classAt s₀.heap) s₁.heap vals args as → WellAll w.params s₁.heap vals args → (∀ a ∈ as, (a == sysModules) = false) →
      wpP (model r.prog w) callerA (run (.ref a) vals) (fun v s' => GoodWG r.claim (classAt s₀.heap) (ExcName.means s₀.heap) args s₁ (.ok (.ret v)) s')
        (fun e s' => GoodWG r.claim (classAt s₀.heap) (ExcName.means s₀.heap) args s₁ (.error e) s') s₁

theorem PySem.W.holds_open {r : OpenRow} {q : Program} {loose : List Str} {Xt : Shared → Bool} {XP : (Str → Option Value) → Heap → Prop} {α : Type} {Yf : Shared → α} {Ya : World → α} {YP : World → Heap → Prop} {d : DefRec} {kwd : List (Str × Expr)} {N : Nat}
    (left : LeftO r.prog q loose Xt Yf Ya N) (hY : ∀ w s, Yf s = Ya w → YP w s.heap) (hYk : ∀ w h h', YP w h → (∀ b o, h.get? b = some o → h'.get? b = some o) → YP w h')
    (hX : ∀ s, Xt s = true → XP (s.heap.nsMap mainGlobals) s.heap) (hXk : ∀ mg h h', XP mg h → (∀ b o, h.get? b = some o → h'.get? b = some o) → XP mg h')
    (hdef : defOf q r.name = some (d, kwd)) (hp : r.prog.theDef r.name = some (d.params, d.body, d.scope)) (hk : kwWritten? d.params.kwonlyargs d.params.kw_defaults = some kwd) (hRf : ∀ s, Xt s = true → RecFacts r.records s.heap) (hwr : (!r.writes || r.records.isEmpty) = true)
    (k1 : r.wellSaid = true) (ok : (chainsOk q && opensWell r.prog && (frees r.toRowW && r.within.isEmpty)) = true) (hb : r.prog.bare) (hw : r.toRowW.promised)
    (call : WalkP q loose XP YP r.toRowW d kwd fun f vs => PySem.call f vs) : r.Holds := by
  refine ⟨k1, hw, open_anyP (r := r.toRowW) (run := fun f vs => PySem.call f vs) (tree := fun vs => do match ← nsGet mainNs r.name with
      | some f => do ret (← PySem.call f vs)
      | none => unsupported "claim.caller:no-such-global") left hY hYk hX hXk hRf hwr ok hb hw
    (fun vs w s mg f Q E hg hf h => wpP.first (wpAny_nsGet hg (by rw [hf]; exact wpP.bind (wpP.mono h (fun _ _ x => wpP.pure x) fun _ _ x => x))))
    (fun w s hg G n hn => ?_) fun w s₀ s₁ mg mb G Y args vs as hpre hlay L low => ?_⟩
  · obtain rfl : n = r.name := by split at hn <;> simp_all
    exact pinned_of_view hg G hdef hp hk
  · obtain ⟨a, o, pm, cd, doc, dV, kV, h1, h2, h3, h4, h5⟩ := G.fn hdef
    exact ⟨.ref a, h1, call w s₀ s₁ mg mb G Y a o pm cd doc dV kV h2 h3 h4 h5 (defOf_name hdef ▸ h1) L.gens args vs as hpre hlay L.reads L.well (L.low low)⟩
end Mine
end

section
open PySem PySem.W PyProof.Rows
set_option Elab.async false
namespace Mine
set_option maxRecDepth 100000
set_option maxHeartbeats 8000000
open_top hd for PySem.Challenge.rw_fe0239_01
end Mine
end

section
open PySem PySem.W PySem.Calls PyProof.Rows
set_option Elab.async false
set_option linter.unusedVariables false
set_option maxRecDepth 100000
set_option maxHeartbeats 4000000
namespace Mine
local macro_rules | `(tactic| tm_at "len") => `(tactic| (simp only [PySem.Str.length_append, lit_0, lit_4, lit_3, lit_6, lit_d, lit_c, lit_s, lit_T, lit_p, lit_q, lit_e] at *; omega))
local macro_rules | `(tactic| tm_at "sd") => `(tactic| ((show (_ : Prop)); first | assumption | decide | omega | tm_at "len"))
local macro_rules | `(tactic| tm_at "call") => `(tactic| fail "no contract")
local macro_rules | `(tactic| tm_at "call") => `(tactic| (with_reducible refine' Call.strI ?_))
local macro_rules | `(tactic| tm_at "tr") => `(tactic| ((with_reducible show Tr _ _ _ _ _ _ _); first
  | exact Tr.andNil
  | exact Tr.orNil
  | ((with_reducible show Tr _ _ _ _ _ (PySem.Expr.BoolOp BoolOp.And _ _) _); refine' Tr.and ?_ ?_)
  | ((with_reducible show Tr _ _ _ _ _ (PySem.Expr.BoolOp BoolOp.Or _ _) _); refine' Tr.or ?_ ?_)
  | ((with_reducible show Tr _ _ _ _ _ (PySem.Expr.UnaryOp UnaryOp.Not _ _) _); refine' Tr.not ?_)
  | ((with_reducible show Tr _ _ _ _ _ (PySem.Expr.Compare _ [_] [_] _) _); refine' Tr.cmp ?_ ?_ ?_ ?_)
  | ((with_reducible show Tr _ _ _ _ _ (PySem.Expr.Compare _ [_, _] [_, _] _) _); refine' Tr.cmp2 ?_ ?_ ?_ ?_ ?_)
  | ((with_reducible show Tr _ _ _ _ _ (PySem.Expr.IfExp _ _ _ _) _); refine' Tr.ifexp ?_ ?_ ?_)
  | refine' Tr.plain ?_ ?_))
local macro_rules | `(tactic| tm_at "ev") => `(tactic| ((with_reducible show Ev _ _ _ _ _ _ _); first
  | ((with_reducible show Ev _ _ _ _ _ (PySem.Expr.Constant _ _ _) _); first | exact Ev.int | exact Ev.strc | exact Ev.boolc | exact Ev.nonec)
  | ((with_reducible show Ev _ _ _ _ _ (PySem.Expr.Name _ _) _); first | exact Ev.loc (by assumption) rfl | exact Ev.glob (by assumption) (glb_fnK (by assumption) (by k_is)) | exact Ev.bti (by assumption) (bti_fnK (by assumption) (by k_is) (by boot_fast)))
  | ((with_reducible show Ev _ _ _ _ _ (PySem.Expr.BinOp _ _ _ _) _); refine' Ev.bin ?_ ?_ ?_)
  | ((with_reducible show Ev _ _ _ _ _ (PySem.Expr.IfExp _ _ _ _) _); refine' Ev.ifexp ?_ ?_ ?_ ?_)
  | ((with_reducible show Ev _ _ _ _ _ (PySem.Expr.Subscript _ (PySem.Expr.Slice _ _ _ _) _) _); refine' Ev.slc ?_ ?_ ?_ ?_)
  | ((with_reducible show Ev _ _ _ _ _ (PySem.Expr.Subscript _ _ _) _); refine' Ev.sub ?_ ?_ ?_)
  | ((with_reducible show Ev _ _ _ _ _ (PySem.Expr.Call _ _ _ _) _); refine' Ev.call ?_ ?_ ?_ ?_)
  | ((with_reducible show Ev _ _ _ _ _ (PySem.Expr.Compare _ [_] [_] _) _); refine' Ev.cmp ?_ ?_ ?_)
  | ((with_reducible show Ev _ _ _ _ _ (PySem.Expr.Compare _ [_, _] [_, _] _) _); refine' Ev.cmp2 ?_ ?_ ?_ ?_ ?_)
  | ((with_reducible show Ev _ _ _ _ _ (PySem.Expr.BoolOp _ [_] _) _); refine' Ev.one ?_)
  | ((with_reducible show Ev _ _ _ _ _ (PySem.Expr.BoolOp _ _ _) _); refine' Ev.and ?_ ?_)
  | ((with_reducible show Ev _ _ _ _ _ (PySem.Expr.UnaryOp _ _ _) _); refine' Ev.un ?_ ?_)
  | ((with_reducible show Ev _ _ _ _ _ (PySem.Expr.Tuple _ _ _) _); refine' Ev.tup ?_ ?_)
  | ((with_reducible show Ev _ _ _ _ _ (PySem.Expr.List _ _) _); refine' Ev.lst ?_ ?_)))
local macro_rules | `(tactic| tm_at "op") => `(tactic| first
  | ((with_reducible show Bin _ _ _ _ _ _ _); with_reducible first | exact Bin.addI | exact Bin.subI | refine' Bin.divI | refine' Bin.modI | refine' Bin.mulI ?_ | refine' Bin.addS ?_)
  | ((with_reducible show Cmp _ _ _ _ _ _ _); with_reducible first | exact Cmp.eqI | exact Cmp.neI | exact Cmp.ltI | exact Cmp.leI | exact Cmp.gtI | exact Cmp.geI | exact Cmp.eqS | exact Cmp.neS)
  | ((with_reducible show Tru _ _ _ _ _); with_reducible first | exact Tru.bool | exact Tru.none | exact Tru.int | refine' Tru.str ?_)
  | ((with_reducible show EvL _ _ _ _ _ _ _); first | exact EvL.nil | refine' EvL.cons ?_ ?_)
  | ((with_reducible show EvP _ _ _ _ _ _ _); first | exact EvP.none | refine' EvP.some ?_)
  | ((with_reducible show Keep _ _); first | exact keep_type | exact keep_builtin | exact keep_refK (by assumption) (by k_is))
  | ((with_reducible show Sub _ _ _ _ _ _); first | exact Sub.tup rfl rfl | refine' Sub.lst ?_ rfl)
  | ((with_reducible show Slc _ _ _ _ _ _ _); first | refine' Slc.str ?_ | refine' Slc.lst ?_ | refine' Slc.tupFrom ?_ ?_ ?_)
  | ((with_reducible show Jn _ _ _ _); with_reducible first | exact Jn.int _ _ | exact Jn.str _ _ | exact Jn.bool _ _ | exact Jn.same _)
  | ((with_reducible show Un _ _ _ _ _ _); with_reducible exact Un.neg)
  | ((with_reducible show Call _ _ _ _ _ _); tm_at "call"))
local macro_rules | `(tactic| tm_at "step") => `(tactic| first | tm_at "ev" | tm_at "tr" | tm_at "op" | (with_reducible refine' fun (_ : _ = _) => ?_) | tm_at "sd")
local macro_rules | `(tactic| tm_at "go") => `(tactic| repeat' (tm_at "step"))
theorem ldKC1 : hd.heap_39 = hd.heap_39 ∧ PySem.Challenge.rw_fe0239_01 = PySem.Challenge.rw_fe0239_01 := by
  k_fill
  exact ⟨rfl, rfl⟩
local macro_rules | `(tactic| tm_at "op") => `(tactic| first
  | ((with_reducible show Bin _ _ _ _ _ _ _); with_reducible first | exact Bin.addI | exact Bin.subI | refine' Bin.divI | refine' Bin.modI | refine' Bin.mulI ?_ | refine' Bin.addS ?_)
  | ((with_reducible show Cmp _ _ _ _ _ _ _); with_reducible first | exact Cmp.eqI | exact Cmp.neI | exact Cmp.ltI | exact Cmp.leI | exact Cmp.gtI | exact Cmp.geI | exact Cmp.eqS | exact Cmp.neS)
  | ((with_reducible show Tru _ _ _ _ _); with_reducible first | exact Tru.bool | exact Tru.none | exact Tru.int | refine' Tru.str ?_)
  | ((with_reducible show EvL _ _ _ _ _ _ _); first | exact EvL.nil | refine' EvL.cons ?_ ?_)
  | ((with_reducible show EvP _ _ _ _ _ _ _); first | exact EvP.none | refine' EvP.some ?_)
  | ((with_reducible show Keep _ _); first | exact keep_type | exact keep_builtin | exact keep_refK (by assumption) (by k_is))
  | ((with_reducible show Sub _ _ _ _ _ _); first | exact Sub.tup rfl rfl | refine' Sub.lst ?_ rfl)
  | ((with_reducible show Slc _ _ _ _ _ _ _); first | refine' Slc.str ?_ | refine' Slc.lst ?_ | refine' Slc.tupFrom ?_ ?_ ?_)
  | ((with_reducible show Jn _ _ _ _); with_reducible first | exact Jn.int _ _ | exact Jn.str _ _ | exact Jn.bool _ _ | exact Jn.same _)
  | ((with_reducible show Un _ _ _ _ _ _); with_reducible exact Un.neg)
  | ((with_reducible show Call _ _ _ _ _ _); tm_at "call"))
def leapB (y : Int) : Bool := decide (y % 4 = 0) && (decide (y % 100 ≠ 0) || decide (y % 400 = 0))
def dimI (y m : Int) : Int := if m = 2 then (if leapB y then 29 else 28) else if m = 4 ∨ m = 6 ∨ m = 9 ∨ m = 11 then 30 else 31
def okDate (y m d : Int) : Bool := decide (1 ≤ y ∧ y ≤ 9999 ∧ 1 ≤ m ∧ m ≤ 12 ∧ 1 ≤ d ∧ d ≤ dimI y m)
def okTime (h m s u : Int) : Bool := decide (0 ≤ h ∧ h ≤ 23 ∧ 0 ≤ m ∧ m ≤ 59 ∧ 0 ≤ s ∧ s ≤ 59 ∧ 0 ≤ u ∧ u ≤ 999999)
theorem dim_b {y m : Int} (h : m ≠ 2) : dimI y m = if ([4,6,9,11] : List Int).any (· == m) then 30 else 31 := by
  unfold dimI
  rw [if_neg h]
  have e : (([4,6,9,11] : List Int).any (· == m) = true) ↔ (m = 4 ∨ m = 6 ∨ m = 9 ∨ m = 11) := by
    simp only [List.any_cons, List.any_nil, Bool.or_false, Bool.or_eq_true, beq_iff_eq]
    omega
  by_cases q : m = 4 ∨ m = 6 ∨ m = 9 ∨ m = 11
  · rw [if_pos q, if_pos (e.mpr q)]
  · rw [if_neg q, if_neg (fun z => q (e.mp z))]
section
variable {W : Wd} {n : Nat} {hd' : Nat}
theorem dim_c (hK : W.K = hd.heap_39 W.w.params) {y m : Int} : Call W (n+1) hd' (.ref 38) [.int y, .int m] (.int (dimI y m)) := by
  refine Call.of_body ["year","month"] (by rw [hK]; k_is) (by rw [hK]; k_is) rfl (by intro vs hl; match vs, hl with | [a,b], _ => rfl) rfl (by decide) ?_
  intro fd sc hsc F
  dsimp only at hsc
  subst hsc
  refine Ex.ifS (b := decide (m = 2)) ?t (fun h => ?a) (fun h => Ex.nil ?b) (fun _ x => x)
  case t => tm_at "go"
  case a =>
    refine' Ex.ret ?e1 (.inl ?g)
    case e1 => tm_at "go"
    case g => simp only [decide_eq_true_eq] at h; simp [dimI, h, leapB]
  case b =>
    refine' Ex.ret (Ev.ifexp (b := ([4,6,9,11] : List Int).any (· == m)) (Tr.cmp ?e1 ?e2 Cmp.inI ?e3) ?e4 ?e5 (Jn.int 30 31)) (.inl ?g)
    case e2 => exact Ev.tup (ds := ([4,6,9,11] : List Int).map D.int) (by tm_at "go") (by decide)
    case g =>
      simp only [decide_eq_false_iff_not] at h
      rw [dim_b h]
    all_goals tm_at "go"
end
section
variable {W : Wd} {n : Nat}
theorem checkN_c (hK : W.K = hd.heap_39 W.w.params) {ns : List Int} (h : ∀ i ∈ ns, -2147483648 ≤ i ∧ i ≤ 2147483647) (hz : ns.length ≤ 100) : Call W (n+1) 0 (.ref 45) (ns.map D.int) .none := by
  refine Call.of_star "numbers" (by rw [hK]; k_is) (by rw [hK]; k_is) rfl (fun vs _ => by cases vs <;> rfl) (by rw [List.length_map]; omega) (by rfl) ?_
  intro fd sc hsc F
  dsimp only at hsc
  subst hsc
  refine Ex.for (G := fun _ => [("numbers", .tup (ns.map D.int))]) (f := fun i σ => ("number", (ns.map D.int).getD i .none) :: σ) (d := .tup (ns.map D.int)) (items := ns.map D.int) ?i (Itb.tup rfl) Sup.refl (fun i d hi => ?t) (fun i d hi => ?b) (Ex.nil (.inr ⟨rfl, _, rfl⟩))
  case i => tm_at "go"
  case t =>
    have e : (ns.map D.int).getD i .none = d := by rw [List.getD_eq_getElem?_getD, hi]; rfl
    rw [e]
    exact Tgt.name F
  case b =>
    have e : (ns.map D.int).getD i .none = d := by rw [List.getD_eq_getElem?_getD, hi]; rfl
    rw [e]
    obtain ⟨k, hk, rfl⟩ : ∃ k ∈ ns, d = D.int k := by
      rw [List.getElem?_map] at hi
      cases q : ns[i]? with
      | none => rw [q] at hi; cases hi
      | some k => rw [q] at hi; cases hi; exact ⟨k, List.mem_of_getElem? q, rfl⟩
    obtain ⟨h1, h2⟩ := h k hk
    refine Ex.iff (b := ?bb) ?t ?f (Ex.nil (Ex.nil (.inl ⟨_, .inl rfl, ?s⟩)))
    case t => tm_at "go"
    case f => simp [h1, h2]
    case s => exact Sup.cons rfl Sup.nil
theorem ve_b (hK : W.K = hd.heap_39 W.w.params) : Bti W "ValueError" (.fn (.type "ValueError")) := bti_fnK hK (by k_is) (by boot_fast)
local macro_rules | `(tactic| tm_at "call") => `(tactic| (with_reducible refine' dim_c ?_))
theorem checkD_c (hK : W.K = hd.heap_39 W.w.params) {y m d : Int} : CallX W (n+2) 0 (.ref 52) [.int y, .int m, .int d] (if okDate y m d then some .none else none) := by
  refine CallX.of_body ["year","month", "day"] (by rw [hK]; k_is) (by rw [hK]; k_is) rfl (by intro vs hl; match vs, hl with | [a,b,c], _ => rfl) rfl (by decide) ?_
  intro fd sc hsc F
  dsimp only at hsc
  subst hsc
  refine ExX.ifS (b := ?b1) ?t1 ?r1 ?k1
  case t1 => tm_at "go"
  case r1 =>
    refine fun h1 => ExX.raise F (ve_b hK) ?_ rfl
    simp [okDate] at h1 ⊢; omega
  refine fun h1 => (Ex.nil ⟨Sup.refl, ?_⟩).x
  refine ExX.ifS (b := ?b2) ?t2 ?r2 ?k2
  case t2 => tm_at "go"
  case r2 =>
    refine fun h2 => ExX.raise F (ve_b hK) ?_ rfl
    simp [okDate] at h1 h2 ⊢; omega
  refine fun h2 => (Ex.nil ⟨Sup.refl, ?_⟩).x
  refine ExX.ifS (b := ?b3) ?t3 ?r3 ?k3
  case t3 => tm_at "go"
  case r3 =>
    refine fun h3 => ExX.raise F (ve_b hK) ?_ rfl
    simp [okDate] at h1 h2 h3 ⊢; omega
  refine fun h3 => (Ex.nil ⟨Sup.refl, ?_⟩).x
  refine (Ex.nil ?_).x
  simp [okDate] at h1 h2 h3 ⊢
  omega
theorem checkT_c (hK : W.K = hd.heap_39 W.w.params) {h m s u : Int} : CallX W (n+1) 0 (.ref 59) [.int h, .int m, .int s, .int u] (if okTime h m s u then some .none else none) := by
  refine CallX.of_body ["hour","minute", "second", "microsecond"] (by rw [hK]; k_is) (by rw [hK]; k_is) rfl (by intro vs hl; match vs, hl with | [a,b,c,d], _ => rfl) rfl (by decide) ?_
  intro fd sc hsc F
  dsimp only at hsc
  subst hsc
  refine ExX.ifS (b := ?b4) ?t4 ?r4 ?k4
  case t4 => tm_at "go"
  case r4 =>
    refine fun h1 => ExX.raise F (ve_b hK) ?_ rfl
    simp [okTime] at h1 ⊢; omega
  refine fun h1 => (Ex.nil ⟨Sup.refl, ?_⟩).x
  refine ExX.ifS (b := ?b5) ?t5 ?r5 ?k5
  case t5 => tm_at "go"
  case r5 =>
    refine fun h2 => ExX.raise F (ve_b hK) ?_ rfl
    simp [okTime] at h1 h2 ⊢; omega
  refine fun h2 => (Ex.nil ⟨Sup.refl, ?_⟩).x
  refine ExX.ifS (b := ?b6) ?t6 ?r6 ?k6
  case t6 => tm_at "go"
  case r6 =>
    refine fun h3 => ExX.raise F (ve_b hK) ?_ rfl
    simp [okTime] at h1 h2 h3 ⊢; omega
  refine fun h3 => (Ex.nil ⟨Sup.refl, ?_⟩).x
  refine ExX.ifS (b := ?b7) ?t7 ?r7 ?k7
  case t7 => tm_at "go"
  case r7 =>
    refine fun h4 => ExX.raise F (ve_b hK) ?_ rfl
    simp [okTime] at h1 h2 h3 h4 ⊢; omega
  refine fun h4 => (Ex.nil ⟨Sup.refl, ?_⟩).x
  refine (Ex.nil ?_).x
  simp [okTime] at h1 h2 h3 h4 ⊢
  omega
end

end Mine
end

section
open PySem PySem.W PySem.Calls PyProof.Rows
set_option Elab.async false
set_option linter.unusedVariables false
set_option maxRecDepth 100000
set_option maxHeartbeats 4000000
namespace Mine
local macro_rules | `(tactic| tm_at "len") => `(tactic| (simp only [PySem.Str.length_append, lit_0, lit_4, lit_3, lit_6, lit_d, lit_c, lit_s, lit_T, lit_p, lit_q, lit_e] at *; omega))
local macro_rules | `(tactic| tm_at "sd") => `(tactic| ((show (_ : Prop)); first | assumption | decide | omega | tm_at "len"))
local macro_rules | `(tactic| tm_at "call") => `(tactic| fail "no contract")
local macro_rules | `(tactic| tm_at "call") => `(tactic| (with_reducible refine' Call.strI ?_))
local macro_rules | `(tactic| tm_at "tr") => `(tactic| ((with_reducible show Tr _ _ _ _ _ _ _); first
  | exact Tr.andNil
  | exact Tr.orNil
  | ((with_reducible show Tr _ _ _ _ _ (PySem.Expr.BoolOp BoolOp.And _ _) _); refine' Tr.and ?_ ?_)
  | ((with_reducible show Tr _ _ _ _ _ (PySem.Expr.BoolOp BoolOp.Or _ _) _); refine' Tr.or ?_ ?_)
  | ((with_reducible show Tr _ _ _ _ _ (PySem.Expr.UnaryOp UnaryOp.Not _ _) _); refine' Tr.not ?_)
  | ((with_reducible show Tr _ _ _ _ _ (PySem.Expr.Compare _ [_] [_] _) _); refine' Tr.cmp ?_ ?_ ?_ ?_)
  | ((with_reducible show Tr _ _ _ _ _ (PySem.Expr.Compare _ [_, _] [_, _] _) _); refine' Tr.cmp2 ?_ ?_ ?_ ?_ ?_)
  | ((with_reducible show Tr _ _ _ _ _ (PySem.Expr.IfExp _ _ _ _) _); refine' Tr.ifexp ?_ ?_ ?_)
  | refine' Tr.plain ?_ ?_))
local macro_rules | `(tactic| tm_at "ev") => `(tactic| ((with_reducible show Ev _ _ _ _ _ _ _); first
  | ((with_reducible show Ev _ _ _ _ _ (PySem.Expr.Constant _ _ _) _); first | exact Ev.int | exact Ev.strc | exact Ev.boolc | exact Ev.nonec)
  | ((with_reducible show Ev _ _ _ _ _ (PySem.Expr.Name _ _) _); first | exact Ev.loc (by assumption) rfl | exact Ev.glob (by assumption) (glb_fnK (by assumption) (by k_is)) | exact Ev.bti (by assumption) (bti_fnK (by assumption) (by k_is) (by boot_fast)))
  | ((with_reducible show Ev _ _ _ _ _ (PySem.Expr.BinOp _ _ _ _) _); refine' Ev.bin ?_ ?_ ?_)
  | ((with_reducible show Ev _ _ _ _ _ (PySem.Expr.IfExp _ _ _ _) _); refine' Ev.ifexp ?_ ?_ ?_ ?_)
  | ((with_reducible show Ev _ _ _ _ _ (PySem.Expr.Subscript _ (PySem.Expr.Slice _ _ _ _) _) _); refine' Ev.slc ?_ ?_ ?_ ?_)
  | ((with_reducible show Ev _ _ _ _ _ (PySem.Expr.Subscript _ _ _) _); refine' Ev.sub ?_ ?_ ?_)
  | ((with_reducible show Ev _ _ _ _ _ (PySem.Expr.Call _ _ _ _) _); refine' Ev.call ?_ ?_ ?_ ?_)
  | ((with_reducible show Ev _ _ _ _ _ (PySem.Expr.Compare _ [_] [_] _) _); refine' Ev.cmp ?_ ?_ ?_)
  | ((with_reducible show Ev _ _ _ _ _ (PySem.Expr.Compare _ [_, _] [_, _] _) _); refine' Ev.cmp2 ?_ ?_ ?_ ?_ ?_)
  | ((with_reducible show Ev _ _ _ _ _ (PySem.Expr.BoolOp _ [_] _) _); refine' Ev.one ?_)
  | ((with_reducible show Ev _ _ _ _ _ (PySem.Expr.BoolOp _ _ _) _); refine' Ev.and ?_ ?_)
  | ((with_reducible show Ev _ _ _ _ _ (PySem.Expr.UnaryOp _ _ _) _); refine' Ev.un ?_ ?_)
  | ((with_reducible show Ev _ _ _ _ _ (PySem.Expr.Tuple _ _ _) _); refine' Ev.tup ?_ ?_)
  | ((with_reducible show Ev _ _ _ _ _ (PySem.Expr.List _ _) _); refine' Ev.lst ?_ ?_)))
local macro_rules | `(tactic| tm_at "op") => `(tactic| first
  | ((with_reducible show Bin _ _ _ _ _ _ _); with_reducible first | exact Bin.addI | exact Bin.subI | refine' Bin.divI | refine' Bin.modI | refine' Bin.mulI ?_ | refine' Bin.addS ?_)
  | ((with_reducible show Cmp _ _ _ _ _ _ _); with_reducible first | exact Cmp.eqI | exact Cmp.neI | exact Cmp.ltI | exact Cmp.leI | exact Cmp.gtI | exact Cmp.geI | exact Cmp.eqS | exact Cmp.neS)
  | ((with_reducible show Tru _ _ _ _ _); with_reducible first | exact Tru.bool | exact Tru.none | exact Tru.int | refine' Tru.str ?_)
  | ((with_reducible show EvL _ _ _ _ _ _ _); first | exact EvL.nil | refine' EvL.cons ?_ ?_)
  | ((with_reducible show EvP _ _ _ _ _ _ _); first | exact EvP.none | refine' EvP.some ?_)
  | ((with_reducible show Keep _ _); first | exact keep_type | exact keep_builtin | exact keep_refK (by assumption) (by k_is))
  | ((with_reducible show Sub _ _ _ _ _ _); first | exact Sub.tup rfl rfl | refine' Sub.lst ?_ rfl)
  | ((with_reducible show Slc _ _ _ _ _ _ _); first | refine' Slc.str ?_ | refine' Slc.lst ?_ | refine' Slc.tupFrom ?_ ?_ ?_)
  | ((with_reducible show Jn _ _ _ _); with_reducible first | exact Jn.int _ _ | exact Jn.str _ _ | exact Jn.bool _ _ | exact Jn.same _)
  | ((with_reducible show Un _ _ _ _ _ _); with_reducible exact Un.neg)
  | ((with_reducible show Call _ _ _ _ _ _); tm_at "call"))
local macro_rules | `(tactic| tm_at "step") => `(tactic| first | tm_at "ev" | tm_at "tr" | tm_at "op" | (with_reducible refine' fun (_ : _ = _) => ?_) | tm_at "sd")
local macro_rules | `(tactic| tm_at "go") => `(tactic| repeat' (tm_at "step"))
theorem ldKC2 : hd.heap_39 = hd.heap_39 ∧ PySem.Challenge.rw_fe0239_01 = PySem.Challenge.rw_fe0239_01 := by
  k_fill
  exact ⟨rfl, rfl⟩
def in32 (i : Int) : Prop := -2147483648 ≤ i ∧ i ≤ 2147483647
def dateF (y m d : Int) : List (PySem.Str × Int) := [("day", d), ("month", m), ("year", y)]
local macro_rules | `(tactic| tm_at "call") => `(tactic| (with_reducible refine' dim_c ?_))
section
variable {W : Wd} {n : Nat}
theorem sto76 (hK : W.K = hd.heap_39 W.w.params) : Sto W.K 76 "year" ∧ Sto W.K 76 "month" ∧ Sto W.K 76 "day" :=
  ⟨⟨by rw [hK]; k_is, by rw [hK]; k_is, by rw [hK]; k_is, by rw [hK]; k_is⟩, ⟨by rw [hK]; k_is, by rw [hK]; k_is, by rw [hK]; k_is, by rw [hK]; k_is⟩, ⟨by rw [hK]; k_is, by rw [hK]; k_is, by rw [hK]; k_is, by rw [hK]; k_is⟩⟩
theorem int_no {fd : FuncData} {sc : Scope} (F : FdIs fd sc) {L a : Addr} : interactive (callEnv fd L a) = false := by
  show (fd.scope.kind == .module && _) = false
  rw [F.k]; rfl
theorem ExX.check {fd : FuncData} {sc : Scope} (F : FdIs fd sc) {hd' : Nat} {σ : Sg} {e : Expr} {pos : Pos} {b : Bool} (h1 : EvX W fd n hd' σ e (if b then some .none else none))
    (hs : ∀ env, swapsWith e none pos.line env = pure false := by intro _; rfl) : ExX W fd n hd' σ [.Expr e pos] (fun o => o = .next σ) (b = false) :=
  fun L a A outer X s m C lo Q E hq hr => wpAny_execs_cons (wpAny_Expr_any (h1 L a A outer X s m C lo _ _ (fun v h' tk' d q y rv => wpAny_execs_nil (hq .next (.next σ) h' m tk' y.toL (y.ns C.ns) rfl (lo.mono (y.hid C.sx.sub))))
      fun e h' tk' ctx fl q y z w u => hr e s.heap h' m tk' ctx fl (by cases b <;> simp_all) .refl C.ns lo y z w u) (int_no F) (hs _))
theorem ExX.fails {fd : FuncData} {sc : Scope} (F : FdIs fd sc) {hd' : Nat} {σ : Sg} {e : Expr} {pos : Pos} (h1 : EvX W fd n hd' σ e none)
    (hs : ∀ env, swapsWith e none pos.line env = pure false := by intro _; rfl) : ExX W fd n hd' σ [.Expr e pos] (fun o => False) True :=
  fun L a A outer X s m C lo Q E hq hr => wpAny_execs_cons (wpAny_Expr_any (h1 L a A outer X s m C lo _ _ (fun v h' tk' d q y rv => by cases q)
      fun e h' tk' ctx fl q y z w u => hr e s.heap h' m tk' ctx fl trivial .refl C.ns lo y z w u) (int_no F) (hs _))
theorem ExI.fails {fd : FuncData} {hd' : Nat} {C : Addr} {σ : Addr → Sg} {fs : List (PySem.Str × Int)} {b : Nat} {st : Stmt} {rest : List Stmt} (h1 : ∀ x, ExX W fd n hd' (σ x) [st] (fun o => False) True) : ExI W fd n hd' C σ fs b (st :: rest) none :=
  fun hb x dx L a A outer X s m I lo Q E hq hr => by
    refine wpAny_execs_cons (Ex.single (L := L) (a := a) (h1 x L a A outer X s m I.cx lo _ _ (fun f o h' m' tk' y hn hP hO => hP.elim) fun e h₁ h' m' tk' ctx fl q y hn lo' st z w u => ?_))
    have I' := I.stepL y hn
    exact hr e h₁ h' m' tk' ctx fl rfl I'.st I'.cx st z w u
theorem ite_t {α : Type} {b : Bool} (h : b = true) {x y : α} : (if b then x else y) = x := by rw [h]; rfl
theorem ite_f {α : Type} {b : Bool} (h : b = false) {x y : α} : (if b then x else y) = y := by rw [h]; rfl
theorem date_c (hK : W.K = hd.heap_39 W.w.params) {y m d : Int} (h1 : in32 y) (h2 : in32 m) (h3 : in32 d) : CallKX W (n+4) 0 (.ref 76) [.int y, .int m, .int d] [] [] ((if okDate y m d then some (dateF y m d) else none).map (D.obj 76)) := by
  refine CallKX.cls (fI := 73) (names := ["self", "year", "month", "day"]) (wds := [.int y, .int m, .int d]) (by rw [hK]; k_is) (by rw [hK]; k_is) (by rw [hK]; k_is) (by rw [hK]; k_is) (by rw [hK]; k_is) rfl ?hb rfl (by decide) ?init
  case hb =>
    intro x vs kvs hv hk
    match vs, kvs, hv, hk with
    | [a, b, c], [], _, _ => exact ⟨[a, b, c], fun S => by rw [hK]; rfl, fun g r rk => r⟩
  case init =>
    intro fd sc hsc F
    dsimp only at hsc
    subst hsc
    obtain ⟨s1, s2, s3⟩ := sto76 hK
    refine ExI.pre (R := true = false) (τ := fun x => _) (fun x => ExX.check F (b := true) (EvX.call ?f ?l ?k (checkN_c hK (ns := [y, m, d]) ?r ?z).x)) (fun q => by cases q) ?_
    case r => intro i hi; simp only [List.mem_cons, List.not_mem_nil, or_false] at hi; rcases hi with rfl | rfl | rfl <;> assumption
    case z => show (3 : Nat) ≤ 100; decide
    case f => tm_at "go"
    case l => show EvL _ _ _ _ _ _ [_, _, _]; tm_at "go"
    case k => tm_at "go"
    cases ok : okDate y m d with
    | false =>
      have cc := checkD_c hK (n := n) (y := y) (m := m) (d := d)
      rw [ite_f ok] at cc
      rw [ite_f rfl]
      refine ExI.fails fun x => ExX.fails F (EvX.call ?f2 ?l2 ?k2 cc)
      all_goals tm_at "go"
    | true =>
      have cc := checkD_c hK (n := n) (y := y) (m := m) (d := d)
      rw [ite_t ok] at cc
      rw [ite_t rfl]
      refine ExI.pre (R := true = false) (τ := fun x => _) (fun x => ExX.check F (b := true) (EvX.call ?f3 ?l3 ?k3 cc)) (fun q => by cases q) ?_
      case f3 => tm_at "go"
      case l3 => tm_at "go"
      case k3 => tm_at "go"
      refine ExI.store F (i := y) (fun x => ?_) (fun x => rfl) s1 ?_
      · tm_at "go"
      refine ExI.store F (i := m) (fun x => ?_) (fun x => rfl) s2 ?_
      · tm_at "go"
      refine ExI.store F (i := d) (fun x => ?_) (fun x => rfl) s3 ?_
      · tm_at "go"
      exact ExI.nil
end
def timeF (h m s u : Int) : List (PySem.Str × Int) := [("microsecond", u), ("second", s), ("minute", m), ("hour", h)]
def dtF (y mo d h m s u : Int) : List (PySem.Str × Int) := [("microsecond", u), ("second", s), ("minute", m), ("hour", h), ("day", d), ("month", mo), ("year", y)]
section
variable {W : Wd} {n : Nat}
theorem sto98 (hK : W.K = hd.heap_39 W.w.params) : Sto W.K 98 "hour" ∧ Sto W.K 98 "minute" ∧ Sto W.K 98 "second" ∧ Sto W.K 98 "microsecond" :=
  ⟨⟨by rw [hK]; k_is, by rw [hK]; k_is, by rw [hK]; k_is, by rw [hK]; k_is⟩, ⟨by rw [hK]; k_is, by rw [hK]; k_is, by rw [hK]; k_is, by rw [hK]; k_is⟩, ⟨by rw [hK]; k_is, by rw [hK]; k_is, by rw [hK]; k_is, by rw [hK]; k_is⟩, ⟨by rw [hK]; k_is, by rw [hK]; k_is, by rw [hK]; k_is, by rw [hK]; k_is⟩⟩
theorem sto120 (hK : W.K = hd.heap_39 W.w.params) : (Sto W.K 120 "year" ∧ Sto W.K 120 "month" ∧ Sto W.K 120 "day") ∧ Sto W.K 120 "hour" ∧ Sto W.K 120 "minute" ∧ Sto W.K 120 "second" ∧ Sto W.K 120 "microsecond" :=
  ⟨⟨⟨by rw [hK]; k_is, by rw [hK]; k_is, by rw [hK]; k_is, by rw [hK]; k_is⟩, ⟨by rw [hK]; k_is, by rw [hK]; k_is, by rw [hK]; k_is, by rw [hK]; k_is⟩, ⟨by rw [hK]; k_is, by rw [hK]; k_is, by rw [hK]; k_is, by rw [hK]; k_is⟩⟩,
   ⟨by rw [hK]; k_is, by rw [hK]; k_is, by rw [hK]; k_is, by rw [hK]; k_is⟩, ⟨by rw [hK]; k_is, by rw [hK]; k_is, by rw [hK]; k_is, by rw [hK]; k_is⟩, ⟨by rw [hK]; k_is, by rw [hK]; k_is, by rw [hK]; k_is, by rw [hK]; k_is⟩, ⟨by rw [hK]; k_is, by rw [hK]; k_is, by rw [hK]; k_is, by rw [hK]; k_is⟩⟩
theorem time_c (hK : W.K = hd.heap_39 W.w.params) {h m s u : Int} (h1 : in32 h) (h2 : in32 m) (h3 : in32 s) (h4 : in32 u) :
    CallKX W (n+4) 0 (.ref 98) [] ["hour", "minute", "second", "microsecond"] [.int h, .int m, .int s, .int u] ((if okTime h m s u then some (timeF h m s u) else none).map (D.obj 98)) := by
  refine CallKX.cls (fI := 95) (names := ["self", "hour", "minute", "second", "microsecond"]) (wds := [.int h, .int m, .int s, .int u]) (by rw [hK]; k_is) (by rw [hK]; k_is) (by rw [hK]; k_is) (by rw [hK]; k_is) (by rw [hK]; k_is) rfl ?hb rfl (by decide) ?init
  case hb =>
    intro x vs kvs hv hk
    match vs, kvs, hv, hk with
    | [], [a, b, c, d], _, _ => exact ⟨[a, b, c, d], fun S => by rw [hK]; rfl, fun g r rk => rk⟩
  case init =>
    intro fd sc hsc F
    dsimp only at hsc
    subst hsc
    obtain ⟨s1, s2, s3, s4⟩ := sto98 hK
    refine ExI.pre (R := true = false) (τ := fun x => _) (fun x => ExX.check F (b := true) (EvX.call ?f ?l ?k (checkN_c hK (ns := [h, m, s, u]) ?r ?z).x)) (fun q => by cases q) ?_
    case r => intro i hi; simp only [List.mem_cons, List.not_mem_nil, or_false] at hi; rcases hi with rfl | rfl | rfl | rfl <;> assumption
    case z => show (4 : Nat) ≤ 100; decide
    case f => tm_at "go"
    case l => show EvL _ _ _ _ _ _ [_, _, _, _]; tm_at "go"
    case k => tm_at "go"
    have cc := checkT_c hK (n := n + 1) (h := h) (m := m) (s := s) (u := u)
    cases ok : okTime h m s u with
    | false =>
      rw [ite_f ok] at cc
      rw [ite_f rfl]
      refine ExI.fails fun x => ExX.fails F (EvX.call ?f2 ?l2 ?k2 cc)
      all_goals tm_at "go"
    | true =>
      rw [ite_t ok] at cc
      rw [ite_t rfl]
      refine ExI.pre (R := true = false) (τ := fun x => _) (fun x => ExX.check F (b := true) (EvX.call ?f3 ?l3 ?k3 cc)) (fun q => by cases q) ?_
      case f3 => tm_at "go"
      case l3 => tm_at "go"
      case k3 => tm_at "go"
      refine ExI.store F (i := h) (fun x => ?_) (fun x => rfl) s1 ?_
      · tm_at "go"
      refine ExI.store F (i := m) (fun x => ?_) (fun x => rfl) s2 ?_
      · tm_at "go"
      refine ExI.store F (i := s) (fun x => ?_) (fun x => rfl) s3 ?_
      · tm_at "go"
      refine ExI.store F (i := u) (fun x => ?_) (fun x => rfl) s4 ?_
      · tm_at "go"
      exact ExI.nil
theorem dt_c (hK : W.K = hd.heap_39 W.w.params) {y mo d h m s u : Int} (g1 : in32 y) (g2 : in32 mo) (g3 : in32 d) (h1 : in32 h) (h2 : in32 m) (h3 : in32 s) (h4 : in32 u) :
    CallKX W (n+4) 0 (.ref 120) [.int y, .int mo, .int d, .int h, .int m, .int s, .int u] [] [] ((if okDate y mo d && okTime h m s u then some (dtF y mo d h m s u) else none).map (D.obj 120)) := by
  refine CallKX.cls (fI := 117) (names := ["self", "year", "month", "day", "hour", "minute", "second", "microsecond"]) (wds := [.int y, .int mo, .int d, .int h, .int m, .int s, .int u]) (by rw [hK]; k_is) (by rw [hK]; k_is) (by rw [hK]; k_is) (by rw [hK]; k_is) (by rw [hK]; k_is) rfl ?hb rfl (by decide) ?init
  case hb =>
    intro x vs kvs hv hk
    match vs, kvs, hv, hk with
    | [a, b, c, d, e, f, g], [], _, _ => exact ⟨[a, b, c, d, e, f, g], fun S => by rw [hK]; rfl, fun g r rk => r⟩
  case init =>
    intro fd sc hsc F
    dsimp only at hsc
    subst hsc
    obtain ⟨⟨s1, s2, s3⟩, s4, s5, s6, s7⟩ := sto120 hK
    refine ExI.pre (R := true = false) (τ := fun x => _) (fun x => ExX.check F (b := true) (EvX.call ?f ?l ?k (checkN_c hK (ns := [y, mo, d, h, m, s, u]) ?r ?z).x)) (fun q => by cases q) ?_
    case r => intro i hi; simp only [List.mem_cons, List.not_mem_nil, or_false] at hi; rcases hi with rfl | rfl | rfl | rfl | rfl | rfl | rfl <;> assumption
    case z => show (7 : Nat) ≤ 100; decide
    case f => tm_at "go"
    case l => show EvL _ _ _ _ _ _ [_, _, _, _, _, _, _]; tm_at "go"
    case k => tm_at "go"
    have cd := checkD_c hK (n := n) (y := y) (m := mo) (d := d)
    have ct := checkT_c hK (n := n + 1) (h := h) (m := m) (s := s) (u := u)
    cases okd : okDate y mo d with
    | false =>
      rw [ite_f okd] at cd
      rw [Bool.false_and, ite_f rfl]
      refine ExI.fails fun x => ExX.fails F (EvX.call ?f2 ?l2 ?k2 cd)
      all_goals tm_at "go"
    | true =>
      rw [ite_t okd] at cd
      rw [Bool.true_and]
      refine ExI.pre (R := true = false) (τ := fun x => _) (fun x => ExX.check F (b := true) (EvX.call ?f3 ?l3 ?k3 cd)) (fun q => by cases q) ?_
      case f3 => tm_at "go"
      case l3 => tm_at "go"
      case k3 => tm_at "go"
      cases okt : okTime h m s u with
      | false =>
        rw [ite_f okt] at ct
        rw [ite_f rfl]
        refine ExI.fails fun x => ExX.fails F (EvX.call ?f4 ?l4 ?k4 ct)
        all_goals tm_at "go"
      | true =>
        rw [ite_t okt] at ct
        rw [ite_t rfl]
        refine ExI.pre (R := true = false) (τ := fun x => _) (fun x => ExX.check F (b := true) (EvX.call ?f5 ?l5 ?k5 ct)) (fun q => by cases q) ?_
        case f5 => tm_at "go"
        case l5 => tm_at "go"
        case k5 => tm_at "go"
        refine ExI.store F (i := y) (fun x => ?_) (fun x => rfl) s1 ?_
        · tm_at "go"
        refine ExI.store F (i := mo) (fun x => ?_) (fun x => rfl) s2 ?_
        · tm_at "go"
        refine ExI.store F (i := d) (fun x => ?_) (fun x => rfl) s3 ?_
        · tm_at "go"
        refine ExI.store F (i := h) (fun x => ?_) (fun x => rfl) s4 ?_
        · tm_at "go"
        refine ExI.store F (i := m) (fun x => ?_) (fun x => rfl) s5 ?_
        · tm_at "go"
        refine ExI.store F (i := s) (fun x => ?_) (fun x => rfl) s6 ?_
        · tm_at "go"
        refine ExI.store F (i := u) (fun x => ?_) (fun x => rfl) s7 ?_
        · tm_at "go"
        exact ExI.nil
end

end Mine
end

section
open PySem PySem.W PySem.Calls PyProof.Rows
set_option Elab.async false
set_option linter.unusedVariables false
set_option maxRecDepth 100000
set_option maxHeartbeats 4000000
namespace Mine
local macro_rules | `(tactic| tm_at "len") => `(tactic| (simp only [PySem.Str.length_append, lit_0, lit_4, lit_3, lit_6, lit_d, lit_c, lit_s, lit_T, lit_p, lit_q, lit_e] at *; omega))
local macro_rules | `(tactic| tm_at "sd") => `(tactic| ((show (_ : Prop)); first | assumption | decide | omega | tm_at "len"))
local macro_rules | `(tactic| tm_at "call") => `(tactic| fail "no contract")
local macro_rules | `(tactic| tm_at "call") => `(tactic| (with_reducible refine' Call.strI ?_))
local macro_rules | `(tactic| tm_at "tr") => `(tactic| ((with_reducible show Tr _ _ _ _ _ _ _); first
  | exact Tr.andNil
  | exact Tr.orNil
  | ((with_reducible show Tr _ _ _ _ _ (PySem.Expr.BoolOp BoolOp.And _ _) _); refine' Tr.and ?_ ?_)
  | ((with_reducible show Tr _ _ _ _ _ (PySem.Expr.BoolOp BoolOp.Or _ _) _); refine' Tr.or ?_ ?_)
  | ((with_reducible show Tr _ _ _ _ _ (PySem.Expr.UnaryOp UnaryOp.Not _ _) _); refine' Tr.not ?_)
  | ((with_reducible show Tr _ _ _ _ _ (PySem.Expr.Compare _ [_] [_] _) _); refine' Tr.cmp ?_ ?_ ?_ ?_)
  | ((with_reducible show Tr _ _ _ _ _ (PySem.Expr.Compare _ [_, _] [_, _] _) _); refine' Tr.cmp2 ?_ ?_ ?_ ?_ ?_)
  | ((with_reducible show Tr _ _ _ _ _ (PySem.Expr.IfExp _ _ _ _) _); refine' Tr.ifexp ?_ ?_ ?_)
  | refine' Tr.plain ?_ ?_))
local macro_rules | `(tactic| tm_at "ev") => `(tactic| ((with_reducible show Ev _ _ _ _ _ _ _); first
  | ((with_reducible show Ev _ _ _ _ _ (PySem.Expr.Constant _ _ _) _); first | exact Ev.int | exact Ev.strc | exact Ev.boolc | exact Ev.nonec)
  | ((with_reducible show Ev _ _ _ _ _ (PySem.Expr.Name _ _) _); first | exact Ev.loc (by assumption) rfl | exact Ev.glob (by assumption) (glb_fnK (by assumption) (by k_is)) | exact Ev.bti (by assumption) (bti_fnK (by assumption) (by k_is) (by boot_fast)))
  | ((with_reducible show Ev _ _ _ _ _ (PySem.Expr.BinOp _ _ _ _) _); refine' Ev.bin ?_ ?_ ?_)
  | ((with_reducible show Ev _ _ _ _ _ (PySem.Expr.IfExp _ _ _ _) _); refine' Ev.ifexp ?_ ?_ ?_ ?_)
  | ((with_reducible show Ev _ _ _ _ _ (PySem.Expr.Subscript _ (PySem.Expr.Slice _ _ _ _) _) _); refine' Ev.slc ?_ ?_ ?_ ?_)
  | ((with_reducible show Ev _ _ _ _ _ (PySem.Expr.Subscript _ _ _) _); refine' Ev.sub ?_ ?_ ?_)
  | ((with_reducible show Ev _ _ _ _ _ (PySem.Expr.Call _ _ _ _) _); refine' Ev.call ?_ ?_ ?_ ?_)
  | ((with_reducible show Ev _ _ _ _ _ (PySem.Expr.Compare _ [_] [_] _) _); refine' Ev.cmp ?_ ?_ ?_)
  | ((with_reducible show Ev _ _ _ _ _ (PySem.Expr.Compare _ [_, _] [_, _] _) _); refine' Ev.cmp2 ?_ ?_ ?_ ?_ ?_)
  | ((with_reducible show Ev _ _ _ _ _ (PySem.Expr.BoolOp _ [_] _) _); refine' Ev.one ?_)
  | ((with_reducible show Ev _ _ _ _ _ (PySem.Expr.BoolOp _ _ _) _); refine' Ev.and ?_ ?_)
  | ((with_reducible show Ev _ _ _ _ _ (PySem.Expr.UnaryOp _ _ _) _); refine' Ev.un ?_ ?_)
  | ((with_reducible show Ev _ _ _ _ _ (PySem.Expr.Tuple _ _ _) _); refine' Ev.tup ?_ ?_)
  | ((with_reducible show Ev _ _ _ _ _ (PySem.Expr.List _ _) _); refine' Ev.lst ?_ ?_)))
local macro_rules | `(tactic| tm_at "op") => `(tactic| first
  | ((with_reducible show Bin _ _ _ _ _ _ _); with_reducible first | exact Bin.addI | exact Bin.subI | refine' Bin.divI | refine' Bin.modI | refine' Bin.mulI ?_ | refine' Bin.addS ?_)
  | ((with_reducible show Cmp _ _ _ _ _ _ _); with_reducible first | exact Cmp.eqI | exact Cmp.neI | exact Cmp.ltI | exact Cmp.leI | exact Cmp.gtI | exact Cmp.geI | exact Cmp.eqS | exact Cmp.neS)
  | ((with_reducible show Tru _ _ _ _ _); with_reducible first | exact Tru.bool | exact Tru.none | exact Tru.int | refine' Tru.str ?_)
  | ((with_reducible show EvL _ _ _ _ _ _ _); first | exact EvL.nil | refine' EvL.cons ?_ ?_)
  | ((with_reducible show EvP _ _ _ _ _ _ _); first | exact EvP.none | refine' EvP.some ?_)
  | ((with_reducible show Keep _ _); first | exact keep_type | exact keep_builtin | exact keep_refK (by assumption) (by k_is))
  | ((with_reducible show Sub _ _ _ _ _ _); first | exact Sub.tup rfl rfl | refine' Sub.lst ?_ rfl)
  | ((with_reducible show Slc _ _ _ _ _ _ _); first | refine' Slc.str ?_ | refine' Slc.lst ?_ | refine' Slc.tupFrom ?_ ?_ ?_)
  | ((with_reducible show Jn _ _ _ _); with_reducible first | exact Jn.int _ _ | exact Jn.str _ _ | exact Jn.bool _ _ | exact Jn.same _)
  | ((with_reducible show Un _ _ _ _ _ _); with_reducible exact Un.neg)
  | ((with_reducible show Call _ _ _ _ _ _); tm_at "call"))
local macro_rules | `(tactic| tm_at "step") => `(tactic| first | tm_at "ev" | tm_at "tr" | tm_at "op" | (with_reducible refine' fun (_ : _ = _) => ?_) | tm_at "sd")
local macro_rules | `(tactic| tm_at "go") => `(tactic| repeat' (tm_at "step"))
theorem ldKC3 : hd.heap_39 = hd.heap_39 ∧ PySem.Challenge.rw_fe0239_01 = PySem.Challenge.rw_fe0239_01 := by
  k_fill
  exact ⟨rfl, rfl⟩
def spanF (us : Int) : List (PySem.Str × Int) := [("microseconds", us % 86400000000 % 1000000), ("seconds", us % 86400000000 / 1000000), ("days", us / 86400000000)]
local macro_rules | `(tactic| tm_at "call") => `(tactic| (with_reducible refine' Call.divmod ?_ ?_))
section
variable {W : Wd} {n : Nat}
theorem sto149 (hK : W.K = hd.heap_39 W.w.params) : Sto W.K 149 "days" ∧ Sto W.K 149 "seconds" ∧ Sto W.K 149 "microseconds" :=
  ⟨⟨by rw [hK]; k_is, by rw [hK]; k_is, by rw [hK]; k_is, by rw [hK]; k_is⟩, ⟨by rw [hK]; k_is, by rw [hK]; k_is, by rw [hK]; k_is, by rw [hK]; k_is⟩, ⟨by rw [hK]; k_is, by rw [hK]; k_is, by rw [hK]; k_is, by rw [hK]; k_is⟩⟩
theorem rdd149 (hK : W.K = hd.heap_39 W.w.params) : Rdd W.K 149 "days" ∧ Rdd W.K 149 "seconds" ∧ Rdd W.K 149 "microseconds" :=
  ⟨⟨by rw [hK]; k_is, by rw [hK]; k_is, by rw [hK]; k_is⟩, ⟨by rw [hK]; k_is, by rw [hK]; k_is, by rw [hK]; k_is⟩, ⟨by rw [hK]; k_is, by rw [hK]; k_is, by rw [hK]; k_is⟩⟩
theorem ExI.aug {fd : FuncData} {hd' : Nat} {C : Addr} {σ : Addr → Sg} {fs : List (PySem.Str × Int)} {b : Nat} {r : Option (List (PySem.Str × Int))} {sc : Scope} (F : FdIs fd sc) {x : PySem.Str} {xp pos : Pos} {op : Operator} {e : Expr} {d0 d1 d : D} {rest : List Stmt} (h0 : ∀ a, (σ a).lookup x = some d0) (h1 : ∀ a, Ev W fd n hd' (σ a) e d1) (hi : Inp W n hd' op d0 d1 d) (h2 : ExI W fd n hd' C (fun a => (x, d) :: σ a) fs b rest r)
    (hl : sc.names.lookup x = some .local := by rfl) : ExI W fd n hd' C σ fs b (.AugAssign (.Name x xp) op e pos :: rest) r :=
  ExI.pre (R := False) (τ := fun a => (x, d) :: σ a) (fun a => (show Ex W fd n hd' (σ a) [.AugAssign (.Name x xp) op e pos] (fun o => o = .next ((x, d) :: σ a)) from Ex.aug F (h0 a) (h1 a) hi (Ex.nil rfl) hl).x) False.elim h2
theorem td_g (hK : W.K = hd.heap_39 W.w.params) {keys : List PySem.Str} {kds : List D} {dd hh mm ss uu us : Int} (hu : us = uu + (ss + ((dd * 24 + hh) * 60 + mm) * 60) * 1000000) (hlo : -1000000000000000000 < us) (hhi : us < 1000000000000000000)
    (hb : ∀ o fd, (hd.heap_39 W.w.params).lookup 139 = some o → o.data = .func fd → ∀ (x : Addr) (kvs : List Value), kvs.length = kds.length → ∃ wvs, (∀ S, peek (hd.heap_39 W.w.params) S (bindArgs fd ⟨[.ref x], keys.zip kvs⟩) = some (([PySem.Str.ofString "self", PySem.Str.ofString "days", PySem.Str.ofString "hours", PySem.Str.ofString "minutes", PySem.Str.ofString "seconds", PySem.Str.ofString "microseconds"] : List PySem.Str).zip (.ref x :: wvs))) ∧ ∀ g, RepL g kvs kds → RepL g wvs [.int dd, .int hh, .int mm, .int ss, .int uu]) :
    CallKX W (n+4) 0 (.ref 149) [] keys kds ((some (spanF us)).map (D.obj 149)) := by
  refine CallKX.cls (fI := 139) (names := ["self", "days", "hours", "minutes", "seconds", "microseconds"]) (wds := [.int dd, .int hh, .int mm, .int ss, .int uu]) (by rw [hK]; k_is) (by rw [hK]; k_is) (by rw [hK]; k_is) (by rw [hK]; k_is) (by rw [hK]; k_is) rfl ?hb rfl (by decide) ?init
  case hb =>
    intro x vs kvs hv hk
    match vs, hv with
    | [], _ =>
      rw [hK]
      obtain ⟨wvs, h1, h2⟩ := hb _ _ (by k_is) rfl x kvs hk
      exact ⟨wvs, h1, fun g r rk => h2 g rk⟩
  case init =>
    intro fd sc hsc F
    dsimp only at hsc
    subst hsc
    obtain ⟨s1, s2, s3⟩ := sto149 hK
    obtain ⟨r1, r2, r3⟩ := rdd149 hK
    refine ExI.aug F (d1 := .int (((dd * 24 + hh) * 60 + mm) * 60)) (fun x => rfl) (fun x => ?e1) Inp.addI ?_
    case e1 => tm_at "go"
    refine ExI.aug F (d1 := .int ((ss + ((dd * 24 + hh) * 60 + mm) * 60) * 1000000)) (fun x => rfl) (fun x => ?e2) Inp.addI ?_
    case e2 => tm_at "go"
    rw [← hu]
    refine ExI.store1 F (fun x => Ev.call ?f ?l ?k (Call.divmod (i := us) (j := 86400000000) (by decide) (by decide))) (Unp.tup rfl) (fun x => rfl) s1 ?_
    case f => tm_at "go"
    case l => tm_at "go"
    case k => tm_at "go"
    refine ExI.store2 F (fun x => Ev.call ?f2 ?l2 ?k2 (Call.divmod (i := us % 86400000000) (j := 1000000) (by decide) (by decide))) (Unp.tup rfl) (fun x => rfl) s2 s3 ?_
    case f2 => tm_at "go"
    case l2 => tm_at "go"
    case k2 => tm_at "go"
    refine ExI.guard F (lo := -999999999) (hi := 999999999) (i := us / 86400000000) (fun x => ?_) (fun x => ?_) rfl r1 (by omega) (by omega) (fun x => rfl) ExI.nil
    · tm_at "go"
    · tm_at "go"
theorem td_c (hK : W.K = hd.heap_39 W.w.params) {hh mm ss uu us : Int} (hu : us = uu + (ss + (hh * 60 + mm) * 60) * 1000000) (hlo : -1000000000000000000 < us) (hhi : us < 1000000000000000000) :
    CallKX W (n+4) 0 (.ref 149) [] ["hours", "minutes", "seconds", "microseconds"] [.int hh, .int mm, .int ss, .int uu] (some (D.obj 149 (spanF us))) := by
  refine td_g hK (dd := 0) (hh := hh) (mm := mm) (ss := ss) (uu := uu) (by omega) hlo hhi ?_
  intro o fd h1 h2 x kvs hk
  refine (fun (e : List.lookup 139 (hd.heap_39 W.w.params) = some _) => ?g) (by k_is)
  rw [h1] at e
  cases e
  cases h2
  match kvs, hk with
  | [a, b, c, d], _ =>
    refine ⟨[.int 0 _, a, b, c, d], fun S => by rfl, fun g r => .cons (.int _ _) r⟩
theorem td_m (hK : W.K = hd.heap_39 W.w.params) {dd ss uu us : Int} (hu : us = uu + (ss + dd * 86400) * 1000000) (hlo : -1000000000000000000 < us) (hhi : us < 1000000000000000000) :
    CallKX W (n+4) 0 (.ref 149) [] ["days", "seconds", "microseconds"] [.int dd, .int ss, .int uu] (some (D.obj 149 (spanF us))) := by
  refine td_g hK (dd := dd) (hh := 0) (mm := 0) (ss := ss) (uu := uu) (by omega) hlo hhi ?_
  intro o fd h1 h2 x kvs hk
  refine (fun (e : List.lookup 139 (hd.heap_39 W.w.params) = some _) => ?g) (by k_is)
  rw [h1] at e
  cases e
  cases h2
  match kvs, hk with
  | [a, b, c], _ =>
    refine ⟨[a, .int 0 _, .int 0 _, b, c], fun S => by rfl, fun g r => ?_⟩
    match r with
    | .cons r1 r => exact .cons r1 (.cons (.int _ _) (.cons (.int _ _) r))
end

end Mine
end

section
open PySem PySem.W PySem.Calls PyProof.Rows
set_option Elab.async false
set_option linter.unusedVariables false
set_option maxRecDepth 100000
set_option maxHeartbeats 4000000
namespace Mine
local macro_rules | `(tactic| tm_at "len") => `(tactic| (simp only [PySem.Str.length_append, lit_0, lit_4, lit_3, lit_6, lit_d, lit_c, lit_s, lit_T, lit_p, lit_q, lit_e] at *; omega))
local macro_rules | `(tactic| tm_at "sd") => `(tactic| ((show (_ : Prop)); first | assumption | decide | omega | tm_at "len"))
local macro_rules | `(tactic| tm_at "call") => `(tactic| fail "no contract")
local macro_rules | `(tactic| tm_at "call") => `(tactic| (with_reducible refine' Call.strI ?_))
local macro_rules | `(tactic| tm_at "tr") => `(tactic| ((with_reducible show Tr _ _ _ _ _ _ _); first
  | exact Tr.andNil
  | exact Tr.orNil
  | ((with_reducible show Tr _ _ _ _ _ (PySem.Expr.BoolOp BoolOp.And _ _) _); refine' Tr.and ?_ ?_)
  | ((with_reducible show Tr _ _ _ _ _ (PySem.Expr.BoolOp BoolOp.Or _ _) _); refine' Tr.or ?_ ?_)
  | ((with_reducible show Tr _ _ _ _ _ (PySem.Expr.UnaryOp UnaryOp.Not _ _) _); refine' Tr.not ?_)
  | ((with_reducible show Tr _ _ _ _ _ (PySem.Expr.Compare _ [_] [_] _) _); refine' Tr.cmp ?_ ?_ ?_ ?_)
  | ((with_reducible show Tr _ _ _ _ _ (PySem.Expr.Compare _ [_, _] [_, _] _) _); refine' Tr.cmp2 ?_ ?_ ?_ ?_ ?_)
  | ((with_reducible show Tr _ _ _ _ _ (PySem.Expr.IfExp _ _ _ _) _); refine' Tr.ifexp ?_ ?_ ?_)
  | refine' Tr.plain ?_ ?_))
local macro_rules | `(tactic| tm_at "ev") => `(tactic| ((with_reducible show Ev _ _ _ _ _ _ _); first
  | ((with_reducible show Ev _ _ _ _ _ (PySem.Expr.Constant _ _ _) _); first | exact Ev.int | exact Ev.strc | exact Ev.boolc | exact Ev.nonec)
  | ((with_reducible show Ev _ _ _ _ _ (PySem.Expr.Name _ _) _); first | exact Ev.loc (by assumption) rfl | exact Ev.glob (by assumption) (glb_fnK (by assumption) (by k_is)) | exact Ev.bti (by assumption) (bti_fnK (by assumption) (by k_is) (by boot_fast)))
  | ((with_reducible show Ev _ _ _ _ _ (PySem.Expr.BinOp _ _ _ _) _); refine' Ev.bin ?_ ?_ ?_)
  | ((with_reducible show Ev _ _ _ _ _ (PySem.Expr.IfExp _ _ _ _) _); refine' Ev.ifexp ?_ ?_ ?_ ?_)
  | ((with_reducible show Ev _ _ _ _ _ (PySem.Expr.Subscript _ (PySem.Expr.Slice _ _ _ _) _) _); refine' Ev.slc ?_ ?_ ?_ ?_)
  | ((with_reducible show Ev _ _ _ _ _ (PySem.Expr.Subscript _ _ _) _); refine' Ev.sub ?_ ?_ ?_)
  | ((with_reducible show Ev _ _ _ _ _ (PySem.Expr.Call _ _ _ _) _); refine' Ev.call ?_ ?_ ?_ ?_)
  | ((with_reducible show Ev _ _ _ _ _ (PySem.Expr.Compare _ [_] [_] _) _); refine' Ev.cmp ?_ ?_ ?_)
  | ((with_reducible show Ev _ _ _ _ _ (PySem.Expr.Compare _ [_, _] [_, _] _) _); refine' Ev.cmp2 ?_ ?_ ?_ ?_ ?_)
  | ((with_reducible show Ev _ _ _ _ _ (PySem.Expr.BoolOp _ [_] _) _); refine' Ev.one ?_)
  | ((with_reducible show Ev _ _ _ _ _ (PySem.Expr.BoolOp _ _ _) _); refine' Ev.and ?_ ?_)
  | ((with_reducible show Ev _ _ _ _ _ (PySem.Expr.UnaryOp _ _ _) _); refine' Ev.un ?_ ?_)
  | ((with_reducible show Ev _ _ _ _ _ (PySem.Expr.Tuple _ _ _) _); refine' Ev.tup ?_ ?_)
  | ((with_reducible show Ev _ _ _ _ _ (PySem.Expr.List _ _) _); refine' Ev.lst ?_ ?_)))
local macro_rules | `(tactic| tm_at "op") => `(tactic| first
  | ((with_reducible show Bin _ _ _ _ _ _ _); with_reducible first | exact Bin.addI | exact Bin.subI | refine' Bin.divI | refine' Bin.modI | refine' Bin.mulI ?_ | refine' Bin.addS ?_)
  | ((with_reducible show Cmp _ _ _ _ _ _ _); with_reducible first | exact Cmp.eqI | exact Cmp.neI | exact Cmp.ltI | exact Cmp.leI | exact Cmp.gtI | exact Cmp.geI | exact Cmp.eqS | exact Cmp.neS)
  | ((with_reducible show Tru _ _ _ _ _); with_reducible first | exact Tru.bool | exact Tru.none | exact Tru.int | refine' Tru.str ?_)
  | ((with_reducible show EvL _ _ _ _ _ _ _); first | exact EvL.nil | refine' EvL.cons ?_ ?_)
  | ((with_reducible show EvP _ _ _ _ _ _ _); first | exact EvP.none | refine' EvP.some ?_)
  | ((with_reducible show Keep _ _); first | exact keep_type | exact keep_builtin | exact keep_refK (by assumption) (by k_is))
  | ((with_reducible show Sub _ _ _ _ _ _); first | exact Sub.tup rfl rfl | refine' Sub.lst ?_ rfl)
  | ((with_reducible show Slc _ _ _ _ _ _ _); first | refine' Slc.str ?_ | refine' Slc.lst ?_ | refine' Slc.tupFrom ?_ ?_ ?_)
  | ((with_reducible show Jn _ _ _ _); with_reducible first | exact Jn.int _ _ | exact Jn.str _ _ | exact Jn.bool _ _ | exact Jn.same _)
  | ((with_reducible show Un _ _ _ _ _ _); with_reducible exact Un.neg)
  | ((with_reducible show Call _ _ _ _ _ _); tm_at "call"))
local macro_rules | `(tactic| tm_at "step") => `(tactic| first | tm_at "ev" | tm_at "tr" | tm_at "op" | (with_reducible refine' fun (_ : _ = _) => ?_) | tm_at "sd")
local macro_rules | `(tactic| tm_at "go") => `(tactic| repeat' (tm_at "step"))
theorem ldKC4 : hd.heap_39 = hd.heap_39 ∧ PySem.Challenge.rw_fe0239_01 = PySem.Challenge.rw_fe0239_01 := by
  k_fill
  exact ⟨rfl, rfl⟩
section
variable {W : Wd} {n : Nat} {hd' : Nat}
theorem mul_c (hK : W.K = hd.heap_39 W.w.params) {us k : Int} (hk : k = 1 ∨ k = -1) (hlo : -1000000000000000000 < us) (hhi : us < 1000000000000000000) : Call W (n+5) 0 (.ref 146) [.obj 149 (spanF us), .int k] (.obj 149 (spanF (us * k))) := by
  refine Call.of_body ["self", "factor"] (by rw [hK]; k_is) (by rw [hK]; k_is) rfl (by intro vs hl; match vs, hl with | [a,b], _ => rfl) rfl (by decide) ?_
  intro fd sc hsc F
  dsimp only at hsc
  subst hsc
  obtain ⟨r1, r2, r3⟩ := rdd149 hK
  refine Ex.ret (EvX.ev (EvX.callK ?f (.cons (Ev.bin (Ev.attr (fs := spanF us) (i := us / 86400000000) ?s1 rfl r1) ?f1 (Bin.mulI (j := k) ?b1)) (.cons (Ev.bin (Ev.attr (fs := spanF us) (i := us % 86400000000 / 1000000) ?s2 rfl r2) ?f2 (Bin.mulI (j := k) ?b2)) (.cons (Ev.bin (Ev.attr (fs := spanF us) (i := us % 86400000000 % 1000000) ?s3 rfl r3) ?f3 (Bin.mulI (j := k) ?b3)) .nil))) ?k (td_m hK (us := us * k) ?u ?lo ?hi))) (.inl rfl)
  case f => tm_at "go"
  case k => tm_at "go"
  case s1 => tm_at "go"
  case s2 => tm_at "go"
  case s3 => tm_at "go"
  case f1 => tm_at "go"
  case f2 => tm_at "go"
  case f3 => tm_at "go"
  all_goals (rcases hk with rfl | rfl <;> omega)
theorem bmul (hK : W.K = hd.heap_39 W.w.params) {us k : Int} (hk : k = 1 ∨ k = -1) (hlo : -1000000000000000000 < us) (hhi : us < 1000000000000000000) : Bin W (n+5) 0 .Mult (.obj 149 (spanF us)) (.int k) (.obj 149 (spanF (us * k))) :=
  Bin.own (by rw [hK]; k_is) (by rw [hK]; k_is) (by rw [hK]; k_is) (by rw [hK]; k_is) (by rw [hK]; k_is) (by rw [hK]; k_is) (by rw [hK]; k_is) (mul_c hK hk hlo hhi)
theorem frac0 (hK : W.K = hd.heap_39 W.w.params) : Call W (n+1) hd' (.ref 324) [.none] (.int 0) := by
  refine Call.of_body ["s"] (by rw [hK]; k_is) (by rw [hK]; k_is) rfl (by intro vs hl; match vs, hl with | [a], _ => rfl) rfl (by decide) ?_
  intro fd sc hsc F
  dsimp only at hsc
  subst hsc
  refine Ex.ift (b := ?b) ?t ?h (Ex.ret Ev.int (.inl rfl))
  case t => tm_at "go"
  case h => rfl
def micOf (x : PySem.Str) : PySem.Str := sl (Txt.ljustF x 6 48) none (some 6)
theorem frac1 (hK : W.K = hd.heap_39 W.w.params) {x : PySem.Str} {v : Int} (h0 : x.length ≠ 0) (hz : x.length ≤ 6) (hz2 : (Txt.ljustF x 6 48).length ≤ 100) (hz3 : (micOf x).length ≤ 100) (hv : PySem.intText? (micOf x) = some v) : Call W (n+1) hd' (.ref 324) [.str x] (.int v) := by
  refine Call.of_body ["s"] (by rw [hK]; k_is) (by rw [hK]; k_is) rfl (by intro vs hl; match vs, hl with | [a], _ => rfl) rfl (by decide) ?_
  intro fd sc hsc F
  dsimp only at hsc
  subst hsc
  refine Ex.iff (b := ?b) ?t ?h (Ex.nil ?_)
  case t => tm_at "go"
  case h => simp [h0]
  refine Ex.assign F (Ev.meth (d0 := .str x) (d := .str (Txt.ljustF x 6 48)) ?o ?l (Meth.str PySem.F.slot_str_ljust PySem.F.type_str_ljust) (Call.ljust (x := x) (i := 6) (f := PySem.Str.ofString "0") (by decide) (by decide))) ?_
  case o => tm_at "go"
  case l => tm_at "go"
  refine Ex.ret (Ev.call ?f ?l2 ?k (Call.int_good (x := micOf x) ?z hv)) (.inl rfl)
  case f => tm_at "go"
  case l2 => tm_at "go"
  case k => tm_at "go"
  case z => omega
end

end Mine
end

section
open PySem PySem.W PySem.Calls PyProof.Rows
set_option Elab.async false
set_option linter.unusedVariables false
set_option maxRecDepth 100000
set_option maxHeartbeats 4000000
namespace Mine
local macro_rules | `(tactic| tm_at "len") => `(tactic| (simp only [PySem.Str.length_append, lit_0, lit_4, lit_3, lit_6, lit_d, lit_c, lit_s, lit_T, lit_p, lit_q, lit_e] at *; omega))
local macro_rules | `(tactic| tm_at "sd") => `(tactic| ((show (_ : Prop)); first | assumption | decide | omega | tm_at "len"))
local macro_rules | `(tactic| tm_at "call") => `(tactic| fail "no contract")
local macro_rules | `(tactic| tm_at "call") => `(tactic| (with_reducible refine' Call.strI ?_))
local macro_rules | `(tactic| tm_at "tr") => `(tactic| ((with_reducible show Tr _ _ _ _ _ _ _); first
  | exact Tr.andNil
  | exact Tr.orNil
  | ((with_reducible show Tr _ _ _ _ _ (PySem.Expr.BoolOp BoolOp.And _ _) _); refine' Tr.and ?_ ?_)
  | ((with_reducible show Tr _ _ _ _ _ (PySem.Expr.BoolOp BoolOp.Or _ _) _); refine' Tr.or ?_ ?_)
  | ((with_reducible show Tr _ _ _ _ _ (PySem.Expr.UnaryOp UnaryOp.Not _ _) _); refine' Tr.not ?_)
  | ((with_reducible show Tr _ _ _ _ _ (PySem.Expr.Compare _ [_] [_] _) _); refine' Tr.cmp ?_ ?_ ?_ ?_)
  | ((with_reducible show Tr _ _ _ _ _ (PySem.Expr.Compare _ [_, _] [_, _] _) _); refine' Tr.cmp2 ?_ ?_ ?_ ?_ ?_)
  | ((with_reducible show Tr _ _ _ _ _ (PySem.Expr.IfExp _ _ _ _) _); refine' Tr.ifexp ?_ ?_ ?_)
  | refine' Tr.plain ?_ ?_))
local macro_rules | `(tactic| tm_at "ev") => `(tactic| ((with_reducible show Ev _ _ _ _ _ _ _); first
  | ((with_reducible show Ev _ _ _ _ _ (PySem.Expr.Constant _ _ _) _); first | exact Ev.int | exact Ev.strc | exact Ev.boolc | exact Ev.nonec)
  | ((with_reducible show Ev _ _ _ _ _ (PySem.Expr.Name _ _) _); first | exact Ev.loc (by assumption) rfl | exact Ev.glob (by assumption) (glb_fnK (by assumption) (by k_is)) | exact Ev.bti (by assumption) (bti_fnK (by assumption) (by k_is) (by boot_fast)))
  | ((with_reducible show Ev _ _ _ _ _ (PySem.Expr.BinOp _ _ _ _) _); refine' Ev.bin ?_ ?_ ?_)
  | ((with_reducible show Ev _ _ _ _ _ (PySem.Expr.IfExp _ _ _ _) _); refine' Ev.ifexp ?_ ?_ ?_ ?_)
  | ((with_reducible show Ev _ _ _ _ _ (PySem.Expr.Subscript _ (PySem.Expr.Slice _ _ _ _) _) _); refine' Ev.slc ?_ ?_ ?_ ?_)
  | ((with_reducible show Ev _ _ _ _ _ (PySem.Expr.Subscript _ _ _) _); refine' Ev.sub ?_ ?_ ?_)
  | ((with_reducible show Ev _ _ _ _ _ (PySem.Expr.Call _ _ _ _) _); refine' Ev.call ?_ ?_ ?_ ?_)
  | ((with_reducible show Ev _ _ _ _ _ (PySem.Expr.Compare _ [_] [_] _) _); refine' Ev.cmp ?_ ?_ ?_)
  | ((with_reducible show Ev _ _ _ _ _ (PySem.Expr.Compare _ [_, _] [_, _] _) _); refine' Ev.cmp2 ?_ ?_ ?_ ?_ ?_)
  | ((with_reducible show Ev _ _ _ _ _ (PySem.Expr.BoolOp _ [_] _) _); refine' Ev.one ?_)
  | ((with_reducible show Ev _ _ _ _ _ (PySem.Expr.BoolOp _ _ _) _); refine' Ev.and ?_ ?_)
  | ((with_reducible show Ev _ _ _ _ _ (PySem.Expr.UnaryOp _ _ _) _); refine' Ev.un ?_ ?_)
  | ((with_reducible show Ev _ _ _ _ _ (PySem.Expr.Tuple _ _ _) _); refine' Ev.tup ?_ ?_)
  | ((with_reducible show Ev _ _ _ _ _ (PySem.Expr.List _ _) _); refine' Ev.lst ?_ ?_)))
local macro_rules | `(tactic| tm_at "op") => `(tactic| first
  | ((with_reducible show Bin _ _ _ _ _ _ _); with_reducible first | exact Bin.addI | exact Bin.subI | refine' Bin.divI | refine' Bin.modI | refine' Bin.mulI ?_ | refine' Bin.addS ?_)
  | ((with_reducible show Cmp _ _ _ _ _ _ _); with_reducible first | exact Cmp.eqI | exact Cmp.neI | exact Cmp.ltI | exact Cmp.leI | exact Cmp.gtI | exact Cmp.geI | exact Cmp.eqS | exact Cmp.neS)
  | ((with_reducible show Tru _ _ _ _ _); with_reducible first | exact Tru.bool | exact Tru.none | exact Tru.int | refine' Tru.str ?_)
  | ((with_reducible show EvL _ _ _ _ _ _ _); first | exact EvL.nil | refine' EvL.cons ?_ ?_)
  | ((with_reducible show EvP _ _ _ _ _ _ _); first | exact EvP.none | refine' EvP.some ?_)
  | ((with_reducible show Keep _ _); first | exact keep_type | exact keep_builtin | exact keep_refK (by assumption) (by k_is))
  | ((with_reducible show Sub _ _ _ _ _ _); first | exact Sub.tup rfl rfl | refine' Sub.lst ?_ rfl)
  | ((with_reducible show Slc _ _ _ _ _ _ _); first | refine' Slc.str ?_ | refine' Slc.lst ?_ | refine' Slc.tupFrom ?_ ?_ ?_)
  | ((with_reducible show Jn _ _ _ _); with_reducible first | exact Jn.int _ _ | exact Jn.str _ _ | exact Jn.bool _ _ | exact Jn.same _)
  | ((with_reducible show Un _ _ _ _ _ _); with_reducible exact Un.neg)
  | ((with_reducible show Call _ _ _ _ _ _); tm_at "call"))
local macro_rules | `(tactic| tm_at "step") => `(tactic| first | tm_at "ev" | tm_at "tr" | tm_at "op" | (with_reducible refine' fun (_ : _ = _) => ?_) | tm_at "sd")
local macro_rules | `(tactic| tm_at "go") => `(tactic| repeat' (tm_at "step"))
theorem ldKC5 : hd.heap_39 = hd.heap_39 ∧ PySem.Challenge.rw_fe0239_01 = PySem.Challenge.rw_fe0239_01 := by
  k_fill
  exact ⟨rfl, rfl⟩
def ArgOf (x : PySem.Str) (d : D) : Prop := d = .str x ∨ d = .bytes (toB x) ∨ d = .bar (toB x)
structure Asc (x : PySem.Str) : Prop where
  l : x.length ≤ 100
  a : ∀ c ∈ x.cps.toList, c < 128
abbrev DecP (x : PySem.Str) : Out → Prop := fun o => ∃ τ, o = .next τ ∧ Sup τ [("obj", .str x)]
def FI : D → Option D
  | .str x => (PySem.intText? x).map D.int
  | .int i => some (.int i)
  | _ => none
theorem mapO_FI : ∀ l : List PySem.Str, mapO FI (l.map D.str) = (mapO PySem.intText? l).map (List.map D.int)
  | [] => rfl
  | x :: l => by
    have ih := mapO_FI l
    simp only [List.map_cons, mapO, FI, ih]
    cases PySem.intText? x <;> simp
    cases mapO PySem.intText? l <;> simp
section
variable {W : Wd} {fd : FuncData} {n : Nat} {hd' : Nat} {P : Out → Prop}
theorem dec_if {x : PySem.Str} {d : D} (a : ArgOf x d) {st : Stmt} {rest : List Stmt} (h1 : Ex W fd n hd' [("obj", .str x)] [st] (DecP x)) (h2 : Ex W fd n hd' [("obj", .bytes (toB x))] [st] (DecP x)) (h3 : Ex W fd n hd' [("obj", .bar (toB x))] [st] (DecP x))
    (h : ExC W fd n hd' [("obj", .str x)] rest P) : ExC W fd n hd' [("obj", d)] (st :: rest) P := by
  have k : ∀ o, DecP x o → KntC W fd n hd' rest P o := by
    rintro o ⟨τ, rfl, hs⟩
    exact ExC.sup h hs
  rcases a with rfl | rfl | rfl
  · exact ExC.pre h1 k
  · exact ExC.pre h2 k
  · exact ExC.pre h3 k
end
local macro_rules | `(tactic| tm_at "call") => `(tactic| first | exact Call.decode (Nat.le_trans (Asc.l (by assumption)) (by decide)) (Asc.a (by assumption)) | exact Call.decodeB (Nat.le_trans (Asc.l (by assumption)) (by decide)) (Asc.a (by assumption)))
theorem boot_ba : bootBuiltins "bytearray" = some (.type "bytearray") := by decide +kernel
local macro_rules | `(tactic| tm_at "sd") => `(tactic| exact Ev.bti (by assumption) (bti_fnK (by assumption) (by k_is) boot_ba))
local macro_rules | `(tactic| tm_at "isi") => `(tactic| (refine' Ev.call ?f ?l ?k (Call.isiTup (its := [.type "bytes", .type "bytearray"]) ?kd ?ke); (case f => tm_at "go"); (case l => (refine' EvL.cons ?o (EvL.cons (Ev.tup (ds := [.fn (.type "bytes"), .fn (.type "bytearray")]) ?t ?z) EvL.nil); (case o => tm_at "go"); (case z => decide); (case t => tm_at "go"))); (case k => tm_at "go"); (case kd => first | exact KitD.str | exact KitD.bytes | exact KitD.bar); (case ke => ((try rw [‹Wd.K _ = _›]); kit_is))))
local macro_rules | `(tactic| tm_at "dec1") => `(tactic| (refine' Ex.iff (b := false) (Tr.plain ?e Tru.bool) rfl (Ex.nil (Ex.nil ⟨_, rfl, Sup.refl⟩)); (case e => tm_at "isi")))
local macro_rules | `(tactic| tm_at "dec2") => `(tactic| (refine' Ex.ift (b := true) (Tr.plain ?e Tru.bool) rfl (Ex.assign (by assumption) (Ev.meth ?o ?l (Meth.bytes FB.slot_bytes_decode FB.type_bytes_decode) (Call.decode (Nat.le_trans (Asc.l (by assumption)) (by decide)) (Asc.a (by assumption)))) (Ex.nil (Ex.nil ⟨_, rfl, Sup.cons rfl Sup.nil⟩))); (case e => tm_at "isi"); (case o => tm_at "go"); (case l => tm_at "go")))
local macro_rules | `(tactic| tm_at "dec3") => `(tactic| (refine' Ex.ift (b := true) (Tr.plain ?e Tru.bool) rfl (Ex.assign (by assumption) (Ev.meth ?o ?l Meth.bar (Call.decodeB (Nat.le_trans (Asc.l (by assumption)) (by decide)) (Asc.a (by assumption)))) (Ex.nil (Ex.nil ⟨_, rfl, Sup.cons rfl Sup.nil⟩))); (case e => tm_at "isi"); (case o => tm_at "go"); (case l => tm_at "go")))
def dateR (x : PySem.Str) : Option (List Int) → D
  | some [y, m, d] => if okDate y m d then .obj 76 (dateF y m d) else .str x
  | _ => .str x
section
variable {W : Wd} {n : Nat} {hd' : Nat}
theorem cdate_c (hK : W.K = hd.heap_39 W.w.params) {x : PySem.Str} {d : D} (a : ArgOf x d) (as : Asc x) {rs : Option (List Int)} (hsp : mapO PySem.intText? (Txt.splitMax x (PySem.Str.ofString "-") 2) = rs) (hlen : ∀ l, rs = some l → ∃ y m dd, l = [y, m, dd] ∧ in32 y ∧ in32 m ∧ in32 dd) (hpl : (Txt.splitMax x (PySem.Str.ofString "-") 2).length ≤ 10 ∧ ∀ y ∈ Txt.splitMax x (PySem.Str.ofString "-") 2, y.length ≤ 640 ∧ ∀ c ∈ y.cps.toList, c < 128)
    (hh : rs ≠ none → hd' = 0) (hle : hd' ≤ 1) : CallC W (n+5) hd' (.ref 363) [d] (dateR x rs) := by
  refine CallC.of_body ["obj"] (by rw [hK]; k_is) (by rw [hK]; k_is) rfl (by intro vs hl; match vs, hl with | [a], _ => rfl) rfl (by decide) ?_
  intro fd sc hsc F
  dsimp only at hsc
  subst hsc
  refine dec_if a ?d1 ?d2 ?d3 ?go
  case d1 => tm_at "dec1"
  case d2 => tm_at "dec2"
  case d3 => tm_at "dec3"
  have e0 : mapO FI ((Txt.splitMax x (PySem.Str.ofString "-") 2).map D.str) = rs.map (List.map D.int) := by rw [mapO_FI, hsp]
  obtain ⟨r, hr⟩ : ∃ r : Option D, r = rs.bind fun l => match l with | [y, m, dd] => (if okDate y m dd then some (dateF y m dd) else none).map (D.obj 76) | _ => none := ⟨_, rfl⟩
  have hR : dateR x rs = r.getD (.str x) := by
    subst hr
    unfold dateR
    split
    · rename_i y m dd
      show _ = Option.getD ((if okDate y m dd then some (dateF y m dd) else none).map (D.obj 76)) _
      cases okDate y m dd <;> rfl
    · rename_i hno
      cases rs with
      | none => rfl
      | some l =>
        obtain ⟨y, m, dd, rfl, _⟩ := hlen l rfl
        exact absurd rfl (hno y m dd)
  rw [hR]
  refine ExC.try_ (R := r = none) F (ExXC.ret1 (EvXC.star (f := .ref 76) (rs := rs.map (List.map D.int)) (r := r) ?f ?l ?k ?c ?z ?n) ?p (fun q => q)) (fun q _ => ExC.ret (Ev.loc F rfl).c ?p1) (fun q _ => ExC.ret (Ev.loc F rfl).c ?p2) (ve_b hK)
  case f => tm_at "go"
  case k => tm_at "go"
  case l =>
    rw [← e0]
    refine EvXC.comp (ds := (Txt.splitMax x (PySem.Str.ofString "-") 2).map D.str) (F := FI) (Ev.meth (d0 := .str x) (ds := [.str (PySem.Str.ofString "-"), .int 2]) ?o ?l2 (Meth.str PySem.F.slot_str_split PySem.F.type_str_split) (Call.split (by decide) (by decide) ?z2)) (by decide) ?elt ?z3 ?h3 (by decide) (by decide) rfl (by decide)
    case o => tm_at "go"
    case l2 => tm_at "go"
    case z2 => have := as.l; omega
    case elt =>
      intro d hd
      obtain ⟨y, hy, rfl⟩ := List.mem_map.mp hd
      exact Elt.call1 F (bti_fnK (by assumption) (by k_is) (by boot_fast)) keep_type (CallXC.int (hpl.2 y hy).1 (hpl.2 y hy).2 hle) rfl rfl rfl
    case z3 => rw [List.length_map]; omega
    case h3 =>
      intro q
      refine hh fun q' => q ?_
      rw [e0, q']; rfl
  case c =>
    intro ds q
    cases rs with
    | none => cases q
    | some l =>
      obtain ⟨y, m, dd, rfl, i1, i2, i3⟩ := hlen l rfl
      cases q
      subst hr
      obtain rfl := hh (by simp)
      exact (CallX.of_k (date_c hK i1 i2 i3)).c
  case z =>
    intro ds q
    cases rs with
    | none => cases q
    | some l =>
      obtain ⟨y, m, dd, rfl, i1, i2, i3⟩ := hlen l rfl
      cases q
      show (3 : Nat) ≤ 10000
      decide
  case n =>
    intro q
    subst hr
    cases rs with
    | none => rfl
    | some l => cases q
  case p =>
    intro d q
    exact .inl (by rw [q]; rfl)
  case p1 => exact .inl (by rw [q]; rfl)
  case p2 => exact .inl (by rw [q]; rfl)
end

end Mine
end

section
open PySem PySem.W PySem.Calls PyProof.Rows
set_option Elab.async false
set_option linter.unusedVariables false
set_option maxRecDepth 100000
set_option maxHeartbeats 4000000
namespace Mine
local macro_rules | `(tactic| tm_at "len") => `(tactic| (simp only [PySem.Str.length_append, lit_0, lit_4, lit_3, lit_6, lit_d, lit_c, lit_s, lit_T, lit_p, lit_q, lit_e] at *; omega))
local macro_rules | `(tactic| tm_at "sd") => `(tactic| ((show (_ : Prop)); first | assumption | decide | omega | tm_at "len"))
local macro_rules | `(tactic| tm_at "call") => `(tactic| fail "no contract")
local macro_rules | `(tactic| tm_at "call") => `(tactic| (with_reducible refine' Call.strI ?_))
local macro_rules | `(tactic| tm_at "tr") => `(tactic| ((with_reducible show Tr _ _ _ _ _ _ _); first
  | exact Tr.andNil
  | exact Tr.orNil
  | ((with_reducible show Tr _ _ _ _ _ (PySem.Expr.BoolOp BoolOp.And _ _) _); refine' Tr.and ?_ ?_)
  | ((with_reducible show Tr _ _ _ _ _ (PySem.Expr.BoolOp BoolOp.Or _ _) _); refine' Tr.or ?_ ?_)
  | ((with_reducible show Tr _ _ _ _ _ (PySem.Expr.UnaryOp UnaryOp.Not _ _) _); refine' Tr.not ?_)
  | ((with_reducible show Tr _ _ _ _ _ (PySem.Expr.Compare _ [_] [_] _) _); refine' Tr.cmp ?_ ?_ ?_ ?_)
  | ((with_reducible show Tr _ _ _ _ _ (PySem.Expr.Compare _ [_, _] [_, _] _) _); refine' Tr.cmp2 ?_ ?_ ?_ ?_ ?_)
  | ((with_reducible show Tr _ _ _ _ _ (PySem.Expr.IfExp _ _ _ _) _); refine' Tr.ifexp ?_ ?_ ?_)
  | refine' Tr.plain ?_ ?_))
local macro_rules | `(tactic| tm_at "ev") => `(tactic| ((with_reducible show Ev _ _ _ _ _ _ _); first
  | ((with_reducible show Ev _ _ _ _ _ (PySem.Expr.Constant _ _ _) _); first | exact Ev.int | exact Ev.strc | exact Ev.boolc | exact Ev.nonec)
  | ((with_reducible show Ev _ _ _ _ _ (PySem.Expr.Name _ _) _); first | exact Ev.loc (by assumption) rfl | exact Ev.glob (by assumption) (glb_fnK (by assumption) (by k_is)) | exact Ev.bti (by assumption) (bti_fnK (by assumption) (by k_is) (by boot_fast)))
  | ((with_reducible show Ev _ _ _ _ _ (PySem.Expr.BinOp _ _ _ _) _); refine' Ev.bin ?_ ?_ ?_)
  | ((with_reducible show Ev _ _ _ _ _ (PySem.Expr.IfExp _ _ _ _) _); refine' Ev.ifexp ?_ ?_ ?_ ?_)
  | ((with_reducible show Ev _ _ _ _ _ (PySem.Expr.Subscript _ (PySem.Expr.Slice _ _ _ _) _) _); refine' Ev.slc ?_ ?_ ?_ ?_)
  | ((with_reducible show Ev _ _ _ _ _ (PySem.Expr.Subscript _ _ _) _); refine' Ev.sub ?_ ?_ ?_)
  | ((with_reducible show Ev _ _ _ _ _ (PySem.Expr.Call _ _ _ _) _); refine' Ev.call ?_ ?_ ?_ ?_)
  | ((with_reducible show Ev _ _ _ _ _ (PySem.Expr.Compare _ [_] [_] _) _); refine' Ev.cmp ?_ ?_ ?_)
  | ((with_reducible show Ev _ _ _ _ _ (PySem.Expr.Compare _ [_, _] [_, _] _) _); refine' Ev.cmp2 ?_ ?_ ?_ ?_ ?_)
  | ((with_reducible show Ev _ _ _ _ _ (PySem.Expr.BoolOp _ [_] _) _); refine' Ev.one ?_)
  | ((with_reducible show Ev _ _ _ _ _ (PySem.Expr.BoolOp _ _ _) _); refine' Ev.and ?_ ?_)
  | ((with_reducible show Ev _ _ _ _ _ (PySem.Expr.UnaryOp _ _ _) _); refine' Ev.un ?_ ?_)
  | ((with_reducible show Ev _ _ _ _ _ (PySem.Expr.Tuple _ _ _) _); refine' Ev.tup ?_ ?_)
  | ((with_reducible show Ev _ _ _ _ _ (PySem.Expr.List _ _) _); refine' Ev.lst ?_ ?_)))
local macro_rules | `(tactic| tm_at "op") => `(tactic| first
  | ((with_reducible show Bin _ _ _ _ _ _ _); with_reducible first | exact Bin.addI | exact Bin.subI | refine' Bin.divI | refine' Bin.modI | refine' Bin.mulI ?_ | refine' Bin.addS ?_)
  | ((with_reducible show Cmp _ _ _ _ _ _ _); with_reducible first | exact Cmp.eqI | exact Cmp.neI | exact Cmp.ltI | exact Cmp.leI | exact Cmp.gtI | exact Cmp.geI | exact Cmp.eqS | exact Cmp.neS)
  | ((with_reducible show Tru _ _ _ _ _); with_reducible first | exact Tru.bool | exact Tru.none | exact Tru.int | refine' Tru.str ?_)
  | ((with_reducible show EvL _ _ _ _ _ _ _); first | exact EvL.nil | refine' EvL.cons ?_ ?_)
  | ((with_reducible show EvP _ _ _ _ _ _ _); first | exact EvP.none | refine' EvP.some ?_)
  | ((with_reducible show Keep _ _); first | exact keep_type | exact keep_builtin | exact keep_refK (by assumption) (by k_is))
  | ((with_reducible show Sub _ _ _ _ _ _); first | exact Sub.tup rfl rfl | refine' Sub.lst ?_ rfl)
  | ((with_reducible show Slc _ _ _ _ _ _ _); first | refine' Slc.str ?_ | refine' Slc.lst ?_ | refine' Slc.tupFrom ?_ ?_ ?_)
  | ((with_reducible show Jn _ _ _ _); with_reducible first | exact Jn.int _ _ | exact Jn.str _ _ | exact Jn.bool _ _ | exact Jn.same _)
  | ((with_reducible show Un _ _ _ _ _ _); with_reducible exact Un.neg)
  | ((with_reducible show Call _ _ _ _ _ _); tm_at "call"))
local macro_rules | `(tactic| tm_at "step") => `(tactic| first | tm_at "ev" | tm_at "tr" | tm_at "op" | (with_reducible refine' fun (_ : _ = _) => ?_) | tm_at "sd")
local macro_rules | `(tactic| tm_at "go") => `(tactic| repeat' (tm_at "step"))
theorem ldKC6 : hd.heap_39 = hd.heap_39 ∧ PySem.Challenge.rw_fe0239_01 = PySem.Challenge.rw_fe0239_01 := by
  k_fill
  exact ⟨rfl, rfl⟩
local macro_rules | `(tactic| tm_at "call") => `(tactic| first | exact Call.decode (Nat.le_trans (Asc.l (by assumption)) (by decide)) (Asc.a (by assumption)) | exact Call.decodeB (Nat.le_trans (Asc.l (by assumption)) (by decide)) (Asc.a (by assumption)))
local macro_rules | `(tactic| tm_at "sd") => `(tactic| exact Ev.bti (by assumption) (bti_fnK (by assumption) (by k_is) boot_ba))
local macro_rules | `(tactic| tm_at "isi") => `(tactic| (refine' Ev.call ?f ?l ?k (Call.isiTup (its := [.type "bytes", .type "bytearray"]) ?kd ?ke); (case f => tm_at "go"); (case l => (refine' EvL.cons ?o (EvL.cons (Ev.tup (ds := [.fn (.type "bytes"), .fn (.type "bytearray")]) ?t ?z) EvL.nil); (case o => tm_at "go"); (case z => decide); (case t => tm_at "go"))); (case k => tm_at "go"); (case kd => first | exact KitD.str | exact KitD.bytes | exact KitD.bar); (case ke => ((try rw [‹Wd.K _ = _›]); kit_is))))
local macro_rules | `(tactic| tm_at "dec1") => `(tactic| (refine' Ex.iff (b := false) (Tr.plain ?e Tru.bool) rfl (Ex.nil (Ex.nil ⟨_, rfl, Sup.refl⟩)); (case e => tm_at "isi")))
local macro_rules | `(tactic| tm_at "dec2") => `(tactic| (refine' Ex.ift (b := true) (Tr.plain ?e Tru.bool) rfl (Ex.assign (by assumption) (Ev.meth ?o ?l (Meth.bytes FB.slot_bytes_decode FB.type_bytes_decode) (Call.decode (Nat.le_trans (Asc.l (by assumption)) (by decide)) (Asc.a (by assumption)))) (Ex.nil (Ex.nil ⟨_, rfl, Sup.cons rfl Sup.nil⟩))); (case e => tm_at "isi"); (case o => tm_at "go"); (case l => tm_at "go")))
local macro_rules | `(tactic| tm_at "dec3") => `(tactic| (refine' Ex.ift (b := true) (Tr.plain ?e Tru.bool) rfl (Ex.assign (by assumption) (Ev.meth ?o ?l Meth.bar (Call.decodeB (Nat.le_trans (Asc.l (by assumption)) (by decide)) (Asc.a (by assumption)))) (Ex.nil (Ex.nil ⟨_, rfl, Sup.cons rfl Sup.nil⟩))); (case e => tm_at "isi"); (case o => tm_at "go"); (case l => tm_at "go")))
theorem intsV_list (l : List Nat) : intsV l.toArray = (l.map fun c => Value.int (c : Nat) 0).toArray := by simp [intsV]
def LastOk (last : D) (mic : Int) : Prop := (last = .none ∧ mic = 0) ∨ ∃ f, last = .str f ∧ f.length ≠ 0 ∧ f.length ≤ 6 ∧ (Txt.ljustF f 6 48).length ≤ 100 ∧ (micOf f).length ≤ 100 ∧ PySem.intText? (micOf f) = some mic
theorem LastOk.flat {last : D} {mic : Int} (h : LastOk last mic) : last.flat = true := by
  rcases h with ⟨rfl, _⟩ | ⟨f, rfl, _⟩ <;> rfl
section
variable {W : Wd} {n : Nat} {hd' : Nat}
theorem frac_c (hK : W.K = hd.heap_39 W.w.params) {last : D} {mic : Int} (h : LastOk last mic) : Call W (n+1) hd' (.ref 324) [last] (.int mic) := by
  rcases h with ⟨rfl, rfl⟩ | ⟨f, rfl, h1, h2, h3, h4, h5⟩
  · exact frac0 hK
  · exact frac1 hK h1 h2 h3 h4 h5
theorem ExX.nx {fd : FuncData} {τ : Sg} {R : Prop} : ExX W fd n hd' τ [] (fun o => o = .next τ) R := (show Ex W fd n hd' τ [] (fun o => o = .next τ) from Ex.nil rfl).x
theorem full_DT (hK : W.K = hd.heap_39 W.w.params) {x : PySem.Str} (as : Asc x) : Call W n hd' (.builtin "re.Pattern.fullmatch") [.fn (.ref 329), .str x] (matD x ((scan x.cps 6 itsDT 0).map (spOf 7))) :=
  Call.full hK (C := codeDT) (by k_is) (by k_is) rfl (by unfold codeDT; rw [intsV_list]; rfl) re_DT (by have := as.l; show x.length ≤ _; omega) (by decide)
theorem full_TM (hK : W.K = hd.heap_39 W.w.params) {x : PySem.Str} (as : Asc x) : Call W n hd' (.builtin "re.Pattern.fullmatch") [.fn (.ref 351), .str x] (matD x ((scan x.cps 3 itsTM 0).map (spOf 4))) :=
  Call.full hK (C := codeTM) (by k_is) (by k_is) rfl (by unfold codeTM; rw [intsV_list]; rfl) re_TM (by have := as.l; show x.length ≤ _; omega) (by decide)
theorem full_TD (hK : W.K = hd.heap_39 W.w.params) {x : PySem.Str} (as : Asc x) : Call W n hd' (.builtin "re.Pattern.fullmatch") [.fn (.ref 339), .str x] (matD x ((scanS x.cps 45 4 itsTD 0).map (spOf 5))) :=
  Call.full hK (C := codeTD) (by k_is) (by k_is) rfl (by unfold codeTD; rw [intsV_list]; rfl) re_TD (by have := as.l; show x.length ≤ _; omega) (by decide)
theorem cdt_n (hK : W.K = hd.heap_39 W.w.params) {x : PySem.Str} {d : D} (a : ArgOf x d) (as : Asc x) (hs : scan x.cps 6 itsDT 0 = none) {rs : Option (List Int)} (hsp : mapO PySem.intText? (Txt.splitMax x (PySem.Str.ofString "-") 2) = rs) (hlen : ∀ l, rs = some l → ∃ y m dd, l = [y, m, dd] ∧ in32 y ∧ in32 m ∧ in32 dd) (hpl : (Txt.splitMax x (PySem.Str.ofString "-") 2).length ≤ 10 ∧ ∀ y ∈ Txt.splitMax x (PySem.Str.ofString "-") 2, y.length ≤ 640 ∧ ∀ c ∈ y.cps.toList, c < 128)
    : CallC W (n+6) 0 (.ref 334) [d] (dateR x rs) := by
  refine CallC.of_body ["obj"] (by rw [hK]; k_is) (by rw [hK]; k_is) rfl (by intro vs hl; match vs, hl with | [a], _ => rfl) rfl (by decide) ?_
  intro fd sc hsc F
  dsimp only at hsc
  subst hsc
  refine dec_if a ?d1 ?d2 ?d3 ?go
  case d1 => tm_at "dec1"
  case d2 => tm_at "dec2"
  case d3 => tm_at "dec3"
  have fm := full_DT (n := n + 5) (hd' := 0) hK as
  rw [hs] at fm
  refine ExC.assign F (Ev.meth (d0 := .fn (.ref 329)) (ds := [.str x]) ?o ?l (Meth.pat hK (by k_is)) fm).c ?_
  case o => tm_at "go"
  case l => tm_at "go"
  refine ExC.ift (b := !false) (Tr.not (Tr.plain (Ev.loc F rfl) Tru.none)).c rfl (ExC.ret (EvC.call ?f ?l2 ?k (cdate_c hK (.inl rfl) as hsp hlen hpl (fun _ => rfl) (Nat.zero_le _))) (.inl rfl))
  case f => tm_at "go"
  case l2 => tm_at "go"
  case k => tm_at "go"
theorem cdt_m (hK : W.K = hd.heap_39 W.w.params) {x : PySem.Str} {d : D} (a : ArgOf x d) (as : Asc x) {sp : Sps} (hs : (scan x.cps 6 itsDT 0).map (spOf 7) = some sp) {g0 g1 g2 g3 g4 g5 : PySem.Str} {last : D} {mic v0 v1 v2 v3 v4 v5 : Int} (hg : sp.map (slc x) = [.str g0, .str g1, .str g2, .str g3, .str g4, .str g5, last]) (hl : LastOk last mic)
    (e0 : PySem.intText? g0 = some v0) (e1 : PySem.intText? g1 = some v1) (e2 : PySem.intText? g2 = some v2) (e3 : PySem.intText? g3 = some v3) (e4 : PySem.intText? g4 = some v4) (e5 : PySem.intText? g5 = some v5)
    (l0 : g0.length ≤ 640 ∧ g1.length ≤ 640 ∧ g2.length ≤ 640 ∧ g3.length ≤ 640 ∧ g4.length ≤ 640 ∧ g5.length ≤ 640) (i0 : in32 v0) (i1 : in32 v1) (i2 : in32 v2) (i3 : in32 v3) (i4 : in32 v4) (i5 : in32 v5) (i6 : in32 mic)
    (hsp : mapO PySem.intText? (Txt.splitMax x (PySem.Str.ofString "-") 2) = none) (hpl : (Txt.splitMax x (PySem.Str.ofString "-") 2).length ≤ 10 ∧ ∀ y ∈ Txt.splitMax x (PySem.Str.ofString "-") 2, y.length ≤ 640 ∧ ∀ c ∈ y.cps.toList, c < 128)
    : CallC W (n+6) 0 (.ref 334) [d] (if okDate v0 v1 v2 && okTime v3 v4 v5 mic then .obj 120 (dtF v0 v1 v2 v3 v4 v5 mic) else .str x) := by
  refine CallC.of_body ["obj"] (by rw [hK]; k_is) (by rw [hK]; k_is) rfl (by intro vs hl; match vs, hl with | [a], _ => rfl) rfl (by decide) ?_
  intro fd sc hsc F
  dsimp only at hsc
  subst hsc
  refine dec_if a ?d1 ?d2 ?d3 ?go
  case d1 => tm_at "dec1"
  case d2 => tm_at "dec2"
  case d3 => tm_at "dec3"
  have fm := full_DT (n := n + 5) (hd' := 0) hK as
  rw [hs] at fm
  have hspl : sp.length = 7 := by have := congrArg List.length hg; simpa using this
  refine ExC.assign F (Ev.meth (d0 := .fn (.ref 329)) (ds := [.str x]) ?o ?l (Meth.pat hK (by k_is)) fm).c ?_
  case o => tm_at "go"
  case l => tm_at "go"
  refine ExC.iff (b := !true) (Tr.not (Tr.plain (Ev.loc F rfl) Tru.mat)).c rfl (ExC.nil ?_)
  obtain ⟨r, hr⟩ : ∃ r : Option D, r = (if okDate v0 v1 v2 && okTime v3 v4 v5 mic then some (dtF v0 v1 v2 v3 v4 v5 mic) else none).map (D.obj 120) := ⟨_, rfl⟩
  have hR : (if okDate v0 v1 v2 && okTime v3 v4 v5 mic then .obj 120 (dtF v0 v1 v2 v3 v4 v5 mic) else .str x) = r.getD (.str x) := by
    subst hr
    cases okDate v0 v1 v2 && okTime v3 v4 v5 mic <;> rfl
  rw [hR]
  refine ExC.try_ (R := r = none) F ?body (fun q _ => ExC.ret (EvC.call ?f ?l2 ?k (cdate_c hK (.inl rfl) as hsp (fun l q => by cases q) hpl (fun q => absurd rfl q) (Nat.le_refl _))) (.inl (by rw [q]; rfl))) (fun q w => absurd rfl w) (ve_b hK)
  case f => tm_at "go"
  case l2 => tm_at "go"
  case k => tm_at "go"
  case body =>
    have gr := Call.groups (W := W) (n := n + 5) (hd := 0) (x := x) (sp := sp) (by omega) (by have := as.l; show x.length ≤ _; omega)
    rw [hg] at gr
    show ExXC _ _ _ _ _ ([_, _] ++ [_]) _ _
    refine ExXC.app (τ := [("groups", .list [.str g0, .str g1, .str g2, .str g3, .str g4, .str g5, .int mic]), ("m", matD x (some sp)), ("obj", .str x)]) (ExX.put F (ds := [.str g0, .str g1, .str g2, .str g3, .str g4, .str g5, last]) (i := mic) (k := -1) (EvN.list ?p1 (Ev.meth (d0 := .mat x sp) (ds := []) ?p2 EvL.nil Meth.mat gr) ?p3) (Ev.call ?p4 (ds := [last]) (EvL.cons (Ev.sub (Ev.loc F rfl) ?p5 (Sub.neg (k := -1) (by decide) (by show -((7 : Nat) : Int) ≤ -1; decide) rfl)) EvL.nil) ?p6 (frac_c hK hl)) ?p7 (by decide) (by show -((7 : Nat) : Int) ≤ -1; decide) (by decide) ExX.nx rfl ?p8) ?p9 ?rest
    case p1 => tm_at "go"
    case p2 => tm_at "go"
    case p3 => show (7 : Nat) ≤ _; decide
    case p4 => tm_at "go"
    case p5 => tm_at "go"
    case p6 => tm_at "go"
    case p7 => tm_at "go"
    case p8 => simp only [List.all_cons, List.all_nil, hl.flat, Bool.and_true]; rfl
    case p9 => exact Sup.cons rfl (Sup.cons rfl Sup.nil)
    case rest =>
      have e6 : mapO FI [.str g0, .str g1, .str g2, .str g3, .str g4, .str g5, .int mic] = some [.int v0, .int v1, .int v2, .int v3, .int v4, .int v5, .int mic] := by simp [mapO, FI, e0, e1, e2, e3, e4, e5]
      refine ExXC.ret1 (EvXC.star (f := .ref 120) (rs := some [.int v0, .int v1, .int v2, .int v3, .int v4, .int v5, .int mic]) (r := r) ?f ?l3 ?k3 ?c ?z (fun q => by cases q)) (fun d q => .inl (by rw [q]; rfl)) (fun q => q)
      case f => tm_at "go"
      case k3 => tm_at "go"
      case l3 =>
        rw [← e6]
        refine EvXC.comp (F := FI) (Ev.loc F rfl) (by decide) ?elt (by show (7 : Nat) ≤ 10000; decide) (fun _ => rfl) (by decide) (by decide) rfl (by decide)
        intro d hd
        refine Elt.call1 F (bti_fnK (by assumption) (by k_is) (by boot_fast)) keep_type ?_ rfl rfl rfl
        obtain ⟨m0, m1, m2, m3, m4, m5⟩ := l0
        simp only [List.mem_cons, List.not_mem_nil, or_false] at hd
        rcases hd with rfl | rfl | rfl | rfl | rfl | rfl | rfl
        · simp only [FI, e0]; exact (Call.int_good m0 e0).x.c
        · simp only [FI, e1]; exact (Call.int_good m1 e1).x.c
        · simp only [FI, e2]; exact (Call.int_good m2 e2).x.c
        · simp only [FI, e3]; exact (Call.int_good m3 e3).x.c
        · simp only [FI, e4]; exact (Call.int_good m4 e4).x.c
        · simp only [FI, e5]; exact (Call.int_good m5 e5).x.c
        · exact Call.int_int.x.c
      case c =>
        intro ds q
        cases q
        subst hr
        exact (CallX.of_k (dt_c hK i0 i1 i2 i3 i4 i5 i6)).c
      case z => intro ds q; cases q; show (7 : Nat) ≤ _; decide
end

end Mine
end

section
open PySem PySem.W PySem.Calls PyProof.Rows
set_option Elab.async false
set_option linter.unusedVariables false
set_option maxRecDepth 100000
set_option maxHeartbeats 4000000
namespace Mine
local macro_rules | `(tactic| tm_at "len") => `(tactic| (simp only [PySem.Str.length_append, lit_0, lit_4, lit_3, lit_6, lit_d, lit_c, lit_s, lit_T, lit_p, lit_q, lit_e] at *; omega))
local macro_rules | `(tactic| tm_at "sd") => `(tactic| ((show (_ : Prop)); first | assumption | decide | omega | tm_at "len"))
local macro_rules | `(tactic| tm_at "call") => `(tactic| fail "no contract")
local macro_rules | `(tactic| tm_at "call") => `(tactic| (with_reducible refine' Call.strI ?_))
local macro_rules | `(tactic| tm_at "tr") => `(tactic| ((with_reducible show Tr _ _ _ _ _ _ _); first
  | exact Tr.andNil
  | exact Tr.orNil
  | ((with_reducible show Tr _ _ _ _ _ (PySem.Expr.BoolOp BoolOp.And _ _) _); refine' Tr.and ?_ ?_)
  | ((with_reducible show Tr _ _ _ _ _ (PySem.Expr.BoolOp BoolOp.Or _ _) _); refine' Tr.or ?_ ?_)
  | ((with_reducible show Tr _ _ _ _ _ (PySem.Expr.UnaryOp UnaryOp.Not _ _) _); refine' Tr.not ?_)
  | ((with_reducible show Tr _ _ _ _ _ (PySem.Expr.Compare _ [_] [_] _) _); refine' Tr.cmp ?_ ?_ ?_ ?_)
  | ((with_reducible show Tr _ _ _ _ _ (PySem.Expr.Compare _ [_, _] [_, _] _) _); refine' Tr.cmp2 ?_ ?_ ?_ ?_ ?_)
  | ((with_reducible show Tr _ _ _ _ _ (PySem.Expr.IfExp _ _ _ _) _); refine' Tr.ifexp ?_ ?_ ?_)
  | refine' Tr.plain ?_ ?_))
local macro_rules | `(tactic| tm_at "ev") => `(tactic| ((with_reducible show Ev _ _ _ _ _ _ _); first
  | ((with_reducible show Ev _ _ _ _ _ (PySem.Expr.Constant _ _ _) _); first | exact Ev.int | exact Ev.strc | exact Ev.boolc | exact Ev.nonec)
  | ((with_reducible show Ev _ _ _ _ _ (PySem.Expr.Name _ _) _); first | exact Ev.loc (by assumption) rfl | exact Ev.glob (by assumption) (glb_fnK (by assumption) (by k_is)) | exact Ev.bti (by assumption) (bti_fnK (by assumption) (by k_is) (by boot_fast)))
  | ((with_reducible show Ev _ _ _ _ _ (PySem.Expr.BinOp _ _ _ _) _); refine' Ev.bin ?_ ?_ ?_)
  | ((with_reducible show Ev _ _ _ _ _ (PySem.Expr.IfExp _ _ _ _) _); refine' Ev.ifexp ?_ ?_ ?_ ?_)
  | ((with_reducible show Ev _ _ _ _ _ (PySem.Expr.Subscript _ (PySem.Expr.Slice _ _ _ _) _) _); refine' Ev.slc ?_ ?_ ?_ ?_)
  | ((with_reducible show Ev _ _ _ _ _ (PySem.Expr.Subscript _ _ _) _); refine' Ev.sub ?_ ?_ ?_)
  | ((with_reducible show Ev _ _ _ _ _ (PySem.Expr.Call _ _ _ _) _); refine' Ev.call ?_ ?_ ?_ ?_)
  | ((with_reducible show Ev _ _ _ _ _ (PySem.Expr.Compare _ [_] [_] _) _); refine' Ev.cmp ?_ ?_ ?_)
  | ((with_reducible show Ev _ _ _ _ _ (PySem.Expr.Compare _ [_, _] [_, _] _) _); refine' Ev.cmp2 ?_ ?_ ?_ ?_ ?_)
  | ((with_reducible show Ev _ _ _ _ _ (PySem.Expr.BoolOp _ [_] _) _); refine' Ev.one ?_)
  | ((with_reducible show Ev _ _ _ _ _ (PySem.Expr.BoolOp _ _ _) _); refine' Ev.and ?_ ?_)
  | ((with_reducible show Ev _ _ _ _ _ (PySem.Expr.UnaryOp _ _ _) _); refine' Ev.un ?_ ?_)
  | ((with_reducible show Ev _ _ _ _ _ (PySem.Expr.Tuple _ _ _) _); refine' Ev.tup ?_ ?_)
  | ((with_reducible show Ev _ _ _ _ _ (PySem.Expr.List _ _) _); refine' Ev.lst ?_ ?_)))
local macro_rules | `(tactic| tm_at "op") => `(tactic| first
  | ((with_reducible show Bin _ _ _ _ _ _ _); with_reducible first | exact Bin.addI | exact Bin.subI | refine' Bin.divI | refine' Bin.modI | refine' Bin.mulI ?_ | refine' Bin.addS ?_)
  | ((with_reducible show Cmp _ _ _ _ _ _ _); with_reducible first | exact Cmp.eqI | exact Cmp.neI | exact Cmp.ltI | exact Cmp.leI | exact Cmp.gtI | exact Cmp.geI | exact Cmp.eqS | exact Cmp.neS)
  | ((with_reducible show Tru _ _ _ _ _); with_reducible first | exact Tru.bool | exact Tru.none | exact Tru.int | refine' Tru.str ?_)
  | ((with_reducible show EvL _ _ _ _ _ _ _); first | exact EvL.nil | refine' EvL.cons ?_ ?_)
  | ((with_reducible show EvP _ _ _ _ _ _ _); first | exact EvP.none | refine' EvP.some ?_)
  | ((with_reducible show Keep _ _); first | exact keep_type | exact keep_builtin | exact keep_refK (by assumption) (by k_is))
  | ((with_reducible show Sub _ _ _ _ _ _); first | exact Sub.tup rfl rfl | refine' Sub.lst ?_ rfl)
  | ((with_reducible show Slc _ _ _ _ _ _ _); first | refine' Slc.str ?_ | refine' Slc.lst ?_ | refine' Slc.tupFrom ?_ ?_ ?_)
  | ((with_reducible show Jn _ _ _ _); with_reducible first | exact Jn.int _ _ | exact Jn.str _ _ | exact Jn.bool _ _ | exact Jn.same _)
  | ((with_reducible show Un _ _ _ _ _ _); with_reducible exact Un.neg)
  | ((with_reducible show Call _ _ _ _ _ _); tm_at "call"))
local macro_rules | `(tactic| tm_at "step") => `(tactic| first | tm_at "ev" | tm_at "tr" | tm_at "op" | (with_reducible refine' fun (_ : _ = _) => ?_) | tm_at "sd")
local macro_rules | `(tactic| tm_at "go") => `(tactic| repeat' (tm_at "step"))
theorem ldKC7 : hd.heap_39 = hd.heap_39 ∧ PySem.Challenge.rw_fe0239_01 = PySem.Challenge.rw_fe0239_01 := by
  k_fill
  exact ⟨rfl, rfl⟩
local macro_rules | `(tactic| tm_at "call") => `(tactic| first | exact Call.decode (Nat.le_trans (Asc.l (by assumption)) (by decide)) (Asc.a (by assumption)) | exact Call.decodeB (Nat.le_trans (Asc.l (by assumption)) (by decide)) (Asc.a (by assumption)))
local macro_rules | `(tactic| tm_at "sd") => `(tactic| exact Ev.bti (by assumption) (bti_fnK (by assumption) (by k_is) boot_ba))
local macro_rules | `(tactic| tm_at "isi") => `(tactic| (refine' Ev.call ?f ?l ?k (Call.isiTup (its := [.type "bytes", .type "bytearray"]) ?kd ?ke); (case f => tm_at "go"); (case l => (refine' EvL.cons ?o (EvL.cons (Ev.tup (ds := [.fn (.type "bytes"), .fn (.type "bytearray")]) ?t ?z) EvL.nil); (case o => tm_at "go"); (case z => decide); (case t => tm_at "go"))); (case k => tm_at "go"); (case kd => first | exact KitD.str | exact KitD.bytes | exact KitD.bar); (case ke => ((try rw [‹Wd.K _ = _›]); kit_is))))
local macro_rules | `(tactic| tm_at "dec1") => `(tactic| (refine' Ex.iff (b := false) (Tr.plain ?e Tru.bool) rfl (Ex.nil (Ex.nil ⟨_, rfl, Sup.refl⟩)); (case e => tm_at "isi")))
local macro_rules | `(tactic| tm_at "dec2") => `(tactic| (refine' Ex.ift (b := true) (Tr.plain ?e Tru.bool) rfl (Ex.assign (by assumption) (Ev.meth ?o ?l (Meth.bytes FB.slot_bytes_decode FB.type_bytes_decode) (Call.decode (Nat.le_trans (Asc.l (by assumption)) (by decide)) (Asc.a (by assumption)))) (Ex.nil (Ex.nil ⟨_, rfl, Sup.cons rfl Sup.nil⟩))); (case e => tm_at "isi"); (case o => tm_at "go"); (case l => tm_at "go")))
local macro_rules | `(tactic| tm_at "dec3") => `(tactic| (refine' Ex.ift (b := true) (Tr.plain ?e Tru.bool) rfl (Ex.assign (by assumption) (Ev.meth ?o ?l Meth.bar (Call.decodeB (Nat.le_trans (Asc.l (by assumption)) (by decide)) (Asc.a (by assumption)))) (Ex.nil (Ex.nil ⟨_, rfl, Sup.cons rfl Sup.nil⟩))); (case e => tm_at "isi"); (case o => tm_at "go"); (case l => tm_at "go")))
section
variable {W : Wd} {n : Nat}
theorem ctd_n (hK : W.K = hd.heap_39 W.w.params) {x : PySem.Str} {d : D} (a : ArgOf x d) (as : Asc x) (hs : scanS x.cps 45 4 itsTD 0 = none) : CallC W (n+6) 0 (.ref 346) [d] (.str x) := by
  refine CallC.of_body ["obj"] (by rw [hK]; k_is) (by rw [hK]; k_is) rfl (by intro vs hl; match vs, hl with | [a], _ => rfl) rfl (by decide) ?_
  intro fd sc hsc F
  dsimp only at hsc
  subst hsc
  refine dec_if a ?d1 ?d2 ?d3 ?go
  case d1 => tm_at "dec1"
  case d2 => tm_at "dec2"
  case d3 => tm_at "dec3"
  have fm := full_TD (n := n + 5) (hd' := 0) hK as
  rw [hs] at fm
  refine ExC.assign F (Ev.meth (d0 := .fn (.ref 339)) (ds := [.str x]) ?o ?l (Meth.pat hK (by k_is)) fm).c ?_
  case o => tm_at "go"
  case l => tm_at "go"
  exact ExC.ift (b := !false) (Tr.not (Tr.plain (Ev.loc F rfl) Tru.none)).c rfl (ExC.ret (Ev.loc F rfl).c (.inl rfl))
theorem ctm_n (hK : W.K = hd.heap_39 W.w.params) {x : PySem.Str} {d : D} (a : ArgOf x d) (as : Asc x) (hs : scan x.cps 3 itsTM 0 = none) : CallC W (n+6) 0 (.ref 358) [d] (.str x) := by
  refine CallC.of_body ["obj"] (by rw [hK]; k_is) (by rw [hK]; k_is) rfl (by intro vs hl; match vs, hl with | [a], _ => rfl) rfl (by decide) ?_
  intro fd sc hsc F
  dsimp only at hsc
  subst hsc
  refine dec_if a ?d1 ?d2 ?d3 ?go
  case d1 => tm_at "dec1"
  case d2 => tm_at "dec2"
  case d3 => tm_at "dec3"
  have fm := full_TM (n := n + 5) (hd' := 0) hK as
  rw [hs] at fm
  refine ExC.assign F (Ev.meth (d0 := .fn (.ref 351)) (ds := [.str x]) ?o ?l (Meth.pat hK (by k_is)) fm).c ?_
  case o => tm_at "go"
  case l => tm_at "go"
  exact ExC.ift (b := !false) (Tr.not (Tr.plain (Ev.loc F rfl) Tru.none)).c rfl (ExC.ret (Ev.loc F rfl).c (.inl rfl))
def SgOk (sg : D) (neg : Bool) : Prop := (sg = .none ∧ neg = false) ∨ (sg = .str (PySem.Str.ofString "-") ∧ neg = true)
theorem SgOk.tru {sg : D} {neg : Bool} (h : SgOk sg neg) {hd' : Nat} : Tru W n hd' sg neg := by
  rcases h with ⟨rfl, rfl⟩ | ⟨rfl, rfl⟩
  · exact Tru.none
  · exact Tru.str (by decide)
theorem SgOk.flat {sg : D} {neg : Bool} (h : SgOk sg neg) : sg.flat = true := by
  rcases h with ⟨rfl, rfl⟩ | ⟨rfl, rfl⟩ <;> rfl
theorem ctd_m (hK : W.K = hd.heap_39 W.w.params) {x : PySem.Str} {d : D} (a : ArgOf x d) (as : Asc x) {sp : Sps} (hs : (scanS x.cps 45 4 itsTD 0).map (spOf 5) = some sp) {sg : D} {neg : Bool} {g1 g2 g3 : PySem.Str} {last : D} {mic v1 v2 v3 us : Int} (hg : sp.map (slc x) = [sg, .str g1, .str g2, .str g3, last]) (hsg : SgOk sg neg) (hl : LastOk last mic)
    (e1 : PySem.intText? g1 = some v1) (e2 : PySem.intText? g2 = some v2) (e3 : PySem.intText? g3 = some v3) (l0 : g1.length ≤ 640 ∧ g2.length ≤ 640 ∧ g3.length ≤ 640) (hus : us = mic + (v3 + (v1 * 60 + v2) * 60) * 1000000) (hlo : -1000000000000000000 < us) (hhi : us < 1000000000000000000)
    : CallC W (n+6) 0 (.ref 346) [d] (.obj 149 (spanF (us * if neg then -1 else 1))) := by
  refine CallC.of_body ["obj"] (by rw [hK]; k_is) (by rw [hK]; k_is) rfl (by intro vs hl; match vs, hl with | [a], _ => rfl) rfl (by decide) ?_
  intro fd sc hsc F
  dsimp only at hsc
  subst hsc
  refine dec_if a ?d1 ?d2 ?d3 ?go
  case d1 => tm_at "dec1"
  case d2 => tm_at "dec2"
  case d3 => tm_at "dec3"
  have fm := full_TD (n := n + 5) (hd' := 0) hK as
  rw [hs] at fm
  have hspl : sp.length = 5 := by have := congrArg List.length hg; simpa using this
  refine ExC.assign F (Ev.meth (d0 := .fn (.ref 339)) (ds := [.str x]) ?o ?l (Meth.pat hK (by k_is)) fm).c ?_
  case o => tm_at "go"
  case l => tm_at "go"
  refine ExC.iff (b := !true) (Tr.not (Tr.plain (Ev.loc F rfl) Tru.mat)).c rfl (ExC.nil ?_)
  have gr := Call.groups (W := W) (n := n + 5) (hd := 0) (x := x) (sp := sp) (by omega) (by have := as.l; show x.length ≤ _; omega)
  rw [hg] at gr
  have hk : (if neg then (-1 : Int) else 1) = 1 ∨ (if neg then (-1 : Int) else 1) = -1 := by cases neg <;> simp
  refine ExC.try_ (R := False) F (ExX.put F (ds := [sg, .str g1, .str g2, .str g3, last]) (i := mic) (k := -1) (EvN.list ?p1 (Ev.meth (d0 := .mat x sp) (ds := []) ?p2 EvL.nil Meth.mat gr) ?p3) (Ev.call ?p4 (ds := [last]) (EvL.cons (Ev.sub (Ev.loc F rfl) ?p5 (Sub.neg (k := -1) (by decide) (by show -((5 : Nat) : Int) ≤ -1; decide) rfl)) EvL.nil) ?p6 (frac_c hK hl)) ?p7 (by decide) (by show -((5 : Nat) : Int) ≤ -1; decide) (by decide) (Ex.x ?rest) rfl ?p8).c False.elim False.elim (ve_b hK)
  case p1 => tm_at "go"
  case p2 => tm_at "go"
  case p3 => show (5 : Nat) ≤ _; decide
  case p4 => tm_at "go"
  case p5 => tm_at "go"
  case p6 => tm_at "go"
  case p7 => tm_at "go"
  case p8 => simp only [List.all_cons, List.all_nil, hl.flat, hsg.flat, Bool.and_true]; rfl
  case rest =>
    refine Ex.assign F (Ev.ifexp (b := neg) (Tr.plain (Ev.sub (Ev.loc F rfl) Ev.int (Sub.lst (d := sg) (by decide) rfl)) hsg.tru) (fun _ => Ev.un Ev.int Un.neg) (fun _ => Ev.int) (Jn.int _ _)) ?_
    refine Ex.assignT F (ds := [.str g1, .str g2, .str g3, .int mic]) (Ev.slc (d := .list [.str g1, .str g2, .str g3, .int mic]) (Ev.loc F rfl) (EvP.some Ev.int) EvP.none (Slc.lst (ds := [sg, .str g1, .str g2, .str g3, .int mic]) (by show (5 : Nat) ≤ _; decide))) (Unp.list rfl) (.cons rfl (.cons rfl (.cons rfl (.cons rfl .nil)))) rfl ?_
    refine Ex.assign F (Ev.bin (EvX.ev (EvX.callK ?f (.cons (Ev.call ?f1 (ds := [.str g1]) ?a1 ?k1 (Call.int_good l0.1 e1)) (.cons (Ev.call ?f2 (ds := [.str g2]) ?a2 ?k2 (Call.int_good l0.2.1 e2)) (.cons (Ev.call ?f3 (ds := [.str g3]) ?a3 ?k3 (Call.int_good l0.2.2 e3)) (.cons (Ev.call ?f4 (ds := [.int mic]) ?a4 ?k4 Call.int_int) .nil)))) ?k (td_c hK hus hlo hhi))) (Ev.loc F rfl) (bmul hK hk hlo hhi)) ?_
    case f => tm_at "go"
    case k => tm_at "go"
    case f1 => tm_at "go"
    case a1 => tm_at "go"
    case k1 => tm_at "go"
    case f2 => tm_at "go"
    case a2 => tm_at "go"
    case k2 => tm_at "go"
    case f3 => tm_at "go"
    case a3 => tm_at "go"
    case k3 => tm_at "go"
    case f4 => tm_at "go"
    case a4 => tm_at "go"
    case k4 => tm_at "go"
    exact Ex.ret (Ev.loc F rfl) (.inl rfl)
theorem ctm_m (hK : W.K = hd.heap_39 W.w.params) {x : PySem.Str} {d : D} (a : ArgOf x d) (as : Asc x) {sp : Sps} (hs : (scan x.cps 3 itsTM 0).map (spOf 4) = some sp) {g1 g2 g3 : PySem.Str} {last : D} {mic v1 v2 v3 : Int} (hg : sp.map (slc x) = [.str g1, .str g2, .str g3, last]) (hl : LastOk last mic)
    (e1 : PySem.intText? g1 = some v1) (e2 : PySem.intText? g2 = some v2) (e3 : PySem.intText? g3 = some v3) (l0 : g1.length ≤ 640 ∧ g2.length ≤ 640 ∧ g3.length ≤ 640) (i1 : in32 v1) (i2 : in32 v2) (i3 : in32 v3) (i4 : in32 mic)
    : CallC W (n+6) 0 (.ref 358) [d] (if okTime v1 v2 v3 mic then .obj 98 (timeF v1 v2 v3 mic) else .str x) := by
  refine CallC.of_body ["obj"] (by rw [hK]; k_is) (by rw [hK]; k_is) rfl (by intro vs hl; match vs, hl with | [a], _ => rfl) rfl (by decide) ?_
  intro fd sc hsc F
  dsimp only at hsc
  subst hsc
  refine dec_if a ?d1 ?d2 ?d3 ?go
  case d1 => tm_at "dec1"
  case d2 => tm_at "dec2"
  case d3 => tm_at "dec3"
  have fm := full_TM (n := n + 5) (hd' := 0) hK as
  rw [hs] at fm
  have hspl : sp.length = 4 := by have := congrArg List.length hg; simpa using this
  refine ExC.assign F (Ev.meth (d0 := .fn (.ref 351)) (ds := [.str x]) ?o ?l (Meth.pat hK (by k_is)) fm).c ?_
  case o => tm_at "go"
  case l => tm_at "go"
  refine ExC.iff (b := !true) (Tr.not (Tr.plain (Ev.loc F rfl) Tru.mat)).c rfl (ExC.nil ?_)
  have gr := Call.groups (W := W) (n := n + 5) (hd := 0) (x := x) (sp := sp) (by omega) (by have := as.l; show x.length ≤ _; omega)
  rw [hg] at gr
  obtain ⟨r, hr⟩ : ∃ r : Option D, r = (if okTime v1 v2 v3 mic then some (timeF v1 v2 v3 mic) else none).map (D.obj 98) := ⟨_, rfl⟩
  have hR : (if okTime v1 v2 v3 mic then .obj 98 (timeF v1 v2 v3 mic) else .str x) = r.getD (.str x) := by
    subst hr
    cases okTime v1 v2 v3 mic <;> rfl
  rw [hR]
  refine ExC.try_ (R := r = none) F ?body (fun q _ => ExC.ret (Ev.loc F rfl).c (.inl (by rw [q]; rfl))) (fun q w => absurd rfl w) (ve_b hK)
  show ExXC _ _ _ _ _ ([_, _, _] ++ [_]) _ _
  refine ExXC.app (τ := [("microseconds", .int mic), ("seconds", .str g3), ("minutes", .str g2), ("hours", .str g1), ("groups", .list [.str g1, .str g2, .str g3, .int mic]), ("m", matD x (some sp)), ("obj", .str x)]) (ExX.put F (ds := [.str g1, .str g2, .str g3, last]) (i := mic) (k := -1) (EvN.list ?p1 (Ev.meth (d0 := .mat x sp) (ds := []) ?p2 EvL.nil Meth.mat gr) ?p3) (Ev.call ?p4 (ds := [last]) (EvL.cons (Ev.sub (Ev.loc F rfl) ?p5 (Sub.neg (k := -1) (by decide) (by show -((4 : Nat) : Int) ≤ -1; decide) rfl)) EvL.nil) ?p6 (frac_c hK hl)) ?p7 (by decide) (by show -((4 : Nat) : Int) ≤ -1; decide) (by decide) (Ex.x ?rest) rfl ?p8) ?p9 ?ret
  case p1 => tm_at "go"
  case p2 => tm_at "go"
  case p3 => show (4 : Nat) ≤ _; decide
  case p4 => tm_at "go"
  case p5 => tm_at "go"
  case p6 => tm_at "go"
  case p7 => tm_at "go"
  case p8 => simp only [List.all_cons, List.all_nil, hl.flat, Bool.and_true]; rfl
  case p9 => exact Sup.cons rfl (Sup.cons rfl Sup.nil)
  case rest =>
    exact Ex.assignT F (ds := [.str g1, .str g2, .str g3, .int mic]) (Ev.loc (d := .list [.str g1, .str g2, .str g3, .int mic]) F rfl) (Unp.list rfl) (.cons rfl (.cons rfl (.cons rfl (.cons rfl .nil)))) rfl (Ex.nil rfl)
  case ret =>
    have tc := time_c (n := n + 1) hK i1 i2 i3 i4
    rw [← hr] at tc
    refine ExXC.ret1 (EvX.callK ?f (.cons (Ev.call ?f1 (ds := [.str g1]) ?a1 ?k1 (Call.int_good l0.1 e1)) (.cons (Ev.call ?f2 (ds := [.str g2]) ?a2 ?k2 (Call.int_good l0.2.1 e2)) (.cons (Ev.call ?f3 (ds := [.str g3]) ?a3 ?k3 (Call.int_good l0.2.2 e3)) (.cons (Ev.call ?f4 (ds := [.int mic]) ?a4 ?k4 Call.int_int) .nil)))) ?k tc).c (fun d q => .inl (by rw [q]; rfl)) (fun q => q)
    case f => tm_at "go"
    case k => tm_at "go"
    case f1 => tm_at "go"
    case a1 => tm_at "go"
    case k1 => tm_at "go"
    case f2 => tm_at "go"
    case a2 => tm_at "go"
    case k2 => tm_at "go"
    case f3 => tm_at "go"
    case a3 => tm_at "go"
    case k3 => tm_at "go"
    case f4 => tm_at "go"
    case a4 => tm_at "go"
    case k4 => tm_at "go"
end

end Mine
end

section
open PySem PySem.W PySem.Calls PyProof.Rows
set_option Elab.async false
set_option linter.unusedVariables false
set_option maxRecDepth 100000
set_option maxHeartbeats 4000000
namespace Mine
def lq : PySem.Str := PySem.Str.ofString "'"
def ld : PySem.Str := PySem.Str.ofString "-"
def lc : PySem.Str := PySem.Str.ofString ":"
def lp : PySem.Str := PySem.Str.ofString "."
def ls : PySem.Str := PySem.Str.ofString " "
def l0 : PySem.Str := PySem.Str.empty
theorem strI_nat {i : Int} (h : 0 ≤ i) : (strI i).cps.toList = (Nat.toDigits 10 i.toNat).map Char.toNat := by
  obtain ⟨m, rfl⟩ := Int.eq_ofNat_of_zero_le h
  unfold strI
  rw [show ((m : Int)).toNat = m from rfl]
  exact PySem.W.KIN.signs_num m
theorem strI_len {i : Int} {k : Nat} (h0 : 0 ≤ i) (hk : 1 ≤ k) (h1 : i < 10 ^ k) : (strI i).length ≤ k := by
  have : (strI i).cps.toList.length ≤ k := by
    rw [strI_nat h0, List.length_map]
    refine digits10_le hk ?_
    have := Int.toNat_of_nonneg h0
    have h2 : ((i.toNat : Nat) : Int) < ((10 ^ k : Nat) : Int) := by rw [this]; push_cast; exact h1
    exact Int.ofNat_lt.mp h2
  simpa [PySem.Str.length] using this
theorem zp_len {w : Nat} {i : Int} (h0 : 0 ≤ i) (h1 : i < 10000000000) : (zp w i).length ≤ w + 10 := by
  unfold zp
  rw [PySem.Str.length_append]
  have := strI_len (k := 10) h0 (by omega) (by simpa using h1)
  have e : PySem.Str.length ⟨(List.replicate (w - (Nat.toDigits 10 i.natAbs).length) 48).toArray⟩ = w - (Nat.toDigits 10 i.natAbs).length := by simp [PySem.Str.length]
  omega
theorem lq_len : lq.length = 1 := by decide
theorem ld_len : ld.length = 1 := by decide
theorem lc_len : lc.length = 1 := by decide
theorem lp_len : lp.length = 1 := by decide
theorem ls_len : ls.length = 1 := by decide
theorem l0_len : l0.length = 0 := by decide
end Mine
end

section
open PySem PySem.W PySem.Calls PyProof.Rows
set_option Elab.async false
set_option linter.unusedVariables false
set_option linter.unusedSimpArgs false
set_option linter.unnecessarySimpa false
set_option maxRecDepth 100000
set_option maxHeartbeats 4000000
namespace Mine
local macro_rules | `(tactic| tm_at "len") => `(tactic| (simp only [PySem.Str.length_append, lit_0, lit_4, lit_3, lit_6, lit_d, lit_c, lit_s, lit_T, lit_p, lit_q, lit_e] at *; omega))
local macro_rules | `(tactic| tm_at "sd") => `(tactic| ((show (_ : Prop)); first | assumption | decide | omega | tm_at "len"))
local macro_rules | `(tactic| tm_at "call") => `(tactic| fail "no contract")
local macro_rules | `(tactic| tm_at "call") => `(tactic| (with_reducible refine' Call.strI ?_))
local macro_rules | `(tactic| tm_at "tr") => `(tactic| ((with_reducible show Tr _ _ _ _ _ _ _); first
  | exact Tr.andNil
  | exact Tr.orNil
  | ((with_reducible show Tr _ _ _ _ _ (PySem.Expr.BoolOp BoolOp.And _ _) _); refine' Tr.and ?_ ?_)
  | ((with_reducible show Tr _ _ _ _ _ (PySem.Expr.BoolOp BoolOp.Or _ _) _); refine' Tr.or ?_ ?_)
  | ((with_reducible show Tr _ _ _ _ _ (PySem.Expr.UnaryOp UnaryOp.Not _ _) _); refine' Tr.not ?_)
  | ((with_reducible show Tr _ _ _ _ _ (PySem.Expr.Compare _ [_] [_] _) _); refine' Tr.cmp ?_ ?_ ?_ ?_)
  | ((with_reducible show Tr _ _ _ _ _ (PySem.Expr.Compare _ [_, _] [_, _] _) _); refine' Tr.cmp2 ?_ ?_ ?_ ?_ ?_)
  | ((with_reducible show Tr _ _ _ _ _ (PySem.Expr.IfExp _ _ _ _) _); refine' Tr.ifexp ?_ ?_ ?_)
  | refine' Tr.plain ?_ ?_))
local macro_rules | `(tactic| tm_at "ev") => `(tactic| ((with_reducible show Ev _ _ _ _ _ _ _); first
  | ((with_reducible show Ev _ _ _ _ _ (PySem.Expr.Constant _ _ _) _); first | exact Ev.int | exact Ev.strc | exact Ev.boolc | exact Ev.nonec)
  | ((with_reducible show Ev _ _ _ _ _ (PySem.Expr.Name _ _) _); first | exact Ev.loc (by assumption) rfl | exact Ev.glob (by assumption) (glb_fnK (by assumption) (by k_is)) | exact Ev.bti (by assumption) (bti_fnK (by assumption) (by k_is) (by boot_fast)))
  | ((with_reducible show Ev _ _ _ _ _ (PySem.Expr.BinOp _ _ _ _) _); refine' Ev.bin ?_ ?_ ?_)
  | ((with_reducible show Ev _ _ _ _ _ (PySem.Expr.IfExp _ _ _ _) _); refine' Ev.ifexp ?_ ?_ ?_ ?_)
  | ((with_reducible show Ev _ _ _ _ _ (PySem.Expr.Subscript _ (PySem.Expr.Slice _ _ _ _) _) _); refine' Ev.slc ?_ ?_ ?_ ?_)
  | ((with_reducible show Ev _ _ _ _ _ (PySem.Expr.Subscript _ _ _) _); refine' Ev.sub ?_ ?_ ?_)
  | ((with_reducible show Ev _ _ _ _ _ (PySem.Expr.Call _ _ _ _) _); refine' Ev.call ?_ ?_ ?_ ?_)
  | ((with_reducible show Ev _ _ _ _ _ (PySem.Expr.Compare _ [_] [_] _) _); refine' Ev.cmp ?_ ?_ ?_)
  | ((with_reducible show Ev _ _ _ _ _ (PySem.Expr.Compare _ [_, _] [_, _] _) _); refine' Ev.cmp2 ?_ ?_ ?_ ?_ ?_)
  | ((with_reducible show Ev _ _ _ _ _ (PySem.Expr.BoolOp _ [_] _) _); refine' Ev.one ?_)
  | ((with_reducible show Ev _ _ _ _ _ (PySem.Expr.BoolOp _ _ _) _); refine' Ev.and ?_ ?_)
  | ((with_reducible show Ev _ _ _ _ _ (PySem.Expr.UnaryOp _ _ _) _); refine' Ev.un ?_ ?_)
  | ((with_reducible show Ev _ _ _ _ _ (PySem.Expr.Tuple _ _ _) _); refine' Ev.tup ?_ ?_)
  | ((with_reducible show Ev _ _ _ _ _ (PySem.Expr.List _ _) _); refine' Ev.lst ?_ ?_)))
local macro_rules | `(tactic| tm_at "op") => `(tactic| first
  | ((with_reducible show Bin _ _ _ _ _ _ _); with_reducible first | exact Bin.addI | exact Bin.subI | refine' Bin.divI | refine' Bin.modI | refine' Bin.mulI ?_ | refine' Bin.addS ?_)
  | ((with_reducible show Cmp _ _ _ _ _ _ _); with_reducible first | exact Cmp.eqI | exact Cmp.neI | exact Cmp.ltI | exact Cmp.leI | exact Cmp.gtI | exact Cmp.geI | exact Cmp.eqS | exact Cmp.neS)
  | ((with_reducible show Tru _ _ _ _ _); with_reducible first | exact Tru.bool | exact Tru.none | exact Tru.int | refine' Tru.str ?_)
  | ((with_reducible show EvL _ _ _ _ _ _ _); first | exact EvL.nil | refine' EvL.cons ?_ ?_)
  | ((with_reducible show EvP _ _ _ _ _ _ _); first | exact EvP.none | refine' EvP.some ?_)
  | ((with_reducible show Keep _ _); first | exact keep_type | exact keep_builtin | exact keep_refK (by assumption) (by k_is))
  | ((with_reducible show Sub _ _ _ _ _ _); first | exact Sub.tup rfl rfl | refine' Sub.lst ?_ rfl)
  | ((with_reducible show Slc _ _ _ _ _ _ _); first | refine' Slc.str ?_ | refine' Slc.lst ?_ | refine' Slc.tupFrom ?_ ?_ ?_)
  | ((with_reducible show Jn _ _ _ _); with_reducible first | exact Jn.int _ _ | exact Jn.str _ _ | exact Jn.bool _ _ | exact Jn.same _)
  | ((with_reducible show Un _ _ _ _ _ _); with_reducible exact Un.neg)
  | ((with_reducible show Call _ _ _ _ _ _); tm_at "call"))
local macro_rules | `(tactic| tm_at "step") => `(tactic| first | tm_at "ev" | tm_at "tr" | tm_at "op" | (with_reducible refine' fun (_ : _ = _) => ?_) | tm_at "sd")
local macro_rules | `(tactic| tm_at "go") => `(tactic| repeat' (tm_at "step"))
theorem ldKC9 : hd.heap_39 = hd.heap_39 ∧ PySem.Challenge.rw_fe0239_01 = PySem.Challenge.rw_fe0239_01 := by
  k_fill
  exact ⟨rfl, rfl⟩
theorem emp_len : PySem.Str.empty.length = 0 := by decide
def eDate (y m d : Int) : PySem.Str := lq ++ (zp 4 y ++ (ld ++ (zp 2 m ++ (ld ++ (zp 2 d ++ (lq ++ l0))))))
def eTime (h m s u : Int) : PySem.Str := if u = 0 then lq ++ (zp 2 h ++ (lc ++ (zp 2 m ++ (lc ++ (zp 2 s ++ (lq ++ l0)))))) else lq ++ (zp 2 h ++ (lc ++ (zp 2 m ++ (lc ++ (zp 2 s ++ (lp ++ (zp 6 u ++ (lq ++ l0))))))))
def eDT (y mo d h m s u : Int) : PySem.Str := if u = 0 then lq ++ (zp 4 y ++ (ld ++ (zp 2 mo ++ (ld ++ (zp 2 d ++ (ls ++ (zp 2 h ++ (lc ++ (zp 2 m ++ (lc ++ (zp 2 s ++ (lq ++ l0)))))))))))) else lq ++ (zp 4 y ++ (ld ++ (zp 2 mo ++ (ld ++ (zp 2 d ++ (ls ++ (zp 2 h ++ (lc ++ (zp 2 m ++ (lc ++ (zp 2 s ++ (lp ++ (zp 6 u ++ (lq ++ l0))))))))))))))
def eTD (sg : PySem.Str) (h m s u : Int) : PySem.Str := if u = 0 then lq ++ (sg ++ (zp 2 h ++ (lc ++ (zp 2 m ++ (lc ++ (zp 2 s ++ (lq ++ l0))))))) else lq ++ (sg ++ (zp 2 h ++ (lc ++ (zp 2 m ++ (lc ++ (zp 2 s ++ (lp ++ (zp 6 u ++ (lq ++ l0)))))))))
section
variable {W : Wd} {n : Nat} {hd' : Nat}
def b10 (i : Int) : Prop := 0 ≤ i ∧ i < 10000000000
theorem escD_c (hK : W.K = hd.heap_39 W.w.params) {y m d : Int} {mp : D} (h1 : b10 y) (h2 : b10 m) (h3 : b10 d) : Call W (n+1) hd' (.ref 317) [.obj 76 (dateF y m d), mp] (.str (eDate y m d)) := by
  refine Call.of_bodyP ["obj", "mapping"] (wds := [.obj 76 (dateF y m d), mp]) (by rw [hK]; k_is) (by rw [hK]; k_is) rfl ?hb rfl (by decide) ?_
  case hb =>
    intro vs hv
    match vs, hv with
    | [a, b], _ => exact ⟨[a, b], fun S => by rw [hK]; rfl, fun g r => r⟩
  intro fd sc hsc F
  dsimp only at hsc
  subst hsc
  obtain ⟨h1, h1'⟩ := h1
  have zh1 := zp_len (w := 4) h1 h1'
  obtain ⟨h2, h2'⟩ := h2
  have zh2 := zp_len (w := 2) h2 h2'
  obtain ⟨h3, h3'⟩ := h3
  have zh3 := zp_len (w := 2) h3 h3'
  have r1 : Rdd W.K 76 "year" := ⟨by rw [hK]; k_is, by rw [hK]; k_is, by rw [hK]; k_is⟩
  have r2 : Rdd W.K 76 "month" := ⟨by rw [hK]; k_is, by rw [hK]; k_is, by rw [hK]; k_is⟩
  have r3 : Rdd W.K 76 "day" := ⟨by rw [hK]; k_is, by rw [hK]; k_is, by rw [hK]; k_is⟩
  unfold eDate
  exact Ex.ret (Ev.joined (EvJ.cons Ev.strc (EvJ.cons (Ev.fmt (w := 4) (a := y) (Ev.attr (fs := dateF y m d) (i := y) (Ev.loc F rfl) rfl r1) h1 h1' (by decide) rfl (by decide) (by decide)) (EvJ.cons Ev.strc (EvJ.cons (Ev.fmt (w := 2) (a := m) (Ev.attr (fs := dateF y m d) (i := m) (Ev.loc F rfl) rfl r2) h2 h2' (by decide) rfl (by decide) (by decide)) (EvJ.cons Ev.strc (EvJ.cons (Ev.fmt (w := 2) (a := d) (Ev.attr (fs := dateF y m d) (i := d) (Ev.loc F rfl) rfl r3) h3 h3' (by decide) rfl (by decide) (by decide)) (EvJ.cons Ev.strc EvJ.nil))))))) (by simp only [PySem.Str.length_append, lit_q, lit_d, lit_c, lit_p, lit_s, emp_len]; omega)) (.inl rfl)
theorem escT_c (hK : W.K = hd.heap_39 W.w.params) {h m s u : Int} {mp : D} (h1 : b10 h) (h2 : b10 m) (h3 : b10 s) (h4 : b10 u) : Call W (n+1) hd' (.ref 301) [.obj 98 (timeF h m s u), mp] (.str (eTime h m s u)) := by
  refine Call.of_bodyP ["obj", "mapping"] (wds := [.obj 98 (timeF h m s u), mp]) (by rw [hK]; k_is) (by rw [hK]; k_is) rfl ?hb rfl (by decide) ?_
  case hb =>
    intro vs hv
    match vs, hv with
    | [a, b], _ => exact ⟨[a, b], fun S => by rw [hK]; rfl, fun g r => r⟩
  intro fd sc hsc F
  dsimp only at hsc
  subst hsc
  obtain ⟨h1, h1'⟩ := h1
  have zh1 := zp_len (w := 2) h1 h1'
  obtain ⟨h2, h2'⟩ := h2
  have zh2 := zp_len (w := 2) h2 h2'
  obtain ⟨h3, h3'⟩ := h3
  have zh3 := zp_len (w := 2) h3 h3'
  obtain ⟨h4, h4'⟩ := h4
  have zh4 := zp_len (w := 6) h4 h4'
  have r1 : Rdd W.K 98 "hour" := ⟨by rw [hK]; k_is, by rw [hK]; k_is, by rw [hK]; k_is⟩
  have r2 : Rdd W.K 98 "minute" := ⟨by rw [hK]; k_is, by rw [hK]; k_is, by rw [hK]; k_is⟩
  have r3 : Rdd W.K 98 "second" := ⟨by rw [hK]; k_is, by rw [hK]; k_is, by rw [hK]; k_is⟩
  have r4 : Rdd W.K 98 "microsecond" := ⟨by rw [hK]; k_is, by rw [hK]; k_is, by rw [hK]; k_is⟩
  unfold eTime
  refine Ex.ifS (b := decide (u ≠ 0)) (Tr.plain (Ev.attr (fs := timeF h m s u) (i := u) (Ev.loc F rfl) rfl r4) Tru.int) (fun q => ?y) (fun q => Ex.nil ?z) (fun _ x => x)
  case y =>
    rw [if_neg (by simpa using q)]
    exact Ex.ret (Ev.joined (EvJ.cons Ev.strc (EvJ.cons (Ev.fmt (w := 2) (a := h) (Ev.attr (fs := timeF h m s u) (i := h) (Ev.loc F rfl) rfl r1) h1 h1' (by decide) rfl (by decide) (by decide)) (EvJ.cons Ev.strc (EvJ.cons (Ev.fmt (w := 2) (a := m) (Ev.attr (fs := timeF h m s u) (i := m) (Ev.loc F rfl) rfl r2) h2 h2' (by decide) rfl (by decide) (by decide)) (EvJ.cons Ev.strc (EvJ.cons (Ev.fmt (w := 2) (a := s) (Ev.attr (fs := timeF h m s u) (i := s) (Ev.loc F rfl) rfl r3) h3 h3' (by decide) rfl (by decide) (by decide)) (EvJ.cons Ev.strc (EvJ.cons (Ev.fmt (w := 6) (a := u) (Ev.attr (fs := timeF h m s u) (i := u) (Ev.loc F rfl) rfl r4) h4 h4' (by decide) rfl (by decide) (by decide)) (EvJ.cons Ev.strc EvJ.nil))))))))) (by simp only [PySem.Str.length_append, lit_q, lit_d, lit_c, lit_p, lit_s, emp_len]; omega)) (.inl rfl)
  case z =>
    rw [if_pos (by simpa using q)]
    exact Ex.ret (Ev.joined (EvJ.cons Ev.strc (EvJ.cons (Ev.fmt (w := 2) (a := h) (Ev.attr (fs := timeF h m s u) (i := h) (Ev.loc F rfl) rfl r1) h1 h1' (by decide) rfl (by decide) (by decide)) (EvJ.cons Ev.strc (EvJ.cons (Ev.fmt (w := 2) (a := m) (Ev.attr (fs := timeF h m s u) (i := m) (Ev.loc F rfl) rfl r2) h2 h2' (by decide) rfl (by decide) (by decide)) (EvJ.cons Ev.strc (EvJ.cons (Ev.fmt (w := 2) (a := s) (Ev.attr (fs := timeF h m s u) (i := s) (Ev.loc F rfl) rfl r3) h3 h3' (by decide) rfl (by decide) (by decide)) (EvJ.cons Ev.strc EvJ.nil))))))) (by simp only [PySem.Str.length_append, lit_q, lit_d, lit_c, lit_p, lit_s, emp_len]; omega)) (.inl rfl)
theorem escDT_c (hK : W.K = hd.heap_39 W.w.params) {y mo d h m s u : Int} {mp : D} (g1 : b10 y) (g2 : b10 mo) (g3 : b10 d) (h1 : b10 h) (h2 : b10 m) (h3 : b10 s) (h4 : b10 u) : Call W (n+1) hd' (.ref 309) [.obj 120 (dtF y mo d h m s u), mp] (.str (eDT y mo d h m s u)) := by
  refine Call.of_bodyP ["obj", "mapping"] (wds := [.obj 120 (dtF y mo d h m s u), mp]) (by rw [hK]; k_is) (by rw [hK]; k_is) rfl ?hb rfl (by decide) ?_
  case hb =>
    intro vs hv
    match vs, hv with
    | [a, b], _ => exact ⟨[a, b], fun S => by rw [hK]; rfl, fun g r => r⟩
  intro fd sc hsc F
  dsimp only at hsc
  subst hsc
  obtain ⟨g1, g1'⟩ := g1
  have zg1 := zp_len (w := 4) g1 g1'
  obtain ⟨g2, g2'⟩ := g2
  have zg2 := zp_len (w := 2) g2 g2'
  obtain ⟨g3, g3'⟩ := g3
  have zg3 := zp_len (w := 2) g3 g3'
  obtain ⟨h1, h1'⟩ := h1
  have zh1 := zp_len (w := 2) h1 h1'
  obtain ⟨h2, h2'⟩ := h2
  have zh2 := zp_len (w := 2) h2 h2'
  obtain ⟨h3, h3'⟩ := h3
  have zh3 := zp_len (w := 2) h3 h3'
  obtain ⟨h4, h4'⟩ := h4
  have zh4 := zp_len (w := 6) h4 h4'
  have r1 : Rdd W.K 120 "year" := ⟨by rw [hK]; k_is, by rw [hK]; k_is, by rw [hK]; k_is⟩
  have r2 : Rdd W.K 120 "month" := ⟨by rw [hK]; k_is, by rw [hK]; k_is, by rw [hK]; k_is⟩
  have r3 : Rdd W.K 120 "day" := ⟨by rw [hK]; k_is, by rw [hK]; k_is, by rw [hK]; k_is⟩
  have r4 : Rdd W.K 120 "hour" := ⟨by rw [hK]; k_is, by rw [hK]; k_is, by rw [hK]; k_is⟩
  have r5 : Rdd W.K 120 "minute" := ⟨by rw [hK]; k_is, by rw [hK]; k_is, by rw [hK]; k_is⟩
  have r6 : Rdd W.K 120 "second" := ⟨by rw [hK]; k_is, by rw [hK]; k_is, by rw [hK]; k_is⟩
  have r7 : Rdd W.K 120 "microsecond" := ⟨by rw [hK]; k_is, by rw [hK]; k_is, by rw [hK]; k_is⟩
  unfold eDT
  refine Ex.ifS (b := decide (u ≠ 0)) (Tr.plain (Ev.attr (fs := dtF y mo d h m s u) (i := u) (Ev.loc F rfl) rfl r7) Tru.int) (fun q => ?y) (fun q => Ex.nil ?z) (fun _ x => x)
  case y =>
    rw [if_neg (by simpa using q)]
    exact Ex.ret (Ev.joined (EvJ.cons Ev.strc (EvJ.cons (Ev.fmt (w := 4) (a := y) (Ev.attr (fs := dtF y mo d h m s u) (i := y) (Ev.loc F rfl) rfl r1) g1 g1' (by decide) rfl (by decide) (by decide)) (EvJ.cons Ev.strc (EvJ.cons (Ev.fmt (w := 2) (a := mo) (Ev.attr (fs := dtF y mo d h m s u) (i := mo) (Ev.loc F rfl) rfl r2) g2 g2' (by decide) rfl (by decide) (by decide)) (EvJ.cons Ev.strc (EvJ.cons (Ev.fmt (w := 2) (a := d) (Ev.attr (fs := dtF y mo d h m s u) (i := d) (Ev.loc F rfl) rfl r3) g3 g3' (by decide) rfl (by decide) (by decide)) (EvJ.cons Ev.strc (EvJ.cons (Ev.fmt (w := 2) (a := h) (Ev.attr (fs := dtF y mo d h m s u) (i := h) (Ev.loc F rfl) rfl r4) h1 h1' (by decide) rfl (by decide) (by decide)) (EvJ.cons Ev.strc (EvJ.cons (Ev.fmt (w := 2) (a := m) (Ev.attr (fs := dtF y mo d h m s u) (i := m) (Ev.loc F rfl) rfl r5) h2 h2' (by decide) rfl (by decide) (by decide)) (EvJ.cons Ev.strc (EvJ.cons (Ev.fmt (w := 2) (a := s) (Ev.attr (fs := dtF y mo d h m s u) (i := s) (Ev.loc F rfl) rfl r6) h3 h3' (by decide) rfl (by decide) (by decide)) (EvJ.cons Ev.strc (EvJ.cons (Ev.fmt (w := 6) (a := u) (Ev.attr (fs := dtF y mo d h m s u) (i := u) (Ev.loc F rfl) rfl r7) h4 h4' (by decide) rfl (by decide) (by decide)) (EvJ.cons Ev.strc EvJ.nil))))))))))))))) (by simp only [PySem.Str.length_append, lit_q, lit_d, lit_c, lit_p, lit_s, emp_len]; omega)) (.inl rfl)
  case z =>
    rw [if_pos (by simpa using q)]
    exact Ex.ret (Ev.joined (EvJ.cons Ev.strc (EvJ.cons (Ev.fmt (w := 4) (a := y) (Ev.attr (fs := dtF y mo d h m s u) (i := y) (Ev.loc F rfl) rfl r1) g1 g1' (by decide) rfl (by decide) (by decide)) (EvJ.cons Ev.strc (EvJ.cons (Ev.fmt (w := 2) (a := mo) (Ev.attr (fs := dtF y mo d h m s u) (i := mo) (Ev.loc F rfl) rfl r2) g2 g2' (by decide) rfl (by decide) (by decide)) (EvJ.cons Ev.strc (EvJ.cons (Ev.fmt (w := 2) (a := d) (Ev.attr (fs := dtF y mo d h m s u) (i := d) (Ev.loc F rfl) rfl r3) g3 g3' (by decide) rfl (by decide) (by decide)) (EvJ.cons Ev.strc (EvJ.cons (Ev.fmt (w := 2) (a := h) (Ev.attr (fs := dtF y mo d h m s u) (i := h) (Ev.loc F rfl) rfl r4) h1 h1' (by decide) rfl (by decide) (by decide)) (EvJ.cons Ev.strc (EvJ.cons (Ev.fmt (w := 2) (a := m) (Ev.attr (fs := dtF y mo d h m s u) (i := m) (Ev.loc F rfl) rfl r5) h2 h2' (by decide) rfl (by decide) (by decide)) (EvJ.cons Ev.strc (EvJ.cons (Ev.fmt (w := 2) (a := s) (Ev.attr (fs := dtF y mo d h m s u) (i := s) (Ev.loc F rfl) rfl r6) h3 h3' (by decide) rfl (by decide) (by decide)) (EvJ.cons Ev.strc EvJ.nil))))))))))))) (by simp only [PySem.Str.length_append, lit_q, lit_d, lit_c, lit_p, lit_s, emp_len]; omega)) (.inl rfl)
theorem Ex.retD {fd : FuncData} {σ : Sg} {e : Expr} {pos : Pos} {d : D} (h : Ev W fd n hd' σ e d) : Ex W fd n hd' σ [.Return (some e) pos] (fun o => o = .ret d ∨ (d = .none ∧ ∃ σ, o = .next σ)) := Ex.ret h (.inl rfl)
def encL : List (PySem.Str × Value) := [("bool", .ref 236), ("int", .ref 244), ("float", .ref 252), ("str", .ref 277), ("bytes", .ref 269), ("tuple", .ref 228), ("list", .ref 228), ("set", .ref 228), ("frozenset", .ref 228), ("dict", .ref 228), ("NoneType", .ref 285), ("date", .ref 317), ("datetime", .ref 309), ("timedelta", .ref 293), ("time", .ref 301)]
theorem enc_nd : (encL.map (·.1)).Nodup := by decide +kernel
theorem enc_c (hK : W.K = hd.heap_39 W.w.params) : Call W (n+1) hd' (.ref 370) [] (.dct W.prog W.w encL) := by
  refine Call.of_body [] (by rw [hK]; k_is) (by rw [hK]; k_is) rfl (by intro vs hl; match vs, hl with | [], _ => rfl) rfl (by decide) ?_
  intro fd sc hsc F
  dsimp only at hsc
  subst hsc
  have k : ∀ ks vs pos, EvD W fd n hd' ([].zip []).reverse ks vs encL → ks.all (·.isSome) = true → ks.length = vs.length → ks ≠ [] → ks.length ≤ 15 → Ev W fd n hd' ([].zip []).reverse (.Dict ks vs pos) (.dct W.prog W.w encL) := fun ks vs pos h a b c d => Ev.dict h enc_nd a b c d
  refine Ex.retD ?x
  with_reducible refine k _ _ _ ?h ?a ?b ?c ?d
  case a => rfl
  case b => rfl
  case c => exact List.cons_ne_nil _ _
  case d => show (15 : Nat) ≤ 15; decide
  case h =>
    repeat (refine EvD.cons Ev.strc (Ev.glob F (glb_fnK hK (by k_is))) ?_)
    exact EvD.nil
theorem escTD_c (hK : W.K = hd.heap_39 W.w.params) {us t h m s u : Int} {sg : PySem.Str} {mp : D} (hn : us / 86400000000 < 0 → t = us * -1 ∧ sg = PySem.Str.ofString "-") (hp : ¬ us / 86400000000 < 0 → t = us ∧ sg = PySem.Str.ofString "") (t0 : 0 ≤ t) (t1 : t < 1000000000000000)
    (hu : u = t % 86400000000 % 1000000) (hs : s = t % 86400000000 / 1000000 % 60) (hm : m = t % 86400000000 / 1000000 / 60 % 60) (hh : h = t % 86400000000 / 1000000 / 60 / 60 + t / 86400000000 * 24) : Call W (n+6) 0 (.ref 293) [.obj 149 (spanF us), mp] (.str (eTD sg h m s u)) := by
  have hsg : sg.length ≤ 1 := by by_cases q : us / 86400000000 < 0; (rw [(hn q).2]; decide); (rw [(hp q).2]; decide)
  have h1 : 0 ≤ h := by omega
  have h1' : h < 10000000000 := by omega
  have h2 : 0 ≤ m := by omega
  have h2' : m < 10000000000 := by omega
  have h3 : 0 ≤ s := by omega
  have h3' : s < 10000000000 := by omega
  have h4 : 0 ≤ u := by omega
  have h4' : u < 10000000000 := by omega
  have z1 := zp_len (w := 2) h1 h1'
  have z2 := zp_len (w := 2) h2 h2'
  have z3 := zp_len (w := 2) h3 h3'
  have z4 := zp_len (w := 6) h4 h4'
  obtain ⟨r1, r2, r3⟩ := rdd149 hK
  refine Call.of_bodyP ["obj", "mapping"] (wds := [.obj 149 (spanF us), mp]) (by rw [hK]; k_is) (by rw [hK]; k_is) rfl ?hb rfl (by decide) ?_
  case hb =>
    intro vs hv
    match vs, hv with
    | [a, b], _ => exact ⟨[a, b], fun S => by rw [hK]; rfl, fun g r => r⟩
  intro fd sc hsc F
  dsimp only at hsc
  subst hsc
  refine Ex.assign F Ev.strc ?_
  refine Ex.ifS (P₁ := fun o => ∃ τ, o = .next τ ∧ Sup τ [("obj", .obj 149 (spanF t)), ("sign", .str sg)]) (b := decide (us / 86400000000 < 0)) (Tr.cmp (Ev.attr (fs := spanF us) (i := us / 86400000000) (Ev.loc F rfl) rfl r1) Ev.int Cmp.ltI Tru.bool) ?a ?b ?k
  case a =>
    intro q
    obtain ⟨e1, e2⟩ := hn (of_decide_eq_true q)
    subst e2
    rw [e1]
    exact Ex.assign F Ev.strc (Ex.assign F (Ev.bin (Ev.loc F rfl) (Ev.un Ev.int Un.neg) (bmul hK (us := us) (k := -1) (.inr rfl) (by omega) (by omega))) (Ex.nil ⟨_, rfl, Sup.cons rfl (Sup.cons rfl Sup.nil)⟩))
  case b =>
    intro q
    obtain ⟨e1, e2⟩ := hp (of_decide_eq_false q)
    subst e2
    rw [e1]
    exact Ex.nil ⟨_, rfl, Sup.cons rfl (Sup.cons rfl Sup.nil)⟩
  case k =>
    rintro o ⟨τ, rfl, hsup⟩
    refine Ex.sup ?_ hsup
    refine Ex.assign F (Ev.attr (fs := spanF t) (i := u) (Ev.loc F rfl) (by rw [hu]; rfl) r3) ?_
    refine Ex.assignT F (ds := [.int (t % 86400000000 / 1000000 / 60), .int s]) (Ev.call (ds := [.int (t % 86400000000 / 1000000), .int 60]) ?f1 (EvL.cons (Ev.attr (fs := spanF t) (i := t % 86400000000 / 1000000) (Ev.loc F rfl) rfl r2) (EvL.cons Ev.int EvL.nil)) ?k1 (hs ▸ Call.divmod (by decide) (by decide))) (Unp.tup rfl) (.cons rfl (.cons rfl .nil)) rfl ?_
    case f1 => tm_at "go"
    case k1 => tm_at "go"
    refine Ex.assignT F (ds := [.int (t % 86400000000 / 1000000 / 60 / 60), .int m]) (Ev.call (ds := [.int (t % 86400000000 / 1000000 / 60), .int 60]) ?f2 (EvL.cons (Ev.loc F rfl) (EvL.cons Ev.int EvL.nil)) ?k2 (hm ▸ Call.divmod (by decide) (by decide))) (Unp.tup rfl) (.cons rfl (.cons rfl .nil)) rfl ?_
    case f2 => tm_at "go"
    case k2 => tm_at "go"
    refine Ex.aug F (d := .int h) rfl (Ev.bin (Ev.attr (fs := spanF t) (i := t / 86400000000) (Ev.loc F rfl) rfl r1) Ev.int (Bin.mulI (j := 24) (by decide))) (hh ▸ Inp.addI) ?_
    unfold eTD
    refine Ex.ifS (b := decide (u ≠ 0)) (Tr.plain (Ev.loc F rfl) Tru.int) (fun q => ?y) (fun q => Ex.nil ?z) (fun _ x => x)
    case y =>
      rw [if_neg (by simpa using q)]
      exact Ex.ret (Ev.joined (EvJ.cons Ev.strc (EvJ.cons (Ev.fms (Ev.loc F rfl) (by omega)) (EvJ.cons (Ev.fmt (w := 2) (a := h) (Ev.loc F rfl) h1 h1' (by decide) rfl (by decide) (by decide)) (EvJ.cons Ev.strc (EvJ.cons (Ev.fmt (w := 2) (a := m) (Ev.loc F rfl) h2 h2' (by decide) rfl (by decide) (by decide)) (EvJ.cons Ev.strc (EvJ.cons (Ev.fmt (w := 2) (a := s) (Ev.loc F rfl) h3 h3' (by decide) rfl (by decide) (by decide)) (EvJ.cons Ev.strc (EvJ.cons (Ev.fmt (w := 6) (a := u) (Ev.loc F rfl) h4 h4' (by decide) rfl (by decide) (by decide)) (EvJ.cons Ev.strc EvJ.nil)))))))))) (by simp only [PySem.Str.length_append, lit_q, lit_d, lit_c, lit_p, lit_s, emp_len]; omega)) (.inl rfl)
    case z =>
      rw [if_pos (by simpa using q)]
      exact Ex.ret (Ev.joined (EvJ.cons Ev.strc (EvJ.cons (Ev.fms (Ev.loc F rfl) (by omega)) (EvJ.cons (Ev.fmt (w := 2) (a := h) (Ev.loc F rfl) h1 h1' (by decide) rfl (by decide) (by decide)) (EvJ.cons Ev.strc (EvJ.cons (Ev.fmt (w := 2) (a := m) (Ev.loc F rfl) h2 h2' (by decide) rfl (by decide) (by decide)) (EvJ.cons Ev.strc (EvJ.cons (Ev.fmt (w := 2) (a := s) (Ev.loc F rfl) h3 h3' (by decide) rfl (by decide) (by decide)) (EvJ.cons Ev.strc EvJ.nil)))))))) (by simp only [PySem.Str.length_append, lit_q, lit_d, lit_c, lit_p, lit_s, emp_len]; omega)) (.inl rfl)
theorem item_c (hK : W.K = hd.heap_39 W.w.params) {C fe : Addr} {fs : List (PySem.Str × Int)} {q r : PySem.Str} (hN : NmOf W.K C q) (hv : valueAt encL q = some (.ref fe)) (htr : typeIn W.K (.ref fe) = some (.type "function")) (hkp : keepIn W.K (.ref fe) = true) (hc : ∀ mp, Call W (n+6) 0 (.ref fe) [.obj C fs, mp] (.str r)) : Call W (n+7) 0 (.ref 220) [.obj C fs] (.str r) := by
  refine Call.of_bodyP ["val", "charset", "mapping"] (wds := [.obj C fs, .none, .none]) (by rw [hK]; k_is) (by rw [hK]; k_is) rfl ?hb rfl (by decide) ?_
  case hb =>
    intro vs hv
    match vs, hv with
    | [a], _ =>
      refine ⟨[a, .none, .none], fun S => by rw [hK]; rfl, fun g r => ?_⟩
      match r with
      | .cons r1 .nil => exact .cons r1 (.cons .none (.cons .none .nil))
  intro fd sc hsc F
  dsimp only at hsc
  subst hsc
  refine Ex.ift (b := true) (Tr.cmp (Ev.loc F rfl) Ev.nonec Cmp.isNone Tru.bool) rfl (Ex.assign F (Ev.call (ds := []) ?f1 EvL.nil ?k1 (enc_c hK)) (Ex.nil ?_))
  case f1 => tm_at "go"
  case k1 => tm_at "go"
  refine Ex.assign F (Ev.meth (d0 := .dct W.prog W.w encL) (ds := [.str q]) (Ev.loc F rfl) (EvL.cons (Ev.clsName (Ev.call (f := .type "type") (ds := [.obj C fs]) ?f2 (EvL.cons (Ev.loc F rfl) EvL.nil) keep_type Call.typeOf) hN (by rw [hK]; k_is)) EvL.nil) Meth.dct (Call.dctGet hv)) ?_
  case f2 => tm_at "go"
  refine Ex.iff (b := !true) (Tr.not (Tr.plain (Ev.loc F rfl) (Tru.fnK rfl htr))) rfl (Ex.nil ?_)
  refine Ex.assign F (Ev.call (ds := [.obj C fs, .dct W.prog W.w encL]) (Ev.loc F rfl) (EvL.cons (Ev.loc F rfl) (EvL.cons (Ev.loc F rfl) EvL.nil)) (keep_refK rfl hkp) (hc _)) ?_
  exact Ex.ret (Ev.loc F rfl) (.inl rfl)
theorem itemD_c (hK : W.K = hd.heap_39 W.w.params) {y m d : Int} (h1 : b10 y) (h2 : b10 m) (h3 : b10 d) : Call W (n+7) 0 (.ref 220) [.obj 76 (dateF y m d)] (.str (eDate y m d)) :=
  item_c hK (q := "date") ⟨⟨_, _, _, _, by rw [hK]; k_is, rfl⟩, by rw [hK]; k_is⟩ (by decide) (by rw [hK]; k_is) (by rw [hK]; k_is) fun _ => escD_c hK h1 h2 h3
theorem itemT_c (hK : W.K = hd.heap_39 W.w.params) {h m s u : Int} (h1 : b10 h) (h2 : b10 m) (h3 : b10 s) (h4 : b10 u) : Call W (n+7) 0 (.ref 220) [.obj 98 (timeF h m s u)] (.str (eTime h m s u)) :=
  item_c hK (q := "time") ⟨⟨_, _, _, _, by rw [hK]; k_is, rfl⟩, by rw [hK]; k_is⟩ (by decide) (by rw [hK]; k_is) (by rw [hK]; k_is) fun _ => escT_c hK h1 h2 h3 h4
theorem itemDT_c (hK : W.K = hd.heap_39 W.w.params) {y mo d h m s u : Int} (g1 : b10 y) (g2 : b10 mo) (g3 : b10 d) (h1 : b10 h) (h2 : b10 m) (h3 : b10 s) (h4 : b10 u) : Call W (n+7) 0 (.ref 220) [.obj 120 (dtF y mo d h m s u)] (.str (eDT y mo d h m s u)) :=
  item_c hK (q := "datetime") ⟨⟨_, _, _, _, by rw [hK]; k_is, rfl⟩, by rw [hK]; k_is⟩ (by decide) (by rw [hK]; k_is) (by rw [hK]; k_is) fun _ => escDT_c hK g1 g2 g3 h1 h2 h3 h4
theorem itemTD_c (hK : W.K = hd.heap_39 W.w.params) {us t h m s u : Int} {sg : PySem.Str} (hn : us / 86400000000 < 0 → t = us * -1 ∧ sg = PySem.Str.ofString "-") (hp : ¬ us / 86400000000 < 0 → t = us ∧ sg = PySem.Str.ofString "") (t0 : 0 ≤ t) (t1 : t < 1000000000000000)
    (hu : u = t % 86400000000 % 1000000) (hs : s = t % 86400000000 / 1000000 % 60) (hm : m = t % 86400000000 / 1000000 / 60 % 60) (hh : h = t % 86400000000 / 1000000 / 60 / 60 + t / 86400000000 * 24) : Call W (n+7) 0 (.ref 220) [.obj 149 (spanF us)] (.str (eTD sg h m s u)) :=
  item_c hK (q := "timedelta") ⟨⟨_, _, _, _, by rw [hK]; k_is, rfl⟩, by rw [hK]; k_is⟩ (by decide) (by rw [hK]; k_is) (by rw [hK]; k_is) fun _ => escTD_c hK hn hp t0 t1 hu hs hm hh
end

end Mine
end

section
open PySem PySem.W PySem.Calls PyProof.Rows
set_option Elab.async false
set_option linter.unusedVariables false
set_option linter.unusedSimpArgs false
set_option linter.unnecessarySimpa false
set_option maxRecDepth 100000
set_option maxHeartbeats 4000000
namespace Mine
local macro_rules | `(tactic| tm_at "len") => `(tactic| (simp only [PySem.Str.length_append, lit_0, lit_4, lit_3, lit_6, lit_d, lit_c, lit_s, lit_T, lit_p, lit_q, lit_e] at *; omega))
local macro_rules | `(tactic| tm_at "sd") => `(tactic| ((show (_ : Prop)); first | assumption | decide | omega | tm_at "len"))
local macro_rules | `(tactic| tm_at "call") => `(tactic| fail "no contract")
local macro_rules | `(tactic| tm_at "call") => `(tactic| (with_reducible refine' Call.strI ?_))
local macro_rules | `(tactic| tm_at "tr") => `(tactic| ((with_reducible show Tr _ _ _ _ _ _ _); first
  | exact Tr.andNil
  | exact Tr.orNil
  | ((with_reducible show Tr _ _ _ _ _ (PySem.Expr.BoolOp BoolOp.And _ _) _); refine' Tr.and ?_ ?_)
  | ((with_reducible show Tr _ _ _ _ _ (PySem.Expr.BoolOp BoolOp.Or _ _) _); refine' Tr.or ?_ ?_)
  | ((with_reducible show Tr _ _ _ _ _ (PySem.Expr.UnaryOp UnaryOp.Not _ _) _); refine' Tr.not ?_)
  | ((with_reducible show Tr _ _ _ _ _ (PySem.Expr.Compare _ [_] [_] _) _); refine' Tr.cmp ?_ ?_ ?_ ?_)
  | ((with_reducible show Tr _ _ _ _ _ (PySem.Expr.Compare _ [_, _] [_, _] _) _); refine' Tr.cmp2 ?_ ?_ ?_ ?_ ?_)
  | ((with_reducible show Tr _ _ _ _ _ (PySem.Expr.IfExp _ _ _ _) _); refine' Tr.ifexp ?_ ?_ ?_)
  | refine' Tr.plain ?_ ?_))
local macro_rules | `(tactic| tm_at "ev") => `(tactic| ((with_reducible show Ev _ _ _ _ _ _ _); first
  | ((with_reducible show Ev _ _ _ _ _ (PySem.Expr.Constant _ _ _) _); first | exact Ev.int | exact Ev.strc | exact Ev.boolc | exact Ev.nonec)
  | ((with_reducible show Ev _ _ _ _ _ (PySem.Expr.Name _ _) _); first | exact Ev.loc (by assumption) rfl | exact Ev.glob (by assumption) (glb_fnK (by assumption) (by k_is)) | exact Ev.bti (by assumption) (bti_fnK (by assumption) (by k_is) (by boot_fast)))
  | ((with_reducible show Ev _ _ _ _ _ (PySem.Expr.BinOp _ _ _ _) _); refine' Ev.bin ?_ ?_ ?_)
  | ((with_reducible show Ev _ _ _ _ _ (PySem.Expr.IfExp _ _ _ _) _); refine' Ev.ifexp ?_ ?_ ?_ ?_)
  | ((with_reducible show Ev _ _ _ _ _ (PySem.Expr.Subscript _ (PySem.Expr.Slice _ _ _ _) _) _); refine' Ev.slc ?_ ?_ ?_ ?_)
  | ((with_reducible show Ev _ _ _ _ _ (PySem.Expr.Subscript _ _ _) _); refine' Ev.sub ?_ ?_ ?_)
  | ((with_reducible show Ev _ _ _ _ _ (PySem.Expr.Call _ _ _ _) _); refine' Ev.call ?_ ?_ ?_ ?_)
  | ((with_reducible show Ev _ _ _ _ _ (PySem.Expr.Compare _ [_] [_] _) _); refine' Ev.cmp ?_ ?_ ?_)
  | ((with_reducible show Ev _ _ _ _ _ (PySem.Expr.Compare _ [_, _] [_, _] _) _); refine' Ev.cmp2 ?_ ?_ ?_ ?_ ?_)
  | ((with_reducible show Ev _ _ _ _ _ (PySem.Expr.BoolOp _ [_] _) _); refine' Ev.one ?_)
  | ((with_reducible show Ev _ _ _ _ _ (PySem.Expr.BoolOp _ _ _) _); refine' Ev.and ?_ ?_)
  | ((with_reducible show Ev _ _ _ _ _ (PySem.Expr.UnaryOp _ _ _) _); refine' Ev.un ?_ ?_)
  | ((with_reducible show Ev _ _ _ _ _ (PySem.Expr.Tuple _ _ _) _); refine' Ev.tup ?_ ?_)
  | ((with_reducible show Ev _ _ _ _ _ (PySem.Expr.List _ _) _); refine' Ev.lst ?_ ?_)))
local macro_rules | `(tactic| tm_at "op") => `(tactic| first
  | ((with_reducible show Bin _ _ _ _ _ _ _); with_reducible first | exact Bin.addI | exact Bin.subI | refine' Bin.divI | refine' Bin.modI | refine' Bin.mulI ?_ | refine' Bin.addS ?_)
  | ((with_reducible show Cmp _ _ _ _ _ _ _); with_reducible first | exact Cmp.eqI | exact Cmp.neI | exact Cmp.ltI | exact Cmp.leI | exact Cmp.gtI | exact Cmp.geI | exact Cmp.eqS | exact Cmp.neS)
  | ((with_reducible show Tru _ _ _ _ _); with_reducible first | exact Tru.bool | exact Tru.none | exact Tru.int | refine' Tru.str ?_)
  | ((with_reducible show EvL _ _ _ _ _ _ _); first | exact EvL.nil | refine' EvL.cons ?_ ?_)
  | ((with_reducible show EvP _ _ _ _ _ _ _); first | exact EvP.none | refine' EvP.some ?_)
  | ((with_reducible show Keep _ _); first | exact keep_type | exact keep_builtin | exact keep_refK (by assumption) (by k_is))
  | ((with_reducible show Sub _ _ _ _ _ _); first | exact Sub.tup rfl rfl | refine' Sub.lst ?_ rfl)
  | ((with_reducible show Slc _ _ _ _ _ _ _); first | refine' Slc.str ?_ | refine' Slc.lst ?_ | refine' Slc.tupFrom ?_ ?_ ?_)
  | ((with_reducible show Jn _ _ _ _); with_reducible first | exact Jn.int _ _ | exact Jn.str _ _ | exact Jn.bool _ _ | exact Jn.same _)
  | ((with_reducible show Un _ _ _ _ _ _); with_reducible exact Un.neg)
  | ((with_reducible show Call _ _ _ _ _ _); tm_at "call"))
local macro_rules | `(tactic| tm_at "step") => `(tactic| first | tm_at "ev" | tm_at "tr" | tm_at "op" | (with_reducible refine' fun (_ : _ = _) => ?_) | tm_at "sd")
local macro_rules | `(tactic| tm_at "go") => `(tactic| repeat' (tm_at "step"))
theorem ldKC10 : hd.heap_39 = hd.heap_39 ∧ PySem.Challenge.rw_fe0239_01 = PySem.Challenge.rw_fe0239_01 := by
  k_fill
  exact ⟨rfl, rfl⟩
def two (i : Int) (p : Bool) : PySem.Str := if p && decide (i < 10) then PySem.Str.ofString "0" ++ strI i else strI i
def big (i : Int) : Prop := -100000000000000000000 < i ∧ i < 100000000000000000000
def mtab (y : Int) : List Int := [31, if decide (y % 400 = 0) || (decide (y % 4 = 0) && decide (y % 100 ≠ 0)) then 29 else 28, 31, 30, 31, 30, 31, 31, 30, 31, 30, 31]
theorem strI_len10 {i : Int} (h : b10 i) : (strI i).length ≤ 10 := strI_len h.1 (by decide) (by have := h.2; simpa using this)
theorem two_len {i : Int} {p : Bool} (h : b10 i) : (two i p).length ≤ 11 := by
  unfold two
  have := strI_len10 h
  split
  · rw [PySem.Str.length_append, lit_0]; omega
  · omega
section
variable {W : Wd} {n : Nat} {hd' : Nat}
theorem two_c (hK : W.K = hd.heap_39 W.w.params) {i : Int} {p : Bool} (h : b10 i) : Call W (n+1) hd' (.ref 379) [.int i, .bool p] (.str (two i p)) := by
  have l1 := strI_len10 h
  obtain ⟨h0, h1⟩ := h
  refine Call.of_body ["number", "padded"] (by rw [hK]; k_is) (by rw [hK]; k_is) rfl (by intro vs hl; match vs, hl with | [a,b], _ => rfl) rfl (by decide) ?_
  intro fd sc hsc F
  dsimp only at hsc
  subst hsc
  refine' Ex.ret ?e1 (.inl ?g)
  case e1 => tm_at "go"
  case g => simp [two]
theorem months_c (hK : W.K = hd.heap_39 W.w.params) {y : Int} : Call W (n+1) hd' (.ref 386) [.int y] (.tup ((mtab y).map D.int)) := by
  refine Call.of_body ["year"] (by rw [hK]; k_is) (by rw [hK]; k_is) rfl (by intro vs hl; match vs, hl with | [a], _ => rfl) rfl (by decide) ?_
  intro fd sc hsc F
  dsimp only at hsc
  subst hsc
  refine' Ex.ret (Ev.tup (ds := (mtab y).map D.int) ?e1 (by show (12 : Nat) ≤ _; decide)) (.inl rfl)
  case e1 =>
    refine EvL.cons Ev.int (EvL.cons (Ev.ifexp (b := decide (y % 400 = 0) || (decide (y % 4 = 0) && decide (y % 100 ≠ 0))) ?t (fun _ => Ev.int) (fun _ => Ev.int) (Jn.int 29 28)) ?r)
    case r => tm_at "go"
    case t =>
      have e : (decide (y % 400 = 0) || (decide (y % 4 = 0) && decide (y % 100 ≠ 0))) = (decide (y % 400 = 0) || ((decide (y % 4 = 0) && (decide (y % 100 ≠ 0) && true)) || false)) := by simp
      rw [e]
      tm_at "go"
def clk (h m s u : Int) : PySem.Str := two h true ++ PySem.Str.ofString ":" ++ two m true ++ PySem.Str.ofString ":" ++ two s true ++ (if u ≠ 0 then PySem.Str.ofString "." ++ sl (strI (1000000 + u)) (some 1) none else PySem.Str.ofString "")
end
local macro_rules | `(tactic| tm_at "call") => `(tactic| (with_reducible refine' two_c ?_ ?_))
section
variable {W : Wd} {n : Nat} {hd' : Nat}
theorem sl_len (x : PySem.Str) (lo hi : Option Int) : (sl x lo hi).length ≤ x.length := by
  unfold sl Mine.cut
  have lc : x.cps.toList.length = x.length := by simp [PySem.Str.length]
  simp only [PySem.Str.length, List.size_toArray, List.length_take, List.length_drop, lc]
  omega
theorem clock_c (hK : W.K = hd.heap_39 W.w.params) {h m s u : Int} (h1 : b10 h) (h2 : b10 m) (h3 : b10 s) (h4 : 0 ≤ u ∧ u < 1000000) : Call W (n+2) hd' (.ref 400) [.tup [.int h, .int m, .int s, .int u]] (.str (clk h m s u)) := by
  have z1 := two_len (p := true) h1
  have z2 := two_len (p := true) h2
  have z3 := two_len (p := true) h3
  have h5 : b10 (1000000 + u) := ⟨by omega, by omega⟩
  have z4 := strI_len10 h5
  have z5 := sl_len (strI (1000000 + u)) (some 1) none
  obtain ⟨h50, h51⟩ := h5
  refine Call.of_body ["due"] (by rw [hK]; k_is) (by rw [hK]; k_is) rfl (by intro vs hl; match vs, hl with | [a], _ => rfl) rfl (by decide) ?_
  intro fd sc hsc F
  dsimp only at hsc
  subst hsc
  refine Ex.assign F (d := .str (two h true ++ PySem.Str.ofString ":" ++ two m true ++ PySem.Str.ofString ":" ++ two s true)) ?e ?_
  case e => tm_at "go"
  refine Ex.ret (Ev.bin (Ev.loc F rfl) (Ev.ifexp (b := decide (u ≠ 0)) ?t (fun _ => ?y) (fun _ => Ev.strc) (Jn.str (PySem.Str.ofString "." ++ sl (strI (1000000 + u)) (some 1) none) _)) (Bin.addS ?z)) (.inl ?g)
  case t => tm_at "go"
  case y => tm_at "go"
  case z =>
    simp only [PySem.Str.length_append, lit_c]
    split
    · rw [PySem.Str.length_append, lit_p]; omega
    · rw [lit_e]; omega
  case g => simp [clk]
end
section
variable {W : Wd} {n : Nat} {hd' : Nat}
theorem own76 (hK : W.K = hd.heap_39 W.w.params) : OwnCls W.K 76 := ⟨by rw [hK]; k_is, by rw [hK]; k_is, by rw [hK]; k_is, by rw [hK]; k_is, by rw [hK]; k_is, by rw [hK]; k_is⟩
theorem own98 (hK : W.K = hd.heap_39 W.w.params) : OwnCls W.K 98 := ⟨by rw [hK]; k_is, by rw [hK]; k_is, by rw [hK]; k_is, by rw [hK]; k_is, by rw [hK]; k_is, by rw [hK]; k_is⟩
theorem own120 (hK : W.K = hd.heap_39 W.w.params) : OwnCls W.K 120 := ⟨by rw [hK]; k_is, by rw [hK]; k_is, by rw [hK]; k_is, by rw [hK]; k_is, by rw [hK]; k_is, by rw [hK]; k_is⟩
theorem own149 (hK : W.K = hd.heap_39 W.w.params) : OwnCls W.K 149 := ⟨by rw [hK]; k_is, by rw [hK]; k_is, by rw [hK]; k_is, by rw [hK]; k_is, by rw [hK]; k_is, by rw [hK]; k_is⟩
theorem toldT_c (hK : W.K = hd.heap_39 W.w.params) {x : PySem.Str} : Call W (n+1) hd' (.ref 393) [.str x] (.tup (([.s "text", .s x] : List At).map At.d)) := by
  refine Call.of_body ["value"] (by rw [hK]; k_is) (by rw [hK]; k_is) rfl (by intro vs hl; match vs, hl with | [a], _ => rfl) rfl (by decide) ?_
  intro fd sc hsc F
  dsimp only at hsc
  subst hsc
  refine Ex.iff (b := false) (Tr.plain (Ev.call (f := .builtin "isinstance") (ds := [.str x, .fn (.ref 120)]) ?f0 (EvL.cons (Ev.loc F rfl) (EvL.cons ?g0 EvL.nil)) keep_builtin (Call.isi (c := .ref 120) (KitD.str) (by rw [hK]; kit_is))) Tru.bool) rfl (Ex.nil ?_)
  case f0 => tm_at "go"
  case g0 => tm_at "go"
  refine Ex.iff (b := false) (Tr.plain (Ev.call (f := .builtin "isinstance") (ds := [.str x, .fn (.ref 76)]) ?f1 (EvL.cons (Ev.loc F rfl) (EvL.cons ?g1 EvL.nil)) keep_builtin (Call.isi (c := .ref 76) (KitD.str) (by rw [hK]; kit_is))) Tru.bool) rfl (Ex.nil ?_)
  case f1 => tm_at "go"
  case g1 => tm_at "go"
  refine Ex.iff (b := false) (Tr.plain (Ev.call (f := .builtin "isinstance") (ds := [.str x, .fn (.ref 149)]) ?f2 (EvL.cons (Ev.loc F rfl) (EvL.cons ?g2 EvL.nil)) keep_builtin (Call.isi (c := .ref 149) (KitD.str) (by rw [hK]; kit_is))) Tru.bool) rfl (Ex.nil ?_)
  case f2 => tm_at "go"
  case g2 => tm_at "go"
  refine Ex.ift (b := true) (Tr.plain (Ev.call (f := .builtin "isinstance") (ds := [.str x, .fn (.type "str")]) ?f3 (EvL.cons (Ev.loc F rfl) (EvL.cons ?g3 EvL.nil)) keep_builtin (Call.isi (c := .type "str") (KitD.str) (by rw [hK]; kit_is))) Tru.bool) rfl (Ex.ret (Ev.tup (EvL.cons (Ev.strc) (EvL.cons (Ev.loc F rfl) (EvL.nil))) (by show (2 : Nat) ≤ _; decide)) (.inl rfl))
  case f3 => tm_at "go"
  case g3 => tm_at "go"
theorem toldDT_c (hK : W.K = hd.heap_39 W.w.params) {y mo d h m s u : Int} : Call W (n+1) hd' (.ref 393) [.obj 120 (dtF y mo d h m s u)] (.tup (([.s "moment", .i y, .i mo, .i d, .i h, .i m, .i s, .i u] : List At).map At.d)) := by
  have r1 : Rdd W.K 120 "year" := ⟨by rw [hK]; k_is, by rw [hK]; k_is, by rw [hK]; k_is⟩
  have r2 : Rdd W.K 120 "month" := ⟨by rw [hK]; k_is, by rw [hK]; k_is, by rw [hK]; k_is⟩
  have r3 : Rdd W.K 120 "day" := ⟨by rw [hK]; k_is, by rw [hK]; k_is, by rw [hK]; k_is⟩
  have r4 : Rdd W.K 120 "hour" := ⟨by rw [hK]; k_is, by rw [hK]; k_is, by rw [hK]; k_is⟩
  have r5 : Rdd W.K 120 "minute" := ⟨by rw [hK]; k_is, by rw [hK]; k_is, by rw [hK]; k_is⟩
  have r6 : Rdd W.K 120 "second" := ⟨by rw [hK]; k_is, by rw [hK]; k_is, by rw [hK]; k_is⟩
  have r7 : Rdd W.K 120 "microsecond" := ⟨by rw [hK]; k_is, by rw [hK]; k_is, by rw [hK]; k_is⟩
  refine Call.of_body ["value"] (by rw [hK]; k_is) (by rw [hK]; k_is) rfl (by intro vs hl; match vs, hl with | [a], _ => rfl) rfl (by decide) ?_
  intro fd sc hsc F
  dsimp only at hsc
  subst hsc
  refine Ex.ift (b := true) (Tr.plain (Ev.call (f := .builtin "isinstance") (ds := [.obj 120 (dtF y mo d h m s u), .fn (.ref 120)]) ?f0 (EvL.cons (Ev.loc F rfl) (EvL.cons ?g0 EvL.nil)) keep_builtin (Call.isi (c := .ref 120) (KitD.obj (own120 hK)) (by rw [hK]; kit_is))) Tru.bool) rfl (Ex.ret (Ev.tup (EvL.cons (Ev.strc) (EvL.cons (Ev.attr (fs := dtF y mo d h m s u) (i := y) (Ev.loc F rfl) rfl r1) (EvL.cons (Ev.attr (fs := dtF y mo d h m s u) (i := mo) (Ev.loc F rfl) rfl r2) (EvL.cons (Ev.attr (fs := dtF y mo d h m s u) (i := d) (Ev.loc F rfl) rfl r3) (EvL.cons (Ev.attr (fs := dtF y mo d h m s u) (i := h) (Ev.loc F rfl) rfl r4) (EvL.cons (Ev.attr (fs := dtF y mo d h m s u) (i := m) (Ev.loc F rfl) rfl r5) (EvL.cons (Ev.attr (fs := dtF y mo d h m s u) (i := s) (Ev.loc F rfl) rfl r6) (EvL.cons (Ev.attr (fs := dtF y mo d h m s u) (i := u) (Ev.loc F rfl) rfl r7) (EvL.nil))))))))) (by show (8 : Nat) ≤ _; decide)) (.inl rfl))
  case f0 => tm_at "go"
  case g0 => tm_at "go"
theorem toldD_c (hK : W.K = hd.heap_39 W.w.params) {y m d : Int} : Call W (n+1) hd' (.ref 393) [.obj 76 (dateF y m d)] (.tup (([.s "day", .i y, .i m, .i d] : List At).map At.d)) := by
  have r1 : Rdd W.K 76 "year" := ⟨by rw [hK]; k_is, by rw [hK]; k_is, by rw [hK]; k_is⟩
  have r2 : Rdd W.K 76 "month" := ⟨by rw [hK]; k_is, by rw [hK]; k_is, by rw [hK]; k_is⟩
  have r3 : Rdd W.K 76 "day" := ⟨by rw [hK]; k_is, by rw [hK]; k_is, by rw [hK]; k_is⟩
  refine Call.of_body ["value"] (by rw [hK]; k_is) (by rw [hK]; k_is) rfl (by intro vs hl; match vs, hl with | [a], _ => rfl) rfl (by decide) ?_
  intro fd sc hsc F
  dsimp only at hsc
  subst hsc
  refine Ex.iff (b := false) (Tr.plain (Ev.call (f := .builtin "isinstance") (ds := [.obj 76 (dateF y m d), .fn (.ref 120)]) ?f0 (EvL.cons (Ev.loc F rfl) (EvL.cons ?g0 EvL.nil)) keep_builtin (Call.isi (c := .ref 120) (KitD.obj (own76 hK)) (by rw [hK]; kit_is))) Tru.bool) rfl (Ex.nil ?_)
  case f0 => tm_at "go"
  case g0 => tm_at "go"
  refine Ex.ift (b := true) (Tr.plain (Ev.call (f := .builtin "isinstance") (ds := [.obj 76 (dateF y m d), .fn (.ref 76)]) ?f1 (EvL.cons (Ev.loc F rfl) (EvL.cons ?g1 EvL.nil)) keep_builtin (Call.isi (c := .ref 76) (KitD.obj (own76 hK)) (by rw [hK]; kit_is))) Tru.bool) rfl (Ex.ret (Ev.tup (EvL.cons (Ev.strc) (EvL.cons (Ev.attr (fs := dateF y m d) (i := y) (Ev.loc F rfl) rfl r1) (EvL.cons (Ev.attr (fs := dateF y m d) (i := m) (Ev.loc F rfl) rfl r2) (EvL.cons (Ev.attr (fs := dateF y m d) (i := d) (Ev.loc F rfl) rfl r3) (EvL.nil))))) (by show (4 : Nat) ≤ _; decide)) (.inl rfl))
  case f1 => tm_at "go"
  case g1 => tm_at "go"
theorem toldTD_c (hK : W.K = hd.heap_39 W.w.params) {us : Int} : Call W (n+1) hd' (.ref 393) [.obj 149 (spanF us)] (.tup (([.s "span", .i (us / 86400000000), .i (us % 86400000000 / 1000000), .i (us % 86400000000 % 1000000)] : List At).map At.d)) := by
  have r1 : Rdd W.K 149 "days" := ⟨by rw [hK]; k_is, by rw [hK]; k_is, by rw [hK]; k_is⟩
  have r2 : Rdd W.K 149 "seconds" := ⟨by rw [hK]; k_is, by rw [hK]; k_is, by rw [hK]; k_is⟩
  have r3 : Rdd W.K 149 "microseconds" := ⟨by rw [hK]; k_is, by rw [hK]; k_is, by rw [hK]; k_is⟩
  refine Call.of_body ["value"] (by rw [hK]; k_is) (by rw [hK]; k_is) rfl (by intro vs hl; match vs, hl with | [a], _ => rfl) rfl (by decide) ?_
  intro fd sc hsc F
  dsimp only at hsc
  subst hsc
  refine Ex.iff (b := false) (Tr.plain (Ev.call (f := .builtin "isinstance") (ds := [.obj 149 (spanF us), .fn (.ref 120)]) ?f0 (EvL.cons (Ev.loc F rfl) (EvL.cons ?g0 EvL.nil)) keep_builtin (Call.isi (c := .ref 120) (KitD.obj (own149 hK)) (by rw [hK]; kit_is))) Tru.bool) rfl (Ex.nil ?_)
  case f0 => tm_at "go"
  case g0 => tm_at "go"
  refine Ex.iff (b := false) (Tr.plain (Ev.call (f := .builtin "isinstance") (ds := [.obj 149 (spanF us), .fn (.ref 76)]) ?f1 (EvL.cons (Ev.loc F rfl) (EvL.cons ?g1 EvL.nil)) keep_builtin (Call.isi (c := .ref 76) (KitD.obj (own149 hK)) (by rw [hK]; kit_is))) Tru.bool) rfl (Ex.nil ?_)
  case f1 => tm_at "go"
  case g1 => tm_at "go"
  refine Ex.ift (b := true) (Tr.plain (Ev.call (f := .builtin "isinstance") (ds := [.obj 149 (spanF us), .fn (.ref 149)]) ?f2 (EvL.cons (Ev.loc F rfl) (EvL.cons ?g2 EvL.nil)) keep_builtin (Call.isi (c := .ref 149) (KitD.obj (own149 hK)) (by rw [hK]; kit_is))) Tru.bool) rfl (Ex.ret (Ev.tup (EvL.cons (Ev.strc) (EvL.cons (Ev.attr (fs := spanF us) (i := us / 86400000000) (Ev.loc F rfl) rfl r1) (EvL.cons (Ev.attr (fs := spanF us) (i := us % 86400000000 / 1000000) (Ev.loc F rfl) rfl r2) (EvL.cons (Ev.attr (fs := spanF us) (i := us % 86400000000 % 1000000) (Ev.loc F rfl) rfl r3) (EvL.nil))))) (by show (4 : Nat) ≤ _; decide)) (.inl rfl))
  case f2 => tm_at "go"
  case g2 => tm_at "go"
theorem toldTM_c (hK : W.K = hd.heap_39 W.w.params) {h m s u : Int} : Call W (n+1) hd' (.ref 393) [.obj 98 (timeF h m s u)] (.tup (([.s "clock", .i h, .i m, .i s, .i u] : List At).map At.d)) := by
  have r1 : Rdd W.K 98 "hour" := ⟨by rw [hK]; k_is, by rw [hK]; k_is, by rw [hK]; k_is⟩
  have r2 : Rdd W.K 98 "minute" := ⟨by rw [hK]; k_is, by rw [hK]; k_is, by rw [hK]; k_is⟩
  have r3 : Rdd W.K 98 "second" := ⟨by rw [hK]; k_is, by rw [hK]; k_is, by rw [hK]; k_is⟩
  have r4 : Rdd W.K 98 "microsecond" := ⟨by rw [hK]; k_is, by rw [hK]; k_is, by rw [hK]; k_is⟩
  refine Call.of_body ["value"] (by rw [hK]; k_is) (by rw [hK]; k_is) rfl (by intro vs hl; match vs, hl with | [a], _ => rfl) rfl (by decide) ?_
  intro fd sc hsc F
  dsimp only at hsc
  subst hsc
  refine Ex.iff (b := false) (Tr.plain (Ev.call (f := .builtin "isinstance") (ds := [.obj 98 (timeF h m s u), .fn (.ref 120)]) ?f0 (EvL.cons (Ev.loc F rfl) (EvL.cons ?g0 EvL.nil)) keep_builtin (Call.isi (c := .ref 120) (KitD.obj (own98 hK)) (by rw [hK]; kit_is))) Tru.bool) rfl (Ex.nil ?_)
  case f0 => tm_at "go"
  case g0 => tm_at "go"
  refine Ex.iff (b := false) (Tr.plain (Ev.call (f := .builtin "isinstance") (ds := [.obj 98 (timeF h m s u), .fn (.ref 76)]) ?f1 (EvL.cons (Ev.loc F rfl) (EvL.cons ?g1 EvL.nil)) keep_builtin (Call.isi (c := .ref 76) (KitD.obj (own98 hK)) (by rw [hK]; kit_is))) Tru.bool) rfl (Ex.nil ?_)
  case f1 => tm_at "go"
  case g1 => tm_at "go"
  refine Ex.iff (b := false) (Tr.plain (Ev.call (f := .builtin "isinstance") (ds := [.obj 98 (timeF h m s u), .fn (.ref 149)]) ?f2 (EvL.cons (Ev.loc F rfl) (EvL.cons ?g2 EvL.nil)) keep_builtin (Call.isi (c := .ref 149) (KitD.obj (own98 hK)) (by rw [hK]; kit_is))) Tru.bool) rfl (Ex.nil ?_)
  case f2 => tm_at "go"
  case g2 => tm_at "go"
  refine Ex.iff (b := false) (Tr.plain (Ev.call (f := .builtin "isinstance") (ds := [.obj 98 (timeF h m s u), .fn (.type "str")]) ?f3 (EvL.cons (Ev.loc F rfl) (EvL.cons ?g3 EvL.nil)) keep_builtin (Call.isi (c := .type "str") (KitD.obj (own98 hK)) (by rw [hK]; kit_is))) Tru.bool) rfl (Ex.nil ?_)
  case f3 => tm_at "go"
  case g3 => tm_at "go"
  exact Ex.ret (Ev.tup (EvL.cons (Ev.strc) (EvL.cons (Ev.attr (fs := timeF h m s u) (i := h) (Ev.loc F rfl) rfl r1) (EvL.cons (Ev.attr (fs := timeF h m s u) (i := m) (Ev.loc F rfl) rfl r2) (EvL.cons (Ev.attr (fs := timeF h m s u) (i := s) (Ev.loc F rfl) rfl r3) (EvL.cons (Ev.attr (fs := timeF h m s u) (i := u) (Ev.loc F rfl) rfl r4) (EvL.nil)))))) (by show (5 : Nat) ≤ _; decide)) (.inl rfl)
end

end Mine
end

section
open PySem PySem.W PySem.Calls PyProof.Rows
set_option Elab.async false
set_option linter.unusedVariables false
set_option linter.unusedSimpArgs false
set_option linter.unnecessarySimpa false
set_option maxRecDepth 100000
set_option maxHeartbeats 4000000
namespace Mine
local macro_rules | `(tactic| tm_at "len") => `(tactic| (simp only [PySem.Str.length_append, lit_0, lit_4, lit_3, lit_6, lit_d, lit_c, lit_s, lit_T, lit_p, lit_q, lit_e] at *; omega))
local macro_rules | `(tactic| tm_at "sd") => `(tactic| ((show (_ : Prop)); first | assumption | decide | omega | tm_at "len"))
local macro_rules | `(tactic| tm_at "call") => `(tactic| fail "no contract")
local macro_rules | `(tactic| tm_at "call") => `(tactic| (with_reducible refine' Call.strI ?_))
local macro_rules | `(tactic| tm_at "tr") => `(tactic| ((with_reducible show Tr _ _ _ _ _ _ _); first
  | exact Tr.andNil
  | exact Tr.orNil
  | ((with_reducible show Tr _ _ _ _ _ (PySem.Expr.BoolOp BoolOp.And _ _) _); refine' Tr.and ?_ ?_)
  | ((with_reducible show Tr _ _ _ _ _ (PySem.Expr.BoolOp BoolOp.Or _ _) _); refine' Tr.or ?_ ?_)
  | ((with_reducible show Tr _ _ _ _ _ (PySem.Expr.UnaryOp UnaryOp.Not _ _) _); refine' Tr.not ?_)
  | ((with_reducible show Tr _ _ _ _ _ (PySem.Expr.Compare _ [_] [_] _) _); refine' Tr.cmp ?_ ?_ ?_ ?_)
  | ((with_reducible show Tr _ _ _ _ _ (PySem.Expr.Compare _ [_, _] [_, _] _) _); refine' Tr.cmp2 ?_ ?_ ?_ ?_ ?_)
  | ((with_reducible show Tr _ _ _ _ _ (PySem.Expr.IfExp _ _ _ _) _); refine' Tr.ifexp ?_ ?_ ?_)
  | refine' Tr.plain ?_ ?_))
local macro_rules | `(tactic| tm_at "ev") => `(tactic| ((with_reducible show Ev _ _ _ _ _ _ _); first
  | ((with_reducible show Ev _ _ _ _ _ (PySem.Expr.Constant _ _ _) _); first | exact Ev.int | exact Ev.strc | exact Ev.boolc | exact Ev.nonec)
  | ((with_reducible show Ev _ _ _ _ _ (PySem.Expr.Name _ _) _); first | exact Ev.loc (by assumption) rfl | exact Ev.glob (by assumption) (glb_fnK (by assumption) (by k_is)) | exact Ev.bti (by assumption) (bti_fnK (by assumption) (by k_is) (by boot_fast)))
  | ((with_reducible show Ev _ _ _ _ _ (PySem.Expr.BinOp _ _ _ _) _); refine' Ev.bin ?_ ?_ ?_)
  | ((with_reducible show Ev _ _ _ _ _ (PySem.Expr.IfExp _ _ _ _) _); refine' Ev.ifexp ?_ ?_ ?_ ?_)
  | ((with_reducible show Ev _ _ _ _ _ (PySem.Expr.Subscript _ (PySem.Expr.Slice _ _ _ _) _) _); refine' Ev.slc ?_ ?_ ?_ ?_)
  | ((with_reducible show Ev _ _ _ _ _ (PySem.Expr.Subscript _ _ _) _); refine' Ev.sub ?_ ?_ ?_)
  | ((with_reducible show Ev _ _ _ _ _ (PySem.Expr.Call _ _ _ _) _); refine' Ev.call ?_ ?_ ?_ ?_)
  | ((with_reducible show Ev _ _ _ _ _ (PySem.Expr.Compare _ [_] [_] _) _); refine' Ev.cmp ?_ ?_ ?_)
  | ((with_reducible show Ev _ _ _ _ _ (PySem.Expr.Compare _ [_, _] [_, _] _) _); refine' Ev.cmp2 ?_ ?_ ?_ ?_ ?_)
  | ((with_reducible show Ev _ _ _ _ _ (PySem.Expr.BoolOp _ [_] _) _); refine' Ev.one ?_)
  | ((with_reducible show Ev _ _ _ _ _ (PySem.Expr.BoolOp _ _ _) _); refine' Ev.and ?_ ?_)
  | ((with_reducible show Ev _ _ _ _ _ (PySem.Expr.UnaryOp _ _ _) _); refine' Ev.un ?_ ?_)
  | ((with_reducible show Ev _ _ _ _ _ (PySem.Expr.Tuple _ _ _) _); refine' Ev.tup ?_ ?_)
  | ((with_reducible show Ev _ _ _ _ _ (PySem.Expr.List _ _) _); refine' Ev.lst ?_ ?_)))
local macro_rules | `(tactic| tm_at "op") => `(tactic| first
  | ((with_reducible show Bin _ _ _ _ _ _ _); with_reducible first | exact Bin.addI | exact Bin.subI | refine' Bin.divI | refine' Bin.modI | refine' Bin.mulI ?_ | refine' Bin.addS ?_)
  | ((with_reducible show Cmp _ _ _ _ _ _ _); with_reducible first | exact Cmp.eqI | exact Cmp.neI | exact Cmp.ltI | exact Cmp.leI | exact Cmp.gtI | exact Cmp.geI | exact Cmp.eqS | exact Cmp.neS)
  | ((with_reducible show Tru _ _ _ _ _); with_reducible first | exact Tru.bool | exact Tru.none | exact Tru.int | refine' Tru.str ?_)
  | ((with_reducible show EvL _ _ _ _ _ _ _); first | exact EvL.nil | refine' EvL.cons ?_ ?_)
  | ((with_reducible show EvP _ _ _ _ _ _ _); first | exact EvP.none | refine' EvP.some ?_)
  | ((with_reducible show Keep _ _); first | exact keep_type | exact keep_builtin | exact keep_refK (by assumption) (by k_is))
  | ((with_reducible show Sub _ _ _ _ _ _); first | exact Sub.tup rfl rfl | refine' Sub.lst ?_ rfl)
  | ((with_reducible show Slc _ _ _ _ _ _ _); first | refine' Slc.str ?_ | refine' Slc.lst ?_ | refine' Slc.tupFrom ?_ ?_ ?_)
  | ((with_reducible show Jn _ _ _ _); with_reducible first | exact Jn.int _ _ | exact Jn.str _ _ | exact Jn.bool _ _ | exact Jn.same _)
  | ((with_reducible show Un _ _ _ _ _ _); with_reducible exact Un.neg)
  | ((with_reducible show Call _ _ _ _ _ _); tm_at "call"))
local macro_rules | `(tactic| tm_at "step") => `(tactic| first | tm_at "ev" | tm_at "tr" | tm_at "op" | (with_reducible refine' fun (_ : _ = _) => ?_) | tm_at "sd")
local macro_rules | `(tactic| tm_at "go") => `(tactic| repeat' (tm_at "step"))
theorem ldKC11 : hd.heap_39 = hd.heap_39 ∧ PySem.Challenge.rw_fe0239_01 = PySem.Challenge.rw_fe0239_01 := by
  k_fill
  exact ⟨rfl, rfl⟩
def yearsL : List Int := [0, 1, 4, 100, 1900, 2000, 2023, 2024, 9999, 10000]
def wordsL : List PySem.Str := ["none", "", "0000-00-00", "x-1-1", "12:00", "2007-02-26x", "1:2:3:4", "--5"]
def cvL : List Value := [.ref 334, .ref 363, .ref 346, .ref 358]
def padB (k : Int) : Bool := decide (k / 4 % 2 = 0)
def octB (k : Int) : Bool := decide (k / 8 % 2 = 1)
def yearOf (f : Int) : Int := if decide (f / 10 % 3 = 0) then yearsL.getD (f % 10).toNat 0 else f / 30 % 10000
def spanOf (k h : Int) : Int := if decide (k % 4 = 2) then h / 26 % 1100 else h % 26
def modOf (k : Int) : Int := if decide (k % 4 = 2) then 100 else 62
def figOf (p : Int) : PySem.Str := sl (strI (10000000 + p / 8 % 10000000)) (some 1) (some (1 + p % 8))
def fig6 (p : Int) : PySem.Str := sl (figOf p ++ PySem.Str.ofString "000000") none (some 6)
def ydOf (p : Bool) (y : Int) : PySem.Str := if p && (decide (y < 10000) && true) then sl (PySem.Str.ofString "0000" ++ strI y) (some (-4)) none else strI y
def daysOf (p : Bool) (y m d : Int) : PySem.Str := ydOf p y ++ PySem.Str.ofString "-" ++ two m p ++ PySem.Str.ofString "-" ++ two d p
def clockOf (p : Bool) (h m s : Int) (fig : PySem.Str) (size : Int) : PySem.Str := two h p ++ PySem.Str.ofString ":" ++ two m p ++ PySem.Str.ofString ":" ++ two s p ++ (if decide (size ≠ 0) then PySem.Str.ofString "." ++ fig else PySem.Str.ofString "")
def mtabAt (y m : Int) : Int := (mtab y).getD (m - 1).toNat 0
def knB (y m d : Int) : Bool := (decide (1 ≤ y) && decide (y ≤ 9999)) && ((decide (1 ≤ m) && decide (m ≤ 12)) && (decide (1 ≤ d) && decide (d ≤ mtabAt y m)))
def tkB (h m s size : Int) : Bool := decide (h < 24) && (decide (m < 60) && (decide (s < 60) && decide (size < 7)))
def convF (k : Int) : Value := cvL.getD (k % 4).toNat .none
theorem getD_map {α : Type} (f : α → D) (l : List α) (j : Nat) (z : α) (h : j < l.length) : (l.map f)[j]? = some (f (l.getD j z)) := by
  rw [List.getElem?_map, List.getElem?_eq_getElem h, Option.map_some, List.getD_eq_getElem?_getD, List.getElem?_eq_getElem h]
  rfl
theorem yearOf_b (f : Int) : 0 ≤ yearOf f ∧ yearOf f ≤ 10000 := by
  unfold yearOf
  split
  · have h : ∀ j : Nat, j < 10 → 0 ≤ yearsL.getD j 0 ∧ yearsL.getD j 0 ≤ 10000 := by decide
    exact h _ (by omega)
  · omega
theorem spanOf_b (k h : Int) : 0 ≤ spanOf k h ∧ spanOf k h < 1100 := by
  unfold spanOf
  split <;> omega
theorem modOf_b (k : Int) : 0 < modOf k ∧ modOf k ≤ 100 := by
  unfold modOf
  split <;> omega
local macro_rules | `(tactic| tm_at "call") => `(tactic| first | (with_reducible refine' two_c ?_ ?_) | (with_reducible refine' months_c ?_))
local macro_rules | `(tactic| tm_at "op") => `(tactic| ((with_reducible show Jn _ _ _ _); with_reducible exact Jn.int _ _))
section
variable {W : Wd} {n : Nat}
theorem years_g (hK : W.K = hd.heap_39 W.w.params) : Glb W "_law_years" (.tup (yearsL.map D.int)) :=
  glb_tup hK (by k_is) (by k_is) fun g => .cons (.int _ _) (.cons (.int _ _) (.cons (.int _ _) (.cons (.int _ _) (.cons (.int _ _) (.cons (.int _ _) (.cons (.int _ _) (.cons (.int _ _) (.cons (.int _ _) (.cons (.int _ _) .nil)))))))))
theorem words_g (hK : W.K = hd.heap_39 W.w.params) : Glb W "_law_words" (.tup (wordsL.map D.str)) :=
  glb_tup hK (by k_is) (by k_is) fun g => .cons (.str _ _) (.cons (.str _ _) (.cons (.str _ _) (.cons (.str _ _) (.cons (.str _ _) (.cons (.str _ _) (.cons (.str _ _) (.cons (.str _ _) .nil)))))))
end

end Mine
end

section
open PySem PySem.W PySem.Calls PyProof.Rows
set_option Elab.async false
set_option linter.unusedVariables false
set_option linter.unusedSimpArgs false
set_option linter.unnecessarySimpa false
set_option maxRecDepth 100000
set_option maxHeartbeats 4000000
namespace Mine
local macro_rules | `(tactic| tm_at "len") => `(tactic| (simp only [PySem.Str.length_append, lit_0, lit_4, lit_3, lit_6, lit_d, lit_c, lit_s, lit_T, lit_p, lit_q, lit_e] at *; omega))
local macro_rules | `(tactic| tm_at "sd") => `(tactic| ((show (_ : Prop)); first | assumption | decide | omega | tm_at "len"))
local macro_rules | `(tactic| tm_at "call") => `(tactic| fail "no contract")
local macro_rules | `(tactic| tm_at "call") => `(tactic| (with_reducible refine' Call.strI ?_))
local macro_rules | `(tactic| tm_at "tr") => `(tactic| ((with_reducible show Tr _ _ _ _ _ _ _); first
  | exact Tr.andNil
  | exact Tr.orNil
  | ((with_reducible show Tr _ _ _ _ _ (PySem.Expr.BoolOp BoolOp.And _ _) _); refine' Tr.and ?_ ?_)
  | ((with_reducible show Tr _ _ _ _ _ (PySem.Expr.BoolOp BoolOp.Or _ _) _); refine' Tr.or ?_ ?_)
  | ((with_reducible show Tr _ _ _ _ _ (PySem.Expr.UnaryOp UnaryOp.Not _ _) _); refine' Tr.not ?_)
  | ((with_reducible show Tr _ _ _ _ _ (PySem.Expr.Compare _ [_] [_] _) _); refine' Tr.cmp ?_ ?_ ?_ ?_)
  | ((with_reducible show Tr _ _ _ _ _ (PySem.Expr.Compare _ [_, _] [_, _] _) _); refine' Tr.cmp2 ?_ ?_ ?_ ?_ ?_)
  | ((with_reducible show Tr _ _ _ _ _ (PySem.Expr.IfExp _ _ _ _) _); refine' Tr.ifexp ?_ ?_ ?_)
  | refine' Tr.plain ?_ ?_))
local macro_rules | `(tactic| tm_at "ev") => `(tactic| ((with_reducible show Ev _ _ _ _ _ _ _); first
  | ((with_reducible show Ev _ _ _ _ _ (PySem.Expr.Constant _ _ _) _); first | exact Ev.int | exact Ev.strc | exact Ev.boolc | exact Ev.nonec)
  | ((with_reducible show Ev _ _ _ _ _ (PySem.Expr.Name _ _) _); first | exact Ev.loc (by assumption) rfl | exact Ev.glob (by assumption) (glb_fnK (by assumption) (by k_is)) | exact Ev.bti (by assumption) (bti_fnK (by assumption) (by k_is) (by boot_fast)))
  | ((with_reducible show Ev _ _ _ _ _ (PySem.Expr.BinOp _ _ _ _) _); refine' Ev.bin ?_ ?_ ?_)
  | ((with_reducible show Ev _ _ _ _ _ (PySem.Expr.IfExp _ _ _ _) _); refine' Ev.ifexp ?_ ?_ ?_ ?_)
  | ((with_reducible show Ev _ _ _ _ _ (PySem.Expr.Subscript _ (PySem.Expr.Slice _ _ _ _) _) _); refine' Ev.slc ?_ ?_ ?_ ?_)
  | ((with_reducible show Ev _ _ _ _ _ (PySem.Expr.Subscript _ _ _) _); refine' Ev.sub ?_ ?_ ?_)
  | ((with_reducible show Ev _ _ _ _ _ (PySem.Expr.Call _ _ _ _) _); refine' Ev.call ?_ ?_ ?_ ?_)
  | ((with_reducible show Ev _ _ _ _ _ (PySem.Expr.Compare _ [_] [_] _) _); refine' Ev.cmp ?_ ?_ ?_)
  | ((with_reducible show Ev _ _ _ _ _ (PySem.Expr.Compare _ [_, _] [_, _] _) _); refine' Ev.cmp2 ?_ ?_ ?_ ?_ ?_)
  | ((with_reducible show Ev _ _ _ _ _ (PySem.Expr.BoolOp _ [_] _) _); refine' Ev.one ?_)
  | ((with_reducible show Ev _ _ _ _ _ (PySem.Expr.BoolOp _ _ _) _); refine' Ev.and ?_ ?_)
  | ((with_reducible show Ev _ _ _ _ _ (PySem.Expr.UnaryOp _ _ _) _); refine' Ev.un ?_ ?_)
  | ((with_reducible show Ev _ _ _ _ _ (PySem.Expr.Tuple _ _ _) _); refine' Ev.tup ?_ ?_)
  | ((with_reducible show Ev _ _ _ _ _ (PySem.Expr.List _ _) _); refine' Ev.lst ?_ ?_)))
local macro_rules | `(tactic| tm_at "op") => `(tactic| first
  | ((with_reducible show Bin _ _ _ _ _ _ _); with_reducible first | exact Bin.addI | exact Bin.subI | refine' Bin.divI | refine' Bin.modI | refine' Bin.mulI ?_ | refine' Bin.addS ?_)
  | ((with_reducible show Cmp _ _ _ _ _ _ _); with_reducible first | exact Cmp.eqI | exact Cmp.neI | exact Cmp.ltI | exact Cmp.leI | exact Cmp.gtI | exact Cmp.geI | exact Cmp.eqS | exact Cmp.neS)
  | ((with_reducible show Tru _ _ _ _ _); with_reducible first | exact Tru.bool | exact Tru.none | exact Tru.int | refine' Tru.str ?_)
  | ((with_reducible show EvL _ _ _ _ _ _ _); first | exact EvL.nil | refine' EvL.cons ?_ ?_)
  | ((with_reducible show EvP _ _ _ _ _ _ _); first | exact EvP.none | refine' EvP.some ?_)
  | ((with_reducible show Keep _ _); first | exact keep_type | exact keep_builtin | exact keep_refK (by assumption) (by k_is))
  | ((with_reducible show Sub _ _ _ _ _ _); first | exact Sub.tup rfl rfl | refine' Sub.lst ?_ rfl)
  | ((with_reducible show Slc _ _ _ _ _ _ _); first | refine' Slc.str ?_ | refine' Slc.lst ?_ | refine' Slc.tupFrom ?_ ?_ ?_)
  | ((with_reducible show Jn _ _ _ _); with_reducible first | exact Jn.int _ _ | exact Jn.str _ _ | exact Jn.bool _ _ | exact Jn.same _)
  | ((with_reducible show Un _ _ _ _ _ _); with_reducible exact Un.neg)
  | ((with_reducible show Call _ _ _ _ _ _); tm_at "call"))
local macro_rules | `(tactic| tm_at "step") => `(tactic| first | tm_at "ev" | tm_at "tr" | tm_at "op" | (with_reducible refine' fun (_ : _ = _) => ?_) | tm_at "sd")
local macro_rules | `(tactic| tm_at "go") => `(tactic| repeat' (tm_at "step"))
theorem ldKC13 : hd.heap_39 = hd.heap_39 ∧ PySem.Challenge.rw_fe0239_01 = PySem.Challenge.rw_fe0239_01 := by
  k_fill
  exact ⟨rfl, rfl⟩
def dy3 (y m d : Int) : PySem.Str := sl (PySem.Str.ofString "000" ++ strI y) (some (-4)) none ++ PySem.Str.ofString "-" ++ two m true ++ PySem.Str.ofString "-" ++ two d true
def dt3 (y m d h mi s u : Int) : PySem.Str := dy3 y m d ++ PySem.Str.ofString " " ++ clk h mi s u
def quo (x : PySem.Str) : PySem.Str := PySem.Str.ofString "'" ++ x ++ PySem.Str.ofString "'"
def Txt (W : Wd) (n : Nat) (f : Value) (x : PySem.Str) : Prop := Asc x ∧ ∀ a, ArgOf x a → CallC W (n+7) 0 f [a] (.str x)
def Val (W : Wd) (n : Nat) (f : Value) (x : PySem.Str) (v : D) : Prop := Asc x ∧ ∀ a, ArgOf x a → CallC W (n+7) 0 f [a] v
inductive Plan (W : Wd) (n : Nat) (f : Value) (y m d : Int) : PySem.Str → List At → PySem.Str → Int → Prop
  | txt {x w : PySem.Str} {len : Int} : Txt W n f x → Plan W n f y m d x [.s "text", .s x] w len
  | mom {x : PySem.Str} {h mi s u : Int} : Val W n f x (.obj 120 (dtF y m d h mi s u)) → b10 y → b10 m → b10 d → b10 h → b10 mi → b10 s → (0 ≤ u ∧ u < 1000000) → eDT y m d h mi s u = quo (dt3 y m d h mi s u) → Val W n f (dt3 y m d h mi s u) (.obj 120 (dtF y m d h mi s u)) →
      Plan W n f y m d x [.s "moment", .i y, .i m, .i d, .i h, .i mi, .i s, .i u] (PySem.Str.ofString "") 0
  | day {x : PySem.Str} : Val W n f x (.obj 76 (dateF y m d)) → b10 y → b10 m → b10 d → eDate y m d = quo (dy3 y m d) → Val W n f (dy3 y m d) (.obj 76 (dateF y m d)) → Plan W n f y m d x [.s "day", .i y, .i m, .i d] (PySem.Str.ofString "") 0
  | span {x w sg : PySem.Str} {us t h mi s u len : Int} : Val W n f x (.obj 149 (spanF us)) → (us / 86400000000 < 0 → t = us * -1 ∧ sg = PySem.Str.ofString "-") → (¬ us / 86400000000 < 0 → t = us ∧ sg = PySem.Str.ofString "") → (0 ≤ t) → (t < 1000000000000000) →
      (u = t % 86400000000 % 1000000) → (s = t % 86400000000 / 1000000 % 60) → (mi = t % 86400000000 / 1000000 / 60 % 60) → (h = t % 86400000000 / 1000000 / 60 / 60 + t / 86400000000 * 24) → eTD sg h mi s u = quo w → w.length ≤ 100 → (len < 3600000000000 → Val W n f w (.obj 149 (spanF us))) →
      Plan W n f y m d x [.s "span", .i (us / 86400000000), .i (us / 1000000 % 86400), .i (us % 1000000)] w len
  | clock {x : PySem.Str} {h mi s u : Int} : Val W n f x (.obj 98 (timeF h mi s u)) → b10 h → b10 mi → b10 s → (0 ≤ u ∧ u < 1000000) → eTime h mi s u = quo (clk h mi s u) → Val W n f (clk h mi s u) (.obj 98 (timeF h mi s u)) →
      Plan W n f y m d x [.s "clock", .i h, .i mi, .i s, .i u] (PySem.Str.ofString "") 0
structure Turn (W : Wd) (n : Nat) (k f mo da ho mi se pa mic : Int) : Prop where
  hm : PySem.intText? (fig6 pa) = some mic
  mb : 0 ≤ mic ∧ mic < 1000000
  word : k / 16 % 6 = 0 → Plan W n (convF k) (yearOf f) (mo % 14) (da % 33) (wordsL.getD (k / 96 % 8).toNat PySem.Str.empty) [.s "text", .s (wordsL.getD (k / 96 % 8).toNat PySem.Str.empty)] (PySem.Str.ofString "") 0
  mom : k % 4 = 0 → ∀ sep, sep = PySem.Str.ofString "T" ∨ sep = PySem.Str.ofString " " → Plan W n (.ref 334) (yearOf f) (mo % 14) (da % 33) (daysOf (padB k) (yearOf f) (mo % 14) (da % 33) ++ sep ++ clockOf (padB k) (spanOf k ho) (mi % modOf k) (se % modOf k) (figOf pa) (pa % 8))
      (if knB (yearOf f) (mo % 14) (da % 33) && tkB (spanOf k ho) (mi % modOf k) (se % modOf k) (pa % 8) then [.s "moment", .i (yearOf f), .i (mo % 14), .i (da % 33), .i (spanOf k ho), .i (mi % modOf k), .i (se % modOf k), .i mic]
       else [.s "text", .s (daysOf (padB k) (yearOf f) (mo % 14) (da % 33) ++ sep ++ clockOf (padB k) (spanOf k ho) (mi % modOf k) (se % modOf k) (figOf pa) (pa % 8))]) (PySem.Str.ofString "") 0
  day : ∀ g, g = .ref 334 ∨ g = .ref 363 → Plan W n g (yearOf f) (mo % 14) (da % 33) (daysOf (padB k) (yearOf f) (mo % 14) (da % 33)) (if knB (yearOf f) (mo % 14) (da % 33) then [.s "day", .i (yearOf f), .i (mo % 14), .i (da % 33)] else [.s "text", .s (daysOf (padB k) (yearOf f) (mo % 14) (da % 33))]) (PySem.Str.ofString "") 0
  span : k % 4 = 2 → ∀ (ng : Bool) (us : Int), us = (if ng then 0 - (((spanOf k ho * 60 + mi % modOf k) * 60 + se % modOf k) * 1000000 + mic) else ((spanOf k ho * 60 + mi % modOf k) * 60 + se % modOf k) * 1000000 + mic) → ∀ len, len = ((spanOf k ho * 60 + mi % modOf k) * 60 + se % modOf k) * 1000000 + mic →
      Plan W n (.ref 346) (yearOf f) (mo % 14) (da % 33) ((if ng then PySem.Str.ofString "-" else PySem.Str.ofString "") ++ clockOf (padB k) (spanOf k ho) (mi % modOf k) (se % modOf k) (figOf pa) (pa % 8))
      (if decide (pa % 8 < 7) && decide (spanOf k ho < 1000) then [.s "span", .i (us / 86400000000), .i (us / 1000000 % 86400), .i (us % 1000000)] else [.s "text", .s ((if ng then PySem.Str.ofString "-" else PySem.Str.ofString "") ++ clockOf (padB k) (spanOf k ho) (mi % modOf k) (se % modOf k) (figOf pa) (pa % 8))])
      ((if decide (us < 0) then PySem.Str.ofString "-" else PySem.Str.ofString "") ++ clk (len / 3600000000) (len / 60000000 % 60) (len / 1000000 % 60) (len % 1000000)) len
  clock : k % 4 = 3 → ∀ (ng : Bool), Plan W n (.ref 358) (yearOf f) (mo % 14) (da % 33) ((if ng then PySem.Str.ofString "-" else PySem.Str.ofString "") ++ clockOf (padB k) (spanOf k ho) (mi % modOf k) (se % modOf k) (figOf pa) (pa % 8))
      (if tkB (spanOf k ho) (mi % modOf k) (se % modOf k) (pa % 8) && !ng then [.s "clock", .i (spanOf k ho), .i (mi % modOf k), .i (se % modOf k), .i mic] else [.s "text", .s ((if ng then PySem.Str.ofString "-" else PySem.Str.ofString "") ++ clockOf (padB k) (spanOf k ho) (mi % modOf k) (se % modOf k) (figOf pa) (pa % 8))]) (PySem.Str.ofString "") 0
section
variable {W : Wd} {n : Nat}
theorem keep_cv (hK : W.K = hd.heap_39 W.w.params) (k : Int) : Keep W (convF k) := by
  have h : ∀ j : Nat, j < 4 → Keep W (cvL.getD j .none) := by
    intro j hj
    match j, hj with
    | 0, _ => exact keep_refK hK (by k_is)
    | 1, _ => exact keep_refK hK (by k_is)
    | 2, _ => exact keep_refK hK (by k_is)
    | 3, _ => exact keep_refK hK (by k_is)
  exact h _ (by omega)
end

end Mine
end

section
open PySem PySem.W PySem.Calls PyProof.Rows
set_option Elab.async false
set_option linter.unusedVariables false
set_option linter.unusedSimpArgs false
set_option linter.unnecessarySimpa false
set_option maxRecDepth 100000
set_option maxHeartbeats 4000000
namespace Mine
local macro_rules | `(tactic| tm_at "len") => `(tactic| (simp only [PySem.Str.length_append, lit_0, lit_4, lit_3, lit_6, lit_d, lit_c, lit_s, lit_T, lit_p, lit_q, lit_e] at *; omega))
local macro_rules | `(tactic| tm_at "sd") => `(tactic| ((show (_ : Prop)); first | assumption | decide | omega | tm_at "len"))
local macro_rules | `(tactic| tm_at "call") => `(tactic| fail "no contract")
local macro_rules | `(tactic| tm_at "call") => `(tactic| (with_reducible refine' Call.strI ?_))
local macro_rules | `(tactic| tm_at "tr") => `(tactic| ((with_reducible show Tr _ _ _ _ _ _ _); first
  | exact Tr.andNil
  | exact Tr.orNil
  | ((with_reducible show Tr _ _ _ _ _ (PySem.Expr.BoolOp BoolOp.And _ _) _); refine' Tr.and ?_ ?_)
  | ((with_reducible show Tr _ _ _ _ _ (PySem.Expr.BoolOp BoolOp.Or _ _) _); refine' Tr.or ?_ ?_)
  | ((with_reducible show Tr _ _ _ _ _ (PySem.Expr.UnaryOp UnaryOp.Not _ _) _); refine' Tr.not ?_)
  | ((with_reducible show Tr _ _ _ _ _ (PySem.Expr.Compare _ [_] [_] _) _); refine' Tr.cmp ?_ ?_ ?_ ?_)
  | ((with_reducible show Tr _ _ _ _ _ (PySem.Expr.Compare _ [_, _] [_, _] _) _); refine' Tr.cmp2 ?_ ?_ ?_ ?_ ?_)
  | ((with_reducible show Tr _ _ _ _ _ (PySem.Expr.IfExp _ _ _ _) _); refine' Tr.ifexp ?_ ?_ ?_)
  | refine' Tr.plain ?_ ?_))
local macro_rules | `(tactic| tm_at "ev") => `(tactic| ((with_reducible show Ev _ _ _ _ _ _ _); first
  | ((with_reducible show Ev _ _ _ _ _ (PySem.Expr.Constant _ _ _) _); first | exact Ev.int | exact Ev.strc | exact Ev.boolc | exact Ev.nonec)
  | ((with_reducible show Ev _ _ _ _ _ (PySem.Expr.Name _ _) _); first | exact Ev.loc (by assumption) rfl | exact Ev.glob (by assumption) (glb_fnK (by assumption) (by k_is)) | exact Ev.bti (by assumption) (bti_fnK (by assumption) (by k_is) (by boot_fast)))
  | ((with_reducible show Ev _ _ _ _ _ (PySem.Expr.BinOp _ _ _ _) _); refine' Ev.bin ?_ ?_ ?_)
  | ((with_reducible show Ev _ _ _ _ _ (PySem.Expr.IfExp _ _ _ _) _); refine' Ev.ifexp ?_ ?_ ?_ ?_)
  | ((with_reducible show Ev _ _ _ _ _ (PySem.Expr.Subscript _ (PySem.Expr.Slice _ _ _ _) _) _); refine' Ev.slc ?_ ?_ ?_ ?_)
  | ((with_reducible show Ev _ _ _ _ _ (PySem.Expr.Subscript _ _ _) _); refine' Ev.sub ?_ ?_ ?_)
  | ((with_reducible show Ev _ _ _ _ _ (PySem.Expr.Call _ _ _ _) _); refine' Ev.call ?_ ?_ ?_ ?_)
  | ((with_reducible show Ev _ _ _ _ _ (PySem.Expr.Compare _ [_] [_] _) _); refine' Ev.cmp ?_ ?_ ?_)
  | ((with_reducible show Ev _ _ _ _ _ (PySem.Expr.Compare _ [_, _] [_, _] _) _); refine' Ev.cmp2 ?_ ?_ ?_ ?_ ?_)
  | ((with_reducible show Ev _ _ _ _ _ (PySem.Expr.BoolOp _ [_] _) _); refine' Ev.one ?_)
  | ((with_reducible show Ev _ _ _ _ _ (PySem.Expr.BoolOp _ _ _) _); refine' Ev.and ?_ ?_)
  | ((with_reducible show Ev _ _ _ _ _ (PySem.Expr.UnaryOp _ _ _) _); refine' Ev.un ?_ ?_)
  | ((with_reducible show Ev _ _ _ _ _ (PySem.Expr.Tuple _ _ _) _); refine' Ev.tup ?_ ?_)
  | ((with_reducible show Ev _ _ _ _ _ (PySem.Expr.List _ _) _); refine' Ev.lst ?_ ?_)))
local macro_rules | `(tactic| tm_at "op") => `(tactic| first
  | ((with_reducible show Bin _ _ _ _ _ _ _); with_reducible first | exact Bin.addI | exact Bin.subI | refine' Bin.divI | refine' Bin.modI | refine' Bin.mulI ?_ | refine' Bin.addS ?_)
  | ((with_reducible show Cmp _ _ _ _ _ _ _); with_reducible first | exact Cmp.eqI | exact Cmp.neI | exact Cmp.ltI | exact Cmp.leI | exact Cmp.gtI | exact Cmp.geI | exact Cmp.eqS | exact Cmp.neS)
  | ((with_reducible show Tru _ _ _ _ _); with_reducible first | exact Tru.bool | exact Tru.none | exact Tru.int | refine' Tru.str ?_)
  | ((with_reducible show EvL _ _ _ _ _ _ _); first | exact EvL.nil | refine' EvL.cons ?_ ?_)
  | ((with_reducible show EvP _ _ _ _ _ _ _); first | exact EvP.none | refine' EvP.some ?_)
  | ((with_reducible show Keep _ _); first | exact keep_type | exact keep_builtin | exact keep_refK (by assumption) (by k_is))
  | ((with_reducible show Sub _ _ _ _ _ _); first | exact Sub.tup rfl rfl | refine' Sub.lst ?_ rfl)
  | ((with_reducible show Slc _ _ _ _ _ _ _); first | refine' Slc.str ?_ | refine' Slc.lst ?_ | refine' Slc.tupFrom ?_ ?_ ?_)
  | ((with_reducible show Jn _ _ _ _); with_reducible first | exact Jn.int _ _ | exact Jn.str _ _ | exact Jn.bool _ _ | exact Jn.same _)
  | ((with_reducible show Un _ _ _ _ _ _); with_reducible exact Un.neg)
  | ((with_reducible show Call _ _ _ _ _ _); tm_at "call"))
local macro_rules | `(tactic| tm_at "step") => `(tactic| first | tm_at "ev" | tm_at "tr" | tm_at "op" | (with_reducible refine' fun (_ : _ = _) => ?_) | tm_at "sd")
local macro_rules | `(tactic| tm_at "go") => `(tactic| repeat' (tm_at "step"))
theorem ldKC14 : hd.heap_39 = hd.heap_39 ∧ PySem.Challenge.rw_fe0239_01 = PySem.Challenge.rw_fe0239_01 := by
  k_fill
  exact ⟨rfl, rfl⟩
local macro_rules | `(tactic| tm_at "call") => `(tactic| first | (with_reducible refine' two_c ?_ ?_) | (with_reducible refine' months_c ?_))
local macro_rules | `(tactic| tm_at "len") => `(tactic| (simp only [PySem.Str.length_append, lit_0, lit_4, lit_3, lit_6, lit_d, lit_c, lit_s, lit_T, lit_p, lit_q, lit_e]; omega))
local macro_rules | `(tactic| tm_at "sd") => `(tactic| first | omega | tm_at "len" | ((with_reducible show b10 _); exact ⟨by omega, by omega⟩) | ((with_reducible show _ ∧ _); exact ⟨by omega, by omega⟩))
local macro_rules | `(tactic| tm_at "ev") => `(tactic| ((with_reducible show Ev _ _ _ _ _ (PySem.Expr.Name _ _) _); first | exact Ev.glob (by assumption) (glb_fnK (by assumption) (by k_is)) | exact Ev.bti (by assumption) (bti_fnK (by assumption) (by k_is) (by boot_fast))))
theorem swp_of {ts vs : List Expr} {k1 k2 : Nat} {p1 p2 : Pos} {env : Env} {sc : Scope} {r : Option (List PySem.Str)} (he : env.scope = sc) (h : swappedStores [.Tuple ts k1 p1] (.Tuple vs k2 p2) { (default : Env) with scope := sc } = pure r) : swappedStores [.Tuple ts k1 p1] (.Tuple vs k2 p2) env = pure r := by
  subst he
  exact h
theorem cut_map {α β : Type} (g : α → β) (l : List α) (lo hi : Option Int) : (cut l lo hi).map g = cut (l.map g) lo hi := by
  unfold Mine.cut
  rw [List.map_take, List.map_drop, List.length_map]
theorem cv_0 {k : Int} (h : k % 4 = 0) : convF k = .ref 334 := by unfold convF; rw [h]; rfl
theorem cv_1 {k : Int} (h : k % 4 = 1) : convF k = .ref 363 := by unfold convF; rw [h]; rfl
theorem cv_2 {k : Int} (h : k % 4 = 2) : convF k = .ref 346 := by unfold convF; rw [h]; rfl
theorem cv_3 {k : Int} (h : k % 4 = 3) : convF k = .ref 358 := by unfold convF; rw [h]; rfl
theorem two_t {α : Type} {b : Bool} (h : b = true) {x y : α} : (if b then x else y) = x := by rw [h]; rfl
theorem two_f {α : Type} {b : Bool} (h : b = false) {x y : α} : (if b then x else y) = y := by rw [h]; rfl
theorem daysOf_len {p : Bool} {y m d : Int} (h1 : 0 ≤ y ∧ y ≤ 10000) (h2 : b10 m) (h3 : b10 d) : (daysOf p y m d).length ≤ 50 := by
  have q1 := two_len (p := p) h2
  have q2 := two_len (p := p) h3
  have w1 := strI_len10 (i := y) ⟨by omega, by omega⟩
  have w4 := sl_len (PySem.Str.ofString "0000" ++ strI y) (some (-4)) none
  rw [PySem.Str.length_append, lit_4] at w4
  have : (ydOf p y).length ≤ 20 := by unfold ydOf; split <;> omega
  unfold daysOf
  simp only [PySem.Str.length_append, lit_d]
  omega
theorem clockOf_len {p : Bool} {h m s size : Int} {fig : PySem.Str} (h1 : b10 h) (h2 : b10 m) (h3 : b10 s) (h4 : fig.length ≤ 20) : (clockOf p h m s fig size).length ≤ 70 := by
  have q1 := two_len (p := p) h1
  have q2 := two_len (p := p) h2
  have q3 := two_len (p := p) h3
  unfold clockOf
  simp only [PySem.Str.length_append, lit_c]
  split
  · rw [PySem.Str.length_append, lit_p]; omega
  · rw [lit_e]; omega
theorem clk_len {h m s u : Int} (h1 : b10 h) (h2 : b10 m) (h3 : b10 s) (h4 : 0 ≤ u ∧ u < 1000000) : (clk h m s u).length ≤ 50 := by
  have q1 := two_len (p := true) h1
  have q2 := two_len (p := true) h2
  have q3 := two_len (p := true) h3
  have z4 := strI_len10 (i := 1000000 + u) ⟨by omega, by omega⟩
  have z5 := sl_len (strI (1000000 + u)) (some 1) none
  unfold clk
  simp only [PySem.Str.length_append, lit_c]
  split
  · rw [PySem.Str.length_append, lit_p]; omega
  · rw [lit_e]; omega
theorem okx {x : PySem.Str} (as : Asc x) : At.ok (.s x) = true := by
  show PyData.strOk x = true
  unfold PyData.strOk
  rw [← Array.all_toList, List.all_eq_true]
  intro c hc
  have := as.a c hc
  exact decide_eq_true (by omega)
section
variable {W : Wd} {n : Nat}
set_option maxHeartbeats 20000000 in
theorem law_c (hK : W.K = hd.heap_39 W.w.params) {ns : List Int} (hns : ns.length ≤ 63) (HT : ∀ k f mo da ho mi se pa : Int, ∃ mic, Turn W n k f mo da ho mi se pa mic)
   (HL : CallC W (n+7) 0 (.ref 334) [.str (PySem.Str.ofString "2024-02-29T23:59:59.5")] (.obj 120 (dtF 2024 2 29 23 59 59 500000))) :
   CallC W (n+8) 0 (.ref 407) [.list (ns.map D.int)] (.bool true) := by
  refine CallC.of_body ["script"] (by rw [hK]; k_is) (by rw [hK]; k_is) rfl (by intro vs hl; match vs, hl with | [a], _ => rfl) rfl (by decide) ?_
  intro fd sc hsc F
  dsimp only at hsc
  subst hsc
  obtain ⟨dr, hdr⟩ : ∃ dr, dr = cut (cut ns none (some 41) ++ List.replicate 41 0) none (some 41) := ⟨_, rfl⟩
  have hlen : dr.length = 41 := by
    rw [hdr]
    unfold Mine.cut clp
    simp
    omega
  refine ExC.assign F (d := .list (dr.map D.int)) (Ev.c ?dr) ?_
  case dr =>
    have e : dr.map D.int = cut (cut (ns.map D.int) none (some 41) ++ (List.replicate (41 : Int).toNat [D.int 0]).flatten) none (some 41) := by
      rw [hdr, cut_map, List.map_append, cut_map, List.map_replicate]
      rfl
    rw [e]
    refine Ev.slc (Ev.bin (d1 := .list (cut (ns.map D.int) none (some 41))) (d2 := .list (List.replicate (41 : Int).toNat [D.int 0]).flatten) (Ev.slc (Ev.loc F rfl) EvP.none (EvP.some Ev.int) (Slc.lst ?z1)) (Ev.bin (Ev.lst (ds := [.int 0]) (EvL.cons Ev.int EvL.nil) (by show (1 : Nat) ≤ _; decide)) Ev.int (Bin.mulL (by decide) (by decide) (by show (1 : Nat) ≤ _; decide))) (Bin.addL ?z2)) EvP.none (EvP.some Ev.int) (Slc.lst ?z3)
    case z1 => rw [List.length_map]; omega
    case z2 =>
      have : (cut (ns.map D.int) none (some 41)).length ≤ 63 := by
        unfold Mine.cut
        rw [List.length_take, List.length_drop, List.length_map]
        omega
      show _ + (41 : Nat) ≤ _
      omega
    case z3 =>
      have : (cut (ns.map D.int) none (some 41)).length ≤ 63 := by
        unfold Mine.cut
        rw [List.length_take, List.length_drop, List.length_map]
        omega
      rw [List.length_append]
      show _ + (41 : Nat) ≤ _
      omega
  obtain ⟨d0, hd0⟩ : ∃ d0, dr[0]? = some d0 := ⟨dr[0]'(by omega), List.getElem?_eq_getElem (by omega)⟩
  obtain ⟨t, ht⟩ : ∃ t : Nat, (t : Int) = 1 + d0 % 5 := ⟨(1 + d0 % 5).toNat, by omega⟩
  refine ExC.for (G := fun _ => [("draw", .list (dr.map D.int))]) (f := fun i σ => ("start", .int (1 + (i : Nat) * 8)) :: σ) (d := .rng 1 (1 + 8 * (1 + d0 % 5)) 8) (items := (List.range t).map fun i => .int (1 + (i : Nat) * 8)) ?i (Itb.rng rfl ?r1 ?r2) (Sup.cons rfl Sup.nil) ?it ?ib ?iend
  case i =>
    refine Ev.call (f := .type "range") (ds := [.int 1, .int (1 + 8 * (1 + d0 % 5)), .int 8]) ?g1 (EvL.cons Ev.int (EvL.cons (Ev.bin Ev.int (Ev.bin Ev.int (Ev.bin Ev.int (Ev.bin (Ev.sub (d := .int d0) (Ev.loc F rfl) Ev.int (Sub.lst (by decide) ?g2)) Ev.int (Bin.modI)) Bin.addI) (Bin.mulI (by omega))) Bin.addI) (EvL.cons Ev.int EvL.nil))) keep_type (Call.range (by decide) (small_log (by decide) (by decide)))
    case g1 => exact Ev.bti F (bti_fnK hK (by k_is) (by boot_fast))
    case g2 => rw [List.getElem?_map]; show Option.map D.int dr[0]? = _; rw [hd0]; rfl
  case r1 =>
    have h5 : d0 % 5 = 0 ∨ d0 % 5 = 1 ∨ d0 % 5 = 2 ∨ d0 % 5 = 3 ∨ d0 % 5 = 4 := by omega
    rcases h5 with h | h | h | h | h <;> rw [h] <;> decide
  case r2 =>
    unfold Builtin.Range.rangeSize
    rw [← ht]
    have h1 : (1 : Int) < 1 + 8 * (t : Int) := by omega
    simp only [show ((8 : Int) > 0) = True from by simp, if_true, h1]
    omega
  case it =>
    intro i d hi
    rw [List.getElem?_map] at hi
    obtain ⟨j, hj, rfl⟩ := Option.map_eq_some_iff.mp hi
    obtain ⟨h1, h2⟩ := List.getElem?_eq_some_iff.mp hj
    have e : i = j := by simpa using h2
    subst e
    exact Tgt.name F
  case iend =>
    refine ExC.ret (EvC.cmpL (EvC.call1 ?g3 (EvC.call (f := .ref 334) (ds := [.str (PySem.Str.ofString "2024-02-29T23:59:59.5")]) ?g4 (EvL.cons Ev.strc EvL.nil) ?g5 HL) ?g6 (toldDT_c hK).c) (Ev.tup (ds := ([.s "moment", .i 2024, .i 2, .i 29, .i 23, .i 59, .i 59, .i 500000] : List At).map At.d) (EvL.cons Ev.strc (EvL.cons Ev.int (EvL.cons Ev.int (EvL.cons Ev.int (EvL.cons Ev.int (EvL.cons Ev.int (EvL.cons Ev.int (EvL.cons Ev.int EvL.nil)))))))) (by show (8 : Nat) ≤ _; decide)) (Cmp.eqT (by decide +kernel) (by decide +kernel))) (.inl ?g7)
    case g3 => exact Ev.glob F (glb_fnK hK (by k_is))
    case g4 => exact Ev.glob F (glb_fnK hK (by k_is))
    case g5 => exact keep_refK hK (by k_is)
    case g6 => exact keep_refK hK (by k_is)
    case g7 => simp
  case ib =>
    intro i d hi
    have hit : i < t := by
      have := List.getElem?_eq_some_iff.mp hi
      obtain ⟨h1, _⟩ := this
      simpa using h1
    clear hi
    clear d
    obtain ⟨st, hst0⟩ : ∃ st : Int, st = 1 + (i : Nat) * 8 := ⟨_, rfl⟩
    have hst : 0 ≤ st ∧ st < 100 := by omega
    rw [← hst0]
    have h8 : (cut dr (some st) (some (st + 8))).length = 8 := by
      unfold Mine.cut clp
      rw [hlen]
      simp only [List.length_take, List.length_drop, hlen]
      have q1 : ¬ st < 0 := by omega
      have q2 : ¬ st + 8 < 0 := by omega
      simp only [q1, q2, if_false]
      omega
    obtain ⟨k, f, mo, da, ho, mi, se, pa, hsl⟩ : ∃ k f mo da ho mi se pa, cut dr (some st) (some (st + 8)) = [k, f, mo, da, ho, mi, se, pa] := by
      match cut dr (some st) (some (st + 8)), h8 with
      | [k, f, mo, da, ho, mi, se, pa], _ => exact ⟨k, f, mo, da, ho, mi, se, pa, rfl⟩
    have hdl : dr.length ≤ 41 := by omega
    obtain ⟨mic, T⟩ := HT k f mo da ho mi se pa
    have hmic := T.hm
    show ExC _ _ _ _ _ ([_, _, _, _, _, _, _, _, _, _, _, _, _, _, _, _, _, _] ++ _) _
    have hy := yearOf_b f
    have hs := spanOf_b k ho
    have hm := modOf_b k
    have w1 := strI_len10 (i := yearOf f) ⟨by omega, by omega⟩
    have w2 := strI_len10 (i := 10000000 + pa / 8 % 10000000) ⟨by omega, by omega⟩
    have w3 := sl_len (strI (10000000 + pa / 8 % 10000000)) (some 1) (some (1 + pa % 8))
    have w4 := sl_len (PySem.Str.ofString "0000" ++ strI (yearOf f)) (some (-4)) none
    have w5 := sl_len (figOf pa ++ PySem.Str.ofString "000000") none (some 6)
    have w6 : ∀ p, (two (mo % 14) p).length ≤ 11 := fun p => two_len ⟨by omega, by omega⟩
    have w7 : ∀ p, (two (da % 33) p).length ≤ 11 := fun p => two_len ⟨by omega, by omega⟩
    have w8 : ∀ p, (two (spanOf k ho) p).length ≤ 11 := fun p => two_len ⟨by omega, by omega⟩
    have m1 := Int.emod_nonneg mi (show modOf k ≠ 0 by omega)
    have m2 := Int.emod_lt_of_pos mi hm.1
    have m3 := Int.emod_nonneg se (show modOf k ≠ 0 by omega)
    have m4 := Int.emod_lt_of_pos se hm.1
    have w9 : ∀ p, (two (mi % modOf k) p).length ≤ 11 := fun p => two_len ⟨by omega, by omega⟩
    have w10 : ∀ p, (two (se % modOf k) p).length ≤ 11 := fun p => two_len ⟨by omega, by omega⟩
    have w11 : (ydOf (padB k) (yearOf f)).length ≤ 20 := by
      unfold ydOf
      rw [PySem.Str.length_append, lit_4] at w4
      split <;> omega
    have w12 : (figOf pa).length ≤ 20 := by unfold figOf; omega
    refine ExC.app (τ := [("length", .int 0), ("written", .str (PySem.Str.ofString "")), ("convert", .fn (convF k)), ("ticks", .bool (tkB (spanOf k ho) (mi % modOf k) (se % modOf k) (pa % 8))), ("known", .bool (knB (yearOf f) (mo % 14) (da % 33))),
      ("clock", .str (clockOf (padB k) (spanOf k ho) (mi % modOf k) (se % modOf k) (figOf pa) (pa % 8))), ("days", .str (daysOf (padB k) (yearOf f) (mo % 14) (da % 33))), ("micro", .int mic), ("size", .int (pa % 8)), ("second", .int (se % modOf k)), ("minute", .int (mi % modOf k)),
      ("span", .int (spanOf k ho)), ("day", .int (da % 33)), ("month", .int (mo % 14)), ("year", .int (yearOf f)), ("octets", .bool (octB k)), ("kind", .int k), ("draw", .list (dr.map D.int))]) ?A ?rest
    case A =>
      have F2 := F
      have hK2 := hK
      refine Ex.assignT F (ds := [.int k, .int f, .int mo, .int da, .int ho, .int mi, .int se, .int pa]) (d := .list [.int k, .int f, .int mo, .int da, .int ho, .int mi, .int se, .int pa]) ?e1 (Unp.list rfl) (.cons rfl (.cons rfl (.cons rfl (.cons rfl (.cons rfl (.cons rfl (.cons rfl (.cons rfl .nil)))))))) rfl ?_
      case e1 =>
        have e : cut (dr.map D.int) (some st) (some (st + 8)) = [.int k, .int f, .int mo, .int da, .int ho, .int mi, .int se, .int pa] := by
          have := congrArg (List.map D.int) hsl
          rw [← show (cut dr (some st) (some (st + 8))).map D.int = cut (dr.map D.int) (some st) (some (st + 8)) from by unfold Mine.cut; rw [List.map_take, List.map_drop, List.length_map]]
          exact this
        rw [← e]
        exact Ev.slc (Ev.loc F rfl) (EvP.some (Ev.loc F rfl)) (EvP.some (Ev.bin (Ev.loc F rfl) Ev.int Bin.addI)) (Slc.lst (by rw [List.length_map]; omega))
      refine Ex.assign F (d := .bool (padB k)) ?e2 ?_
      case e2 => exact Ev.cmp (Ev.bin (Ev.bin (Ev.loc F rfl) Ev.int (Bin.divI)) Ev.int (Bin.modI)) Ev.int Cmp.eqI
      refine Ex.assign F (d := .bool (octB k)) ?e3 ?_
      case e3 => exact Ev.cmp (Ev.bin (Ev.bin (Ev.loc F rfl) Ev.int (Bin.divI)) Ev.int (Bin.modI)) Ev.int Cmp.eqI
      refine Ex.assign F (d := .int (yearOf f)) ?e4 ?_
      case e4 =>
        refine Ev.ifexp (b := decide (f / 10 % 3 = 0)) (Tr.cmp (Ev.bin (Ev.bin (Ev.loc F rfl) Ev.int (Bin.divI)) Ev.int (Bin.modI)) Ev.int Cmp.eqI Tru.bool) (fun _ => Ev.sub (Ev.glob F (years_g hK)) (Ev.bin (Ev.loc F rfl) Ev.int (Bin.modI)) (Sub.tup (j := (f % 10).toNat) (seqIx (by omega) ?z1) (getD_map D.int yearsL _ 0 ?z2) (by omega) (by omega))) (fun _ => Ev.bin (Ev.bin (Ev.loc F rfl) Ev.int (Bin.divI)) Ev.int (Bin.modI)) (Jn.int _ _)
        case z1 => show f % 10 < ((10 : Nat) : Int); omega
        case z2 => show (f % 10).toNat < 10; omega
      refine Ex.assignS F (ds := [.int (mo % 14), .int (da % 33)]) (xs := ["month", "day"]) (Ev.tup (EvL.cons (Ev.bin (Ev.loc F rfl) Ev.int (Bin.modI)) (EvL.cons (Ev.bin (Ev.loc F rfl) Ev.int (Bin.modI)) EvL.nil)) (by show (2 : Nat) ≤ _; decide)) (Unp.tup rfl) (.cons rfl (.cons rfl .nil)) rfl ?_ ?sw1
      case sw1 => intro env he; exact swp_of he rfl
      refine Ex.assign F (d := .int (spanOf k ho)) ?e6 ?_
      case e6 =>
        exact Ev.ifexp (b := decide (k % 4 = 2)) (Tr.cmp (Ev.bin (Ev.loc F rfl) Ev.int (Bin.modI)) Ev.int Cmp.eqI Tru.bool) (fun _ => Ev.bin (Ev.bin (Ev.loc F rfl) Ev.int (Bin.divI)) Ev.int (Bin.modI)) (fun _ => Ev.bin (Ev.loc F rfl) Ev.int (Bin.modI)) (Jn.int _ _)
      refine Ex.assignS F (ds := [.int (mi % modOf k), .int (se % modOf k)]) (xs := ["minute", "second"]) (Ev.tup (EvL.cons (Ev.bin (Ev.loc F rfl) (Ev.ifexp (b := decide (k % 4 = 2)) (Tr.cmp (Ev.bin (Ev.loc F rfl) Ev.int (Bin.modI)) Ev.int Cmp.eqI Tru.bool) (fun _ => Ev.int) (fun _ => Ev.int) (Jn.int 100 62)) (Bin.modI hm.1 (by omega))) (EvL.cons (Ev.bin (Ev.loc F rfl) (Ev.ifexp (b := decide (k % 4 = 2)) (Tr.cmp (Ev.bin (Ev.loc F rfl) Ev.int (Bin.modI)) Ev.int Cmp.eqI Tru.bool) (fun _ => Ev.int) (fun _ => Ev.int) (Jn.int 100 62)) (Bin.modI hm.1 (by omega))) EvL.nil)) (by show (2 : Nat) ≤ _; decide)) (Unp.tup rfl) (.cons rfl (.cons rfl .nil)) rfl ?_ ?sw2
      case sw2 => intro env he; exact swp_of he rfl
      refine Ex.assign F (d := .int (pa % 8)) (Ev.bin (Ev.loc F rfl) Ev.int (Bin.modI)) ?_
      refine Ex.assign F (d := .str (figOf pa)) ?e9 ?_
      case e9 =>
        unfold figOf
        refine Ev.slc ?q1 (EvP.some Ev.int) (EvP.some ?q2) (Slc.str ?q3)
        case q2 => exact Ev.bin Ev.int (Ev.loc F rfl) Bin.addI
        case q3 => omega
        case q1 =>
          refine Ev.call (f := .type "str") (ds := [.int (10000000 + pa / 8 % 10000000)]) ?f1 (EvL.cons ?f2 EvL.nil) keep_type (Call.strI ⟨by omega, by omega⟩)
          case f1 => tm_at "go"
          case f2 =>
            refine Ev.bin (d1 := .int 10000000) (d2 := .int (pa / 8 % 10000000)) Ev.int ?f3 Bin.addI
            refine Ev.bin (d1 := .int (pa / 8)) (d2 := .int 10000000) ?f4 Ev.int (Bin.modI (by decide) (by decide))
            exact Ev.bin (Ev.loc F rfl) Ev.int (Bin.divI)
      refine Ex.assign F (d := .int mic) ?e10 ?_
      case e10 =>
        show Ev _ _ _ _ _ _ _
        refine Ev.call (f := .type "int") (ds := [.str (fig6 pa)]) ?f2 (EvL.cons (Ev.slc (Ev.bin (Ev.loc F rfl) Ev.strc (Bin.addS ?z3)) EvP.none (EvP.some Ev.int) (Slc.str ?z4)) EvL.nil) keep_type (Call.int_good ?z5 hmic)
        case f2 => tm_at "go"
        case z3 => rw [lit_6]; omega
        case z4 => rw [PySem.Str.length_append, lit_6]; omega
        case z5 => unfold fig6; rw [PySem.Str.length_append, lit_6] at w5; omega
      refine Ex.assign F (d := .str (ydOf (padB k) (yearOf f))) ?e11 ?_
      case e11 =>
        unfold ydOf
        refine Ev.ifexp (b := padB k && (decide (yearOf f < 10000) && true)) (Tr.and (Tr.plain (Ev.loc F rfl) Tru.bool) fun _ => Tr.and (Tr.cmp (Ev.loc F rfl) Ev.int Cmp.ltI Tru.bool) fun _ => Tr.andNil) (fun _ => Ev.slc (Ev.bin Ev.strc (Ev.call (f := .type "str") (ds := [.int (yearOf f)]) ?yf3 (EvL.cons (Ev.loc F rfl) EvL.nil) keep_type (Call.strI ⟨by omega, by omega⟩)) (Bin.addS ?z6)) (EvP.some (Ev.un Ev.int Un.neg)) EvP.none (Slc.str ?z7)) (fun _ => Ev.call (f := .type "str") (ds := [.int (yearOf f)]) ?yf4 (EvL.cons (Ev.loc F rfl) EvL.nil) keep_type (Call.strI ⟨by omega, by omega⟩)) (Jn.str _ _)
        case yf3 => tm_at "go"
        case yf4 => tm_at "go"
        case z6 => rw [lit_4]; omega
        case z7 => rw [PySem.Str.length_append, lit_4]; omega
      refine Ex.assign F (d := .str (daysOf (padB k) (yearOf f) (mo % 14) (da % 33))) ?e12 ?_
      case e12 =>
        have q1 := w6 (padB k)
        have q2 := w7 (padB k)
        unfold daysOf
        tm_at "go" 
      refine Ex.assign F (d := .str (clockOf (padB k) (spanOf k ho) (mi % modOf k) (se % modOf k) (figOf pa) (pa % 8))) ?e13 ?_
      case e13 =>
        have q1 := w8 (padB k)
        have q2 := w9 (padB k)
        have q3 := w10 (padB k)
        unfold clockOf
        refine Ev.bin ?g1 (Ev.ifexp (b := decide (pa % 8 ≠ 0)) (Tr.plain (Ev.loc F rfl) Tru.int) (fun _ => Ev.bin Ev.strc (Ev.loc F rfl) (Bin.addS ?g2)) (fun _ => Ev.strc) (Jn.str _ _)) (Bin.addS ?g3)
        case g1 => tm_at "go"
        case g2 => rw [lit_p]; omega
        case g3 =>
          simp only [PySem.Str.length_append, lit_c]
          split
          · rw [PySem.Str.length_append, lit_p]; omega
          · rw [lit_e]; omega
      refine Ex.assign F (d := .bool (knB (yearOf f) (mo % 14) (da % 33))) ?e14 ?_
      case e14 =>
        unfold knB
        refine Ev.and (Ev.cmp2 Ev.int (Ev.loc F rfl) Ev.int Cmp.leI Cmp.leI) fun _ => Ev.and (Ev.cmp2 Ev.int (Ev.loc F rfl) Ev.int Cmp.leI Cmp.leI) fun hq => Ev.one (Ev.cmp2 Ev.int (Ev.loc F rfl) (Ev.sub (Ev.call (ds := [.int (yearOf f)]) ?f5 (EvL.cons (Ev.loc F rfl) EvL.nil) ?f6 (months_c hK)) (Ev.bin (Ev.loc F rfl) Ev.int Bin.subI) (Sub.tup (j := (mo % 14 - 1).toNat) (seqIx ?s1 ?s2) (getD_map D.int (mtab (yearOf f)) _ 0 ?s3) ?s4 ?s5)) Cmp.leI Cmp.leI)
        all_goals try (have hq' : 1 ≤ mo % 14 ∧ mo % 14 ≤ 12 := by simpa using hq)
        case f5 => tm_at "go"
        case f6 => tm_at "go"
        case s1 => omega
        case s2 => show mo % 14 - 1 < ((12 : Nat) : Int); omega
        case s3 => show (mo % 14 - 1).toNat < 12; omega
        case s4 => omega
        case s5 => omega
      refine Ex.assign F (d := .bool (tkB (spanOf k ho) (mi % modOf k) (se % modOf k) (pa % 8))) ?e15 ?_
      case e15 =>
        unfold tkB
        exact Ev.and (Ev.cmp (Ev.loc F rfl) Ev.int Cmp.ltI) fun _ => Ev.and (Ev.cmp (Ev.loc F rfl) Ev.int Cmp.ltI) fun _ => Ev.and (Ev.cmp (Ev.loc F rfl) Ev.int Cmp.ltI) fun _ => Ev.one (Ev.cmp (Ev.loc F rfl) Ev.int Cmp.ltI)
      refine Ex.assign F (d := .fn (convF k)) ?e16 ?_
      case e16 =>
        unfold convF
        refine Ev.sub (Ev.tup (ds := cvL.map D.fn) (EvL.cons ?a1 (EvL.cons ?a2 (EvL.cons ?a3 (EvL.cons ?a4 EvL.nil)))) (by show (4 : Nat) ≤ _; decide)) (Ev.bin (Ev.loc F rfl) Ev.int (Bin.modI)) (Sub.tup (j := (k % 4).toNat) (seqIx ?v1 ?v2) (getD_map D.fn cvL _ .none ?v3) ?v4 ?v5)
        case a1 => tm_at "go"
        case a2 => tm_at "go"
        case a3 => tm_at "go"
        case a4 => tm_at "go"
        case v1 => omega
        case v2 => show k % 4 < ((4 : Nat) : Int); omega
        case v3 => show (k % 4).toNat < 4; omega
        case v4 => omega
        case v5 => omega
      refine Ex.assign F Ev.strc ?_
      refine Ex.assign F Ev.int ?_
      refine Ex.nilJ ?_
      repeat (refine Sup.cons rfl ?_)
      exact Sup.nil
    case rest =>
      have hmb := T.mb
      have DYl : (daysOf (padB k) (yearOf f) (mo % 14) (da % 33)).length ≤ 50 := daysOf_len hy ⟨by omega, by omega⟩ ⟨by omega, by omega⟩
      have CKl : (clockOf (padB k) (spanOf k ho) (mi % modOf k) (se % modOf k) (figOf pa) (pa % 8)).length ≤ 70 := clockOf_len ⟨by omega, by omega⟩ ⟨by omega, by omega⟩ ⟨by omega, by omega⟩ w12
      refine ExC.pre (P₁ := fun o => ∃ τ text due w len, o = .next τ ∧ Plan W n (convF k) (yearOf f) (mo % 14) (da % 33) text due w len ∧ Sup τ [("text", .str text), ("due", .tup (due.map At.d)), ("length", .int len), ("written", .str w), ("convert", .fn (convF k)), ("octets", .bool (octB k)), ("day", .int (da % 33)), ("month", .int (mo % 14)), ("year", .int (yearOf f)), ("draw", .list (dr.map D.int))]) ?B ?C
      case C =>
        rintro o ⟨τ, text, due, w, len, rfl, pl, hsup⟩
        refine ExC.sup ?_ hsup
        clear hsup τ
        have kc := keep_cv hK k
        have v1 := sl_len (PySem.Str.ofString "000" ++ strI (yearOf f)) (some (-4)) none
        rw [PySem.Str.length_append, lit_3] at v1
        have v2 := w6 true
        have v3 := w7 true
        have v4 : (dy3 (yearOf f) (mo % 14) (da % 33)).length ≤ 60 := by
          unfold dy3
          simp only [PySem.Str.length_append, lit_d]
          omega
        cases pl with
        | txt ht =>
          obtain ⟨as, hc⟩ := ht
          refine ExC.ifS (P₁ := fun o => ∃ τ, o = .next τ ∧ Sup τ [("value", .str text), ("text", .str text), ("due", .tup (([.s "text", .s text] : List At).map At.d)), ("length", .int len), ("written", .str w), ("convert", .fn (convF k)), ("day", .int (da % 33)), ("month", .int (mo % 14)), ("year", .int (yearOf f)), ("draw", .list (dr.map D.int))]) (b := decide (PySem.Str.ofString "text" = PySem.Str.ofString "text") && (octB k && true)) (Tr.and (Tr.cmp (Ev.sub (Ev.loc F rfl) Ev.int (Sub.tup rfl rfl)) Ev.strc Cmp.eqS Tru.bool) fun _ => Tr.and (Tr.plain (Ev.loc F rfl) Tru.bool) fun _ => Tr.andNil).c ?aT ?bT ?kT
          case aT =>
            intro q
            exact ExC.assign F (EvC.call1 (Ev.loc F rfl) (EvC.call (f := .type "bytearray") (ds := [.bytes (toB text)]) (Ev.bti F (bti_fnK hK (by k_is) boot_ba)) (EvL.cons (Ev.meth (d0 := .str text) (ds := [.str (PySem.Str.ofString "ascii")]) (Ev.loc F rfl) (EvL.cons Ev.strc EvL.nil) (Meth.str PySem.F.slot_str_encode PySem.F.type_str_encode) (Call.encode (Nat.le_trans as.l (by decide)) as.a)) EvL.nil) keep_type (CallC.bytearray (by rw [toB_size]; exact Nat.le_trans as.l (by decide)))) kc (hc _ (.inr (.inr rfl)))) (ExC.nil ⟨_, rfl, by (repeat (refine Sup.cons rfl ?_)); exact Sup.nil⟩)
          case bT =>
            intro q
            cases ho : octB k with
            | true => exact ExC.assign F (EvC.call (ds := [.bytes (toB text)]) (Ev.loc F rfl) (EvL.cons (Ev.ift (Tr.plain (Ev.loc F rfl) Tru.bool) rfl (Ev.meth (d0 := .str text) (ds := [.str (PySem.Str.ofString "ascii")]) (Ev.loc F rfl) (EvL.cons Ev.strc EvL.nil) (Meth.str PySem.F.slot_str_encode PySem.F.type_str_encode) (Call.encode (Nat.le_trans as.l (by decide)) as.a))) EvL.nil) kc (hc _ (.inr (.inl rfl)))) (ExC.nil ⟨_, rfl, by (repeat (refine Sup.cons rfl ?_)); exact Sup.nil⟩)
            | false => exact ExC.assign F (EvC.call (ds := [.str text]) (Ev.loc F rfl) (EvL.cons (Ev.iff (Tr.plain (Ev.loc F rfl) Tru.bool) rfl (Ev.loc F rfl)) EvL.nil) kc (hc _ (.inl rfl))) (ExC.nil ⟨_, rfl, by (repeat (refine Sup.cons rfl ?_)); exact Sup.nil⟩)
          case kT =>
            rintro o ⟨τ2, rfl, hs2⟩
            refine ExC.sup ?_ hs2
            refine ExC.iff (b := decide (([.s "text", .s text] : List At) ≠ [.s "text", .s text])) (Tr.cmp (Ev.call (f := .ref 393) (ds := [.str text]) (Ev.glob F (glb_fnK hK (by k_is))) (EvL.cons (Ev.loc F rfl) EvL.nil) (keep_refK hK (by k_is)) (toldT_c hK)) (Ev.loc F rfl) (Cmp.neT (by rw [List.all_cons, show At.ok (.s (PySem.Str.ofString "text")) = true from by decide +kernel, List.all_cons, show At.ok (.s text) = true from okx as]; rfl) (by rw [List.all_cons, show At.ok (.s (PySem.Str.ofString "text")) = true from by decide +kernel, List.all_cons, show At.ok (.s text) = true from okx as]; rfl)) Tru.bool).c (by simp) (ExC.nil ?_)
            exact ExC.ift (b := decide (PySem.Str.ofString "text" = PySem.Str.ofString "text")) (Tr.cmp (Ev.sub (Ev.loc F rfl) Ev.int (Sub.tup rfl rfl)) Ev.strc Cmp.eqS Tru.bool).c (by decide) (Ex.cont (.inl ⟨_, .inr rfl, by (repeat (refine Sup.cons rfl ?_)); exact Sup.nil⟩)).c
        | mom hv by1 bm bd bh bi bs bu heq hre =>
          rename_i h mi s u
          obtain ⟨as, hc⟩ := hv
          refine ExC.ifS (P₁ := fun o => ∃ τ, o = .next τ ∧ Sup τ [("value", .obj 120 (dtF (yearOf f) (mo % 14) (da % 33) h mi s u)), ("text", .str text), ("due", .tup (([.s "moment", .i (yearOf f), .i (mo % 14), .i (da % 33), .i h, .i mi, .i s, .i u] : List At).map At.d)), ("length", .int 0), ("written", .str (PySem.Str.ofString "")), ("convert", .fn (convF k)), ("day", .int (da % 33)), ("month", .int (mo % 14)), ("year", .int (yearOf f)), ("draw", .list (dr.map D.int))]) (b := decide (PySem.Str.ofString "moment" = PySem.Str.ofString "text") && (octB k && true)) (Tr.and (Tr.cmp (Ev.sub (Ev.loc F rfl) Ev.int (Sub.tup rfl rfl)) Ev.strc Cmp.eqS Tru.bool) fun _ => Tr.and (Tr.plain (Ev.loc F rfl) Tru.bool) fun _ => Tr.andNil).c ?aM ?bM ?kM
          case aM =>
            intro q
            have z : decide (PySem.Str.ofString "moment" = PySem.Str.ofString "text") = false := by decide
            rw [z] at q
            cases q
          case bM =>
            intro q
            cases ho : octB k with
            | true => exact ExC.assign F (EvC.call (ds := [.bytes (toB text)]) (Ev.loc F rfl) (EvL.cons (Ev.ift (Tr.plain (Ev.loc F rfl) Tru.bool) rfl (Ev.meth (d0 := .str text) (ds := [.str (PySem.Str.ofString "ascii")]) (Ev.loc F rfl) (EvL.cons Ev.strc EvL.nil) (Meth.str PySem.F.slot_str_encode PySem.F.type_str_encode) (Call.encode (Nat.le_trans as.l (by decide)) as.a))) EvL.nil) kc (hc _ (.inr (.inl rfl)))) (ExC.nil ⟨_, rfl, by (repeat (refine Sup.cons rfl ?_)); exact Sup.nil⟩)
            | false => exact ExC.assign F (EvC.call (ds := [.str text]) (Ev.loc F rfl) (EvL.cons (Ev.iff (Tr.plain (Ev.loc F rfl) Tru.bool) rfl (Ev.loc F rfl)) EvL.nil) kc (hc _ (.inl rfl))) (ExC.nil ⟨_, rfl, by (repeat (refine Sup.cons rfl ?_)); exact Sup.nil⟩)
          case kM =>
            rintro o ⟨τ2, rfl, hs2⟩
            refine ExC.sup ?_ hs2
            refine ExC.iff (b := decide (([.s "moment", .i (yearOf f), .i (mo % 14), .i (da % 33), .i h, .i mi, .i s, .i u] : List At) ≠ [.s "moment", .i (yearOf f), .i (mo % 14), .i (da % 33), .i h, .i mi, .i s, .i u])) (Tr.cmp (Ev.call (f := .ref 393) (ds := [.obj 120 (dtF (yearOf f) (mo % 14) (da % 33) h mi s u)]) (Ev.glob F (glb_fnK hK (by k_is))) (EvL.cons (Ev.loc F rfl) EvL.nil) (keep_refK hK (by k_is)) (toldDT_c hK)) (Ev.loc F rfl) (Cmp.neT (by rw [List.all_cons, show At.ok (.s (PySem.Str.ofString "moment")) = true from by decide +kernel]; rfl) (by rw [List.all_cons, show At.ok (.s (PySem.Str.ofString "moment")) = true from by decide +kernel]; rfl)) Tru.bool).c (by simp) (ExC.nil ?_)
            refine ExC.iff (b := decide (PySem.Str.ofString "moment" = PySem.Str.ofString "text")) (Tr.cmp (Ev.sub (Ev.loc F rfl) Ev.int (Sub.tup rfl rfl)) Ev.strc Cmp.eqS Tru.bool).c (by decide) (ExC.nil ?_)
            refine ExC.ift (b := decide (PySem.Str.ofString "moment" = PySem.Str.ofString "moment")) (Tr.cmp (Ev.sub (Ev.loc F rfl) Ev.int (Sub.tup rfl rfl)) Ev.strc Cmp.eqS Tru.bool).c (by decide) ?_
            have hck := clk_len bh bi bs bu
            refine ExC.assign F (d := .str (dt3 (yearOf f) (mo % 14) (da % 33) h mi s u)) (Ev.c ?wM) ?_
            case wM => exact Ev.bin (Ev.bin (Ev.bin (Ev.bin (Ev.bin (Ev.bin (Ev.slc (Ev.bin Ev.strc (Ev.call (f := .type "str") (ds := [.int (yearOf f)]) (Ev.bti F (bti_fnK hK (by k_is) (by boot_fast))) (EvL.cons (Ev.loc F rfl) EvL.nil) keep_type (Call.strI ⟨by omega, by omega⟩)) (Bin.addS (by rw [lit_3]; omega))) (EvP.some (Ev.un Ev.int Un.neg)) EvP.none (Slc.str (by rw [PySem.Str.length_append, lit_3]; omega))) Ev.strc (Bin.addS (by simp only [PySem.Str.length_append, lit_d, lit_s]; omega))) (Ev.call (f := .ref 379) (ds := [.int (mo % 14), .bool true]) (Ev.glob F (glb_fnK hK (by k_is))) (EvL.cons (Ev.loc F rfl) (EvL.cons Ev.boolc EvL.nil)) (keep_refK hK (by k_is)) (two_c (n := n + 6) hK ⟨by omega, by omega⟩)) (Bin.addS (by simp only [PySem.Str.length_append, lit_d, lit_s]; omega))) Ev.strc (Bin.addS (by simp only [PySem.Str.length_append, lit_d, lit_s]; omega))) (Ev.call (f := .ref 379) (ds := [.int (da % 33), .bool true]) (Ev.glob F (glb_fnK hK (by k_is))) (EvL.cons (Ev.loc F rfl) (EvL.cons Ev.boolc EvL.nil)) (keep_refK hK (by k_is)) (two_c (n := n + 6) hK ⟨by omega, by omega⟩)) (Bin.addS (by simp only [PySem.Str.length_append, lit_d, lit_s]; omega))) Ev.strc (Bin.addS (by simp only [PySem.Str.length_append, lit_d, lit_s]; omega))) (Ev.call (f := .ref 400) (ds := [.tup [.int h, .int mi, .int s, .int u]]) (Ev.glob F (glb_fnK hK (by k_is))) (EvL.cons (Ev.slc (Ev.loc F rfl) (EvP.some Ev.int) EvP.none (Slc.tupFrom (k := 4) (by decide) (by show (4 : Nat) ≤ 8; decide) (by show (8 : Nat) ≤ _; decide))) EvL.nil) (keep_refK hK (by k_is)) (clock_c (n := n + 5) hK bh bi bs bu)) (Bin.addS (by simp only [PySem.Str.length_append, lit_d, lit_s]; omega))
            have hdt : (dt3 (yearOf f) (mo % 14) (da % 33) h mi s u).length ≤ 120 := by
              unfold dt3
              simp only [PySem.Str.length_append, lit_s]
              omega
            repeat (first | refine ExC.nil ?_)
            refine ExC.iff (b := decide (eDT (yearOf f) (mo % 14) (da % 33) h mi s u ≠ quo (dt3 (yearOf f) (mo % 14) (da % 33) h mi s u))) (Tr.cmp (Ev.call (f := .ref 220) (ds := [.obj 120 (dtF (yearOf f) (mo % 14) (da % 33) h mi s u)]) (Ev.glob F (glb_fnK hK (by k_is))) (EvL.cons (Ev.loc F rfl) EvL.nil) (keep_refK hK (by k_is)) (itemDT_c hK by1 bm bd bh bi bs ⟨by omega, by omega⟩)) (Ev.bin (Ev.bin Ev.strc (Ev.loc F rfl) (Bin.addS ?n1M)) Ev.strc (Bin.addS ?n2M)) Cmp.neS Tru.bool).c (decide_eq_false (not_not_intro heq)) (ExC.nil ?_)
            case n1M => rw [lit_q]; omega
            case n2M => rw [PySem.Str.length_append, lit_q]; omega
            refine ExC.iff (b := decide (0 < 3600000000000) && (decide (([.s "moment", .i (yearOf f), .i (mo % 14), .i (da % 33), .i h, .i mi, .i s, .i u] : List At) ≠ [.s "moment", .i (yearOf f), .i (mo % 14), .i (da % 33), .i h, .i mi, .i s, .i u]) && true)) (TrC.and (Tr.cmp (Ev.loc F rfl) Ev.int Cmp.ltI Tru.bool).c fun hlt => TrC.and (TrC.cmpL (EvC.call1 (Ev.glob F (glb_fnK hK (by k_is))) (EvC.call (ds := [.str (dt3 (yearOf f) (mo % 14) (da % 33) h mi s u)]) (Ev.loc F rfl) (EvL.cons (Ev.loc F rfl) EvL.nil) kc (hre.2 _ (.inl rfl))) (keep_refK hK (by k_is)) (toldDT_c hK).c) (Ev.loc F rfl) (Cmp.neT (by rw [List.all_cons, show At.ok (.s (PySem.Str.ofString "moment")) = true from by decide +kernel]; rfl) (by rw [List.all_cons, show At.ok (.s (PySem.Str.ofString "moment")) = true from by decide +kernel]; rfl))) fun _ => Tr.andNil.c) (by simp) (ExC.nil (ExC.nil (.inl ⟨_, .inl rfl, by (repeat (refine Sup.cons rfl ?_)); exact Sup.nil⟩)))
        | day hv by1 bm bd heq hre =>
          obtain ⟨as, hc⟩ := hv
          refine ExC.ifS (P₁ := fun o => ∃ τ, o = .next τ ∧ Sup τ [("value", .obj 76 (dateF (yearOf f) (mo % 14) (da % 33))), ("text", .str text), ("due", .tup (([.s "day", .i (yearOf f), .i (mo % 14), .i (da % 33)] : List At).map At.d)), ("length", .int 0), ("written", .str (PySem.Str.ofString "")), ("convert", .fn (convF k)), ("day", .int (da % 33)), ("month", .int (mo % 14)), ("year", .int (yearOf f)), ("draw", .list (dr.map D.int))]) (b := decide (PySem.Str.ofString "day" = PySem.Str.ofString "text") && (octB k && true)) (Tr.and (Tr.cmp (Ev.sub (Ev.loc F rfl) Ev.int (Sub.tup rfl rfl)) Ev.strc Cmp.eqS Tru.bool) fun _ => Tr.and (Tr.plain (Ev.loc F rfl) Tru.bool) fun _ => Tr.andNil).c ?aD ?bD ?kD
          case aD =>
            intro q
            have z : decide (PySem.Str.ofString "day" = PySem.Str.ofString "text") = false := by decide
            rw [z] at q
            cases q
          case bD =>
            intro q
            cases ho : octB k with
            | true => exact ExC.assign F (EvC.call (ds := [.bytes (toB text)]) (Ev.loc F rfl) (EvL.cons (Ev.ift (Tr.plain (Ev.loc F rfl) Tru.bool) rfl (Ev.meth (d0 := .str text) (ds := [.str (PySem.Str.ofString "ascii")]) (Ev.loc F rfl) (EvL.cons Ev.strc EvL.nil) (Meth.str PySem.F.slot_str_encode PySem.F.type_str_encode) (Call.encode (Nat.le_trans as.l (by decide)) as.a))) EvL.nil) kc (hc _ (.inr (.inl rfl)))) (ExC.nil ⟨_, rfl, by (repeat (refine Sup.cons rfl ?_)); exact Sup.nil⟩)
            | false => exact ExC.assign F (EvC.call (ds := [.str text]) (Ev.loc F rfl) (EvL.cons (Ev.iff (Tr.plain (Ev.loc F rfl) Tru.bool) rfl (Ev.loc F rfl)) EvL.nil) kc (hc _ (.inl rfl))) (ExC.nil ⟨_, rfl, by (repeat (refine Sup.cons rfl ?_)); exact Sup.nil⟩)
          case kD =>
            rintro o ⟨τ2, rfl, hs2⟩
            refine ExC.sup ?_ hs2
            refine ExC.iff (b := decide (([.s "day", .i (yearOf f), .i (mo % 14), .i (da % 33)] : List At) ≠ [.s "day", .i (yearOf f), .i (mo % 14), .i (da % 33)])) (Tr.cmp (Ev.call (f := .ref 393) (ds := [.obj 76 (dateF (yearOf f) (mo % 14) (da % 33))]) (Ev.glob F (glb_fnK hK (by k_is))) (EvL.cons (Ev.loc F rfl) EvL.nil) (keep_refK hK (by k_is)) (toldD_c hK)) (Ev.loc F rfl) (Cmp.neT (by rw [List.all_cons, show At.ok (.s (PySem.Str.ofString "day")) = true from by decide +kernel]; rfl) (by rw [List.all_cons, show At.ok (.s (PySem.Str.ofString "day")) = true from by decide +kernel]; rfl)) Tru.bool).c (by simp) (ExC.nil ?_)
            refine ExC.iff (b := decide (PySem.Str.ofString "day" = PySem.Str.ofString "text")) (Tr.cmp (Ev.sub (Ev.loc F rfl) Ev.int (Sub.tup rfl rfl)) Ev.strc Cmp.eqS Tru.bool).c (by decide) (ExC.nil ?_)
            refine ExC.iff (b := decide (PySem.Str.ofString "day" = PySem.Str.ofString "moment")) (Tr.cmp (Ev.sub (Ev.loc F rfl) Ev.int (Sub.tup rfl rfl)) Ev.strc Cmp.eqS Tru.bool).c (by decide) ?_
            refine ExC.ift (b := decide (PySem.Str.ofString "day" = PySem.Str.ofString "day")) (Tr.cmp (Ev.sub (Ev.loc F rfl) Ev.int (Sub.tup rfl rfl)) Ev.strc Cmp.eqS Tru.bool).c (by decide) ?_
            refine ExC.assign F (d := .str (dy3 (yearOf f) (mo % 14) (da % 33))) (Ev.c ?wD) ?_
            case wD => exact Ev.bin (Ev.bin (Ev.bin (Ev.bin (Ev.slc (Ev.bin Ev.strc (Ev.call (f := .type "str") (ds := [.int (yearOf f)]) (Ev.bti F (bti_fnK hK (by k_is) (by boot_fast))) (EvL.cons (Ev.loc F rfl) EvL.nil) keep_type (Call.strI ⟨by omega, by omega⟩)) (Bin.addS (by rw [lit_3]; omega))) (EvP.some (Ev.un Ev.int Un.neg)) EvP.none (Slc.str (by rw [PySem.Str.length_append, lit_3]; omega))) Ev.strc (Bin.addS (by simp only [PySem.Str.length_append, lit_d, lit_s]; omega))) (Ev.call (f := .ref 379) (ds := [.int (mo % 14), .bool true]) (Ev.glob F (glb_fnK hK (by k_is))) (EvL.cons (Ev.loc F rfl) (EvL.cons Ev.boolc EvL.nil)) (keep_refK hK (by k_is)) (two_c (n := n + 6) hK ⟨by omega, by omega⟩)) (Bin.addS (by simp only [PySem.Str.length_append, lit_d, lit_s]; omega))) Ev.strc (Bin.addS (by simp only [PySem.Str.length_append, lit_d, lit_s]; omega))) (Ev.call (f := .ref 379) (ds := [.int (da % 33), .bool true]) (Ev.glob F (glb_fnK hK (by k_is))) (EvL.cons (Ev.loc F rfl) (EvL.cons Ev.boolc EvL.nil)) (keep_refK hK (by k_is)) (two_c (n := n + 6) hK ⟨by omega, by omega⟩)) (Bin.addS (by simp only [PySem.Str.length_append, lit_d, lit_s]; omega))
            repeat (first | refine ExC.nil ?_)
            refine ExC.iff (b := decide (eDate (yearOf f) (mo % 14) (da % 33) ≠ quo (dy3 (yearOf f) (mo % 14) (da % 33)))) (Tr.cmp (Ev.call (f := .ref 220) (ds := [.obj 76 (dateF (yearOf f) (mo % 14) (da % 33))]) (Ev.glob F (glb_fnK hK (by k_is))) (EvL.cons (Ev.loc F rfl) EvL.nil) (keep_refK hK (by k_is)) (itemD_c hK by1 bm bd)) (Ev.bin (Ev.bin Ev.strc (Ev.loc F rfl) (Bin.addS ?n1D)) Ev.strc (Bin.addS ?n2D)) Cmp.neS Tru.bool).c (decide_eq_false (not_not_intro heq)) (ExC.nil ?_)
            case n1D => rw [lit_q]; omega
            case n2D => rw [PySem.Str.length_append, lit_q]; omega
            refine ExC.iff (b := decide (0 < 3600000000000) && (decide (([.s "day", .i (yearOf f), .i (mo % 14), .i (da % 33)] : List At) ≠ [.s "day", .i (yearOf f), .i (mo % 14), .i (da % 33)]) && true)) (TrC.and (Tr.cmp (Ev.loc F rfl) Ev.int Cmp.ltI Tru.bool).c fun hlt => TrC.and (TrC.cmpL (EvC.call1 (Ev.glob F (glb_fnK hK (by k_is))) (EvC.call (ds := [.str (dy3 (yearOf f) (mo % 14) (da % 33))]) (Ev.loc F rfl) (EvL.cons (Ev.loc F rfl) EvL.nil) kc (hre.2 _ (.inl rfl))) (keep_refK hK (by k_is)) (toldD_c hK).c) (Ev.loc F rfl) (Cmp.neT (by rw [List.all_cons, show At.ok (.s (PySem.Str.ofString "day")) = true from by decide +kernel]; rfl) (by rw [List.all_cons, show At.ok (.s (PySem.Str.ofString "day")) = true from by decide +kernel]; rfl))) fun _ => Tr.andNil.c) (by simp) (ExC.nil (ExC.nil (.inl ⟨_, .inl rfl, by (repeat (refine Sup.cons rfl ?_)); exact Sup.nil⟩)))
        | span hv hn hp t0 t1 hu hs' hm' hh heq hwl hre =>
          rename_i sg us t h mi s u
          obtain ⟨as, hc⟩ := hv
          have e1 : us / 1000000 % 86400 = us % 86400000000 / 1000000 := by omega
          have e2 : us % 1000000 = us % 86400000000 % 1000000 := by omega
          rw [e1, e2]
          refine ExC.ifS (P₁ := fun o => ∃ τ, o = .next τ ∧ Sup τ [("value", .obj 149 (spanF us)), ("text", .str text), ("due", .tup (([.s "span", .i (us / 86400000000), .i (us % 86400000000 / 1000000), .i (us % 86400000000 % 1000000)] : List At).map At.d)), ("length", .int len), ("written", .str w), ("convert", .fn (convF k)), ("day", .int (da % 33)), ("month", .int (mo % 14)), ("year", .int (yearOf f)), ("draw", .list (dr.map D.int))]) (b := decide (PySem.Str.ofString "span" = PySem.Str.ofString "text") && (octB k && true)) (Tr.and (Tr.cmp (Ev.sub (Ev.loc F rfl) Ev.int (Sub.tup rfl rfl)) Ev.strc Cmp.eqS Tru.bool) fun _ => Tr.and (Tr.plain (Ev.loc F rfl) Tru.bool) fun _ => Tr.andNil).c ?aS ?bS ?kS
          case aS =>
            intro q
            have z : decide (PySem.Str.ofString "span" = PySem.Str.ofString "text") = false := by decide
            rw [z] at q
            cases q
          case bS =>
            intro q
            cases ho : octB k with
            | true => exact ExC.assign F (EvC.call (ds := [.bytes (toB text)]) (Ev.loc F rfl) (EvL.cons (Ev.ift (Tr.plain (Ev.loc F rfl) Tru.bool) rfl (Ev.meth (d0 := .str text) (ds := [.str (PySem.Str.ofString "ascii")]) (Ev.loc F rfl) (EvL.cons Ev.strc EvL.nil) (Meth.str PySem.F.slot_str_encode PySem.F.type_str_encode) (Call.encode (Nat.le_trans as.l (by decide)) as.a))) EvL.nil) kc (hc _ (.inr (.inl rfl)))) (ExC.nil ⟨_, rfl, by (repeat (refine Sup.cons rfl ?_)); exact Sup.nil⟩)
            | false => exact ExC.assign F (EvC.call (ds := [.str text]) (Ev.loc F rfl) (EvL.cons (Ev.iff (Tr.plain (Ev.loc F rfl) Tru.bool) rfl (Ev.loc F rfl)) EvL.nil) kc (hc _ (.inl rfl))) (ExC.nil ⟨_, rfl, by (repeat (refine Sup.cons rfl ?_)); exact Sup.nil⟩)
          case kS =>
            rintro o ⟨τ2, rfl, hs2⟩
            refine ExC.sup ?_ hs2
            refine ExC.iff (b := decide (([.s "span", .i (us / 86400000000), .i (us % 86400000000 / 1000000), .i (us % 86400000000 % 1000000)] : List At) ≠ [.s "span", .i (us / 86400000000), .i (us % 86400000000 / 1000000), .i (us % 86400000000 % 1000000)])) (Tr.cmp (Ev.call (f := .ref 393) (ds := [.obj 149 (spanF us)]) (Ev.glob F (glb_fnK hK (by k_is))) (EvL.cons (Ev.loc F rfl) EvL.nil) (keep_refK hK (by k_is)) (toldTD_c hK)) (Ev.loc F rfl) (Cmp.neT (by rw [List.all_cons, show At.ok (.s (PySem.Str.ofString "span")) = true from by decide +kernel]; rfl) (by rw [List.all_cons, show At.ok (.s (PySem.Str.ofString "span")) = true from by decide +kernel]; rfl)) Tru.bool).c (by simp) (ExC.nil ?_)
            refine ExC.iff (b := decide (PySem.Str.ofString "span" = PySem.Str.ofString "text")) (Tr.cmp (Ev.sub (Ev.loc F rfl) Ev.int (Sub.tup rfl rfl)) Ev.strc Cmp.eqS Tru.bool).c (by decide) (ExC.nil ?_)
            refine ExC.iff (b := decide (PySem.Str.ofString "span" = PySem.Str.ofString "moment")) (Tr.cmp (Ev.sub (Ev.loc F rfl) Ev.int (Sub.tup rfl rfl)) Ev.strc Cmp.eqS Tru.bool).c (by decide) ?_
            refine ExC.iff (b := decide (PySem.Str.ofString "span" = PySem.Str.ofString "day")) (Tr.cmp (Ev.sub (Ev.loc F rfl) Ev.int (Sub.tup rfl rfl)) Ev.strc Cmp.eqS Tru.bool).c (by decide) ?_
            refine ExC.iff (b := decide (PySem.Str.ofString "span" = PySem.Str.ofString "clock")) (Tr.cmp (Ev.sub (Ev.loc F rfl) Ev.int (Sub.tup rfl rfl)) Ev.strc Cmp.eqS Tru.bool).c (by decide) ?_
            repeat (first | refine ExC.nil ?_)
            refine ExC.iff (b := decide (eTD sg h mi s u ≠ quo (w))) (Tr.cmp (Ev.call (f := .ref 220) (ds := [.obj 149 (spanF us)]) (Ev.glob F (glb_fnK hK (by k_is))) (EvL.cons (Ev.loc F rfl) EvL.nil) (keep_refK hK (by k_is)) (itemTD_c hK hn hp t0 t1 hu hs' hm' hh)) (Ev.bin (Ev.bin Ev.strc (Ev.loc F rfl) (Bin.addS ?n1S)) Ev.strc (Bin.addS ?n2S)) Cmp.neS Tru.bool).c (decide_eq_false (not_not_intro heq)) (ExC.nil ?_)
            case n1S => rw [lit_q]; omega
            case n2S => rw [PySem.Str.length_append, lit_q]; omega
            refine ExC.iff (b := decide (len < 3600000000000) && (decide (([.s "span", .i (us / 86400000000), .i (us % 86400000000 / 1000000), .i (us % 86400000000 % 1000000)] : List At) ≠ [.s "span", .i (us / 86400000000), .i (us % 86400000000 / 1000000), .i (us % 86400000000 % 1000000)]) && true)) (TrC.and (Tr.cmp (Ev.loc F rfl) Ev.int Cmp.ltI Tru.bool).c fun hlt => TrC.and (TrC.cmpL (EvC.call1 (Ev.glob F (glb_fnK hK (by k_is))) (EvC.call (ds := [.str (w)]) (Ev.loc F rfl) (EvL.cons (Ev.loc F rfl) EvL.nil) kc ((hre (of_decide_eq_true hlt)).2 _ (.inl rfl))) (keep_refK hK (by k_is)) (toldTD_c hK).c) (Ev.loc F rfl) (Cmp.neT (by rw [List.all_cons, show At.ok (.s (PySem.Str.ofString "span")) = true from by decide +kernel]; rfl) (by rw [List.all_cons, show At.ok (.s (PySem.Str.ofString "span")) = true from by decide +kernel]; rfl))) fun _ => Tr.andNil.c) (by simp) (ExC.nil (ExC.nil (.inl ⟨_, .inl rfl, by (repeat (refine Sup.cons rfl ?_)); exact Sup.nil⟩)))
        | clock hv bh bi bs bu heq hre =>
          rename_i h mi s u
          obtain ⟨as, hc⟩ := hv
          refine ExC.ifS (P₁ := fun o => ∃ τ, o = .next τ ∧ Sup τ [("value", .obj 98 (timeF h mi s u)), ("text", .str text), ("due", .tup (([.s "clock", .i h, .i mi, .i s, .i u] : List At).map At.d)), ("length", .int 0), ("written", .str (PySem.Str.ofString "")), ("convert", .fn (convF k)), ("day", .int (da % 33)), ("month", .int (mo % 14)), ("year", .int (yearOf f)), ("draw", .list (dr.map D.int))]) (b := decide (PySem.Str.ofString "clock" = PySem.Str.ofString "text") && (octB k && true)) (Tr.and (Tr.cmp (Ev.sub (Ev.loc F rfl) Ev.int (Sub.tup rfl rfl)) Ev.strc Cmp.eqS Tru.bool) fun _ => Tr.and (Tr.plain (Ev.loc F rfl) Tru.bool) fun _ => Tr.andNil).c ?aK ?bK ?kK
          case aK =>
            intro q
            have z : decide (PySem.Str.ofString "clock" = PySem.Str.ofString "text") = false := by decide
            rw [z] at q
            cases q
          case bK =>
            intro q
            cases ho : octB k with
            | true => exact ExC.assign F (EvC.call (ds := [.bytes (toB text)]) (Ev.loc F rfl) (EvL.cons (Ev.ift (Tr.plain (Ev.loc F rfl) Tru.bool) rfl (Ev.meth (d0 := .str text) (ds := [.str (PySem.Str.ofString "ascii")]) (Ev.loc F rfl) (EvL.cons Ev.strc EvL.nil) (Meth.str PySem.F.slot_str_encode PySem.F.type_str_encode) (Call.encode (Nat.le_trans as.l (by decide)) as.a))) EvL.nil) kc (hc _ (.inr (.inl rfl)))) (ExC.nil ⟨_, rfl, by (repeat (refine Sup.cons rfl ?_)); exact Sup.nil⟩)
            | false => exact ExC.assign F (EvC.call (ds := [.str text]) (Ev.loc F rfl) (EvL.cons (Ev.iff (Tr.plain (Ev.loc F rfl) Tru.bool) rfl (Ev.loc F rfl)) EvL.nil) kc (hc _ (.inl rfl))) (ExC.nil ⟨_, rfl, by (repeat (refine Sup.cons rfl ?_)); exact Sup.nil⟩)
          case kK =>
            rintro o ⟨τ2, rfl, hs2⟩
            refine ExC.sup ?_ hs2
            refine ExC.iff (b := decide (([.s "clock", .i h, .i mi, .i s, .i u] : List At) ≠ [.s "clock", .i h, .i mi, .i s, .i u])) (Tr.cmp (Ev.call (f := .ref 393) (ds := [.obj 98 (timeF h mi s u)]) (Ev.glob F (glb_fnK hK (by k_is))) (EvL.cons (Ev.loc F rfl) EvL.nil) (keep_refK hK (by k_is)) (toldTM_c hK)) (Ev.loc F rfl) (Cmp.neT (by rw [List.all_cons, show At.ok (.s (PySem.Str.ofString "clock")) = true from by decide +kernel]; rfl) (by rw [List.all_cons, show At.ok (.s (PySem.Str.ofString "clock")) = true from by decide +kernel]; rfl)) Tru.bool).c (by simp) (ExC.nil ?_)
            refine ExC.iff (b := decide (PySem.Str.ofString "clock" = PySem.Str.ofString "text")) (Tr.cmp (Ev.sub (Ev.loc F rfl) Ev.int (Sub.tup rfl rfl)) Ev.strc Cmp.eqS Tru.bool).c (by decide) (ExC.nil ?_)
            refine ExC.iff (b := decide (PySem.Str.ofString "clock" = PySem.Str.ofString "moment")) (Tr.cmp (Ev.sub (Ev.loc F rfl) Ev.int (Sub.tup rfl rfl)) Ev.strc Cmp.eqS Tru.bool).c (by decide) ?_
            refine ExC.iff (b := decide (PySem.Str.ofString "clock" = PySem.Str.ofString "day")) (Tr.cmp (Ev.sub (Ev.loc F rfl) Ev.int (Sub.tup rfl rfl)) Ev.strc Cmp.eqS Tru.bool).c (by decide) ?_
            refine ExC.ift (b := decide (PySem.Str.ofString "clock" = PySem.Str.ofString "clock")) (Tr.cmp (Ev.sub (Ev.loc F rfl) Ev.int (Sub.tup rfl rfl)) Ev.strc Cmp.eqS Tru.bool).c (by decide) ?_
            have hck := clk_len bh bi bs bu
            refine ExC.assign F (d := .str (clk h mi s u)) (Ev.c ?wC) ?_
            case wC => exact Ev.call (f := .ref 400) (ds := [.tup [.int h, .int mi, .int s, .int u]]) (Ev.glob F (glb_fnK hK (by k_is))) (EvL.cons (Ev.slc (Ev.loc F rfl) (EvP.some Ev.int) EvP.none (Slc.tupFrom (k := 1) (by decide) (by show (1 : Nat) ≤ 5; decide) (by show (5 : Nat) ≤ _; decide))) EvL.nil) (keep_refK hK (by k_is)) (clock_c (n := n + 5) hK bh bi bs bu)
            repeat (first | refine ExC.nil ?_)
            refine ExC.iff (b := decide (eTime h mi s u ≠ quo (clk h mi s u))) (Tr.cmp (Ev.call (f := .ref 220) (ds := [.obj 98 (timeF h mi s u)]) (Ev.glob F (glb_fnK hK (by k_is))) (EvL.cons (Ev.loc F rfl) EvL.nil) (keep_refK hK (by k_is)) (itemT_c hK bh bi bs ⟨by omega, by omega⟩)) (Ev.bin (Ev.bin Ev.strc (Ev.loc F rfl) (Bin.addS ?n1K)) Ev.strc (Bin.addS ?n2K)) Cmp.neS Tru.bool).c (decide_eq_false (not_not_intro heq)) (ExC.nil ?_)
            case n1K => rw [lit_q]; omega
            case n2K => rw [PySem.Str.length_append, lit_q]; omega
            refine ExC.iff (b := decide (0 < 3600000000000) && (decide (([.s "clock", .i h, .i mi, .i s, .i u] : List At) ≠ [.s "clock", .i h, .i mi, .i s, .i u]) && true)) (TrC.and (Tr.cmp (Ev.loc F rfl) Ev.int Cmp.ltI Tru.bool).c fun hlt => TrC.and (TrC.cmpL (EvC.call1 (Ev.glob F (glb_fnK hK (by k_is))) (EvC.call (ds := [.str (clk h mi s u)]) (Ev.loc F rfl) (EvL.cons (Ev.loc F rfl) EvL.nil) kc (hre.2 _ (.inl rfl))) (keep_refK hK (by k_is)) (toldTM_c hK).c) (Ev.loc F rfl) (Cmp.neT (by rw [List.all_cons, show At.ok (.s (PySem.Str.ofString "clock")) = true from by decide +kernel]; rfl) (by rw [List.all_cons, show At.ok (.s (PySem.Str.ofString "clock")) = true from by decide +kernel]; rfl))) fun _ => Tr.andNil.c) (by simp) (ExC.nil (ExC.nil (.inl ⟨_, .inl rfl, by (repeat (refine Sup.cons rfl ?_)); exact Sup.nil⟩)))
      case B =>
        by_cases h16 : k / 16 % 6 = 0
        · refine Ex.ift (b := decide (k / 16 % 6 = 0)) (Tr.cmp (Ev.bin (Ev.bin (Ev.loc F rfl) Ev.int (Bin.divI)) Ev.int (Bin.modI)) Ev.int Cmp.eqI Tru.bool) (decide_eq_true h16) ?_
          refine Ex.assign F (d := .str (wordsL.getD (k / 96 % 8).toNat PySem.Str.empty)) (Ev.sub (Ev.glob F (words_g hK)) (Ev.bin (Ev.bin (Ev.loc F rfl) Ev.int (Bin.divI)) Ev.int (Bin.modI)) (Sub.tup (j := (k / 96 % 8).toNat) (seqIx (by omega) ?z1) (getD_map D.str wordsL _ PySem.Str.empty ?z2) (by omega) (by omega))) ?_
          case z1 => show k / 96 % 8 < ((8 : Nat) : Int); omega
          case z2 => show (k / 96 % 8).toNat < 8; omega
          refine Ex.assign F (Ev.tup (EvL.cons Ev.strc (EvL.cons (Ev.loc F rfl) (EvL.nil))) (by show (2 : Nat) ≤ _; decide)) ?_
          repeat (first | refine Ex.nil ?_)
          refine ⟨_, _, [.s "text", .s (wordsL.getD (k / 96 % 8).toNat PySem.Str.empty)], _, _, rfl, T.word h16, ?_⟩
          (repeat (refine Sup.cons rfl ?_)); exact Sup.nil
        refine Ex.iff (b := decide (k / 16 % 6 = 0)) (Tr.cmp (Ev.bin (Ev.bin (Ev.loc F rfl) Ev.int (Bin.divI)) Ev.int (Bin.modI)) Ev.int Cmp.eqI Tru.bool) (decide_eq_false h16) ?_
        by_cases h0 : k % 4 = 0
        · refine Ex.ift (b := decide (k % 4 = 0)) (Tr.cmp (Ev.bin (Ev.loc F rfl) Ev.int (Bin.modI)) Ev.int Cmp.eqI Tru.bool) (decide_eq_true h0) ?_
          obtain ⟨sep, hsep⟩ : ∃ sep, sep = if decide (k / 96 % 2 = 0) then PySem.Str.ofString "T" else PySem.Str.ofString " " := ⟨_, rfl⟩
          have hsl : sep.length ≤ 1 := by rw [hsep]; split <;> decide
          have hso : sep = PySem.Str.ofString "T" ∨ sep = PySem.Str.ofString " " := by rw [hsep]; split <;> simp
          have pm := T.mom h0 sep hso
          have pd := T.day (.ref 334) (.inl rfl)
          rw [cv_0 h0]
          refine Ex.assign F (d := .str (daysOf (padB k) (yearOf f) (mo % 14) (da % 33) ++ sep ++ clockOf (padB k) (spanOf k ho) (mi % modOf k) (se % modOf k) (figOf pa) (pa % 8))) (Ev.bin (Ev.bin (d2 := .str sep) (Ev.loc F rfl) ?s1 (Bin.addS (by omega))) (Ev.loc F rfl) (Bin.addS ?s2)) ?_
          case s1 =>
            rw [hsep]
            exact Ev.ifexp (b := decide (k / 96 % 2 = 0)) (Tr.cmp (Ev.bin (Ev.bin (Ev.loc F rfl) Ev.int (Bin.divI)) Ev.int (Bin.modI)) Ev.int Cmp.eqI Tru.bool) (fun _ => Ev.strc) (fun _ => Ev.strc) (Jn.str _ _)
          case s2 => rw [PySem.Str.length_append]; omega
          refine Ex.assign F (d := .tup ((if knB (yearOf f) (mo % 14) (da % 33) && tkB (spanOf k ho) (mi % modOf k) (se % modOf k) (pa % 8) then [.s "moment", .i (yearOf f), .i (mo % 14), .i (da % 33), .i (spanOf k ho), .i (mi % modOf k), .i (se % modOf k), .i mic] else [.s "text", .s (daysOf (padB k) (yearOf f) (mo % 14) (da % 33) ++ sep ++ clockOf (padB k) (spanOf k ho) (mi % modOf k) (se % modOf k) (figOf pa) (pa % 8))] : List At).map At.d)) ?du ?_
          case du =>
            cases hb : (knB (yearOf f) (mo % 14) (da % 33) && tkB (spanOf k ho) (mi % modOf k) (se % modOf k) (pa % 8)) with
            | true => rw [two_t rfl]; exact Ev.ift (Tr.and (Tr.plain (Ev.loc F rfl) Tru.bool) fun _ => Tr.and (Tr.plain (Ev.loc F rfl) Tru.bool) fun _ => Tr.andNil) (by rw [Bool.and_true]; exact hb) (Ev.tup (EvL.cons Ev.strc (EvL.cons (Ev.loc F rfl) (EvL.cons (Ev.loc F rfl) (EvL.cons (Ev.loc F rfl) (EvL.cons (Ev.loc F rfl) (EvL.cons (Ev.loc F rfl) (EvL.cons (Ev.loc F rfl) (EvL.cons (Ev.loc F rfl) (EvL.nil))))))))) (by show (8 : Nat) ≤ _; decide))
            | false => rw [two_f rfl]; exact Ev.iff (Tr.and (Tr.plain (Ev.loc F rfl) Tru.bool) fun _ => Tr.and (Tr.plain (Ev.loc F rfl) Tru.bool) fun _ => Tr.andNil) (by rw [Bool.and_true]; exact hb) (Ev.tup (EvL.cons Ev.strc (EvL.cons (Ev.loc F rfl) (EvL.nil))) (by show (2 : Nat) ≤ _; decide))
          by_cases h1 : k / 16 % 6 = 1
          · refine Ex.ift (b := decide (k / 16 % 6 = 1)) (Tr.cmp (Ev.bin (Ev.bin (Ev.loc F rfl) Ev.int (Bin.divI)) Ev.int (Bin.modI)) Ev.int Cmp.eqI Tru.bool) (decide_eq_true h1) ?_
            refine Ex.assign F (Ev.loc F rfl) ?_
            refine Ex.assign F (d := .tup ((if knB (yearOf f) (mo % 14) (da % 33) then [.s "day", .i (yearOf f), .i (mo % 14), .i (da % 33)] else [.s "text", .s (daysOf (padB k) (yearOf f) (mo % 14) (da % 33))] : List At).map At.d)) ?dd ?_
            case dd =>
              cases hb : knB (yearOf f) (mo % 14) (da % 33) with
              | true => rw [two_t rfl]; exact Ev.ift (Tr.plain (Ev.loc F rfl) Tru.bool) rfl (Ev.tup (EvL.cons Ev.strc (EvL.cons (Ev.loc F rfl) (EvL.cons (Ev.loc F rfl) (EvL.cons (Ev.loc F rfl) (EvL.nil))))) (by show (4 : Nat) ≤ _; decide))
              | false => rw [two_f rfl]; exact Ev.iff (Tr.plain (Ev.loc F rfl) Tru.bool) rfl (Ev.tup (EvL.cons Ev.strc (EvL.cons (Ev.loc F rfl) (EvL.nil))) (by show (2 : Nat) ≤ _; decide))
            repeat (first | refine Ex.nil ?_)
            refine ⟨_, _, _, _, _, rfl, pd, ?_⟩
            (repeat (refine Sup.cons rfl ?_)); exact Sup.nil
          · refine Ex.iff (b := decide (k / 16 % 6 = 1)) (Tr.cmp (Ev.bin (Ev.bin (Ev.loc F rfl) Ev.int (Bin.divI)) Ev.int (Bin.modI)) Ev.int Cmp.eqI Tru.bool) (decide_eq_false h1) ?_
            repeat (first | refine Ex.nil ?_)
            refine ⟨_, _, _, _, _, rfl, pm, ?_⟩
            (repeat (refine Sup.cons rfl ?_)); exact Sup.nil
        refine Ex.iff (b := decide (k % 4 = 0)) (Tr.cmp (Ev.bin (Ev.loc F rfl) Ev.int (Bin.modI)) Ev.int Cmp.eqI Tru.bool) (decide_eq_false h0) ?_
        by_cases h1 : k % 4 = 1
        · refine Ex.ift (b := decide (k % 4 = 1)) (Tr.cmp (Ev.bin (Ev.loc F rfl) Ev.int (Bin.modI)) Ev.int Cmp.eqI Tru.bool) (decide_eq_true h1) ?_
          have pd := T.day (.ref 363) (.inr rfl)
          rw [cv_1 h1]
          refine Ex.assign F (Ev.loc F rfl) ?_
          refine Ex.assign F (d := .tup ((if knB (yearOf f) (mo % 14) (da % 33) then [.s "day", .i (yearOf f), .i (mo % 14), .i (da % 33)] else [.s "text", .s (daysOf (padB k) (yearOf f) (mo % 14) (da % 33))] : List At).map At.d)) ?dd ?_
          case dd =>
            cases hb : knB (yearOf f) (mo % 14) (da % 33) with
            | true => rw [two_t rfl]; exact Ev.ift (Tr.plain (Ev.loc F rfl) Tru.bool) rfl (Ev.tup (EvL.cons Ev.strc (EvL.cons (Ev.loc F rfl) (EvL.cons (Ev.loc F rfl) (EvL.cons (Ev.loc F rfl) (EvL.nil))))) (by show (4 : Nat) ≤ _; decide))
            | false => rw [two_f rfl]; exact Ev.iff (Tr.plain (Ev.loc F rfl) Tru.bool) rfl (Ev.tup (EvL.cons Ev.strc (EvL.cons (Ev.loc F rfl) (EvL.nil))) (by show (2 : Nat) ≤ _; decide))
          repeat (first | refine Ex.nil ?_)
          refine ⟨_, _, _, _, _, rfl, pd, ?_⟩
          (repeat (refine Sup.cons rfl ?_)); exact Sup.nil
        refine Ex.iff (b := decide (k % 4 = 1)) (Tr.cmp (Ev.bin (Ev.loc F rfl) Ev.int (Bin.modI)) Ev.int Cmp.eqI Tru.bool) (decide_eq_false h1) ?_
        by_cases h2 : k % 4 = 2
        · refine Ex.ift (b := decide (k % 4 = 2)) (Tr.cmp (Ev.bin (Ev.loc F rfl) Ev.int (Bin.modI)) Ev.int Cmp.eqI Tru.bool) (decide_eq_true h2) ?_
          have hm100 : modOf k = 100 := by unfold modOf; rw [decide_eq_true h2]; rfl
          obtain ⟨ng, hng⟩ : ∃ ng, ng = decide (k / 96 % 2 = 1) := ⟨_, rfl⟩
          obtain ⟨L, hL⟩ : ∃ L, L = (((spanOf k ho) * 60 + (mi % modOf k)) * 60 + (se % modOf k)) * 1000000 + mic := ⟨_, rfl⟩
          have hL0 : 0 ≤ L ∧ L < 10000000000000 := by omega
          obtain ⟨us, hus⟩ : ∃ us, us = if ng then 0 - L else L := ⟨_, rfl⟩
          have pl := T.span h2 ng us (by rw [hus, hL]) L hL
          rw [cv_2 h2]
          have hsg : (if ng then PySem.Str.ofString "-" else PySem.Str.ofString "").length ≤ 1 := by cases ng <;> decide
          refine Ex.assign F (d := .str ((if ng then PySem.Str.ofString "-" else PySem.Str.ofString "") ++ clockOf (padB k) (spanOf k ho) (mi % modOf k) (se % modOf k) (figOf pa) (pa % 8))) (Ev.bin (d1 := .str (if ng then PySem.Str.ofString "-" else PySem.Str.ofString "")) ?s1 (Ev.loc F rfl) (Bin.addS (by omega))) ?_
          case s1 =>
            rw [hng]
            exact Ev.ifexp (b := decide (k / 96 % 2 = 1)) (Tr.cmp (Ev.bin (Ev.bin (Ev.loc F rfl) Ev.int (Bin.divI)) Ev.int (Bin.modI)) Ev.int Cmp.eqI Tru.bool) (fun _ => Ev.strc) (fun _ => Ev.strc) (Jn.str _ _)
          refine Ex.assign F (d := .int L) ?s2 ?_
          case s2 =>
            rw [hL]
            exact Ev.bin (Ev.bin (Ev.bin (Ev.bin (Ev.bin (Ev.loc F rfl) Ev.int (Bin.mulI (by decide))) (Ev.loc F rfl) Bin.addI) Ev.int (Bin.mulI (by decide)) |> fun q => Ev.bin q (Ev.loc F rfl) Bin.addI) Ev.int (Bin.mulI (by decide))) (Ev.loc F rfl) Bin.addI
          refine Ex.assign F (Ev.loc F rfl) ?_
          refine Ex.ifJ [("total", .int us), ("length", .int L), ("text", .str ((if ng then PySem.Str.ofString "-" else PySem.Str.ofString "") ++ clockOf (padB k) (spanOf k ho) (mi % modOf k) (se % modOf k) (figOf pa) (pa % 8))), ("size", .int (pa % 8)), ("span", .int (spanOf k ho)), ("convert", .fn (.ref 346)), ("octets", .bool (octB k)), ("day", .int (da % 33)), ("month", .int (mo % 14)), ("year", .int (yearOf f)), ("draw", .list (dr.map D.int))] (b := decide (k / 96 % 2 = 1)) (Tr.cmp (Ev.bin (Ev.bin (Ev.loc F rfl) Ev.int (Bin.divI)) Ev.int (Bin.modI)) Ev.int Cmp.eqI Tru.bool) ?j1 ?j2 ?j3
          case j1 =>
            intro q
            have e : us = 0 - L := by rw [hus, hng, q]; rfl
            rw [e]
            refine Ex.assign F (Ev.bin Ev.int (Ev.loc F rfl) Bin.subI) (Ex.nilJ ?_)
            (repeat (refine Sup.cons rfl ?_)); exact Sup.nil
          case j2 =>
            intro q
            have e : us = L := by rw [hus, hng, q]; rfl
            rw [e]
            refine Ex.nilJ ?_
            (repeat (refine Sup.cons rfl ?_)); exact Sup.nil
          case j3 =>
            refine Ex.assign F (d := .tup ((if decide (pa % 8 < 7) && decide ((spanOf k ho) < 1000) then [.s "span", .i (us / 86400000000), .i (us / 1000000 % 86400), .i (us % 1000000)] else [.s "text", .s ((if ng then PySem.Str.ofString "-" else PySem.Str.ofString "") ++ clockOf (padB k) (spanOf k ho) (mi % modOf k) (se % modOf k) (figOf pa) (pa % 8))] : List At).map At.d)) ?du ?_
            case du =>
              cases hb : (decide (pa % 8 < 7) && decide ((spanOf k ho) < 1000)) with
              | true => rw [two_t rfl]; exact Ev.ift (Tr.and (Tr.cmp (Ev.loc F rfl) Ev.int Cmp.ltI Tru.bool) fun _ => Tr.and (Tr.cmp (Ev.loc F rfl) Ev.int Cmp.ltI Tru.bool) fun _ => Tr.andNil) (by rw [Bool.and_true]; exact hb) (Ev.tup (EvL.cons Ev.strc (EvL.cons (Ev.bin (Ev.loc F rfl) Ev.int (Bin.divI)) (EvL.cons (Ev.bin (Ev.bin (Ev.loc F rfl) Ev.int (Bin.divI)) Ev.int (Bin.modI)) (EvL.cons (Ev.bin (Ev.loc F rfl) Ev.int (Bin.modI)) EvL.nil)))) (by show (4 : Nat) ≤ _; decide))
              | false => rw [two_f rfl]; exact Ev.iff (Tr.and (Tr.cmp (Ev.loc F rfl) Ev.int Cmp.ltI Tru.bool) fun _ => Tr.and (Tr.cmp (Ev.loc F rfl) Ev.int Cmp.ltI Tru.bool) fun _ => Tr.andNil) (by rw [Bool.and_true]; exact hb) (Ev.tup (EvL.cons Ev.strc (EvL.cons (Ev.loc F rfl) (EvL.nil))) (by show (2 : Nat) ≤ _; decide))
            have hck := clk_len (h := L / 3600000000) (m := L / 60000000 % 60) (s := L / 1000000 % 60) (u := L % 1000000) ⟨by omega, by omega⟩ ⟨by omega, by omega⟩ ⟨by omega, by omega⟩ ⟨by omega, by omega⟩
            have hsg2 : (if decide (us < 0) then PySem.Str.ofString "-" else PySem.Str.ofString "").length ≤ 1 := by split <;> decide
            refine Ex.assign F (d := .str ((if decide (us < 0) then PySem.Str.ofString "-" else PySem.Str.ofString "") ++ clk (L / 3600000000) (L / 60000000 % 60) (L / 1000000 % 60) (L % 1000000))) (Ev.bin (Ev.ifexp (b := decide (us < 0)) (Tr.cmp (Ev.loc F rfl) Ev.int Cmp.ltI Tru.bool) (fun _ => Ev.strc) (fun _ => Ev.strc) (Jn.str _ _)) (Ev.call (f := .ref 400) (ds := [.tup [.int (L / 3600000000), .int (L / 60000000 % 60), .int (L / 1000000 % 60), .int (L % 1000000)]]) ?c1 (EvL.cons (Ev.tup (EvL.cons (Ev.bin (Ev.loc F rfl) Ev.int (Bin.divI)) (EvL.cons (Ev.bin (Ev.bin (Ev.loc F rfl) Ev.int (Bin.divI)) Ev.int (Bin.modI)) (EvL.cons (Ev.bin (Ev.bin (Ev.loc F rfl) Ev.int (Bin.divI)) Ev.int (Bin.modI)) (EvL.cons (Ev.bin (Ev.loc F rfl) Ev.int (Bin.modI)) EvL.nil)))) (by show (4 : Nat) ≤ _; decide)) EvL.nil) ?c2 (clock_c (n := n + 5) hK ⟨by omega, by omega⟩ ⟨by omega, by omega⟩ ⟨by omega, by omega⟩ ⟨by omega, by omega⟩)) (Bin.addS (by omega))) ?_
            case c1 => exact Ev.glob F (glb_fnK hK (by k_is))
            case c2 => exact keep_refK hK (by k_is)
            repeat (first | refine Ex.nil ?_)
            refine ⟨_, _, _, _, _, rfl, pl, ?_⟩
            (repeat (refine Sup.cons rfl ?_)); exact Sup.nil
        refine Ex.iff (b := decide (k % 4 = 2)) (Tr.cmp (Ev.bin (Ev.loc F rfl) Ev.int (Bin.modI)) Ev.int Cmp.eqI Tru.bool) (decide_eq_false h2) ?_
        have h3 : k % 4 = 3 := by omega
        obtain ⟨ng, hng⟩ : ∃ ng, ng = decide (k / 96 % 3 = 2) := ⟨_, rfl⟩
        have pl := T.clock h3 ng
        rw [cv_3 h3]
        have hsg : (if ng then PySem.Str.ofString "-" else PySem.Str.ofString "").length ≤ 1 := by cases ng <;> decide
        refine Ex.assign F (d := .str ((if ng then PySem.Str.ofString "-" else PySem.Str.ofString "") ++ clockOf (padB k) (spanOf k ho) (mi % modOf k) (se % modOf k) (figOf pa) (pa % 8))) (Ev.bin (d1 := .str (if ng then PySem.Str.ofString "-" else PySem.Str.ofString "")) ?s1 (Ev.loc F rfl) (Bin.addS (by omega))) ?_
        case s1 =>
          rw [hng]
          exact Ev.ifexp (b := decide (k / 96 % 3 = 2)) (Tr.cmp (Ev.bin (Ev.bin (Ev.loc F rfl) Ev.int (Bin.divI)) Ev.int (Bin.modI)) Ev.int Cmp.eqI Tru.bool) (fun _ => Ev.strc) (fun _ => Ev.strc) (Jn.str _ _)
        refine Ex.assign F (d := .tup ((if tkB (spanOf k ho) (mi % modOf k) (se % modOf k) (pa % 8) && !ng then [.s "clock", .i (spanOf k ho), .i (mi % modOf k), .i (se % modOf k), .i mic] else [.s "text", .s ((if ng then PySem.Str.ofString "-" else PySem.Str.ofString "") ++ clockOf (padB k) (spanOf k ho) (mi % modOf k) (se % modOf k) (figOf pa) (pa % 8))] : List At).map At.d)) ?du ?_
        case du =>
          have eb : (tkB (spanOf k ho) (mi % modOf k) (se % modOf k) (pa % 8) && (decide (k / 96 % 3 ≠ 2) && true)) = (tkB (spanOf k ho) (mi % modOf k) (se % modOf k) (pa % 8) && !ng) := by rw [hng, Bool.and_true, decide_not]
          cases hb : (tkB (spanOf k ho) (mi % modOf k) (se % modOf k) (pa % 8) && !ng) with
          | true => rw [two_t rfl]; exact Ev.ift (Tr.and (Tr.plain (Ev.loc F rfl) Tru.bool) fun _ => Tr.and (Tr.cmp (Ev.bin (Ev.bin (Ev.loc F rfl) Ev.int (Bin.divI)) Ev.int (Bin.modI)) Ev.int Cmp.neI Tru.bool) fun _ => Tr.andNil) (eb.trans hb) (Ev.tup (EvL.cons Ev.strc (EvL.cons (Ev.loc F rfl) (EvL.cons (Ev.loc F rfl) (EvL.cons (Ev.loc F rfl) (EvL.cons (Ev.loc F rfl) (EvL.nil)))))) (by show (5 : Nat) ≤ _; decide))
          | false => rw [two_f rfl]; exact Ev.iff (Tr.and (Tr.plain (Ev.loc F rfl) Tru.bool) fun _ => Tr.and (Tr.cmp (Ev.bin (Ev.bin (Ev.loc F rfl) Ev.int (Bin.divI)) Ev.int (Bin.modI)) Ev.int Cmp.neI Tru.bool) fun _ => Tr.andNil) (eb.trans hb) (Ev.tup (EvL.cons Ev.strc (EvL.cons (Ev.loc F rfl) (EvL.nil))) (by show (2 : Nat) ≤ _; decide))
        repeat (first | refine Ex.nil ?_)
        refine ⟨_, _, _, _, _, rfl, pl, ?_⟩
        (repeat (refine Sup.cons rfl ?_)); exact Sup.nil
end

end Mine
end

section
open PySem PySem.W PySem.Calls PyProof.Rows
set_option Elab.async false
set_option linter.unusedVariables false
set_option maxRecDepth 100000
namespace Mine
open NumText (AllDigits digitsVal)
abbrev cl (x : PySem.Str) : List Nat := x.cps.toList
theorem cl_app (x y : PySem.Str) : cl (x ++ y) = cl x ++ cl y := by
  show (x.cps ++ y.cps).toList = _
  exact Array.toList_append
theorem str_of {x y : PySem.Str} (h : cl x = cl y) : x = y := by
  obtain ⟨a⟩ := x
  obtain ⟨b⟩ := y
  have h : a.toList = b.toList := h
  rw [Array.toList_inj.mp h]
theorem len_cl (x : PySem.Str) : (cl x).length = x.length := Array.length_toList
theorem dec_dig {c : Nat} (h : 48 ≤ c ∧ c ≤ 57) : dec c = true := by
  have k : ∀ d : Fin 10, dec (48 + d.val) = true := by decide +kernel
  have := k ⟨c - 48, by omega⟩
  simpa [show 48 + (c - 48) = c from by omega] using this
section
variable {T : Array Nat} {gt : Nat}
theorem getD_at {A C : List Nat} {c : Nat} (h : T.toList = A ++ c :: C) : A.length < T.size ∧ T.getD A.length 0 = c := by
  have hs : T.size = A.length + (C.length + 1) := by rw [← Array.length_toList, h, List.length_append, List.length_cons]
  refine ⟨by omega, ?_⟩
  rw [Array.getD_eq_getD_getElem?, ← Array.getElem?_toList, h, List.getElem?_append_right (Nat.le_refl _), Nat.sub_self]
  rfl
theorem size_at {A : List Nat} (h : T.toList = A) : A.length = T.size := by rw [← h, Array.length_toList]
def NoD (C : List Nat) : Prop := ∀ c r, C = c :: r → dec c = false
theorem digN_run : ∀ (k : Nat) {A B C : List Nat}, T.toList = A ++ (B ++ C) → AllDigits B → NoD C → B.length ≤ k → digN T k A.length = B.length
  | 0, A, B, C, h, hB, hC, hk => by
    have : B = [] := List.length_eq_zero_iff.mp (Nat.le_zero.mp hk)
    subst this; rfl
  | k + 1, A, [], [], h, hB, hC, hk => by
    have := size_at h
    unfold digN
    rw [if_neg]; rfl
    rintro ⟨q, _⟩
    simp at this
    omega
  | k + 1, A, [], c :: r, h, hB, hC, hk => by
    obtain ⟨h1, h2⟩ := getD_at (c := c) (C := r) h
    unfold digN
    rw [if_neg]; rfl
    rintro ⟨_, q⟩
    rw [h2] at q
    have z : dec c = true := q
    rw [hC c r rfl] at z
    cases z
  | k + 1, A, b :: B, C, h, hB, hC, hk => by
    obtain ⟨h1, h2⟩ := getD_at (c := b) (C := B ++ C) h
    unfold digN
    rw [if_pos ⟨h1, by rw [h2]; exact dec_dig (hB.head)⟩]
    have := digN_run k (A := A ++ [b]) (B := B) (C := C) (by simpa using h) hB.tail hC (by simpa using hk)
    rw [List.length_append] at this
    rw [show A.length + 1 = A.length + [b].length from rfl, this]
    rfl
theorem digN_more : ∀ (k : Nat) {A B C : List Nat}, T.toList = A ++ (B ++ C) → AllDigits B → k ≤ B.length → digN T k A.length = k
  | 0, A, B, C, h, hB, hk => rfl
  | k + 1, A, [], C, h, hB, hk => by simp at hk
  | k + 1, A, b :: B, C, h, hB, hk => by
    obtain ⟨h1, h2⟩ := getD_at (c := b) (C := B ++ C) h
    unfold digN
    rw [if_pos ⟨h1, by rw [h2]; exact dec_dig (hB.head)⟩]
    have := digN_more k (A := A ++ [b]) (B := B) (C := C) (by simpa using h) hB.tail (by simpa using hk)
    rw [List.length_append] at this
    rw [show A.length + 1 = A.length + [b].length from rfl, this]
theorem scan_g {A B C : List Nat} {g k : Nat} {r : List It} (h : T.toList = A ++ (B ++ C)) (hB : AllDigits B) (h1 : 1 ≤ B.length) (hk : B.length ≤ k) (hC : NoD C) : scan T gt (.grp g k :: r) A.length = (scan T gt r (A ++ B).length).map ((g, A.length, (A ++ B).length) :: ·) := by
  have e := digN_run k h hB hC hk
  rw [scan, e, if_neg (by omega), List.length_append]
theorem scan_l {A C : List Nat} {c : Nat} {r : List It} (h : T.toList = A ++ c :: C) : scan T gt (.lit c :: r) A.length = scan T gt r (A ++ [c]).length := by
  obtain ⟨h1, h2⟩ := getD_at h
  rw [scan, if_pos ⟨h1, h2⟩, List.length_append]; rfl
theorem scan_s {A C : List Nat} {a b c : Nat} {r : List It} (h : T.toList = A ++ c :: C) (hc : c = a ∨ c = b) : scan T gt (.sep a b :: r) A.length = scan T gt r (A ++ [c]).length := by
  obtain ⟨h1, h2⟩ := getD_at h
  rw [scan, if_pos ⟨h1, by rw [h2]; exact hc⟩, List.length_append]; rfl
theorem scan_e {A : List Nat} {g : Nat} (h : T.toList = A) : scanT T g A.length = some [] := by
  unfold scanT
  rw [if_pos (size_at h)]
theorem scan_f {A B : List Nat} {g : Nat} (h : T.toList = A ++ 46 :: B) (hB : AllDigits B) (h1 : 1 ≤ B.length) (h6 : B.length ≤ 6) : scanT T g A.length = some [(g, (A ++ [46]).length, (A ++ [46] ++ B).length)] := by
  obtain ⟨q1, q2⟩ := getD_at h
  have e := digN_run 6 (T := T) (A := A ++ [46]) (B := B) (C := []) (by simpa using h) hB (fun c r q => by cases q) h6
  have hs := size_at h
  simp only [List.length_append, List.length_cons, List.length_nil] at e hs ⊢
  unfold scanT
  rw [if_neg (by omega), if_pos ⟨q1, q2, by rw [e]; exact h1, by rw [e]; omega⟩, e]
theorem scan_f7 {A B : List Nat} {g : Nat} (h : T.toList = A ++ 46 :: B) (hB : AllDigits B) (h7 : 6 < B.length) : scanT T g A.length = none := by
  obtain ⟨q1, q2⟩ := getD_at h
  have e := digN_more 6 (T := T) (A := A ++ [46]) (B := B) (C := []) (by simpa using h) hB (by omega)
  have hs := size_at h
  simp only [List.length_append, List.length_cons, List.length_nil] at e hs
  unfold scanT
  rw [if_neg (by omega), if_neg]
  rintro ⟨_, _, _, q⟩
  rw [e] at q
  omega
theorem ext_mid {A B C : List Nat} (h : T.toList = A ++ (B ++ C)) : (⟨T.extract A.length (A ++ B).length⟩ : PySem.Str) = ⟨B.toArray⟩ := by
  refine str_of ?_
  show (T.extract A.length (A ++ B).length).toList = B.toArray.toList
  rw [Array.toList_extract, h]
  simp [List.extract, List.drop_append, List.take_append]
theorem scan_gl {A B C : List Nat} {g k c : Nat} {r : List It} (h : T.toList = A ++ (B ++ C)) (hB : AllDigits B) (hk : k < B.length) (h1 : 1 ≤ k) (hc : ¬ (48 ≤ c ∧ c ≤ 57)) : scan T gt (.grp g k :: .lit c :: r) A.length = none := by
  have e := digN_more k h hB (by omega)
  rw [scan, e, if_neg (by omega)]
  have h2 : T.toList = (A ++ B.take k) ++ (B.drop k ++ C) := by rw [h, List.append_assoc, ← List.append_assoc (B.take k), List.take_append_drop]
  cases hd : B.drop k with
  | nil => have := congrArg List.length hd; simp at this; omega
  | cons b B' =>
    rw [hd] at h2
    obtain ⟨q1, q2⟩ := getD_at (c := b) (C := B' ++ C) h2
    have hb : b ∈ B := List.mem_of_mem_drop (by rw [hd]; exact .head _)
    have el : (A ++ B.take k).length = A.length + k := by rw [List.length_append, List.length_take]; omega
    rw [el] at q1 q2
    rw [scan, if_neg]; rfl
    rintro ⟨_, q⟩
    rw [q2] at q
    exact hc (q ▸ hB b hb)
end
end Mine
end

section
open PySem PySem.W PySem.Calls PyProof.Rows
set_option Elab.async false
set_option linter.unusedVariables false
set_option linter.unusedSimpArgs false
set_option maxRecDepth 100000
namespace Mine
open NumText (AllDigits digitsVal)
structure Ds (B : List Nat) (k : Nat) : Prop where
  d : AllDigits B
  n : 1 ≤ B.length
  k : B.length ≤ k
theorem nod_c {c : Nat} {C : List Nat} (h : dec c = false) : NoD (c :: C) := fun a r q => by cases q; exact h
theorem nod_nil : NoD [] := fun a r q => by cases q
def FrOk (F FD : List Nat) : Prop := (F = [] ∧ FD = []) ∨ (F = 46 :: FD ∧ Ds FD 6)
def lastD (FD : List Nat) : D := match FD with
  | [] => .none
  | c :: r => .str ⟨(c :: r).toArray⟩
theorem FrOk.nod {F FD : List Nat} (h : FrOk F FD) : NoD F := by
  rcases h with ⟨rfl, _⟩ | ⟨rfl, _⟩
  · exact nod_nil
  · exact nod_c dec46
section
variable {T : Array Nat}
theorem DT_scan {Y MO DD H MI S F FD : List Nat} {sp : Nat} (h : T.toList = Y ++ 45 :: (MO ++ 45 :: (DD ++ sp :: (H ++ 58 :: (MI ++ 58 :: (S ++ F)))))) (hs : sp = 84 ∨ sp = 32) (y : Ds Y 4) (mo : Ds MO 2) (dd : Ds DD 2) (hh : Ds H 2) (mi : Ds MI 2) (s : Ds S 2) (f : FrOk F FD) :
    ∃ l, (scan T 6 itsDT 0).map (spOf 7) = some l ∧ l.map (slc ⟨T⟩) = [.str ⟨Y.toArray⟩, .str ⟨MO.toArray⟩, .str ⟨DD.toArray⟩, .str ⟨H.toArray⟩, .str ⟨MI.toArray⟩, .str ⟨S.toArray⟩, lastD FD] := by
  have hsd : dec sp = false := by rcases hs with rfl | rfl; exact dec_84; exact dec_32
  have h1 : T.toList = [] ++ (Y ++ 45 :: (MO ++ 45 :: (DD ++ sp :: (H ++ 58 :: (MI ++ 58 :: (S ++ F)))))) := h
  have h2 : T.toList = ([] ++ Y) ++ 45 :: (MO ++ 45 :: (DD ++ sp :: (H ++ 58 :: (MI ++ 58 :: (S ++ F))))) := h
  have h3 : T.toList = ([] ++ Y ++ [45]) ++ (MO ++ 45 :: (DD ++ sp :: (H ++ 58 :: (MI ++ 58 :: (S ++ F))))) := by rw [h2]; simp
  have h4 : T.toList = ([] ++ Y ++ [45] ++ MO) ++ 45 :: (DD ++ sp :: (H ++ 58 :: (MI ++ 58 :: (S ++ F)))) := by rw [h3]; simp
  have h5 : T.toList = ([] ++ Y ++ [45] ++ MO ++ [45]) ++ (DD ++ sp :: (H ++ 58 :: (MI ++ 58 :: (S ++ F)))) := by rw [h4]; simp
  have h6 : T.toList = ([] ++ Y ++ [45] ++ MO ++ [45] ++ DD) ++ sp :: (H ++ 58 :: (MI ++ 58 :: (S ++ F))) := by rw [h5]; simp
  have h7 : T.toList = ([] ++ Y ++ [45] ++ MO ++ [45] ++ DD ++ [sp]) ++ (H ++ 58 :: (MI ++ 58 :: (S ++ F))) := by rw [h6]; simp
  have h8 : T.toList = ([] ++ Y ++ [45] ++ MO ++ [45] ++ DD ++ [sp] ++ H) ++ 58 :: (MI ++ 58 :: (S ++ F)) := by rw [h7]; simp
  have h9 : T.toList = ([] ++ Y ++ [45] ++ MO ++ [45] ++ DD ++ [sp] ++ H ++ [58]) ++ (MI ++ 58 :: (S ++ F)) := by rw [h8]; simp
  have h10 : T.toList = ([] ++ Y ++ [45] ++ MO ++ [45] ++ DD ++ [sp] ++ H ++ [58] ++ MI) ++ 58 :: (S ++ F) := by rw [h9]; simp
  have h11 : T.toList = ([] ++ Y ++ [45] ++ MO ++ [45] ++ DD ++ [sp] ++ H ++ [58] ++ MI ++ [58]) ++ (S ++ F) := by rw [h10]; simp
  have e : scan T 6 itsDT ([] : List Nat).length = _ := scan_g h1 y.d y.n y.k (nod_c dec_45)
  rw [scan_l h2, scan_g h3 mo.d mo.n mo.k (nod_c dec_45), scan_l h4, scan_g h5 dd.d dd.n dd.k (nod_c hsd), scan_s h6 hs, scan_g h7 hh.d hh.n hh.k (nod_c dec_58), scan_l h8, scan_g h9 mi.d mi.n mi.k (nod_c dec_58), scan_l h10, scan_g h11 s.d s.n s.k f.nod] at e
  have z : (0 : Nat) = ([] : List Nat).length := rfl
  rw [show scan T 6 itsDT 0 = scan T 6 itsDT ([] : List Nat).length from rfl, e]
  have x1 := ext_mid h1
  have x3 := ext_mid h3
  have x5 := ext_mid h5
  have x7 := ext_mid h7
  have x9 := ext_mid h9
  have x11 := ext_mid h11
  rcases f with ⟨rfl, rfl⟩ | ⟨rfl, fd⟩
  · have h12 : T.toList = ([] ++ Y ++ [45] ++ MO ++ [45] ++ DD ++ [sp] ++ H ++ [58] ++ MI ++ [58] ++ S) := by rw [h11]; simp
    rw [show scan T 6 [] _ = scanT T 6 _ from rfl, scan_e h12]
    refine ⟨_, rfl, ?_⟩
    show [slc ⟨T⟩ (some _), slc ⟨T⟩ (some _), slc ⟨T⟩ (some _), slc ⟨T⟩ (some _), slc ⟨T⟩ (some _), slc ⟨T⟩ (some _), slc ⟨T⟩ none] = _
    simp only [slc, x1, x3, x5, x7, x9, x11, lastD]
  · have h12 : T.toList = ([] ++ Y ++ [45] ++ MO ++ [45] ++ DD ++ [sp] ++ H ++ [58] ++ MI ++ [58] ++ S) ++ 46 :: FD := by rw [h11]; simp
    have h13 : T.toList = ([] ++ Y ++ [45] ++ MO ++ [45] ++ DD ++ [sp] ++ H ++ [58] ++ MI ++ [58] ++ S ++ [46]) ++ (FD ++ []) := by rw [h12]; simp
    have x13 := ext_mid h13
    rw [show scan T 6 [] _ = scanT T 6 _ from rfl, scan_f h12 fd.d fd.n fd.k]
    refine ⟨_, rfl, ?_⟩
    show [slc ⟨T⟩ (some _), slc ⟨T⟩ (some _), slc ⟨T⟩ (some _), slc ⟨T⟩ (some _), slc ⟨T⟩ (some _), slc ⟨T⟩ (some _), slc ⟨T⟩ (some _)] = _
    have hl : lastD FD = .str ⟨FD.toArray⟩ := by
      cases FD with
      | nil => have := fd.n; simp at this
      | cons c r => rfl
    rw [hl]
    simp only [slc, x1, x3, x5, x7, x9, x11, x13]
end
end Mine
end

section
open PySem PySem.W PySem.Calls PyProof.Rows
set_option Elab.async false
set_option linter.unusedVariables false
set_option linter.unusedSimpArgs false
set_option maxRecDepth 100000
namespace Mine
open NumText (AllDigits digitsVal)
section
variable {T : Array Nat}
theorem CK_scan {A H MI S F FD : List Nat} {g k gt : Nat} (h : T.toList = A ++ (H ++ 58 :: (MI ++ 58 :: (S ++ F)))) (hh : Ds H k) (mi : Ds MI 2) (s : Ds S 2) (f : FrOk F FD) :
    ∃ a b c d e q, scan T gt [.grp g k, .lit 58, .grp (g + 1) 2, .lit 58, .grp (g + 2) 2] A.length = some ((g, a, b) :: (g + 1, c, d) :: (g + 2, e, q) :: (match FD with | [] => [] | _ => [(gt, q + 1, T.size)])) ∧
      (⟨T.extract a b⟩ : PySem.Str) = ⟨H.toArray⟩ ∧ (⟨T.extract c d⟩ : PySem.Str) = ⟨MI.toArray⟩ ∧ (⟨T.extract e q⟩ : PySem.Str) = ⟨S.toArray⟩ ∧ (FD ≠ [] → (⟨T.extract (q + 1) T.size⟩ : PySem.Str) = ⟨FD.toArray⟩) := by
  have h8 : T.toList = (A ++ H) ++ 58 :: (MI ++ 58 :: (S ++ F)) := by rw [h]; simp
  have h9 : T.toList = (A ++ H ++ [58]) ++ (MI ++ 58 :: (S ++ F)) := by rw [h8]; simp
  have h10 : T.toList = (A ++ H ++ [58] ++ MI) ++ 58 :: (S ++ F) := by rw [h9]; simp
  have h11 : T.toList = (A ++ H ++ [58] ++ MI ++ [58]) ++ (S ++ F) := by rw [h10]; simp
  have x7 := ext_mid h
  have x9 := ext_mid h9
  have x11 := ext_mid h11
  refine ⟨A.length, (A ++ H).length, (A ++ H ++ [58]).length, (A ++ H ++ [58] ++ MI).length, (A ++ H ++ [58] ++ MI ++ [58]).length, (A ++ H ++ [58] ++ MI ++ [58] ++ S).length, ?_, x7, x9, x11, ?_⟩
  · rw [scan_g h hh.d hh.n hh.k (nod_c dec_58), scan_l h8, scan_g h9 mi.d mi.n mi.k (nod_c dec_58), scan_l h10, scan_g h11 s.d s.n s.k f.nod]
    rcases f with ⟨rfl, rfl⟩ | ⟨rfl, fd⟩
    · have h12 : T.toList = (A ++ H ++ [58] ++ MI ++ [58] ++ S) := by rw [h11]; simp
      rw [show scan T gt [] _ = scanT T gt _ from rfl, scan_e h12]
      rfl
    · have h12 : T.toList = (A ++ H ++ [58] ++ MI ++ [58] ++ S) ++ 46 :: FD := by rw [h11]; simp
      have hz := size_at (A := A ++ H ++ [58] ++ MI ++ [58] ++ S ++ [46] ++ FD) (T := T) (by rw [h12]; simp)
      rw [show scan T gt [] _ = scanT T gt _ from rfl, scan_f h12 fd.d fd.n fd.k]
      rw [hz]
      have hl : (A ++ H ++ [58] ++ MI ++ [58] ++ S ++ [46]).length = (A ++ H ++ [58] ++ MI ++ [58] ++ S).length + 1 := by rw [List.length_append]; rfl
      rw [hl]
      cases FD with
      | nil => have := fd.n; simp at this
      | cons c r => rfl
  · intro hne
    rcases f with ⟨rfl, rfl⟩ | ⟨rfl, fd⟩
    · exact absurd rfl hne
    · have h12 : T.toList = (A ++ H ++ [58] ++ MI ++ [58] ++ S) ++ 46 :: FD := by rw [h11]; simp
      have h13 : T.toList = (A ++ H ++ [58] ++ MI ++ [58] ++ S ++ [46]) ++ (FD ++ []) := by rw [h12]; simp
      have hz := size_at (A := A ++ H ++ [58] ++ MI ++ [58] ++ S ++ [46] ++ FD) (T := T) (by rw [h12]; simp)
      have hl : (A ++ H ++ [58] ++ MI ++ [58] ++ S ++ [46]).length = (A ++ H ++ [58] ++ MI ++ [58] ++ S).length + 1 := by rw [List.length_append]; rfl
      have x13 := ext_mid h13
      rw [hl, hz] at x13
      exact x13
theorem TM_scan {H MI S F FD : List Nat} (h : T.toList = H ++ 58 :: (MI ++ 58 :: (S ++ F))) (hh : Ds H 2) (mi : Ds MI 2) (s : Ds S 2) (f : FrOk F FD) :
    ∃ l, (scan T 3 itsTM 0).map (spOf 4) = some l ∧ l.map (slc ⟨T⟩) = [.str ⟨H.toArray⟩, .str ⟨MI.toArray⟩, .str ⟨S.toArray⟩, lastD FD] := by
  obtain ⟨a, b, c, d, e, q, h1, h2, h3, h4, h5⟩ := CK_scan (A := []) (g := 0) (gt := 3) h hh mi s f
  rw [show scan T 3 itsTM 0 = scan T 3 [.grp 0 2, .lit 58, .grp (0 + 1) 2, .lit 58, .grp (0 + 2) 2] ([] : List Nat).length from rfl, h1]
  refine ⟨_, rfl, ?_⟩
  cases FD with
  | nil =>
    show [slc ⟨T⟩ (some _), slc ⟨T⟩ (some _), slc ⟨T⟩ (some _), slc ⟨T⟩ none] = _
    simp only [slc, h2, h3, h4, lastD]
  | cons x r =>
    show [slc ⟨T⟩ (some _), slc ⟨T⟩ (some _), slc ⟨T⟩ (some _), slc ⟨T⟩ (some _)] = _
    simp only [slc, h2, h3, h4, h5 (List.cons_ne_nil _ _), lastD]
def sgD (ng : Bool) : D := if ng then .str (PySem.Str.ofString "-") else .none
def sgL (ng : Bool) : List Nat := if ng then [45] else []
theorem TD_scan {H MI S F FD : List Nat} {ng : Bool} (h : T.toList = sgL ng ++ (H ++ 58 :: (MI ++ 58 :: (S ++ F)))) (hh : Ds H 3) (mi : Ds MI 2) (s : Ds S 2) (f : FrOk F FD) :
    ∃ l, (scanS T 45 4 itsTD 0).map (spOf 5) = some l ∧ l.map (slc ⟨T⟩) = [sgD ng, .str ⟨H.toArray⟩, .str ⟨MI.toArray⟩, .str ⟨S.toArray⟩, lastD FD] := by
  obtain ⟨a, b, c, d, e, q, h1, h2, h3, h4, h5⟩ := CK_scan (A := sgL ng) (g := 1) (gt := 4) h hh mi s f
  cases ng with
  | false =>
    have e1 : scanS T 45 4 itsTD 0 = scan T 4 [.grp 1 3, .lit 58, .grp (1 + 1) 2, .lit 58, .grp (1 + 2) 2] (sgL false).length := by
      unfold scanS
      rw [if_neg]; rfl
      rintro ⟨_, q⟩
      cases H with
      | nil => have := hh.n; simp at this
      | cons x r =>
        obtain ⟨_, q2⟩ := getD_at (T := T) (A := []) (c := x) (C := r ++ 58 :: (MI ++ 58 :: (S ++ F))) h
        rw [show T.getD 0 0 = x from q2] at q
        have := hh.d.head
        omega
    rw [e1, h1]
    refine ⟨_, rfl, ?_⟩
    cases FD with
    | nil =>
      show [slc ⟨T⟩ none, slc ⟨T⟩ (some _), slc ⟨T⟩ (some _), slc ⟨T⟩ (some _), slc ⟨T⟩ none] = _
      simp only [slc, h2, h3, h4, lastD, sgD]
      rfl
    | cons x r =>
      show [slc ⟨T⟩ none, slc ⟨T⟩ (some _), slc ⟨T⟩ (some _), slc ⟨T⟩ (some _), slc ⟨T⟩ (some _)] = _
      simp only [slc, h2, h3, h4, h5 (List.cons_ne_nil _ _), lastD, sgD]
      rfl
  | true =>
    obtain ⟨q1, q2⟩ := getD_at (T := T) (A := []) (c := 45) (C := H ++ 58 :: (MI ++ 58 :: (S ++ F))) h
    have e1 : scanS T 45 4 itsTD 0 = (scan T 4 [.grp 1 3, .lit 58, .grp (1 + 1) 2, .lit 58, .grp (1 + 2) 2] (sgL true).length).map ((0, 0, 1) :: ·) := by
      unfold scanS
      rw [if_pos ⟨q1, q2⟩]; rfl
    have x0 : (⟨T.extract 0 1⟩ : PySem.Str) = PySem.Str.ofString "-" := by
      have := ext_mid (T := T) (A := []) (B := [45]) (C := H ++ 58 :: (MI ++ 58 :: (S ++ F))) h
      exact this.trans (str_of (by decide))
    rw [e1, h1]
    refine ⟨_, rfl, ?_⟩
    cases FD with
    | nil =>
      show [slc ⟨T⟩ (some _), slc ⟨T⟩ (some _), slc ⟨T⟩ (some _), slc ⟨T⟩ (some _), slc ⟨T⟩ none] = _
      simp only [slc, x0, h2, h3, h4, lastD, sgD]
      rfl
    | cons x r =>
      show [slc ⟨T⟩ (some _), slc ⟨T⟩ (some _), slc ⟨T⟩ (some _), slc ⟨T⟩ (some _), slc ⟨T⟩ (some _)] = _
      simp only [slc, x0, h2, h3, h4, h5 (List.cons_ne_nil _ _), lastD, sgD]
      rfl
theorem CK_7 {A H MI S FD : List Nat} {g k gt : Nat} (h : T.toList = A ++ (H ++ 58 :: (MI ++ 58 :: (S ++ 46 :: FD)))) (hh : Ds H k) (mi : Ds MI 2) (s : Ds S 2) (fd : AllDigits FD) (f7 : 6 < FD.length) :
    scan T gt [.grp g k, .lit 58, .grp (g + 1) 2, .lit 58, .grp (g + 2) 2] A.length = none := by
  have h8 : T.toList = (A ++ H) ++ 58 :: (MI ++ 58 :: (S ++ 46 :: FD)) := by rw [h]; simp
  have h9 : T.toList = (A ++ H ++ [58]) ++ (MI ++ 58 :: (S ++ 46 :: FD)) := by rw [h8]; simp
  have h10 : T.toList = (A ++ H ++ [58] ++ MI) ++ 58 :: (S ++ 46 :: FD) := by rw [h9]; simp
  have h11 : T.toList = (A ++ H ++ [58] ++ MI ++ [58]) ++ (S ++ 46 :: FD) := by rw [h10]; simp
  have h12 : T.toList = (A ++ H ++ [58] ++ MI ++ [58] ++ S) ++ 46 :: FD := by rw [h11]; simp
  rw [scan_g h hh.d hh.n hh.k (nod_c dec_58), scan_l h8, scan_g h9 mi.d mi.n mi.k (nod_c dec_58), scan_l h10, scan_g h11 s.d s.n s.k (nod_c dec46)]
  rw [show scan T gt [] _ = scanT T gt _ from rfl, scan_f7 h12 fd f7]
  rfl
end
end Mine
end

section
open PySem PySem.W PySem.Calls PyProof.Rows
set_option Elab.async false
set_option linter.unusedVariables false
set_option linter.unusedSimpArgs false
set_option maxRecDepth 100000
namespace Mine
open NumText (AllDigits digitsVal)
section
variable {T : Array Nat}
theorem DT_y5 {Y C : List Nat} (h : T.toList = Y ++ C) (y : AllDigits Y) (y5 : 4 < Y.length) : scan T 6 itsDT 0 = none :=
  scan_gl (A := []) (B := Y) (C := C) h y y5 (by decide) (by decide)
theorem DT_days {Y MO DD : List Nat} (h : T.toList = Y ++ 45 :: (MO ++ 45 :: DD)) (y : Ds Y 5) (mo : Ds MO 2) (dd : Ds DD 2) : scan T 6 itsDT 0 = none := by
  by_cases y5 : 4 < Y.length
  · exact DT_y5 h y.d y5
  have h1 : T.toList = [] ++ (Y ++ 45 :: (MO ++ 45 :: DD)) := h
  have h2 : T.toList = ([] ++ Y) ++ 45 :: (MO ++ 45 :: DD) := h
  have h3 : T.toList = ([] ++ Y ++ [45]) ++ (MO ++ 45 :: DD) := by rw [h2]; simp
  have h4 : T.toList = ([] ++ Y ++ [45] ++ MO) ++ 45 :: DD := by rw [h3]; simp
  have h5 : T.toList = ([] ++ Y ++ [45] ++ MO ++ [45]) ++ (DD ++ []) := by rw [h4]; simp
  have h6 : T.toList = ([] ++ Y ++ [45] ++ MO ++ [45] ++ DD) := by rw [h5]; simp
  have e : scan T 6 itsDT ([] : List Nat).length = _ := scan_g h1 y.d y.n (by omega) (nod_c dec_45)
  rw [scan_l h2, scan_g h3 mo.d mo.n mo.k (nod_c dec_45), scan_l h4, scan_g h5 dd.d dd.n dd.k nod_nil] at e
  have hz := size_at h6
  rw [show scan T 6 itsDT 0 = scan T 6 itsDT ([] : List Nat).length from rfl, e, scan, if_neg (by rintro ⟨q, _⟩; omega)]
  rfl
theorem DT_7 {Y MO DD H MI S FD : List Nat} {sp : Nat} (h : T.toList = Y ++ 45 :: (MO ++ 45 :: (DD ++ sp :: (H ++ 58 :: (MI ++ 58 :: (S ++ 46 :: FD)))))) (hs : sp = 84 ∨ sp = 32) (y : Ds Y 5) (mo : Ds MO 2) (dd : Ds DD 2) (hh : Ds H 2) (mi : Ds MI 2) (s : Ds S 2) (fd : AllDigits FD) (f7 : 6 < FD.length) :
    scan T 6 itsDT 0 = none := by
  by_cases y5 : 4 < Y.length
  · exact DT_y5 h y.d y5
  have hsd : dec sp = false := by rcases hs with rfl | rfl; exact dec_84; exact dec_32
  have h1 : T.toList = [] ++ (Y ++ 45 :: (MO ++ 45 :: (DD ++ sp :: (H ++ 58 :: (MI ++ 58 :: (S ++ 46 :: FD)))))) := h
  have h2 : T.toList = ([] ++ Y) ++ 45 :: (MO ++ 45 :: (DD ++ sp :: (H ++ 58 :: (MI ++ 58 :: (S ++ 46 :: FD))))) := h
  have h3 : T.toList = ([] ++ Y ++ [45]) ++ (MO ++ 45 :: (DD ++ sp :: (H ++ 58 :: (MI ++ 58 :: (S ++ 46 :: FD))))) := by rw [h2]; simp
  have h4 : T.toList = ([] ++ Y ++ [45] ++ MO) ++ 45 :: (DD ++ sp :: (H ++ 58 :: (MI ++ 58 :: (S ++ 46 :: FD)))) := by rw [h3]; simp
  have h5 : T.toList = ([] ++ Y ++ [45] ++ MO ++ [45]) ++ (DD ++ sp :: (H ++ 58 :: (MI ++ 58 :: (S ++ 46 :: FD)))) := by rw [h4]; simp
  have h6 : T.toList = ([] ++ Y ++ [45] ++ MO ++ [45] ++ DD) ++ sp :: (H ++ 58 :: (MI ++ 58 :: (S ++ 46 :: FD))) := by rw [h5]; simp
  have h7 : T.toList = ([] ++ Y ++ [45] ++ MO ++ [45] ++ DD ++ [sp]) ++ (H ++ 58 :: (MI ++ 58 :: (S ++ 46 :: FD))) := by rw [h6]; simp
  have e : scan T 6 itsDT ([] : List Nat).length = _ := scan_g h1 y.d y.n (by omega) (nod_c dec_45)
  rw [scan_l h2, scan_g h3 mo.d mo.n mo.k (nod_c dec_45), scan_l h4, scan_g h5 dd.d dd.n dd.k (nod_c hsd), scan_s h6 hs, CK_7 (g := 3) h7 hh mi s fd f7] at e
  rw [show scan T 6 itsDT 0 = scan T 6 itsDT ([] : List Nat).length from rfl, e]
  rfl
theorem TM_7 {H MI S FD : List Nat} (h : T.toList = H ++ 58 :: (MI ++ 58 :: (S ++ 46 :: FD))) (hh : Ds H 2) (mi : Ds MI 2) (s : Ds S 2) (fd : AllDigits FD) (f7 : 6 < FD.length) : scan T 3 itsTM 0 = none :=
  CK_7 (A := []) (g := 0) h hh mi s fd f7
theorem TM_neg {C : List Nat} (h : T.toList = 45 :: C) : scan T 3 itsTM 0 = none := by
  obtain ⟨q1, q2⟩ := getD_at (T := T) (A := []) (c := 45) (C := C) h
  have e : digN T 2 0 = 0 := by
    unfold digN
    rw [if_neg]
    rintro ⟨_, q⟩
    rw [show T.getD 0 0 = 45 from q2] at q
    have z : dec 45 = true := q
    rw [dec_45] at z
    cases z
  show scan T 3 (.grp 0 2 :: _) 0 = none
  rw [scan, e, if_pos rfl]
theorem TD_sign {H C : List Nat} {ng : Bool} (h : T.toList = sgL ng ++ (H ++ C)) (hH : AllDigits H) (h1 : 1 ≤ H.length) (hn : scan T 4 itsTD (sgL ng).length = none) : scanS T 45 4 itsTD 0 = none := by
  cases ng with
  | false =>
    unfold scanS
    rw [if_neg]; exact hn
    rintro ⟨_, q⟩
    cases H with
    | nil => simp at h1
    | cons x r =>
      obtain ⟨_, q2⟩ := getD_at (T := T) (A := []) (c := x) (C := r ++ C) h
      rw [show T.getD 0 0 = x from q2] at q
      have := hH.head
      omega
  | true =>
    obtain ⟨q1, q2⟩ := getD_at (T := T) (A := []) (c := 45) (C := H ++ C) h
    unfold scanS
    rw [if_pos ⟨q1, q2⟩, show scan T 4 itsTD (0 + 1) = none from hn]
    rfl
theorem TD_7 {H MI S FD : List Nat} {ng : Bool} (h : T.toList = sgL ng ++ (H ++ 58 :: (MI ++ 58 :: (S ++ 46 :: FD)))) (hd : AllDigits H) (h1 : 1 ≤ H.length) (mi : Ds MI 2) (s : Ds S 2) (fd : AllDigits FD) (f7 : 6 < FD.length) : scanS T 45 4 itsTD 0 = none := by
  refine TD_sign h hd h1 ?_
  by_cases h4 : 3 < H.length
  · exact scan_gl h hd h4 (by decide) (by decide)
  · exact CK_7 (g := 1) h ⟨hd, h1, by omega⟩ mi s fd f7
theorem TD_4 {H C : List Nat} {ng : Bool} (h : T.toList = sgL ng ++ (H ++ C)) (hd : AllDigits H) (h4 : 3 < H.length) : scanS T 45 4 itsTD 0 = none :=
  TD_sign h hd (by omega) (scan_gl h hd h4 (by decide) (by decide))
end
end Mine
end

section
open PySem PySem.W PySem.Calls PyProof.Rows
set_option Elab.async false
set_option linter.unusedVariables false
set_option linter.unusedSimpArgs false
set_option maxRecDepth 100000
namespace Mine
open NumText Builtin.Str
theorem mem_dropWhile {l : List Nat} {p : Nat → Bool} {c : Nat} (h : c ∈ l) (hp : p c = false) : c ∈ l.dropWhile p := by
  induction l with
  | nil => cases h
  | cons a r ih =>
    rw [List.dropWhile_cons]
    split
    · rename_i q
      rcases List.mem_cons.mp h with e | e
      · rw [e, q] at hp; cases hp
      · exact ih e
    · exact h
theorem mem_sign {l : List Nat} (h : 58 ∈ l) : 58 ∈ (sign l).2 := by
  unfold sign
  split
  · simpa using h
  · simpa using h
  · exact h
theorem fold_bad : ∀ (cs : List Nat) (p : Array Nat × Bool), 58 ∈ cs → cs.foldlM (step 10) p = none
  | [], _, h => by cases h
  | c :: cs, p, h => by
    rw [List.foldlM_cons]
    by_cases e : c = 58
    · subst e; rfl
    · have hm : 58 ∈ cs := by simpa [Ne.symm e] using h
      cases hs : step 10 p c with
      | none => rfl
      | some q => exact fold_bad cs q hm
theorem int_colon {x : PySem.Str} (ha : ∀ c ∈ cl x, 1 ≤ c ∧ c < 127) (h : 58 ∈ cl x) : PySem.intText? x = none := by
  have e1 : numTextOf x = x.cps.toList := by
    refine if_pos ?_
    rw [← Array.all_toList, List.all_eq_true]
    intro c hc
    have := ha c hc
    exact decide_eq_true (by omega)
  have e2 : numSeenOf x = x.cps.toList := by
    show (numTextOf x).takeWhile _ = _
    rw [e1]
    refine takeWhile_all fun c hc => ?_
    have := ha c hc
    exact bne_iff_ne.mpr (by omega)
  have hb : blank 58 = false := by decide
  have hc : digits? 10 (core x.cps.toList) = none := by
    have hm : 58 ∈ core x.cps.toList := by
      unfold core
      rw [List.mem_reverse]
      refine mem_dropWhile ?_ hb
      rw [List.mem_reverse]
      exact mem_sign (mem_dropWhile h hb)
    unfold digits?
    rw [fold_bad _ _ hm]
    rfl
  unfold PySem.intText?
  rw [e1, e2, hc, if_pos (by simp)]
def pl : List Nat → Nat → Nat → List Nat
  | [], _, _ => []
  | _ :: _, _, 0 => []
  | c :: s, i, n + 1 => if c = 45 then i :: pl s (i + 1) n else pl s (i + 1) (n + 1)
theorem pl_zero (s : List Nat) (i : Nat) : pl s i 0 = [] := by cases s <;> rfl
theorem occ_pl {x : PySem.Str} : ∀ (s P : List Nat) (found : Array Nat) (free : Nat), cl x = P ++ s → free ≤ P.length → found.size ≤ 2 →
    (forIn (List.range' P.length (s.length + 1)) (found, free) (StrLaws.occBody x ⟨#[45]⟩ x.length 2)).run.fst.toList = found.toList ++ pl s P.length (2 - found.size)
  | [], P, found, free, h, hf, hs => by
    have hl : P.length = x.length := by rw [← len_cl, h]; simp
    rw [show List.range' P.length (([] : List Nat).length + 1) = [P.length] from rfl, List.forIn_cons]
    unfold StrLaws.occBody
    rw [if_neg]
    · simp [pl]
    · rintro ⟨⟨_, q⟩, _⟩
      simp [PySem.Str.length] at q hl
      omega
  | c :: s, P, found, free, h, hf, hs => by
    have hc : (cl x)[P.length]? = some c := by rw [h, List.getElem?_append_right (Nat.le_refl _), Nat.sub_self]; rfl
    have key := StrLaws.subAt_one x 45 P.length
    have h' : cl x = (P ++ [c]) ++ s := by rw [h]; simp
    rw [show List.range' P.length ((c :: s).length + 1) = P.length :: List.range' (P.length + 1) (s.length + 1) from rfl, List.forIn_cons]
    conv => lhs; unfold StrLaws.occBody
    by_cases h45 : c = 45
    · subst h45
      have hk := key.mpr hc
      by_cases h2 : found.size < 2
      · rw [if_pos ⟨⟨⟨h2, hf⟩, hk.1⟩, hk.2⟩]
        have ih := occ_pl s (P ++ [45]) (found.push P.length) (P.length + (⟨#[45]⟩ : PySem.Str).length) h' (by simp [PySem.Str.length]) (by simp; omega)
        rw [List.length_append] at ih
        have e : 2 - found.size = (2 - (found.push P.length).size) + 1 := by rw [Array.size_push]; omega
        rw [e]
        simp only [pl, if_true]
        refine Eq.trans ih ?_
        simp
      · rw [if_neg (fun q => h2 q.1.1.1)]
        have ih := occ_pl s (P ++ [45]) found free h' (by simp; omega) hs
        rw [List.length_append] at ih
        refine Eq.trans ih ?_
        rw [show 2 - found.size = 0 from by omega, pl_zero, pl_zero]
    · have hk : ¬ (P.length + (⟨#[45]⟩ : PySem.Str).length ≤ x.length ∧ subAt x ⟨#[45]⟩ P.length = true) := fun q => by
        have := key.mp q
        rw [show x.cps.toList = cl x from rfl, hc] at this
        exact h45 (by simpa using this)
      rw [if_neg (fun q => hk ⟨q.1.2, q.2⟩)]
      have ih := occ_pl s (P ++ [c]) found free h' (by simp; omega) hs
      rw [List.length_append] at ih
      refine Eq.trans ih ?_
      cases hn : 2 - found.size with
      | zero => rw [pl_zero, pl_zero]
      | succ n => simp [pl, h45]
theorem pl_skip {A : List Nat} (hA : 45 ∉ A) : ∀ (s : List Nat) (i n : Nat), pl (A ++ s) i (n + 1) = pl s (i + A.length) (n + 1) := by
  induction A with
  | nil => intro s i n; rfl
  | cons a A ih =>
    intro s i n
    have h1 : a ≠ 45 := fun e => hA (by simp [e])
    have h2 : 45 ∉ A := fun e => hA (by simp [e])
    show (if a = 45 then _ else _) = _
    rw [if_neg h1]
    refine (ih h2 s (i + 1) n).trans ?_
    rw [List.length_cons]
    congr 1
    omega
theorem split3 {x : PySem.Str} {A B C : List Nat} (h : cl x = A ++ 45 :: (B ++ 45 :: C)) (hA : 45 ∉ A) (hB : 45 ∉ B) : Txt.splitMax x (PySem.Str.ofString "-") 2 = [⟨A.toArray⟩, ⟨B.toArray⟩, ⟨C.toArray⟩] := by
  have hy : PySem.Str.ofString "-" = ⟨#[45]⟩ := str_of (by decide)
  have hlen : x.length = A.length + (B.length + (C.length + 1) + 1) := by rw [← len_cl, h]; simp
  have ho : occurrences x ⟨#[45]⟩ 0 x.length 2 = [A.length, A.length + 1 + B.length] := by
    rw [StrLaws.occ_eq]
    have := occ_pl (x := x) (cl x) [] #[] 0 rfl (Nat.le_refl _) (by simp)
    rw [len_cl] at this
    refine Eq.trans this ?_
    rw [h, show 2 - (#[] : Array Nat).size = 1 + 1 from rfl, pl_skip hA]
    simp only [pl, if_true, List.nil_append, List.length_nil, Nat.zero_add]
    rw [pl_skip hB (n := 0)]
    simp only [pl, if_true, pl_zero]
  unfold Txt.splitMax
  rw [hy]
  have hk : (decide (x.length < (⟨#[45]⟩ : PySem.Str).length) || decide (Builtin.Str.strKind x < Builtin.Str.strKind ⟨#[45]⟩)) = false := by
    have k1 : Builtin.Str.strKind ⟨#[45]⟩ = 1 := by decide +kernel
    have k2 : 1 ≤ Builtin.Str.strKind x := by unfold Builtin.Str.strKind; split; exact Nat.le_refl _; split <;> decide
    rw [k1, decide_eq_false (by show ¬ x.length < 1; omega), decide_eq_false (by omega)]
    rfl
  rw [if_neg (by rw [hk]; exact Bool.false_ne_true), show limitOf x 2 = 2 from rfl, ho, if_neg (by simp)]
  have e1 : x.cps.toList = [] ++ (A ++ 45 :: (B ++ 45 :: C)) := h
  have e2 : x.cps.toList = (A ++ [45]) ++ (B ++ 45 :: C) := by rw [show x.cps.toList = cl x from rfl, h]; simp
  have e3 : x.cps.toList = (A ++ [45] ++ B ++ [45]) ++ (C ++ []) := by rw [show x.cps.toList = cl x from rfl, h]; simp
  have x1 := ext_mid e1
  have x2 := ext_mid e2
  have x3 := ext_mid e3
  show [strSub x 0 A.length, strSub x (A.length + 1) (A.length + 1 + B.length), strSub x (A.length + 1 + B.length + 1) x.length] = _
  unfold strSub
  have l1 : A.length = (([] : List Nat) ++ A).length := rfl
  have l2 : A.length + 1 = (A ++ [45]).length := by simp
  have l3 : A.length + 1 + B.length = (A ++ [45] ++ B).length := by simp <;> omega
  have l4 : A.length + 1 + B.length + 1 = (A ++ [45] ++ B ++ [45]).length := by simp <;> omega
  have l5 : x.length = (A ++ [45] ++ B ++ [45] ++ C).length := by rw [hlen]; simp <;> omega
  rw [l4, l3, l2, l5, x2, x3]
  exact congrArg (fun z => z :: _) x1
end Mine
end

section
open PySem PySem.W PySem.Calls PyProof.Rows
set_option Elab.async false
set_option linter.unusedVariables false
set_option linter.unusedSimpArgs false
set_option maxRecDepth 100000
namespace Mine
open NumText
def dg (m : Nat) : List Nat := (Nat.toDigits 10 m).map Char.toNat
theorem dg_all (m : Nat) : AllDigits (dg m) := by
  intro c hc
  obtain ⟨ch, hch, e⟩ := List.mem_map.mp hc
  have r := PyProof.Rows.digit_range (Nat.isDigit_of_mem_toDigits (by decide) (by decide) hch)
  rw [← e]
  exact r
theorem dg_val (m : Nat) : digitsVal (dg m) = m := KIN.val_back m
theorem dg_pos (m : Nat) : 1 ≤ (dg m).length := by unfold dg; rw [List.length_map]; exact tDigits_len_ge 10 m
theorem dg_le {k m : Nat} (hk : 1 ≤ k) (h : m < 10 ^ k) : (dg m).length ≤ k := by unfold dg; rw [List.length_map]; exact digits10_le hk h
theorem dg_ge {k m : Nat} (h : 10 ^ k ≤ m) : k + 1 ≤ (dg m).length := by unfold dg; rw [List.length_map]; exact digits10_ge h
theorem cl_strI {i : Int} (h : 0 ≤ i) : cl (strI i) = dg i.toNat := strI_nat h
theorem val_app : ∀ (b a : List Nat) (s : Nat), b.foldl (fun acc c => acc * 10 + (c - 48)) (s) = s * 10 ^ b.length + digitsVal b
  | [], _, s => by simp [digitsVal]
  | c :: b, a, s => by
    unfold digitsVal
    rw [List.foldl_cons, List.foldl_cons, val_app b a, val_app b a (0 * 10 + (c - 48)), List.length_cons, Nat.pow_succ]
    simp only [Nat.zero_mul, Nat.zero_add]
    have : (s * 10 + (c - 48)) * 10 ^ b.length = s * (10 ^ b.length * 10) + (c - 48) * 10 ^ b.length := by rw [Nat.add_mul, Nat.mul_assoc, Nat.mul_comm 10]
    omega
theorem val_append (a b : List Nat) : digitsVal (a ++ b) = digitsVal a * 10 ^ b.length + digitsVal b := by
  show (a ++ b).foldl _ 0 = _
  rw [List.foldl_append, val_app b a]
  rfl
theorem val_rep (k : Nat) : digitsVal (List.replicate k 48) = 0 := by
  induction k with
  | zero => rfl
  | succ k ih => exact ih
theorem all_rep (k : Nat) : AllDigits (List.replicate k 48) := fun c hc => by rw [(List.mem_replicate.mp hc).2]; decide
theorem all_app {a b : List Nat} (ha : AllDigits a) (hb : AllDigits b) : AllDigits (a ++ b) := fun c hc => (List.mem_append.mp hc).elim (ha c) (hb c)
theorem val_lt : ∀ (l : List Nat), AllDigits l → digitsVal l < 10 ^ l.length
  | [], _ => by decide
  | c :: l, h => by
    have ih := val_lt l h.tail
    have hc := h.head
    have := val_append [c] l
    rw [show [c] ++ l = c :: l from rfl] at this
    rw [this, List.length_cons, Nat.pow_succ]
    have e : digitsVal [c] = c - 48 := by show 0 * 10 + (c - 48) = c - 48; omega
    rw [e]
    have : (c - 48) * 10 ^ l.length ≤ 9 * 10 ^ l.length := Nat.mul_le_mul_right _ (by omega)
    omega
def padL (k m : Nat) : List Nat := List.replicate (k - (dg m).length) 48 ++ dg m
theorem padL_all (k m : Nat) : AllDigits (padL k m) := all_app (all_rep _) (dg_all m)
theorem padL_val (k m : Nat) : digitsVal (padL k m) = m := by unfold padL; rw [val_append, val_rep, dg_val]; omega
theorem padL_len {k m : Nat} (hk : 1 ≤ k) (h : m < 10 ^ k) : (padL k m).length = k := by
  unfold padL
  have := dg_le hk h
  rw [List.length_append, List.length_replicate]
  omega
theorem back_all : ∀ {l : List Nat}, AllDigits l → (l.map Char.ofNat).map Char.toNat = l
  | [], _ => rfl
  | c :: l, h => by
    have hc := h.head
    have k : ∀ d : Fin 10, (Char.ofNat (48 + d.val)).toNat = 48 + d.val := by decide
    have e := k ⟨c - 48, by omega⟩
    rw [show 48 + (c - 48) = c from by omega] at e
    show (Char.ofNat c).toNat :: _ = _
    rw [e]
    exact congrArg _ (back_all h.tail)
theorem dg_lead {k m : Nat} (hk : 1 ≤ k) (h : m < 10 ^ k) : dg (10 ^ k + m) = 49 :: padL k m := by
  have ha : AllDigits (49 :: padL k m) := fun c hc => (List.mem_cons.mp hc).elim (fun e => by rw [e]; decide) (padL_all k m c)
  have hv : digitsVal (49 :: padL k m) = 10 ^ k + m := by
    have := val_append [49] (padL k m)
    rw [show [49] ++ padL k m = 49 :: padL k m from rfl, padL_len hk h, padL_val] at this
    rw [this]
    show 1 * 10 ^ k + m = _
    omega
  have e := toDigits_digitsVal k (49 :: padL k m) (by rw [List.length_cons, padL_len hk h]) ha (.inr ⟨49, _, rfl, Nat.le_refl _⟩)
  unfold dg
  rw [← hv, e]
  exact back_all ha
theorem cl_sl (x : PySem.Str) (lo hi : Option Int) : cl (sl x lo hi) = cut (cl x) lo hi := rfl
theorem cut_last {l : List Nat} (h : 4 ≤ l.length) : cut l (some (-4)) none = l.drop (l.length - 4) := by
  unfold Mine.cut clp
  simp only [show ((-4 : Int) < 0) = True from by simp, if_true]
  have e : (max 0 (min (-4 + (l.length : Int)) (l.length : Int))).toNat = l.length - 4 := by omega
  rw [e, List.take_of_length_le (by rw [List.length_drop]; exact Nat.le_refl _)]
theorem cut_from1 (l : List Nat) (h : 1 ≤ l.length) : cut l (some 1) none = l.drop 1 := by
  unfold Mine.cut clp
  simp only [show ((1 : Int) < 0) = False from by simp, if_false]
  have e : (max 0 (min (1 : Int) (l.length : Int))).toNat = 1 := by omega
  rw [e, List.take_of_length_le (by rw [List.length_drop]; exact Nat.le_refl _)]
theorem cut_1s {l : List Nat} {s : Nat} (h : 1 + s ≤ l.length) : cut l (some 1) (some (1 + (s : Int))) = (l.drop 1).take s := by
  unfold Mine.cut clp
  have q : ¬ (1 + (s : Int) < 0) := by omega
  simp only [show ((1 : Int) < 0) = False from by simp, if_false, q]
  have e : (max 0 (min (1 : Int) (l.length : Int))).toNat = 1 := by omega
  have e2 : (max 0 (min (1 + (s : Int)) (l.length : Int))).toNat = 1 + s := by omega
  rw [e, e2, Nat.add_sub_cancel_left]
theorem cut_6 {l : List Nat} (h : 6 ≤ l.length) : cut l none (some 6) = l.take 6 := by
  unfold Mine.cut clp
  simp only [show ((6 : Int) < 0) = False from by simp, if_false]
  have e : (max 0 (min (6 : Int) (l.length : Int))).toNat = 6 := by omega
  rw [e]
  rfl
theorem cl0000 : cl (PySem.Str.ofString "0000") = List.replicate 4 48 := by decide
theorem cl000 : cl (PySem.Str.ofString "000") = List.replicate 3 48 := by decide
theorem cl6 : cl (PySem.Str.ofString "000000") = List.replicate 6 48 := by decide
theorem clz : cl (PySem.Str.ofString "0") = [48] := by decide
theorem cld : cl (PySem.Str.ofString "-") = [45] := by decide
theorem clc : cl (PySem.Str.ofString ":") = [58] := by decide
theorem clp' : cl (PySem.Str.ofString ".") = [46] := by decide
theorem cle : cl (PySem.Str.ofString "") = [] := by decide
theorem clT : cl (PySem.Str.ofString "T") = [84] := by decide
theorem cls : cl (PySem.Str.ofString " ") = [32] := by decide
theorem y4 {y : Int} (h0 : 0 ≤ y) (h1 : y < 10000) : cl (sl (PySem.Str.ofString "0000" ++ strI y) (some (-4)) none) = padL 4 y.toNat := by
  have k1 := dg_pos y.toNat
  have k2 := dg_le (k := 4) (m := y.toNat) (by decide) (by omega)
  rw [cl_sl, cl_app, cl0000, cl_strI h0, cut_last (by rw [List.length_append, List.length_replicate]; omega)]
  rw [List.length_append, List.length_replicate, List.drop_append_of_le_length (by rw [List.length_replicate]; omega), List.drop_replicate]
  unfold padL
  congr 2
  omega
theorem y3 {y : Int} (h0 : 0 ≤ y) (h1 : y < 10000) : cl (sl (PySem.Str.ofString "000" ++ strI y) (some (-4)) none) = padL 4 y.toNat := by
  have k1 := dg_pos y.toNat
  have k2 := dg_le (k := 4) (m := y.toNat) (by decide) (by omega)
  rw [cl_sl, cl_app, cl000, cl_strI h0, cut_last (by rw [List.length_append, List.length_replicate]; omega)]
  rw [List.length_append, List.length_replicate, List.drop_append_of_le_length (by rw [List.length_replicate]; omega), List.drop_replicate]
  unfold padL
  congr 2
  omega
theorem cl_zp {w : Nat} {n : Int} (h : 0 ≤ n) : cl (zp w n) = padL w n.toNat := by
  unfold zp
  rw [cl_app, cl_strI h]
  unfold padL
  congr 1
  show List.replicate _ _ = _
  congr 1
  unfold dg
  rw [List.length_map]
  congr 3
  omega
theorem cl_two {n : Int} (h : 0 ≤ n) (p : Bool) : cl (two n p) = if p && decide (n < 10) then 48 :: dg n.toNat else dg n.toNat := by
  unfold two
  split
  · rw [cl_app, clz, cl_strI h]; rfl
  · rw [cl_strI h]
theorem two_zp {n : Int} (h : 0 ≤ n) (h1 : n < 10000000000) : two n true = zp 2 n := by
  refine str_of ?_
  rw [cl_two h, cl_zp h]
  unfold padL
  have k1 := dg_pos n.toNat
  by_cases q : n < 10
  · have k2 := dg_le (k := 1) (m := n.toNat) (by decide) (by omega)
    rw [if_pos (by simp [q]), show 2 - (dg n.toNat).length = 1 from by omega]
    rfl
  · have k2 := dg_ge (k := 1) (m := n.toNat) (by omega)
    rw [if_neg (by simp [q]), show 2 - (dg n.toNat).length = 0 from by omega]
    rfl
theorem two_ds {n : Int} (h : 0 ≤ n) {k : Nat} (hk : 2 ≤ k) (h1 : n.toNat < 10 ^ k) (p : Bool) : Ds (cl (two n p)) k ∧ digitsVal (cl (two n p)) = n.toNat := by
  rw [cl_two h]
  have k1 := dg_pos n.toNat
  have k2 := dg_le (k := k) (m := n.toNat) (by omega) h1
  split
  · rename_i q
    have q' : n < 10 := by simp at q; exact q.2
    have k3 := dg_le (k := 1) (m := n.toNat) (by decide) (by omega)
    exact ⟨⟨fun c hc => (List.mem_cons.mp hc).elim (fun e => by rw [e]; decide) (dg_all _ c), by rw [List.length_cons]; omega, by rw [List.length_cons]; omega⟩, dg_val _⟩
  · exact ⟨⟨dg_all _, k1, k2⟩, dg_val _⟩
end Mine
end

section
open PySem PySem.W PySem.Calls PyProof.Rows
set_option Elab.async false
set_option linter.unusedVariables false
set_option linter.unusedSimpArgs false
set_option maxRecDepth 100000
namespace Mine
open NumText
def fdN (p : Int) : List Nat := (padL 7 (p / 8 % 10000000).toNat).take (p % 8).toNat
def mic6 (FD : List Nat) : Nat := digitsVal ((FD ++ List.replicate 6 48).take 6)
theorem fdN_all (p : Int) : AllDigits (fdN p) := fun c hc => padL_all _ _ c (List.mem_of_mem_take hc)
theorem fdN_len (p : Int) : (fdN p).length = (p % 8).toNat := by
  unfold fdN
  rw [List.length_take, padL_len (by decide) (by omega)]
  omega
theorem cl_fig (p : Int) : cl (figOf p) = fdN p := by
  unfold figOf
  have e : (10000000 + p / 8 % 10000000).toNat = 10 ^ 7 + (p / 8 % 10000000).toNat := by omega
  have hl := padL_len (k := 7) (m := (p / 8 % 10000000).toNat) (by decide) (by omega)
  rw [cl_sl, cl_strI (by omega), e, dg_lead (by decide) (by omega)]
  have e2 : (1 + p % 8 : Int) = 1 + (((p % 8).toNat : Nat) : Int) := by omega
  rw [e2, cut_1s (by rw [List.length_cons, hl]; omega)]
  rfl
theorem mic6_lt {FD : List Nat} (h : AllDigits FD) : mic6 FD < 1000000 := by
  have h1 : AllDigits ((FD ++ List.replicate 6 48).take 6) := fun c hc => all_app h (all_rep 6) c (List.mem_of_mem_take hc)
  have h2 := val_lt _ h1
  have h3 : ((FD ++ List.replicate 6 48).take 6).length = 6 := by rw [List.length_take, List.length_append, List.length_replicate]; omega
  rw [h3] at h2
  exact h2
theorem fig6_int (p : Int) : PySem.intText? (fig6 p) = some ((mic6 (fdN p) : Nat) : Int) := by
  have e : cl (fig6 p) = (fdN p ++ List.replicate 6 48).take 6 := by
    unfold fig6
    rw [cl_sl, cl_app, cl_fig, cl6, cut_6 (by rw [List.length_append, List.length_replicate]; omega)]
  have h1 : AllDigits (cl (fig6 p)) := by rw [e]; exact fun c hc => all_app (fdN_all p) (all_rep 6) c (List.mem_of_mem_take hc)
  have h3 : (cl (fig6 p)).length = 6 := by rw [e, List.length_take, List.length_append, List.length_replicate]; omega
  have := intText_digits (x := fig6 p) h1 (by intro q; rw [show cl (fig6 p) = [] from q] at h3; simp at h3) (by rw [← len_cl, h3]; decide)
  rw [this]
  unfold mic6
  rw [← e]
theorem take6 {FD : List Nat} (h : FD.length ≤ 6) : (FD ++ List.replicate 6 48).take 6 = FD ++ List.replicate (6 - FD.length) 48 := by
  rw [List.take_append, List.take_of_length_le h, List.take_replicate]
  congr 2
  omega
theorem last_ok {FD : List Nat} (h : AllDigits FD) (h6 : FD.length ≤ 6) : LastOk (lastD FD) ((mic6 FD : Nat) : Int) := by
  cases FD with
  | nil => exact .inl ⟨rfl, by decide⟩
  | cons c r =>
    refine .inr ⟨⟨(c :: r).toArray⟩, rfl, ?_, ?_, ?_, ?_, ?_⟩
    · show (c :: r).toArray.size ≠ 0; simp
    · show (c :: r).toArray.size ≤ 6; simpa using h6
    all_goals
      have hj : cl (Txt.ljustF ⟨(c :: r).toArray⟩ 6 48) = (c :: r) ++ List.replicate (6 - (c :: r).length) 48 := by
        unfold Txt.ljustF
        have hl : PySem.Str.length ⟨(c :: r).toArray⟩ = (c :: r).length := by simp [PySem.Str.length]
        rw [hl]
        split
        · rename_i q
          rw [show 6 - (c :: r).length = 0 from by omega]
          show (c :: r).toArray.toList = _
          simp
        · show (Array.replicate 0 48 ++ (c :: r).toArray ++ Array.replicate _ 48).toList = _
          simp
    · rw [← len_cl, hj, List.length_append, List.length_replicate]; omega
    · have := sl_len (Txt.ljustF ⟨(c :: r).toArray⟩ 6 48) none (some 6)
      unfold micOf
      rw [← len_cl (Txt.ljustF _ _ _), hj, List.length_append, List.length_replicate] at this
      omega
    · have e : cl (micOf ⟨(c :: r).toArray⟩) = ((c :: r) ++ List.replicate 6 48).take 6 := by
        unfold micOf
        rw [cl_sl, hj, cut_6 (by rw [List.length_append, List.length_replicate]; omega), take6 h6]
        exact List.take_of_length_le (by rw [List.length_append, List.length_replicate]; omega)
      have h1 : AllDigits (cl (micOf ⟨(c :: r).toArray⟩)) := by rw [e]; exact fun d hd => all_app h (all_rep 6) d (List.mem_of_mem_take hd)
      have h3 : (cl (micOf ⟨(c :: r).toArray⟩)).length = 6 := by rw [e, List.length_take, List.length_append, List.length_replicate]; omega
      have := intText_digits (x := micOf ⟨(c :: r).toArray⟩) h1 (by intro q; rw [show cl (micOf ⟨(c :: r).toArray⟩) = [] from q] at h3; simp at h3) (by rw [← len_cl, h3]; decide)
      rw [this]
      unfold mic6
      rw [← e]
theorem s6 {u : Int} (h0 : 0 ≤ u) (h1 : u < 1000000) : cl (sl (strI (1000000 + u)) (some 1) none) = padL 6 u.toNat := by
  have e : (1000000 + u).toNat = 10 ^ 6 + u.toNat := by omega
  rw [cl_sl, cl_strI (by omega), e, dg_lead (by decide) (by omega), cut_from1 _ (by simp)]
  rfl
theorem mic6_pad {u : Int} (h0 : 0 ≤ u) (h1 : u < 1000000) : mic6 (padL 6 u.toNat) = u.toNat := by
  have hl := padL_len (k := 6) (m := u.toNat) (by decide) (by omega)
  unfold mic6
  rw [take6 (by omega), hl]
  show digitsVal (padL 6 u.toNat ++ []) = _
  rw [List.append_nil, padL_val]
theorem ck_fr (p : Int) (h : p % 8 < 7) : FrOk (if decide (p % 8 ≠ 0) then 46 :: fdN p else []) (fdN p) := by
  have hl := fdN_len p
  by_cases q : p % 8 = 0
  · rw [if_neg (by simp [q])]
    exact .inl ⟨rfl, List.length_eq_zero_iff.mp (by omega)⟩
  · rw [if_pos (by simp [q])]
    exact .inr ⟨rfl, fdN_all p, by omega, by omega⟩
theorem cl_clock {p : Bool} {h m s pa : Int} : cl (clockOf p h m s (figOf pa) (pa % 8)) = cl (two h p) ++ 58 :: (cl (two m p) ++ 58 :: (cl (two s p) ++ (if decide (pa % 8 ≠ 0) then 46 :: fdN pa else []))) := by
  unfold clockOf
  simp only [cl_app, clc, List.append_assoc, List.singleton_append, List.cons_append, List.nil_append]
  congr 4
  split
  · rw [cl_app, clp', cl_fig]; rfl
  · rw [cle]
theorem cl_clk {h m s u : Int} (h0 : 0 ≤ u) (h1 : u < 1000000) : cl (clk h m s u) = cl (two h true) ++ 58 :: (cl (two m true) ++ 58 :: (cl (two s true) ++ (if u ≠ 0 then 46 :: padL 6 u.toNat else []))) := by
  unfold clk
  simp only [cl_app, clc, List.append_assoc, List.singleton_append, List.cons_append, List.nil_append]
  congr 4
  split
  · rw [cl_app, clp', s6 h0 h1]; rfl
  · rw [cle]
theorem clk_fr {u : Int} (h0 : 0 ≤ u) (h1 : u < 1000000) : ∃ FD, FrOk (if u ≠ 0 then 46 :: padL 6 u.toNat else []) FD ∧ ((mic6 FD : Nat) : Int) = u := by
  by_cases q : u = 0
  · rw [if_neg (by simp [q])]
    exact ⟨[], .inl ⟨rfl, rfl⟩, by rw [q]; decide⟩
  · rw [if_pos q]
    have hl := padL_len (k := 6) (m := u.toNat) (by decide) (by omega)
    exact ⟨_, .inr ⟨rfl, padL_all _ _, by omega, by omega⟩, by rw [mic6_pad h0 h1]; omega⟩
theorem zp6 {u : Int} (h0 : 0 ≤ u) (h1 : u < 1000000) : zp 6 u = sl (strI (1000000 + u)) (some 1) none := str_of (by rw [cl_zp h0, s6 h0 h1])
theorem zp4 {y : Int} (h0 : 0 ≤ y) (h1 : y < 10000) : zp 4 y = sl (PySem.Str.ofString "000" ++ strI y) (some (-4)) none := str_of (by rw [cl_zp h0, y3 h0 h1])
theorem clq : cl lq = [39] := by decide
theorem clq' : cl (PySem.Str.ofString "'") = [39] := by decide
theorem cll0 : cl l0 = [] := by decide
theorem cllc : cl lc = [58] := by decide
theorem cllp : cl lp = [46] := by decide
theorem clld : cl ld = [45] := by decide
theorem clls : cl ls = [32] := by decide
theorem eTime_quo {h m s u : Int} (h1 : b10 h) (h2 : b10 m) (h3 : b10 s) (h4 : 0 ≤ u ∧ u < 1000000) : eTime h m s u = quo (clk h m s u) := by
  refine str_of ?_
  unfold eTime quo clk
  rw [← two_zp h1.1 h1.2, ← two_zp h2.1 h2.2, ← two_zp h3.1 h3.2, zp6 h4.1 h4.2]
  by_cases q : u = 0
  · rw [if_pos q, if_neg (by simp [q])]
    simp only [cl_app, clq, clq', cllc, clc, cll0, cle, List.append_assoc, List.append_nil, List.nil_append]
  · rw [if_neg q, if_pos q]
    simp only [cl_app, clq, clq', cllc, clc, cllp, clp', cll0, cle, List.append_assoc, List.append_nil, List.nil_append]
theorem eTD_quo {sg : PySem.Str} {h m s u : Int} (h1 : b10 h) (h2 : b10 m) (h3 : b10 s) (h4 : 0 ≤ u ∧ u < 1000000) : eTD sg h m s u = quo (sg ++ clk h m s u) := by
  refine str_of ?_
  unfold eTD quo clk
  rw [← two_zp h1.1 h1.2, ← two_zp h2.1 h2.2, ← two_zp h3.1 h3.2, zp6 h4.1 h4.2]
  by_cases q : u = 0
  · rw [if_pos q, if_neg (by simp [q])]
    simp only [cl_app, clq, clq', cllc, clc, cll0, cle, List.append_assoc, List.append_nil, List.nil_append]
  · rw [if_neg q, if_pos q]
    simp only [cl_app, clq, clq', cllc, clc, cllp, clp', cll0, cle, List.append_assoc, List.append_nil, List.nil_append]
theorem eDate_quo {y m d : Int} (h1 : 0 ≤ y ∧ y < 10000) (h2 : b10 m) (h3 : b10 d) : eDate y m d = quo (dy3 y m d) := by
  refine str_of ?_
  unfold eDate quo dy3
  rw [← two_zp h2.1 h2.2, ← two_zp h3.1 h3.2, zp4 h1.1 h1.2]
  simp only [cl_app, clq, clq', clld, cld, cll0, cle, List.append_assoc, List.append_nil, List.nil_append]
theorem eDT_quo {y mo d h m s u : Int} (g1 : 0 ≤ y ∧ y < 10000) (g2 : b10 mo) (g3 : b10 d) (h1 : b10 h) (h2 : b10 m) (h3 : b10 s) (h4 : 0 ≤ u ∧ u < 1000000) : eDT y mo d h m s u = quo (dt3 y mo d h m s u) := by
  refine str_of ?_
  unfold eDT quo dt3 dy3 clk
  rw [← two_zp g2.1 g2.2, ← two_zp g3.1 g3.2, zp4 g1.1 g1.2, ← two_zp h1.1 h1.2, ← two_zp h2.1 h2.2, ← two_zp h3.1 h3.2, zp6 h4.1 h4.2]
  by_cases q : u = 0
  · rw [if_pos q, if_neg (by simp [q])]
    simp only [cl_app, clq, clq', clld, cld, clls, cls, cllc, clc, cll0, cle, List.append_assoc, List.append_nil, List.nil_append]
  · rw [if_neg q, if_pos q]
    simp only [cl_app, clq, clq', clld, cld, clls, cls, cllc, clc, cllp, clp', cll0, cle, List.append_assoc, List.append_nil, List.nil_append]
end Mine
end

section
open PySem PySem.W PySem.Calls PyProof.Rows
set_option Elab.async false
set_option linter.unusedVariables false
set_option linter.unusedSimpArgs false
set_option maxRecDepth 100000
namespace Mine
open NumText
theorem Ds.mono {B : List Nat} {j k : Nat} (h : Ds B j) (q : j ≤ k) : Ds B k := ⟨h.d, h.n, Nat.le_trans h.k q⟩
theorem Ds.int {B : List Nat} {k : Nat} (h : Ds B k) (hk : k ≤ 600) : PySem.intText? ⟨B.toArray⟩ = some ((digitsVal B : Nat) : Int) := by
  have hl : PySem.Str.length ⟨B.toArray⟩ = B.length := by simp [PySem.Str.length]
  have e : cl (⟨B.toArray⟩ : PySem.Str) = B := rfl
  have := intText_digits (x := ⟨B.toArray⟩) h.d (by intro q; have := h.n; rw [show B = [] from q] at this; simp at this) (by rw [hl]; have := h.k; omega)
  exact this
theorem Ds.len {B : List Nat} {k : Nat} (h : Ds B k) (hk : k ≤ 600) : PySem.Str.length ⟨B.toArray⟩ ≤ 640 := by
  have hl : PySem.Str.length ⟨B.toArray⟩ = B.length := by simp [PySem.Str.length]
  have := h.k; omega
theorem Ds.val {B : List Nat} {k : Nat} (h : Ds B k) (hk : k ≤ 5) : in32 ((digitsVal B : Nat) : Int) := by
  have h1 := val_lt B h.d
  have h2 : 10 ^ B.length ≤ 10 ^ 5 := Nat.pow_le_pow_right (by decide) (Nat.le_trans h.k hk)
  unfold in32
  omega
theorem Ds.lt {B : List Nat} {k : Nat} (h : Ds B k) : digitsVal B < 10 ^ k := Nat.lt_of_lt_of_le (val_lt B h.d) (Nat.pow_le_pow_right (by decide) h.k)
theorem Ds.dash {B : List Nat} {k : Nat} (h : Ds B k) : 45 ∉ B := fun q => by have := h.d 45 q; omega
def asc (l : List Nat) : Prop := ∀ c ∈ l, 1 ≤ c ∧ c < 127
theorem asc_d {l : List Nat} (h : AllDigits l) : asc l := fun c hc => by have := h c hc; omega
theorem asc_app {a b : List Nat} (ha : asc a) (hb : asc b) : asc (a ++ b) := fun c hc => (List.mem_append.mp hc).elim (ha c) (hb c)
theorem asc_cons {c : Nat} {b : List Nat} (hc : 1 ≤ c ∧ c < 127) (hb : asc b) : asc (c :: b) := fun d hd => (List.mem_cons.mp hd).elim (fun e => e ▸ hc) (hb d)
theorem asc_nil : asc [] := fun c h => by cases h
theorem Asc.of {x : PySem.Str} (h : asc (cl x)) (hl : (cl x).length ≤ 100) : Asc x := ⟨by rw [← len_cl]; exact hl, fun c hc => by have := h c hc; omega⟩
theorem fr_asc {F FD : List Nat} (h : FrOk F FD) : asc F ∧ F.length ≤ 7 := by
  rcases h with ⟨rfl, _⟩ | ⟨rfl, fd⟩
  · exact ⟨asc_nil, by simp⟩
  · exact ⟨asc_cons (by decide) (asc_d fd.d), by have := fd.k; rw [List.length_cons]; omega⟩
theorem fr_fd {F FD : List Nat} (h : FrOk F FD) : AllDigits FD ∧ FD.length ≤ 6 := by
  rcases h with ⟨_, rfl⟩ | ⟨_, fd⟩
  · exact ⟨fun c h => (by cases h), (by simp)⟩
  · exact ⟨fd.d, fd.k⟩
theorem mk_cl (x : PySem.Str) : (⟨x.cps⟩ : PySem.Str) = x := rfl
section
variable {W : Wd} {n : Nat}
theorem split_bad {x : PySem.Str} {Y MO R : List Nat} (h : cl x = Y ++ 45 :: (MO ++ 45 :: R)) (y : Ds Y 5) (mo : Ds MO 2) (hr : asc R) (h58 : 58 ∈ R) (hl : R.length ≤ 60) :
    mapO PySem.intText? (Txt.splitMax x (PySem.Str.ofString "-") 2) = none ∧ (Txt.splitMax x (PySem.Str.ofString "-") 2).length ≤ 10 ∧ ∀ y ∈ Txt.splitMax x (PySem.Str.ofString "-") 2, y.length ≤ 640 ∧ ∀ c ∈ y.cps.toList, c < 128 := by
  rw [split3 h y.dash mo.dash]
  refine ⟨?_, by show (3 : Nat) ≤ 10; decide, ?_⟩
  · have hb := int_colon (x := ⟨R.toArray⟩) hr h58
    simp only [mapO, hb]
    cases PySem.intText? ⟨Y.toArray⟩ <;> cases PySem.intText? ⟨MO.toArray⟩ <;> rfl
  · intro z hz
    simp only [List.mem_cons, List.not_mem_nil, or_false] at hz
    rcases hz with rfl | rfl | rfl
    · exact ⟨y.len (by decide), fun c hc => by have := y.d c hc; omega⟩
    · exact ⟨mo.len (by decide), fun c hc => by have := mo.d c hc; omega⟩
    · exact ⟨by show R.toArray.size ≤ 640; rw [List.size_toArray]; omega, fun c hc => by have := hr c hc; omega⟩
theorem DTv (hK : W.K = hd.heap_39 W.w.params) {x : PySem.Str} {Y MO DD H MI S F FD : List Nat} {sp : Nat} (h : cl x = Y ++ 45 :: (MO ++ 45 :: (DD ++ sp :: (H ++ 58 :: (MI ++ 58 :: (S ++ F)))))) (hs : sp = 84 ∨ sp = 32) (y : Ds Y 4) (mo : Ds MO 2) (dd : Ds DD 2) (hh : Ds H 2) (mi : Ds MI 2) (s : Ds S 2) (f : FrOk F FD) :
    Val W n (.ref 334) x (if okDate (digitsVal Y) (digitsVal MO) (digitsVal DD) && okTime (digitsVal H) (digitsVal MI) (digitsVal S) (mic6 FD) then .obj 120 (dtF (digitsVal Y) (digitsVal MO) (digitsVal DD) (digitsVal H) (digitsVal MI) (digitsVal S) (mic6 FD)) else .str x) := by
  have fa := fr_asc f
  have fd := fr_fd f
  have hspa : 1 ≤ sp ∧ sp < 127 := by rcases hs with rfl | rfl <;> decide
  have ha : asc (DD ++ sp :: (H ++ 58 :: (MI ++ 58 :: (S ++ F)))) := asc_app (asc_d dd.d) (asc_cons hspa (asc_app (asc_d hh.d) (asc_cons (by decide) (asc_app (asc_d mi.d) (asc_cons (by decide) (asc_app (asc_d s.d) fa.1))))))
  have hl : (DD ++ sp :: (H ++ 58 :: (MI ++ 58 :: (S ++ F)))).length ≤ 60 := by
    have := dd.k; have := hh.k; have := mi.k; have := s.k; have := fa.2
    simp only [List.length_append, List.length_cons]; omega
  have as : Asc x := by
    refine Asc.of ?_ ?_
    · rw [h]; exact asc_app (asc_d y.d) (asc_cons (by decide) (asc_app (asc_d mo.d) (asc_cons (by decide) ha)))
    · rw [h]
      have := y.k; have := mo.k
      simp only [List.length_append, List.length_cons] at hl ⊢; omega
  obtain ⟨l, q1, q2⟩ := DT_scan (T := x.cps) h hs y mo dd hh mi s f
  obtain ⟨b1, b2⟩ := split_bad h (y.mono (by decide)) mo ha (by simp) hl
  have hm := mic6_lt fd.1
  refine ⟨as, fun a ha' => ?_⟩
  exact cdt_m (n := n + 1) hK ha' as q1 q2 (last_ok fd.1 fd.2) (y.int (by decide)) (mo.int (by decide)) (dd.int (by decide)) (hh.int (by decide)) (mi.int (by decide)) (s.int (by decide))
    ⟨y.len (by decide), mo.len (by decide), dd.len (by decide), hh.len (by decide), mi.len (by decide), s.len (by decide)⟩ (y.val (by decide)) (mo.val (by decide)) (dd.val (by decide)) (hh.val (by decide)) (mi.val (by decide)) (s.val (by decide)) ⟨by omega, by omega⟩ b1 b2
theorem DTbad (hK : W.K = hd.heap_39 W.w.params) {x : PySem.Str} {Y MO R : List Nat} (h : cl x = Y ++ 45 :: (MO ++ 45 :: R)) (y : Ds Y 5) (mo : Ds MO 2) (hr : asc R) (h58 : 58 ∈ R) (hl : R.length ≤ 60) (hs : scan x.cps 6 itsDT 0 = none) : Txt W n (.ref 334) x := by
  have as : Asc x := by
    refine Asc.of ?_ ?_
    · rw [h]; exact asc_app (asc_d y.d) (asc_cons (by decide) (asc_app (asc_d mo.d) (asc_cons (by decide) hr)))
    · rw [h]
      have := y.k; have := mo.k
      simp only [List.length_append, List.length_cons] at hl ⊢; omega
  obtain ⟨b1, b2⟩ := split_bad h y mo hr h58 hl
  exact ⟨as, fun a ha' => cdt_n (n := n + 1) hK ha' as hs b1 (fun l q => by cases q) b2⟩
theorem DYv (hK : W.K = hd.heap_39 W.w.params) {x : PySem.Str} {Y MO DD : List Nat} (h : cl x = Y ++ 45 :: (MO ++ 45 :: DD)) (y : Ds Y 5) (mo : Ds MO 2) (dd : Ds DD 2) {g : Value} (hg : g = .ref 334 ∨ g = .ref 363) :
    Val W n g x (if okDate (digitsVal Y) (digitsVal MO) (digitsVal DD) then .obj 76 (dateF (digitsVal Y) (digitsVal MO) (digitsVal DD)) else .str x) := by
  have as : Asc x := by
    refine Asc.of ?_ ?_
    · rw [h]; exact asc_app (asc_d y.d) (asc_cons (by decide) (asc_app (asc_d mo.d) (asc_cons (by decide) (asc_d dd.d))))
    · rw [h]
      have := y.k; have := mo.k; have := dd.k
      simp only [List.length_append, List.length_cons]; omega
  have hsp := split3 h y.dash mo.dash
  have b1 : mapO PySem.intText? (Txt.splitMax x (PySem.Str.ofString "-") 2) = some [((digitsVal Y : Nat) : Int), ((digitsVal MO : Nat) : Int), ((digitsVal DD : Nat) : Int)] := by
    rw [hsp]
    simp only [mapO, y.int (by decide), mo.int (by decide), dd.int (by decide)]
    rfl
  have b2 : (Txt.splitMax x (PySem.Str.ofString "-") 2).length ≤ 10 ∧ ∀ y ∈ Txt.splitMax x (PySem.Str.ofString "-") 2, y.length ≤ 640 ∧ ∀ c ∈ y.cps.toList, c < 128 := by
    rw [hsp]
    refine ⟨by show (3 : Nat) ≤ 10; decide, ?_⟩
    intro z hz
    simp only [List.mem_cons, List.not_mem_nil, or_false] at hz
    rcases hz with rfl | rfl | rfl
    · exact ⟨y.len (by decide), fun c hc => by have := y.d c hc; omega⟩
    · exact ⟨mo.len (by decide), fun c hc => by have := mo.d c hc; omega⟩
    · exact ⟨dd.len (by decide), fun c hc => by have := dd.d c hc; omega⟩
  have b3 : ∀ l, some [((digitsVal Y : Nat) : Int), ((digitsVal MO : Nat) : Int), ((digitsVal DD : Nat) : Int)] = some l → ∃ y m dd, l = [y, m, dd] ∧ in32 y ∧ in32 m ∧ in32 dd := fun l q => by
    cases q
    exact ⟨_, _, _, rfl, y.val (by decide), mo.val (by decide), dd.val (by decide)⟩
  refine ⟨as, fun a ha' => ?_⟩
  rcases hg with rfl | rfl
  · exact cdt_n (n := n + 1) hK ha' as (DT_days h y mo dd) b1 b3 b2
  · exact cdate_c (n := n + 2) hK ha' as b1 b3 b2 (fun _ => rfl) (Nat.zero_le _)
theorem TMv (hK : W.K = hd.heap_39 W.w.params) {x : PySem.Str} {H MI S F FD : List Nat} (h : cl x = H ++ 58 :: (MI ++ 58 :: (S ++ F))) (hh : Ds H 2) (mi : Ds MI 2) (s : Ds S 2) (f : FrOk F FD) :
    Val W n (.ref 358) x (if okTime (digitsVal H) (digitsVal MI) (digitsVal S) (mic6 FD) then .obj 98 (timeF (digitsVal H) (digitsVal MI) (digitsVal S) (mic6 FD)) else .str x) := by
  have fa := fr_asc f
  have fd := fr_fd f
  have hm := mic6_lt fd.1
  have as : Asc x := by
    refine Asc.of ?_ ?_
    · rw [h]; exact asc_app (asc_d hh.d) (asc_cons (by decide) (asc_app (asc_d mi.d) (asc_cons (by decide) (asc_app (asc_d s.d) fa.1))))
    · rw [h]
      have := hh.k; have := mi.k; have := s.k; have := fa.2
      simp only [List.length_append, List.length_cons]; omega
  obtain ⟨l, q1, q2⟩ := TM_scan (T := x.cps) h hh mi s f
  exact ⟨as, fun a ha' => ctm_m (n := n + 1) hK ha' as q1 q2 (last_ok fd.1 fd.2) (hh.int (by decide)) (mi.int (by decide)) (s.int (by decide)) ⟨hh.len (by decide), mi.len (by decide), s.len (by decide)⟩ (hh.val (by decide)) (mi.val (by decide)) (s.val (by decide)) ⟨by omega, by omega⟩⟩
theorem TDv (hK : W.K = hd.heap_39 W.w.params) {x : PySem.Str} {H MI S F FD : List Nat} {ng : Bool} (h : cl x = sgL ng ++ (H ++ 58 :: (MI ++ 58 :: (S ++ F)))) (hh : Ds H 3) (mi : Ds MI 2) (s : Ds S 2) (f : FrOk F FD) {us : Int} (hus : us = (mic6 FD : Int) + ((digitsVal S : Int) + ((digitsVal H : Int) * 60 + (digitsVal MI : Int)) * 60) * 1000000) :
    Val W n (.ref 346) x (.obj 149 (spanF (us * if ng then -1 else 1))) := by
  have fa := fr_asc f
  have fd := fr_fd f
  have hm := mic6_lt fd.1
  have hng : asc (sgL ng) ∧ (sgL ng).length ≤ 1 := by cases ng; exact ⟨asc_nil, by decide⟩; exact ⟨asc_cons (by decide) asc_nil, by decide⟩
  have as : Asc x := by
    refine Asc.of ?_ ?_
    · rw [h]; exact asc_app hng.1 (asc_app (asc_d hh.d) (asc_cons (by decide) (asc_app (asc_d mi.d) (asc_cons (by decide) (asc_app (asc_d s.d) fa.1)))))
    · rw [h]
      have := hh.k; have := mi.k; have := s.k; have := fa.2; have := hng.2
      simp only [List.length_append, List.length_cons] at *; omega
  obtain ⟨l, q1, q2⟩ := TD_scan (T := x.cps) h hh mi s f
  have v1 := hh.lt
  have v2 := mi.lt
  have v3 := s.lt
  refine ⟨as, fun a ha' => ctd_m (n := n + 1) hK ha' as q1 (sg := sgD ng) (neg := ng) q2 ?_ (last_ok fd.1 fd.2) (hh.int (by decide)) (mi.int (by decide)) (s.int (by decide)) ⟨hh.len (by decide), mi.len (by decide), s.len (by decide)⟩ hus (by omega) (by omega)⟩
  cases ng
  · exact .inl ⟨rfl, rfl⟩
  · exact .inr ⟨rfl, rfl⟩
end
end Mine
end

section
open PySem PySem.W PySem.Calls PyProof.Rows
set_option Elab.async false
set_option linter.unusedVariables false
set_option linter.unusedSimpArgs false
set_option maxRecDepth 100000
namespace Mine
open NumText
theorem yd_ds {p : Bool} {y : Int} (h0 : 0 ≤ y) (h1 : y ≤ 10000) : Ds (cl (ydOf p y)) 5 ∧ ((digitsVal (cl (ydOf p y)) : Nat) : Int) = y ∧ (y < 10000 → Ds (cl (ydOf p y)) 4) ∧ (y = 10000 → 4 < (cl (ydOf p y)).length) := by
  have k1 := dg_pos y.toNat
  have k2 := dg_le (k := 5) (m := y.toNat) (by decide) (by omega)
  unfold ydOf
  split
  · rename_i q
    have q' : y < 10000 := by simp at q; exact q.2
    rw [y4 h0 q']
    have hl := padL_len (k := 4) (m := y.toNat) (by decide) (by omega)
    exact ⟨⟨padL_all _ _, by omega, by omega⟩, by rw [padL_val]; omega, fun _ => ⟨padL_all _ _, by omega, by omega⟩, fun e => by omega⟩
  · rw [cl_strI h0]
    refine ⟨⟨dg_all _, k1, k2⟩, by rw [dg_val]; omega, fun e => ⟨dg_all _, k1, dg_le (by decide) (by omega)⟩, fun e => ?_⟩
    have := dg_ge (k := 4) (m := y.toNat) (by omega)
    omega
theorem twoP {v : Int} (h0 : 0 ≤ v) (h1 : v < 100) (p : Bool) : Ds (cl (two v p)) 2 ∧ ((digitsVal (cl (two v p)) : Nat) : Int) = v := by
  obtain ⟨a, b⟩ := two_ds h0 (k := 2) (by decide) (by omega) p
  exact ⟨a, by rw [b]; omega⟩
theorem two3 {v : Int} (h0 : 0 ≤ v) (h1 : v < 1000) (p : Bool) : Ds (cl (two v p)) 3 ∧ ((digitsVal (cl (two v p)) : Nat) : Int) = v := by
  obtain ⟨a, b⟩ := two_ds h0 (k := 3) (by decide) (by omega) p
  exact ⟨a, by rw [b]; omega⟩
theorem cl_days {p : Bool} {y m d : Int} : cl (daysOf p y m d) = cl (ydOf p y) ++ 45 :: (cl (two m p) ++ 45 :: cl (two d p)) := by
  unfold daysOf
  simp only [cl_app, cld, List.append_assoc, List.singleton_append, List.cons_append, List.nil_append]
theorem cl_dy3 {y m d : Int} (h0 : 0 ≤ y) (h1 : y < 10000) : cl (dy3 y m d) = padL 4 y.toNat ++ 45 :: (cl (two m true) ++ 45 :: cl (two d true)) := by
  unfold dy3
  simp only [cl_app, cld, y3 h0 h1, List.append_assoc, List.singleton_append, List.cons_append, List.nil_append]
theorem leap_eq (y : Int) : leapB y = (decide (y % 400 = 0) || (decide (y % 4 = 0) && decide (y % 100 ≠ 0))) := by
  unfold leapB
  rw [Bool.eq_iff_iff]
  simp only [Bool.and_eq_true, Bool.or_eq_true, decide_eq_true_eq]
  omega
theorem mtab_dim {y m : Int} (h0 : 1 ≤ m) (h1 : m ≤ 12) : mtabAt y m = dimI y m := by
  have hm : m = 1 ∨ m = 2 ∨ m = 3 ∨ m = 4 ∨ m = 5 ∨ m = 6 ∨ m = 7 ∨ m = 8 ∨ m = 9 ∨ m = 10 ∨ m = 11 ∨ m = 12 := by omega
  unfold mtabAt mtab dimI
  rw [leap_eq]
  rcases hm with rfl | rfl | rfl | rfl | rfl | rfl | rfl | rfl | rfl | rfl | rfl | rfl <;> rfl
theorem ok_kn {y m d : Int} : okDate y m d = knB y m d := by
  unfold okDate knB
  rw [Bool.eq_iff_iff]
  simp only [Bool.and_eq_true, decide_eq_true_eq]
  constructor
  · rintro ⟨a, b, c, d, e, f⟩
    rw [mtab_dim c d]
    exact ⟨⟨a, b⟩, ⟨c, d⟩, e, f⟩
  · rintro ⟨⟨a, b⟩, ⟨c, d⟩, e, f⟩
    rw [mtab_dim c d] at f
    exact ⟨a, b, c, d, e, f⟩
theorem ok_tk {h m s u size : Int} (h0 : 0 ≤ h) (m0 : 0 ≤ m) (s0 : 0 ≤ s) (u0 : 0 ≤ u ∧ u < 1000000) (hs : size < 7) : okTime h m s u = tkB h m s size := by
  unfold okTime tkB
  rw [Bool.eq_iff_iff]
  simp only [Bool.and_eq_true, decide_eq_true_eq]
  omega
section
variable {W : Wd} {n : Nat}
theorem DTi (hK : W.K = hd.heap_39 W.w.params) {x : PySem.Str} {Y MO DD H MI S F FD : List Nat} {sp : Nat} (h : cl x = Y ++ 45 :: (MO ++ 45 :: (DD ++ sp :: (H ++ 58 :: (MI ++ 58 :: (S ++ F)))))) (hs : sp = 84 ∨ sp = 32) {y m d hh mi s u : Int}
    (y' : Ds Y 4 ∧ ((digitsVal Y : Nat) : Int) = y) (m' : Ds MO 2 ∧ ((digitsVal MO : Nat) : Int) = m) (d' : Ds DD 2 ∧ ((digitsVal DD : Nat) : Int) = d) (h' : Ds H 2 ∧ ((digitsVal H : Nat) : Int) = hh) (mi' : Ds MI 2 ∧ ((digitsVal MI : Nat) : Int) = mi) (s' : Ds S 2 ∧ ((digitsVal S : Nat) : Int) = s) (f : FrOk F FD) (u' : ((mic6 FD : Nat) : Int) = u) :
    Val W n (.ref 334) x (if okDate y m d && okTime hh mi s u then .obj 120 (dtF y m d hh mi s u) else .str x) := by
  obtain ⟨y1, rfl⟩ := y'
  obtain ⟨m1, rfl⟩ := m'
  obtain ⟨d1, rfl⟩ := d'
  obtain ⟨h1, rfl⟩ := h'
  obtain ⟨mi1, rfl⟩ := mi'
  obtain ⟨s1, rfl⟩ := s'
  subst u'
  exact DTv hK h hs y1 m1 d1 h1 mi1 s1 f
theorem DYi (hK : W.K = hd.heap_39 W.w.params) {x : PySem.Str} {Y MO DD : List Nat} (h : cl x = Y ++ 45 :: (MO ++ 45 :: DD)) {y m d : Int} (y' : Ds Y 5 ∧ ((digitsVal Y : Nat) : Int) = y) (m' : Ds MO 2 ∧ ((digitsVal MO : Nat) : Int) = m) (d' : Ds DD 2 ∧ ((digitsVal DD : Nat) : Int) = d) {g : Value} (hg : g = .ref 334 ∨ g = .ref 363) :
    Val W n g x (if okDate y m d then .obj 76 (dateF y m d) else .str x) := by
  obtain ⟨y1, rfl⟩ := y'
  obtain ⟨m1, rfl⟩ := m'
  obtain ⟨d1, rfl⟩ := d'
  exact DYv hK h y1 m1 d1 hg
theorem TMi (hK : W.K = hd.heap_39 W.w.params) {x : PySem.Str} {H MI S F FD : List Nat} (h : cl x = H ++ 58 :: (MI ++ 58 :: (S ++ F))) {hh mi s u : Int} (h' : Ds H 2 ∧ ((digitsVal H : Nat) : Int) = hh) (mi' : Ds MI 2 ∧ ((digitsVal MI : Nat) : Int) = mi) (s' : Ds S 2 ∧ ((digitsVal S : Nat) : Int) = s) (f : FrOk F FD) (u' : ((mic6 FD : Nat) : Int) = u) :
    Val W n (.ref 358) x (if okTime hh mi s u then .obj 98 (timeF hh mi s u) else .str x) := by
  obtain ⟨h1, rfl⟩ := h'
  obtain ⟨mi1, rfl⟩ := mi'
  obtain ⟨s1, rfl⟩ := s'
  subst u'
  exact TMv hK h h1 mi1 s1 f
theorem TDi (hK : W.K = hd.heap_39 W.w.params) {x : PySem.Str} {H MI S F FD : List Nat} {ng : Bool} (h : cl x = sgL ng ++ (H ++ 58 :: (MI ++ 58 :: (S ++ F)))) {hh mi s u us : Int} (h' : Ds H 3 ∧ ((digitsVal H : Nat) : Int) = hh) (mi' : Ds MI 2 ∧ ((digitsVal MI : Nat) : Int) = mi) (s' : Ds S 2 ∧ ((digitsVal S : Nat) : Int) = s) (f : FrOk F FD) (u' : ((mic6 FD : Nat) : Int) = u)
    (hus : us = (u + (s + (hh * 60 + mi) * 60) * 1000000) * if ng then -1 else 1) : Val W n (.ref 346) x (.obj 149 (spanF us)) := by
  obtain ⟨h1, rfl⟩ := h'
  obtain ⟨mi1, rfl⟩ := mi'
  obtain ⟨s1, rfl⟩ := s'
  subst u'
  rw [hus]
  exact TDv hK h h1 mi1 s1 f rfl
theorem last (hK : W.K = hd.heap_39 W.w.params) : CallC W (n+7) 0 (.ref 334) [.str (PySem.Str.ofString "2024-02-29T23:59:59.5")] (.obj 120 (dtF 2024 2 29 23 59 59 500000)) := by
  have v := DTi (n := n) hK (x := PySem.Str.ofString "2024-02-29T23:59:59.5") (Y := [50, 48, 50, 52]) (MO := [48, 50]) (DD := [50, 57]) (sp := 84) (H := [50, 51]) (MI := [53, 57]) (S := [53, 57]) (F := [46, 53]) (FD := [53]) (y := 2024) (m := 2) (d := 29) (hh := 23) (mi := 59) (s := 59) (u := 500000) (by decide) (.inl rfl)
    ⟨⟨by unfold AllDigits; decide, by decide, by decide⟩, by decide⟩ ⟨⟨by unfold AllDigits; decide, by decide, by decide⟩, by decide⟩ ⟨⟨by unfold AllDigits; decide, by decide, by decide⟩, by decide⟩ ⟨⟨by unfold AllDigits; decide, by decide, by decide⟩, by decide⟩ ⟨⟨by unfold AllDigits; decide, by decide, by decide⟩, by decide⟩ ⟨⟨by unfold AllDigits; decide, by decide, by decide⟩, by decide⟩ (.inr ⟨rfl, ⟨by unfold AllDigits; decide, by decide, by decide⟩⟩) (by decide)
  have e : (okDate 2024 2 29 && okTime 23 59 59 500000) = true := by decide
  rw [two_t e] at v
  exact v.2 _ (.inl rfl)
end
end Mine
end

section
open PySem PySem.W PySem.Calls PyProof.Rows
set_option Elab.async false
set_option linter.unusedVariables false
set_option linter.unusedSimpArgs false
set_option maxRecDepth 100000
set_option maxHeartbeats 4000000
namespace Mine
open NumText
section
variable {W : Wd} {n : Nat}
theorem word_txt (hK : W.K = hd.heap_39 W.w.params) {x : PySem.Str} (k : Int) (as : Asc x) (h1 : scan x.cps 6 itsDT 0 = none) (h2 : scanS x.cps 45 4 itsTD 0 = none) (h3 : scan x.cps 3 itsTM 0 = none) {rs : Option (List Int)} (h4 : mapO PySem.intText? (Txt.splitMax x (PySem.Str.ofString "-") 2) = rs) (h5 : rs = none ∨ rs = some [0, 0, 0])
    (h6 : (Txt.splitMax x (PySem.Str.ofString "-") 2).length ≤ 10 ∧ ∀ y ∈ Txt.splitMax x (PySem.Str.ofString "-") 2, y.length ≤ 640 ∧ ∀ c ∈ y.cps.toList, c < 128) : Txt W n (convF k) x := by
  have b3 : ∀ l, rs = some l → ∃ y m dd, l = [y, m, dd] ∧ in32 y ∧ in32 m ∧ in32 dd := fun l q => by
    rcases h5 with e | e
    · rw [e] at q; cases q
    · rw [e] at q; cases q; exact ⟨0, 0, 0, rfl, by unfold in32; decide, by unfold in32; decide, by unfold in32; decide⟩
  have b4 : dateR x rs = .str x := by
    rcases h5 with e | e
    · rw [e]; rfl
    · rw [e]
      show (if okDate 0 0 0 then D.obj 76 (dateF 0 0 0) else .str x) = _
      rw [two_f (show okDate 0 0 0 = false by decide)]
  refine ⟨as, fun a ha => ?_⟩
  have hk : k % 4 = 0 ∨ k % 4 = 1 ∨ k % 4 = 2 ∨ k % 4 = 3 := by omega
  rcases hk with h | h | h | h
  · rw [cv_0 h]; have := cdt_n (n := n + 1) hK ha as h1 h4 b3 h6; rw [b4] at this; exact this
  · rw [cv_1 h]; have := cdate_c (n := n + 2) (hd' := 0) hK ha as h4 b3 h6 (fun _ => rfl) (Nat.zero_le _); rw [b4] at this; exact this
  · rw [cv_2 h]; exact ctd_n (n := n + 1) hK ha as h2
  · rw [cv_3 h]; exact ctm_n (n := n + 1) hK ha as h3
def pieceOk (l : List PySem.Str) : Bool := decide (l.length ≤ 10) && l.all fun y => decide (y.length ≤ 640) && y.cps.toList.all fun c => decide (c < 128)
theorem piece_of {l : List PySem.Str} (h : pieceOk l = true) : l.length ≤ 10 ∧ ∀ y ∈ l, y.length ≤ 640 ∧ ∀ c ∈ y.cps.toList, c < 128 := by
  unfold pieceOk at h
  simp only [Bool.and_eq_true, decide_eq_true_eq, List.all_eq_true] at h
  exact ⟨h.1, fun y hy => ⟨(h.2 y hy).1, fun c hc => (h.2 y hy).2 c hc⟩⟩
def ascOk (x : PySem.Str) : Bool := decide (x.length ≤ 100) && x.cps.toList.all fun c => decide (c < 128)
theorem asc_of {x : PySem.Str} (h : ascOk x = true) : Asc x := by
  unfold ascOk at h
  simp only [Bool.and_eq_true, decide_eq_true_eq, List.all_eq_true] at h
  exact ⟨h.1, h.2⟩
theorem words (hK : W.K = hd.heap_39 W.w.params) (k : Int) : ∀ j : Nat, j < 8 → Txt W n (convF k) (wordsL.getD j PySem.Str.empty)
  | 0, _ => word_txt hK k (asc_of (by decide +kernel)) (by decide +kernel) (by decide +kernel) (by decide +kernel) (rs := none) (by decide +kernel) (.inl rfl) (piece_of (by decide +kernel))
  | 1, _ => word_txt hK k (asc_of (by decide +kernel)) (by decide +kernel) (by decide +kernel) (by decide +kernel) (rs := none) (by decide +kernel) (.inl rfl) (piece_of (by decide +kernel))
  | 2, _ => word_txt hK k (asc_of (by decide +kernel)) (by decide +kernel) (by decide +kernel) (by decide +kernel) (rs := some [0, 0, 0]) (by decide +kernel) (.inr rfl) (piece_of (by decide +kernel))
  | 3, _ => word_txt hK k (asc_of (by decide +kernel)) (by decide +kernel) (by decide +kernel) (by decide +kernel) (rs := none) (by decide +kernel) (.inl rfl) (piece_of (by decide +kernel))
  | 4, _ => word_txt hK k (asc_of (by decide +kernel)) (by decide +kernel) (by decide +kernel) (by decide +kernel) (rs := none) (by decide +kernel) (.inl rfl) (piece_of (by decide +kernel))
  | 5, _ => word_txt hK k (asc_of (by decide +kernel)) (by decide +kernel) (by decide +kernel) (by decide +kernel) (rs := none) (by decide +kernel) (.inl rfl) (piece_of (by decide +kernel))
  | 6, _ => word_txt hK k (asc_of (by decide +kernel)) (by decide +kernel) (by decide +kernel) (by decide +kernel) (rs := none) (by decide +kernel) (.inl rfl) (piece_of (by decide +kernel))
  | 7, _ => word_txt hK k (asc_of (by decide +kernel)) (by decide +kernel) (by decide +kernel) (by decide +kernel) (rs := none) (by decide +kernel) (.inl rfl) (piece_of (by decide +kernel))
  | j + 8, h => absurd h (by omega)
theorem val_if {f : Value} {x : PySem.Str} {b : Bool} {v : D} (h : Val W n f x (if b then v else .str x)) : (b = true → Val W n f x v) ∧ (b = false → Txt W n f x) := by
  refine ⟨fun e => ?_, fun e => ?_⟩
  · rw [e] at h; exact h
  · rw [e] at h; exact h
theorem y4P {y : Int} (h0 : 0 ≤ y) (h1 : y < 10000) : Ds (padL 4 y.toNat) 4 ∧ ((digitsVal (padL 4 y.toNat) : Nat) : Int) = y := by
  have hl := padL_len (k := 4) (m := y.toNat) (by decide) (by omega)
  exact ⟨⟨padL_all _ _, by omega, by omega⟩, by rw [padL_val]; omega⟩
theorem b10_of {v : Int} (h0 : 0 ≤ v) (h1 : v < 10000000000) : b10 v := ⟨h0, h1⟩
theorem day_plan (hK : W.K = hd.heap_39 W.w.params) {p : Bool} {y m d : Int} (hy : 0 ≤ y ∧ y ≤ 10000) (hm : 0 ≤ m ∧ m < 100) (hd' : 0 ≤ d ∧ d < 100) {g : Value} (hg : g = .ref 334 ∨ g = .ref 363) :
    Plan W n g y m d (daysOf p y m d) (if knB y m d then [.s "day", .i y, .i m, .i d] else [.s "text", .s (daysOf p y m d)]) (PySem.Str.ofString "") 0 := by
  obtain ⟨a1, a2, a3, a4⟩ := yd_ds (p := p) hy.1 hy.2
  have v := DYi (n := n) hK (x := daysOf p y m d) cl_days ⟨a1, a2⟩ (twoP hm.1 hm.2 p) (twoP hd'.1 hd'.2 p) hg
  rw [ok_kn] at v
  obtain ⟨v1, v2⟩ := val_if v
  cases hb : knB y m d with
  | false => rw [two_f rfl]; exact .txt (v2 hb)
  | true =>
    rw [two_t rfl]
    have hk := hb
    unfold knB at hk
    simp only [Bool.and_eq_true, decide_eq_true_eq] at hk
    have hy' : y < 10000 := by omega
    have w1 := DYi (n := n) hK (x := dy3 y m d) (cl_dy3 hy.1 hy') ⟨(y4P hy.1 hy').1.mono (by decide), (y4P hy.1 hy').2⟩ (twoP hm.1 hm.2 true) (twoP hd'.1 hd'.2 true) hg
    rw [ok_kn] at w1
    exact .day (v1 hb) ⟨by omega, by omega⟩ ⟨by omega, by omega⟩ ⟨by omega, by omega⟩ (eDate_quo ⟨hy.1, hy'⟩ ⟨by omega, by omega⟩ ⟨by omega, by omega⟩) ((val_if w1).1 hb)
theorem mom_plan (hK : W.K = hd.heap_39 W.w.params) {p : Bool} {y m d h mi s pa : Int} (hy : 0 ≤ y ∧ y ≤ 10000) (hm : 0 ≤ m ∧ m < 100) (hd' : 0 ≤ d ∧ d < 100) (hh : 0 ≤ h ∧ h < 100) (hmi : 0 ≤ mi ∧ mi < 100) (hs : 0 ≤ s ∧ s < 100) {sep : PySem.Str} (hsep : sep = PySem.Str.ofString "T" ∨ sep = PySem.Str.ofString " ") :
    Plan W n (.ref 334) y m d (daysOf p y m d ++ sep ++ clockOf p h mi s (figOf pa) (pa % 8))
      (if knB y m d && tkB h mi s (pa % 8) then [.s "moment", .i y, .i m, .i d, .i h, .i mi, .i s, .i ((mic6 (fdN pa) : Nat) : Int)] else [.s "text", .s (daysOf p y m d ++ sep ++ clockOf p h mi s (figOf pa) (pa % 8))]) (PySem.Str.ofString "") 0 := by
  obtain ⟨sp, hsp, hcs⟩ : ∃ sp, (sp = 84 ∨ sp = 32) ∧ cl sep = [sp] := by
    rcases hsep with rfl | rfl
    · exact ⟨84, .inl rfl, clT⟩
    · exact ⟨32, .inr rfl, cls⟩
  obtain ⟨a1, a2, a3, a4⟩ := yd_ds (p := p) hy.1 hy.2
  have M := twoP hm.1 hm.2 p
  have Dd := twoP hd'.1 hd'.2 p
  have H := twoP hh.1 hh.2 p
  have Mi := twoP hmi.1 hmi.2 p
  have S := twoP hs.1 hs.2 p
  have hx : cl (daysOf p y m d ++ sep ++ clockOf p h mi s (figOf pa) (pa % 8)) = cl (ydOf p y) ++ 45 :: (cl (two m p) ++ 45 :: (cl (two d p) ++ sp :: (cl (two h p) ++ 58 :: (cl (two mi p) ++ 58 :: (cl (two s p) ++ (if decide (pa % 8 ≠ 0) then 46 :: fdN pa else [])))))) := by
    rw [cl_app, cl_app, cl_days, hcs, cl_clock]
    simp only [List.append_assoc, List.singleton_append, List.cons_append, List.nil_append]
  have hspa : 1 ≤ sp ∧ sp < 127 := by rcases hsp with rfl | rfl <;> decide
  by_cases h7 : pa % 8 = 7
  · have hx7 := hx
    rw [if_pos (by rw [h7]; decide)] at hx7
    have hf := fdN_len pa
    have hn := DT_7 (T := (daysOf p y m d ++ sep ++ clockOf p h mi s (figOf pa) (pa % 8)).cps) hx7 hsp a1 M.1 Dd.1 H.1 Mi.1 S.1 (fdN_all pa) (by omega)
    have hb : (knB y m d && tkB h mi s (pa % 8)) = false := by
      unfold tkB
      rw [decide_eq_false (show ¬ pa % 8 < 7 by omega)]
      simp
    rw [two_f hb]
    refine .txt (DTbad hK hx7 a1 M.1 ?_ (by simp) ?_ hn)
    · exact asc_app (asc_d Dd.1.d) (asc_cons hspa (asc_app (asc_d H.1.d) (asc_cons (by decide) (asc_app (asc_d Mi.1.d) (asc_cons (by decide) (asc_app (asc_d S.1.d) (asc_cons (by decide) (asc_d (fdN_all pa)))))))))
    · have := Dd.1.k; have := H.1.k; have := Mi.1.k; have := S.1.k
      simp only [List.length_append, List.length_cons]; omega
  have fr := ck_fr pa (by omega)
  have fa := fr_asc fr
  by_cases hy' : y = 10000
  · have hb : (knB y m d && tkB h mi s (pa % 8)) = false := by
      unfold knB
      rw [decide_eq_false (show ¬ y ≤ 9999 by omega)]
      simp
    rw [two_f hb]
    have hn := DT_y5 (T := (daysOf p y m d ++ sep ++ clockOf p h mi s (figOf pa) (pa % 8)).cps) hx a1.d (a4 hy')
    refine .txt (DTbad hK hx a1 M.1 ?_ (by simp) ?_ hn)
    · exact asc_app (asc_d Dd.1.d) (asc_cons hspa (asc_app (asc_d H.1.d) (asc_cons (by decide) (asc_app (asc_d Mi.1.d) (asc_cons (by decide) (asc_app (asc_d S.1.d) fa.1))))))
    · have := Dd.1.k; have := H.1.k; have := Mi.1.k; have := S.1.k; have := fa.2
      simp only [List.length_append, List.length_cons]; omega
  have hu := mic6_lt (fdN_all pa)
  have v := DTi (n := n) hK hx hsp ⟨a3 (by omega), a2⟩ M Dd H Mi S fr rfl
  rw [ok_kn, ok_tk hh.1 hmi.1 hs.1 ⟨by omega, by omega⟩ (show pa % 8 < 7 by omega)] at v
  obtain ⟨v1, v2⟩ := val_if v
  cases hb : (knB y m d && tkB h mi s (pa % 8)) with
  | false => rw [two_f rfl]; exact .txt (v2 hb)
  | true =>
    rw [two_t rfl]
    have hy2 : y < 10000 := by omega
    obtain ⟨FD, f1, f2⟩ := clk_fr (u := ((mic6 (fdN pa) : Nat) : Int)) (by omega) (by omega)
    have hx2 : cl (dt3 y m d h mi s ((mic6 (fdN pa) : Nat) : Int)) = padL 4 y.toNat ++ 45 :: (cl (two m true) ++ 45 :: (cl (two d true) ++ 32 :: (cl (two h true) ++ 58 :: (cl (two mi true) ++ 58 :: (cl (two s true) ++ (if ((mic6 (fdN pa) : Nat) : Int) ≠ 0 then 46 :: padL 6 ((mic6 (fdN pa) : Nat) : Int).toNat else [])))))) := by
      unfold dt3
      rw [cl_app, cl_app, cl_dy3 hy.1 hy2, cls, cl_clk (by omega) (by omega)]
      simp only [List.append_assoc, List.singleton_append, List.cons_append, List.nil_append]
    have w1 := DTi (n := n) hK hx2 (.inr rfl) (y4P hy.1 hy2) (twoP hm.1 hm.2 true) (twoP hd'.1 hd'.2 true) (twoP hh.1 hh.2 true) (twoP hmi.1 hmi.2 true) (twoP hs.1 hs.2 true) f1 f2
    rw [ok_kn, ok_tk hh.1 hmi.1 hs.1 ⟨by omega, by omega⟩ (show pa % 8 < 7 by omega)] at w1
    exact .mom (v1 hb) ⟨by omega, by omega⟩ ⟨by omega, by omega⟩ ⟨by omega, by omega⟩ ⟨by omega, by omega⟩ ⟨by omega, by omega⟩ ⟨by omega, by omega⟩ ⟨by omega, by omega⟩
      (eDT_quo ⟨hy.1, hy2⟩ ⟨by omega, by omega⟩ ⟨by omega, by omega⟩ ⟨by omega, by omega⟩ ⟨by omega, by omega⟩ ⟨by omega, by omega⟩ ⟨by omega, by omega⟩) ((val_if w1).1 hb)
theorem sg_cl (ng : Bool) : cl (if ng then PySem.Str.ofString "-" else PySem.Str.ofString "") = sgL ng := by
  cases ng
  · exact cle
  · exact cld
theorem tm_neg (hK : W.K = hd.heap_39 W.w.params) {x : PySem.Str} (as : Asc x) (h : scan x.cps 3 itsTM 0 = none) : Txt W n (.ref 358) x := ⟨as, fun a ha => ctm_n (n := n + 1) hK ha as h⟩
theorem td_neg (hK : W.K = hd.heap_39 W.w.params) {x : PySem.Str} (as : Asc x) (h : scanS x.cps 45 4 itsTD 0 = none) : Txt W n (.ref 346) x := ⟨as, fun a ha => ctd_n (n := n + 1) hK ha as h⟩
theorem ck_asc {p : Bool} {h mi s pa : Int} {ng : Bool} (hh : b10 h) (hmi : 0 ≤ mi ∧ mi < 100) (hs : 0 ≤ s ∧ s < 100) : Asc ((if ng then PySem.Str.ofString "-" else PySem.Str.ofString "") ++ clockOf p h mi s (figOf pa) (pa % 8)) := by
  have hl := clockOf_len (p := p) (size := pa % 8) (fig := figOf pa) hh ⟨by omega, by omega⟩ ⟨by omega, by omega⟩ (h := h) (m := mi) (s := s) (by rw [← len_cl, cl_fig, fdN_len]; omega)
  obtain ⟨H, _⟩ := two_ds (n := h) hh.1 (k := 10) (by decide) (by have := hh.2; have := hh.1; omega) p
  have Mi := twoP hmi.1 hmi.2 p
  have S := twoP hs.1 hs.2 p
  refine Asc.of ?_ ?_
  · rw [cl_app, sg_cl, cl_clock]
    refine asc_app (by cases ng; exact asc_nil; exact asc_cons (by decide) asc_nil) (asc_app (asc_d H.d) (asc_cons (by decide) (asc_app (asc_d Mi.1.d) (asc_cons (by decide) (asc_app (asc_d S.1.d) ?_)))))
    split
    · exact asc_cons (by decide) (asc_d (fdN_all pa))
    · exact asc_nil
  · rw [cl_app, List.length_append, sg_cl, len_cl]
    have : (sgL ng).length ≤ 1 := by cases ng <;> decide
    omega
theorem clock_plan (hK : W.K = hd.heap_39 W.w.params) {p : Bool} {y m d h mi s pa : Int} (hh : 0 ≤ h ∧ h < 100) (hmi : 0 ≤ mi ∧ mi < 100) (hs : 0 ≤ s ∧ s < 100) (ng : Bool) :
    Plan W n (.ref 358) y m d ((if ng then PySem.Str.ofString "-" else PySem.Str.ofString "") ++ clockOf p h mi s (figOf pa) (pa % 8))
      (if tkB h mi s (pa % 8) && !ng then [.s "clock", .i h, .i mi, .i s, .i ((mic6 (fdN pa) : Nat) : Int)] else [.s "text", .s ((if ng then PySem.Str.ofString "-" else PySem.Str.ofString "") ++ clockOf p h mi s (figOf pa) (pa % 8))]) (PySem.Str.ofString "") 0 := by
  have as := ck_asc (p := p) (pa := pa) (ng := ng) (h := h) ⟨by omega, by omega⟩ hmi hs
  have H := twoP hh.1 hh.2 p
  have Mi := twoP hmi.1 hmi.2 p
  have S := twoP hs.1 hs.2 p
  have hx : cl ((if ng then PySem.Str.ofString "-" else PySem.Str.ofString "") ++ clockOf p h mi s (figOf pa) (pa % 8)) = sgL ng ++ (cl (two h p) ++ 58 :: (cl (two mi p) ++ 58 :: (cl (two s p) ++ (if decide (pa % 8 ≠ 0) then 46 :: fdN pa else [])))) := by
    rw [cl_app, sg_cl, cl_clock]
  cases ng with
  | true =>
    rw [two_f (show (tkB h mi s (pa % 8) && !true) = false by simp)]
    exact .txt (tm_neg hK as (TM_neg hx))
  | false =>
    by_cases h7 : pa % 8 = 7
    · have hx7 := hx
      rw [show (if decide (pa % 8 ≠ 0) then 46 :: fdN pa else []) = 46 :: fdN pa from if_pos (by rw [h7]; decide)] at hx7
      have hf := fdN_len pa
      have hb : (tkB h mi s (pa % 8) && !false) = false := by
        unfold tkB
        rw [decide_eq_false (show ¬ pa % 8 < 7 by omega)]
        simp
      rw [two_f hb]
      exact .txt (tm_neg hK as (TM_7 hx7 H.1 Mi.1 S.1 (fdN_all pa) (by omega)))
    have fr := ck_fr pa (by omega)
    have hu := mic6_lt (fdN_all pa)
    have v := TMi (n := n) hK (x := (if false then PySem.Str.ofString "-" else PySem.Str.ofString "") ++ clockOf p h mi s (figOf pa) (pa % 8)) hx H Mi S fr rfl
    rw [ok_tk hh.1 hmi.1 hs.1 ⟨by omega, by omega⟩ (show pa % 8 < 7 by omega)] at v
    obtain ⟨v1, v2⟩ := val_if v
    cases hb : tkB h mi s (pa % 8) with
    | false => exact .txt (v2 hb)
    | true =>
      obtain ⟨FD, f1, f2⟩ := clk_fr (u := ((mic6 (fdN pa) : Nat) : Int)) (by omega) (by omega)
      have w1 := TMi (n := n) hK (cl_clk (h := h) (m := mi) (s := s) (u := ((mic6 (fdN pa) : Nat) : Int)) (by omega) (by omega)) (twoP hh.1 hh.2 true) (twoP hmi.1 hmi.2 true) (twoP hs.1 hs.2 true) f1 f2
      rw [ok_tk hh.1 hmi.1 hs.1 ⟨by omega, by omega⟩ (show pa % 8 < 7 by omega)] at w1
      exact .clock (v1 hb) ⟨by omega, by omega⟩ ⟨by omega, by omega⟩ ⟨by omega, by omega⟩ ⟨by omega, by omega⟩ (eTime_quo ⟨by omega, by omega⟩ ⟨by omega, by omega⟩ ⟨by omega, by omega⟩ ⟨by omega, by omega⟩) ((val_if w1).1 hb)
theorem span_plan (hK : W.K = hd.heap_39 W.w.params) {p : Bool} {y m d h mi s pa : Int} (hh : 0 ≤ h ∧ h < 1100) (hmi : 0 ≤ mi ∧ mi < 100) (hs : 0 ≤ s ∧ s < 100) (ng : Bool) {us len : Int} (hlen : len = ((h * 60 + mi) * 60 + s) * 1000000 + ((mic6 (fdN pa) : Nat) : Int)) (hus : us = if ng then 0 - len else len) :
    Plan W n (.ref 346) y m d ((if ng then PySem.Str.ofString "-" else PySem.Str.ofString "") ++ clockOf p h mi s (figOf pa) (pa % 8))
      (if decide (pa % 8 < 7) && decide (h < 1000) then [.s "span", .i (us / 86400000000), .i (us / 1000000 % 86400), .i (us % 1000000)] else [.s "text", .s ((if ng then PySem.Str.ofString "-" else PySem.Str.ofString "") ++ clockOf p h mi s (figOf pa) (pa % 8))])
      ((if decide (us < 0) then PySem.Str.ofString "-" else PySem.Str.ofString "") ++ clk (len / 3600000000) (len / 60000000 % 60) (len / 1000000 % 60) (len % 1000000)) len := by
  have as := ck_asc (p := p) (pa := pa) (ng := ng) (h := h) ⟨by omega, by omega⟩ hmi hs
  obtain ⟨H4, _⟩ := two_ds (n := h) hh.1 (k := 4) (by decide) (by omega) p
  have Mi := twoP hmi.1 hmi.2 p
  have S := twoP hs.1 hs.2 p
  have hx : cl ((if ng then PySem.Str.ofString "-" else PySem.Str.ofString "") ++ clockOf p h mi s (figOf pa) (pa % 8)) = sgL ng ++ (cl (two h p) ++ 58 :: (cl (two mi p) ++ 58 :: (cl (two s p) ++ (if decide (pa % 8 ≠ 0) then 46 :: fdN pa else [])))) := by
    rw [cl_app, sg_cl, cl_clock]
  by_cases h7 : pa % 8 = 7
  · have hx7 := hx
    rw [show (if decide (pa % 8 ≠ 0) then 46 :: fdN pa else []) = 46 :: fdN pa from if_pos (by rw [h7]; decide)] at hx7
    have hf := fdN_len pa
    rw [two_f (show (decide (pa % 8 < 7) && decide (h < 1000)) = false by rw [decide_eq_false (show ¬ pa % 8 < 7 by omega)]; rfl)]
    exact .txt (td_neg hK as (TD_7 hx7 H4.d H4.n Mi.1 S.1 (fdN_all pa) (by omega)))
  by_cases hk : h < 1000
  case neg =>
    rw [two_f (show (decide (pa % 8 < 7) && decide (h < 1000)) = false by rw [decide_eq_false hk]; simp)]
    refine .txt (td_neg hK as (TD_4 hx H4.d ?_))
    rw [cl_two hh.1, if_neg (by simp; omega)]
    have := dg_ge (k := 3) (m := h.toNat) (by omega)
    omega
  rw [two_t (show (decide (pa % 8 < 7) && decide (h < 1000)) = true by rw [decide_eq_true (show pa % 8 < 7 by omega), decide_eq_true hk]; rfl)]
  have fr := ck_fr pa (by omega)
  have hu := mic6_lt (fdN_all pa)
  have H3 := two3 hh.1 hk p
  have v := TDi (n := n) (us := us) hK hx H3 Mi S fr rfl (by rw [hus, hlen]; cases ng <;> simp <;> omega)
  have hl0 : 0 ≤ len ∧ len < 4000000000000 := by omega
  have hck := clk_len (h := len / 3600000000) (m := len / 60000000 % 60) (s := len / 1000000 % 60) (u := len % 1000000) ⟨by omega, by omega⟩ ⟨by omega, by omega⟩ ⟨by omega, by omega⟩ ⟨by omega, by omega⟩
  have hsg : (if decide (us < 0) then PySem.Str.ofString "-" else PySem.Str.ofString "").length ≤ 1 := by split <;> decide
  have hul : us = len ∨ us = 0 - len := by rw [hus]; cases ng <;> simp
  refine .span (t := len) (sg := if decide (us < 0) then PySem.Str.ofString "-" else PySem.Str.ofString "") (u := len % 1000000) (s := len / 1000000 % 60) (mi := len / 60000000 % 60) (h := len / 3600000000) v (fun q => ⟨by omega, if_pos (by simp; omega)⟩) (fun q => ⟨by omega, if_neg (by simp; omega)⟩) (by omega) (by omega) (by omega) (by omega) (by omega) (by omega)
    (eTD_quo ⟨by omega, by omega⟩ ⟨by omega, by omega⟩ ⟨by omega, by omega⟩ ⟨by omega, by omega⟩) (by rw [PySem.Str.length_append]; omega) fun hlt => ?_
  obtain ⟨FD, f1, f2⟩ := clk_fr (u := len % 1000000) (by omega) (by omega)
  refine TDi (n := n) (us := us) (ng := decide (us < 0)) hK ?_ (two3 (v := len / 3600000000) (by omega) (by omega) true) (twoP (v := len / 60000000 % 60) (by omega) (by omega) true) (twoP (v := len / 1000000 % 60) (by omega) (by omega) true) f1 f2 ?_
  · rw [cl_app, sg_cl, cl_clk (by omega) (by omega)]
  · by_cases q : us < 0
    · rw [if_pos (by simpa using q)]; omega
    · rw [if_neg (by simpa using q)]; omega
theorem turns (hK : W.K = hd.heap_39 W.w.params) (k f mo da ho mi se pa : Int) : ∃ mic, Turn W n k f mo da ho mi se pa mic := by
  have hy := yearOf_b f
  have hs := spanOf_b k ho
  have hm := modOf_b k
  have m1 := Int.emod_nonneg mi (show modOf k ≠ 0 by omega)
  have m2 := Int.emod_lt_of_pos mi hm.1
  have m3 := Int.emod_nonneg se (show modOf k ≠ 0 by omega)
  have m4 := Int.emod_lt_of_pos se hm.1
  have hu := mic6_lt (fdN_all pa)
  refine ⟨((mic6 (fdN pa) : Nat) : Int), fig6_int pa, ⟨by omega, by omega⟩, fun h16 => .txt (words hK k _ (by omega)), fun h0 sep hsep => ?_, fun g hg => ?_, fun h2 ng us hus len hlen => ?_, fun h3 ng => ?_⟩
  · have hsp : spanOf k ho < 100 := by
      unfold spanOf
      rw [if_neg (by simp; omega)]
      omega
    exact mom_plan hK hy ⟨by omega, by omega⟩ ⟨by omega, by omega⟩ ⟨by omega, hsp⟩ ⟨by omega, by omega⟩ ⟨by omega, by omega⟩ hsep
  · exact day_plan hK hy ⟨by omega, by omega⟩ ⟨by omega, by omega⟩ hg
  · exact span_plan hK ⟨by omega, by omega⟩ ⟨by omega, by omega⟩ ⟨by omega, by omega⟩ ng hlen (by rw [hus, hlen])
  · have hsp : spanOf k ho < 100 := by
      unfold spanOf
      rw [if_neg (by simp; omega)]
      omega
    exact clock_plan hK ⟨by omega, hsp⟩ ⟨by omega, by omega⟩ ⟨by omega, by omega⟩ ng
end
end Mine
end

section
open PySem PySem.W PySem.Calls PyProof.Rows
set_option Elab.async false
set_option maxRecDepth 100000
set_option maxHeartbeats 4000000
namespace Mine
theorem ldKJ1 : hd.heap_39 = hd.heap_39 ∧ PySem.Challenge.rw_fe0239_01 = PySem.Challenge.rw_fe0239_01 := by
  k_fill
  exact ⟨rfl, rfl⟩
theorem hid_nil {K : Frag} {h : Heap} (X : K.In h) : K.In (hideAll h []) := fun a o e => hideAll_get [] (X a o e) (by simp)
theorem hid_list {h : Heap} {a : Addr} {items : Array Value} (t : h.IsList a items) : (hideAll h []).IsList a items := let ⟨o, ho, q⟩ := t; ⟨o, hideAll_get [] ho (by simp), q⟩
theorem hid_top {p : Program} {loose : List PySem.Str} {mean : ExcName → Option Value} {mg mb : PySem.Str → Option Value} {h : Heap} (T : Top p loose mean mg mb h) : Top p loose mean mg mb (hideAll h []) := T.keeps fun b o e => hideAll_get [] e (by simp)
theorem reps_of {g : Heap} : ∀ {vs : List Value} {ns : List Int}, IntsAre vs ns → RepL g vs (ns.map D.int)
  | _, _, .nil => .nil
  | _, _, .cons _ _ h => .cons (.int _ _) (reps_of h)
theorem sx_of {prog : Program} {w : World} {K : Frag} {p : Program} {loose : List PySem.Str} {mean : ExcName → Option Value} {mg mb : PySem.Str → Option Value} {h : Heap} (KX : K.In h) (T : Top p loose mean mg mb h) : Sx (Wd.mk prog w K p loose mean mg mb) callerA [] [] h 8 0 :=
  ⟨⟨hid_nil KX, hid_top T⟩, rfl, trivial, fun b h => (nomatch h), fun b h => (nomatch h), by decide +kernel, by decide +kernel, .inl rfl⟩
theorem holds : PySem.Challenge.rw_fe0239_01.Holds := by
  refine hd ?_
  intro w s₀ s₁ mg mb G Y fa o pm cd doc dV kV ho hd' hcd hD hmg hg args vals as hpre hlay hrd hwl hlo
  have KX := kIn_of Y
  have X := (Ground.X G).1
  have V := (Ground.X G).2
  refine Ground.open G ?_
  intro T B D TE TW
  have efa : fa = 407 := by
    have e := mg_of (n := "law") (v := .ref 407) KX T.g (by k_is)
    have : some (Value.ref fa) = some (.ref 407) := hmg.symm.trans e
    cases this; rfl
  subst efa
  wrow_args hpre hlay hrd hwl hlo
  rename_i ns _ _ _ _ _ _ _ l vs _ hL ra _ _ hI _ hc _
  have hns : ns.length ≤ 63 := by omega
  have rl : RepL (hideAll s₁.heap []) vs (ns.map Mine.D.int) := reps_of hI
  have sx := sx_of (prog := PySem.Challenge.rw_fe0239_01.row.prog) (w := w) KX T
  refine law_c (n := 0) rfl hns (turns rfl) (last rfl) callerA [] [] s₁ [.ref l] sx (.cons (.list (hid_list hL) rl) .nil) _ _ fun v h' tk' st rv => ?_
  have ev : v = .bool true := by cases rv; rfl
  subst ev
  exact ⟨.inl ⟨.bool true, .bool true, [], rfl, fun _ => rfl,   .bool _, by first | kernel_rfl | with_unfolding_all rfl, fun _ => ⟨List.nodup_nil, by simp⟩⟩, .of_keep fun b o e => st.keep b o e (by simp [fr]), rfl, .of_eq hg⟩
end Mine
end
theorem PySem.Challenge.cw_fe0239_01_holds : PySem.Challenge.rw_fe0239_01.Holds :=
  Mine.holds
