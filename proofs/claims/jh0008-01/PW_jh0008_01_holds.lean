import PyProof.Rows.All
import Wide.All
import OpenK.AllK
import Wide.FinOn
import PyProof.Rows.Chain
import PyProof.WalksMore
import PySem.Challenge.RW_jh0008_01
set_option Elab.async false
set_option linter.unusedVariables false
set_option maxRecDepth 100000
set_option compiler.extract_closed false
set_option genSizeOf false
namespace Lawp.Internal
/- P1 -/
section
namespace Pl
noncomputable def cc (s : String) : List Nat := s.toList.map (·.toNat)

/-! ## the law's reading -/
inductive La where | beg | non | sgn (c : Nat)
deriving DecidableEq
noncomputable def La.str : La → List Nat
  | .beg => cc "begin" | .non => cc "none" | .sgn c => [c]
noncomputable def lawClass (n : List Nat) : Option (List Nat) := if n = cc "alpha" then some (cc "abczA") else if n = cc "digit" then some (cc "0") else none
noncomputable def lawSigns : List Nat := cc "a]b0-c\\!^[.z:A"
noncomputable def lawSpan (l h : Nat) : List Nat := lawSigns.filter fun c => decide (l ≤ c) && decide (c ≤ h)
noncomputable def isSgn : La → Bool | .sgn _ => true | _ => false

noncomputable def La.val : La → Nat | .sgn c => c | _ => 0
/- recursion on a list's length, with a guard -/
noncomputable def lfix {α : Type} (d : α) (F : (List Nat → α) → List Nat → α) : List Nat → α :=
  WellFounded.fix (measure List.length).wf fun s go => F (fun t => if h : t.length < s.length then go t h else d) s
theorem lfix_eq {α : Type} (d : α) (F : (List Nat → α) → List Nat → α) (s : List Nat) : lfix d F s = F (fun t => if t.length < s.length then lfix d F t else d) s := by
  unfold lfix; rw [WellFounded.fix_eq]; rfl
theorem lt0 (c : Nat) (r : List Nat) : r.length < (c :: r).length := Nat.lt_succ_self _
theorem lt1 (c d : Nat) (r : List Nat) : r.length < (c :: d :: r).length := Nat.lt_succ_of_lt (Nat.lt_succ_self _)
theorem lt2 (c d e : Nat) (r : List Nat) : r.length < (c :: d :: e :: r).length := Nat.lt_succ_of_lt (lt1 c d r)
/- reads a set; the suffix behind its closing bracket comes back -/
noncomputable def lawSetB (go : List Nat → La → List Nat → Option (List Nat × List Nat)) : List Nat → La → List Nat → Option (List Nat × List Nat)
  | [], _, _ => none
  | c :: r, last, held =>
    if c = 93 ∧ last ≠ .beg then some (held, r)
    else if c = 92 then (if r = [] then none else go r.tail (.sgn (r.headD 0)) (held ++ [r.headD 0]))
    else if c = 45 ∧ isSgn last = true ∧ r ≠ [] ∧ r.head? ≠ some 93 then
      if r.headD 0 = 92 then (if r.tail = [] then none else go r.tail.tail .non (held ++ lawSpan last.val (r.tail.headD 0)))
      else go r.tail .non (held ++ lawSpan last.val (r.headD 0))
    else if c = 91 ∧ r.head? = some 58 then
      if (r.tail.dropWhile (· ≠ 93)) = [] then none
      else if (r.tail.takeWhile (· ≠ 93)) ≠ [] ∧ (r.tail.takeWhile (· ≠ 93)).getLast? = some 58 then
        match lawClass (r.tail.takeWhile (· ≠ 93)).dropLast with
        | none => none
        | some more =>
          go (r.tail.dropWhile (· ≠ 93)).tail .non (held ++ more)
      else go r (.sgn 91) (held ++ [91])
    else go r (.sgn c) (held ++ [c])
noncomputable def lawSet : List Nat → La → List Nat → Option (List Nat × List Nat) := lfix (fun _ _ => none) lawSetB
theorem lawSet_eq (s : List Nat) : lawSet s = lawSetB (fun t => if t.length < s.length then lawSet t else fun _ _ => none) s := lfix_eq _ _ _

/-! ## the program's reading -/
noncomputable def posixT : List (List Nat × List Nat) := [([97, 108, 110, 117, 109], [48, 45, 57, 65, 45, 90, 97, 45, 122]),
  ([97, 108, 112, 104, 97], [65, 45, 90, 97, 45, 122]),
  ([98, 108, 97, 110, 107], [92, 116, 32]),
  ([99, 110, 116, 114, 108], [92, 120, 48, 48, 45, 92, 120, 49, 102, 92, 120, 55, 102]),
  ([100, 105, 103, 105, 116], [48, 45, 57]),
  ([103, 114, 97, 112, 104], [33, 45, 46, 48, 45, 126]),
  ([108, 111, 119, 101, 114], [97, 45, 122]),
  ([112, 114, 105, 110, 116], [32, 45, 46, 48, 45, 126]),
  ([112, 117, 110, 99, 116], [33, 45, 46, 58, 45, 64, 92, 91, 45, 96, 123, 45, 126]),
  ([115, 112, 97, 99, 101], [92, 116, 92, 110, 92, 114, 32]),
  ([117, 112, 112, 101, 114], [65, 45, 90]),
  ([120, 100, 105, 103, 105, 116], [48, 45, 57, 65, 45, 70, 97, 45, 102])]
noncomputable def posix (n : List Nat) : Option (List Nat) := (posixT.find? fun e => n == e.1).map (·.2)
noncomputable def setLast (m : List (Nat × Nat)) (x : Nat × Nat) : List (Nat × Nat) := m.dropLast ++ [x]

noncomputable def brB (go : List Nat → Bool → Option Nat → List (Nat × Nat) → List (List Nat) → Option (List (Nat × Nat) × List (List Nat) × List Nat)) : List Nat → Bool → Option Nat → List (Nat × Nat) → List (List Nat) → Option (List (Nat × Nat) × List (List Nat) × List Nat)
  | [], _, _, _, _ => none
  | c :: r, first, prev, mem, cls =>
    if c = 93 ∧ first = false then some (mem, cls, r)
    else if c = 92 then (if r = [] then none else go r.tail false (some (r.headD 0)) (mem ++ [(r.headD 0, r.headD 0)]) cls)
    else if c = 45 ∧ prev.isSome = true ∧ r ≠ [] ∧ r.head? ≠ some 93 then
      if r.headD 0 = 92 then (if r.tail = [] then none else go r.tail.tail false none (if prev.getD 0 ≤ r.tail.headD 0 then setLast mem (prev.getD 0, r.tail.headD 0) else mem) cls)
      else go r.tail false none (if prev.getD 0 ≤ r.headD 0 then setLast mem (prev.getD 0, r.headD 0) else mem) cls
    else if c = 91 ∧ r.head? = some 58 then
      if (r.tail.dropWhile (· ≠ 93)) = [] then none
      else if (r.tail.takeWhile (· ≠ 93)) ≠ [] ∧ (r.tail.takeWhile (· ≠ 93)).getLast? = some 58 then
        match posix (r.tail.takeWhile (· ≠ 93)).dropLast with
        | none => none
        | some more =>
          go (r.tail.dropWhile (· ≠ 93)).tail false none mem (cls ++ [more])
      else go r false (some 91) (mem ++ [(91, 91)]) cls
    else go r false (some c) (mem ++ [(c, c)]) cls
noncomputable def br : List Nat → Bool → Option Nat → List (Nat × Nat) → List (List Nat) → Option (List (Nat × Nat) × List (List Nat) × List Nat) := lfix (fun _ _ _ _ => none) brB
theorem br_eq (s : List Nat) : br s = brB (fun t => if t.length < s.length then br t else fun _ _ _ _ => none) s := lfix_eq _ _ _

noncomputable def special : List Nat := [40, 41, 91, 93, 123, 125, 63, 42, 43, 45, 124, 94, 36, 92, 46, 38, 126, 35, 32, 9, 10, 13, 11, 12]
noncomputable def esc1 (c : Nat) : List Nat := if special.contains c then [92, c] else [c]
noncomputable def piece (a b : Nat) : List Nat := esc1 a ++ if a ≠ b then 45 :: esc1 b else []
noncomputable def pieces (m : Nat × Nat) : List (Nat × Nat) := [(m.1, min m.2 46), (max m.1 48, m.2)].filter fun x => decide (x.1 ≤ x.2)
noncomputable def render (ms : List (Nat × Nat)) : List Nat := (ms.flatMap pieces).flatMap fun x => piece x.1 x.2

noncomputable def isNeg (s : List Nat) : Bool := s.head? == some 33 || s.head? == some 94
/- translate_bracket_expression -/
noncomputable def brk (s : List Nat) : Option (List Nat × List Nat) :=
  match br (if isNeg s then s.tail else s) true none [] [] with
  | none => none
  | some (mem, cls, r) =>
    let body := render mem ++ cls.flatten
    some (if isNeg s then [91, 94, 47] ++ body ++ [93] else if body = [] then [40, 63, 33, 41] else [91] ++ body ++ [93], r)

/- _translate_segment -/
noncomputable def tsB (go : List Nat → Option (List Nat)) : List Nat → Option (List Nat)
  | [] => some []
  | c :: r =>
    if c = 42 then (go (r.dropWhile (· = 42))).map ([91, 94, 47, 93, 42] ++ ·)
    else if c = 63 then (go r).map ([91, 94, 47, 93] ++ ·)
    else if c = 92 then (if r = [] then some (esc1 92) else (go r.tail).map (esc1 (r.headD 0) ++ ·))
    else if c = 91 then
      match brk r with
      | none => none
      | some (out, r') => (go r').map (out ++ ·)
    else (go r).map (esc1 c ++ ·)
noncomputable def ts : List Nat → Option (List Nat) := lfix (none) tsB
theorem ts_eq (s : List Nat) : ts s = tsB (fun t => if t.length < s.length then ts t else none) s := lfix_eq _ _ _

/- _split_segments goes through without a fault, and meets no slash outside brackets -/
noncomputable def spB (go : List Nat → Bool) : List Nat → Bool
  | [] => true
  | c :: r =>
    if c = 92 ∧ r ≠ [] then go r.tail
    else if c = 91 then
      match brk r with
      | none => false
      | some (_, r') => go r'
    else go r
noncomputable def sp : List Nat → Bool := lfix (false) spB
theorem sp_eq (s : List Nat) : sp s = spB (fun t => if t.length < s.length then sp t else false) s := lfix_eq _ _ _

/-! ## the law's items -/
inductive It where | star | one | set (turned : Bool) (held : List Nat)
noncomputable def lawReadB (go : List Nat → Option (List It)) : List Nat → Option (List It)
  | [] => some []
  | c :: r =>
    if c = 91 then
      match lawSet (if isNeg r then r.tail else r) .beg [] with
      | none => none
      | some (held, r') => (go r').map (It.set (isNeg r) held :: ·)
    else if c = 42 then (go r).map (It.star :: ·)
    else if c = 63 then (go r).map (It.one :: ·)
    else if c = 92 ∧ r ≠ [] then (go r.tail).map (It.set false [r.headD 0] :: ·)
    else (go r).map (It.set false [c] :: ·)
noncomputable def lawRead : List Nat → Option (List It) := lfix (none) lawReadB
theorem lawRead_eq (s : List Nat) : lawRead s = lawReadB (fun t => if t.length < s.length then lawRead t else none) s := lfix_eq _ _ _

noncomputable def starF (f : List Nat → Bool) : List Nat → Bool
  | [] => f []
  | c :: n => f (c :: n) || starF f n
noncomputable def fits : List It → List Nat → Bool
  | [], name => name.isEmpty
  | .star :: is, n => starF (fits is) n
  | .one :: is, [] => false
  | .one :: is, c :: n => fits is n
  | .set t h :: is, [] => false
  | .set t h :: is, c :: n => if h.contains c == t then false else fits is n

theorem fits_s0 {is : List It} : fits (.star :: is) [] = fits is [] := rfl
theorem fits_s1 {is : List It} {c : Nat} {n : List Nat} : fits (.star :: is) (c :: n) = (fits is (c :: n) || fits (.star :: is) n) := rfl
/-! ## the parts of a regular expression -/
structure Oc where
  neg : Bool
  rs : List (Nat × Nat)
inductive Pt where
  | oct (o : Oc) (least : Nat) (most : Option Nat)
  | grp (ps : List (Oc × Nat × Option Nat)) (least : Nat) (most : Option Nat)
  | fin
end Pl
end
/- P2 -/
section
namespace Pl
noncomputable def nmOf (s : List Nat) : List Nat := s.takeWhile (· ≠ 93)
noncomputable def rsOf (s : List Nat) : List Nat := s.dropWhile (· ≠ 93)
theorem rs_len (s : List Nat) : (rsOf s).length ≤ s.length := by
  unfold rsOf
  induction s with
  | nil => simp
  | cons c r ih => rw [List.dropWhile_cons]; split <;> simp_all; lia
variable {f : Bool} {p : Option Nat} {mem : List (Nat × Nat)} {cls : List (List Nat)} {r : List Nat} {c d l : Nat} {la : La} {held : List Nat}
theorem br_k {s t : List Nat} {f' : Bool} {p' : Option Nat} {mem' : List (Nat × Nat)} {cls' : List (List Nat)} (h : t.length < s.length) (e : ∀ go, brB go s f p mem cls = go t f' p' mem' cls') : br s f p mem cls = br t f' p' mem' cls' := by rw [br_eq s, e, if_pos h]
theorem ls_k {s t : List Nat} {la' : La} {held' : List Nat} (h : t.length < s.length) (e : ∀ go, lawSetB go s la held = go t la' held') : lawSet s la held = lawSet t la' held' := by rw [lawSet_eq s, e, if_pos h]
theorem br_nil : br [] f p mem cls = none := by rw [br_eq]; rfl
theorem br_93 : br (93 :: r) false p mem cls = some (mem, cls, r) := by rw [br_eq]; rfl
theorem br_92 : br (92 :: d :: r) f p mem cls = br r false (some d) (mem ++ [(d, d)]) cls := br_k (lt1 _ _ _) fun _ => rfl
theorem br_92n : br [92] f p mem cls = none := by rw [br_eq]; rfl
theorem br_45 (hd : d ≠ 93) (hd2 : d ≠ 92) : br (45 :: d :: r) f (some l) mem cls = br r false none (if l ≤ d then setLast mem (l, d) else mem) cls :=
  br_k (lt1 _ _ _) fun _ => (if_pos ⟨rfl, rfl, (fun e => by cases e), fun e => hd (Option.some.inj e)⟩).trans (if_neg hd2)
theorem br_45n : br [45, 92] f (some l) mem cls = none := by rw [br_eq]; rfl
theorem br_45e {e : Nat} : br (45 :: 92 :: e :: r) f (some l) mem cls = br r false none (if l ≤ e then setLast mem (l, e) else mem) cls := br_k (lt2 _ _ _ _) fun _ => rfl
theorem br_91 : br (91 :: 58 :: r) f p mem cls = if rsOf r = [] then none else if nmOf r ≠ [] ∧ (nmOf r).getLast? = some 58 then (match posix (nmOf r).dropLast with | none => none | some more => br (rsOf r).tail false none mem (cls ++ [more])) else br (58 :: r) false (some 91) (mem ++ [(91, 91)]) cls := by
  have h1 : (rsOf r).tail.length < (91 :: 58 :: r).length := by have := rs_len r; simp; lia
  rw [br_eq]
  show (if rsOf r = [] then none else if nmOf r ≠ [] ∧ (nmOf r).getLast? = some 58 then (match posix (nmOf r).dropLast with | none => none | some more => (if (rsOf r).tail.length < (91 :: 58 :: r).length then br (rsOf r).tail else fun _ _ _ _ => none) false none mem (cls ++ [more])) else (if (58 :: r).length < (91 :: 58 :: r).length then br (58 :: r) else fun _ _ _ _ => none) false (some 91) (mem ++ [(91, 91)]) cls) = _
  rw [if_pos h1, if_pos (lt0 _ _)]
theorem br_else (h93 : ¬ (c = 93 ∧ f = false)) (h92 : c ≠ 92) (h45 : ¬ (c = 45 ∧ p.isSome = true ∧ r ≠ [] ∧ r.head? ≠ some 93)) (h91 : ¬ (c = 91 ∧ r.head? = some 58)) : br (c :: r) f p mem cls = br r false (some c) (mem ++ [(c, c)]) cls :=
  br_k (lt0 _ _) fun _ => (if_neg h93).trans ((if_neg h92).trans ((if_neg h45).trans (if_neg h91)))

theorem ls_nil : lawSet [] la held = none := by rw [lawSet_eq]; rfl
theorem ls_93 (h : la ≠ .beg) : lawSet (93 :: r) la held = some (held, r) := by rw [lawSet_eq]; exact if_pos ⟨rfl, h⟩
theorem ls_92 : lawSet (92 :: d :: r) la held = lawSet r (.sgn d) (held ++ [d]) := ls_k (lt1 _ _ _) fun _ => rfl
theorem ls_92n : lawSet [92] la held = none := by rw [lawSet_eq]; rfl
theorem ls_45 (hd : d ≠ 93) (hd2 : d ≠ 92) : lawSet (45 :: d :: r) (.sgn l) held = lawSet r .non (held ++ lawSpan l d) :=
  ls_k (lt1 _ _ _) fun _ => (if_pos ⟨rfl, rfl, (fun e => by cases e), fun e => hd (Option.some.inj e)⟩).trans (if_neg hd2)
theorem ls_45n : lawSet [45, 92] (.sgn l) held = none := by rw [lawSet_eq]; rfl
theorem ls_45e {e : Nat} : lawSet (45 :: 92 :: e :: r) (.sgn l) held = lawSet r .non (held ++ lawSpan l e) := ls_k (lt2 _ _ _ _) fun _ => rfl
theorem ls_91 : lawSet (91 :: 58 :: r) la held = if rsOf r = [] then none else if nmOf r ≠ [] ∧ (nmOf r).getLast? = some 58 then (match lawClass (nmOf r).dropLast with | none => none | some more => lawSet (rsOf r).tail .non (held ++ more)) else lawSet (58 :: r) (.sgn 91) (held ++ [91]) := by
  have h1 : (rsOf r).tail.length < (91 :: 58 :: r).length := by have := rs_len r; simp; lia
  rw [lawSet_eq]
  show (if rsOf r = [] then none else if nmOf r ≠ [] ∧ (nmOf r).getLast? = some 58 then (match lawClass (nmOf r).dropLast with | none => none | some more => (if (rsOf r).tail.length < (91 :: 58 :: r).length then lawSet (rsOf r).tail else fun _ _ => none) .non (held ++ more)) else (if (58 :: r).length < (91 :: 58 :: r).length then lawSet (58 :: r) else fun _ _ => none) (.sgn 91) (held ++ [91])) = _
  rw [if_pos h1, if_pos (lt0 _ _)]
theorem ls_else (h93 : ¬ (c = 93 ∧ la ≠ .beg)) (h92 : c ≠ 92) (h45 : ¬ (c = 45 ∧ isSgn la = true ∧ r ≠ [] ∧ r.head? ≠ some 93)) (h91 : ¬ (c = 91 ∧ r.head? = some 58)) : lawSet (c :: r) la held = lawSet r (.sgn c) (held ++ [c]) :=
  ls_k (lt0 _ _) fun _ => (if_neg h93).trans ((if_neg h92).trans ((if_neg h45).trans (if_neg h91)))

theorem dw_len (s : List Nat) : (s.dropWhile (· = 42)).length ≤ s.length := by
  induction s with
  | nil => simp
  | cons c r ih => rw [List.dropWhile_cons]; split <;> simp_all; lia
theorem ts_k {s t : List Nat} {g : List Nat → List Nat} (h : t.length < s.length) (e : ∀ go, tsB go s = (go t).map g) : ts s = (ts t).map g := by rw [ts_eq s, e, if_pos h]
theorem sp_k {s t : List Nat} (h : t.length < s.length) (e : ∀ go, spB go s = go t) : sp s = sp t := by rw [sp_eq s, e, if_pos h]
theorem lr_k {s t : List Nat} {g : List It → List It} (h : t.length < s.length) (e : ∀ go, lawReadB go s = (go t).map g) : lawRead s = (lawRead t).map g := by rw [lawRead_eq s, e, if_pos h]
theorem ts_nil : ts [] = some [] := by rw [ts_eq]; rfl
theorem ts_star : ts (42 :: r) = (ts (r.dropWhile (· = 42))).map ([91, 94, 47, 93, 42] ++ ·) := ts_k (Nat.lt_succ_of_le (dw_len r)) fun _ => rfl
theorem ts_one : ts (63 :: r) = (ts r).map ([91, 94, 47, 93] ++ ·) := ts_k (lt0 _ _) fun _ => rfl
theorem ts_esc : ts (92 :: d :: r) = (ts r).map (esc1 d ++ ·) := ts_k (lt1 _ _ _) fun _ => rfl
theorem ts_esc1 : ts [92] = some (esc1 92) := by rw [ts_eq]; rfl
theorem ts_brk {out r' : List Nat} (h : brk r = some (out, r')) (hl : r'.length ≤ r.length) : ts (91 :: r) = (ts r').map (out ++ ·) := ts_k (Nat.lt_succ_of_le hl) fun go => by
  show (match brk r with | none => none | some (out, r') => (go r').map (out ++ ·)) = _; rw [h]
theorem ts_brkn (h : brk r = none) : ts (91 :: r) = none := by
  rw [ts_eq]; show (match brk r with | none => none | some (out, r') => Option.map (out ++ ·) (if r'.length < (91 :: r).length then ts r' else none)) = _; rw [h]
theorem ts_else (h1 : c ≠ 42) (h2 : c ≠ 63) (h3 : c ≠ 92) (h4 : c ≠ 91) : ts (c :: r) = (ts r).map (esc1 c ++ ·) := ts_k (lt0 _ _) fun _ => (if_neg h1).trans ((if_neg h2).trans ((if_neg h3).trans (if_neg h4)))
theorem sp_nil : sp [] = true := by rw [sp_eq]; rfl
theorem sp_esc : sp (92 :: d :: r) = sp r := sp_k (lt1 _ _ _) fun _ => rfl
theorem sp_brk {out r' : List Nat} (h : brk r = some (out, r')) (hl : r'.length ≤ r.length) : sp (91 :: r) = sp r' := sp_k (Nat.lt_succ_of_le hl) fun go => by
  show (match brk r with | none => false | some (_, r') => go r') = _; rw [h]
theorem sp_brkn (h : brk r = none) : sp (91 :: r) = false := by
  rw [sp_eq]; show (match brk r with | none => false | some (_, r') => if r'.length < (91 :: r).length then sp r' else false) = _; rw [h]
theorem sp_else (h1 : ¬ (c = 92 ∧ r ≠ [])) (h2 : c ≠ 91) : sp (c :: r) = sp r := sp_k (lt0 _ _) fun _ => (if_neg h1).trans (if_neg h2)

theorem ls_len : ∀ (n : Nat) (s : List Nat), s.length ≤ n → ∀ (la : La) (held h r : List Nat), lawSet s la held = some (h, r) → r.length < s.length
  | n, [], hn, la, held, h, r, e => by rw [ls_nil] at e; cases e
  | 0, c :: r0, hn, _, _, _, _, _ => by simp at hn
  | n + 1, c :: r0, hn, la, held, h, r, e => by
    have hn' : r0.length ≤ n := by simpa using hn
    by_cases hA : c = 93 ∧ la ≠ .beg
    · obtain ⟨rfl, hla⟩ := hA
      rw [ls_93 hla] at e; cases e; simp
    by_cases hB : c = 92
    · subst hB
      cases r0 with
      | nil => rw [ls_92n] at e; cases e
      | cons d r' => rw [ls_92] at e; have := ls_len n r' (by simp at hn'; lia) _ _ _ _ e; simp; lia
    by_cases hC : c = 45 ∧ isSgn la = true ∧ r0 ≠ [] ∧ r0.head? ≠ some 93
    · obtain ⟨rfl, hp, hr0, hr93⟩ := hC
      obtain ⟨l, rfl⟩ : ∃ l, la = .sgn l := by
        cases la with
        | sgn l => exact ⟨l, rfl⟩
        | beg => cases hp
        | non => cases hp
      cases r0 with
      | nil => exact absurd rfl hr0
      | cons d r' =>
        have hd93 : d ≠ 93 := by simpa using hr93
        by_cases h92 : d = 92
        · subst h92
          cases r' with
          | nil => rw [ls_45n] at e; cases e
          | cons u r2 => rw [ls_45e] at e; have := ls_len n r2 (by simp at hn'; lia) _ _ _ _ e; simp; lia
        · rw [ls_45 hd93 h92] at e; have := ls_len n r' (by simp at hn'; lia) _ _ _ _ e; simp; lia
    by_cases hD : c = 91 ∧ r0.head? = some 58
    · obtain ⟨rfl, h58⟩ := hD
      cases r0 with
      | nil => cases h58
      | cons d r' =>
        have hd : d = 58 := by simpa using h58
        subst hd
        rw [ls_91] at e
        have hrs := rs_len r'
        split at e
        · cases e
        split at e
        · split at e
          · cases e
          · have := ls_len n _ (by simp at hn' ⊢; lia) _ _ _ _ e; simp at this ⊢; lia
        · have := ls_len n _ hn' _ _ _ _ e; simp at this ⊢; lia
    · rw [ls_else hA hB hC hD] at e
      have := ls_len n r0 hn' _ _ _ _ e; simp; lia
theorem lr_nil : lawRead [] = some [] := by rw [lawRead_eq]; rfl
theorem lr_setn (h : lawSet (if isNeg r then r.tail else r) .beg [] = none) : lawRead (91 :: r) = none := by
  rw [lawRead_eq]; show (match lawSet (if isNeg r then r.tail else r) .beg [] with | none => none | some (held, r') => Option.map (It.set (isNeg r) held :: ·) (if r'.length < (91 :: r).length then lawRead r' else none)) = _; rw [h]
theorem lr_set {h r' : List Nat} (e : lawSet (if isNeg r then r.tail else r) .beg [] = some (h, r')) : lawRead (91 :: r) = (lawRead r').map (It.set (isNeg r) h :: ·) := by
  have hl := ls_len _ _ (Nat.le_refl _) _ _ _ _ e
  have : r'.length < (91 :: r).length := by
    split at hl
    · simp at hl ⊢; lia
    · simp; lia
  refine lr_k this fun go => ?_
  show (match lawSet (if isNeg r then r.tail else r) .beg [] with | none => none | some (held, r') => (go r').map (It.set (isNeg r) held :: ·)) = _; rw [e]
theorem lr_star : lawRead (42 :: r) = (lawRead r).map (It.star :: ·) := lr_k (lt0 _ _) fun _ => rfl
theorem lr_one : lawRead (63 :: r) = (lawRead r).map (It.one :: ·) := lr_k (lt0 _ _) fun _ => rfl
theorem lr_esc : lawRead (92 :: d :: r) = (lawRead r).map (It.set false [d] :: ·) := lr_k (lt1 _ _ _) fun _ => rfl
theorem lr_else (h1 : c ≠ 91) (h2 : c ≠ 42) (h3 : c ≠ 63) (h4 : ¬ (c = 92 ∧ r ≠ [])) : lawRead (c :: r) = (lawRead r).map (It.set false [c] :: ·) :=
  lr_k (lt0 _ _) fun _ => (if_neg h1).trans ((if_neg h2).trans ((if_neg h3).trans (if_neg h4)))
end Pl
end
/- P3 -/
section
namespace Pl
noncomputable def sigL : List Nat := cc "[]!^-\\abc0*?:lphdigtz."
noncomputable def Sig (s : List Nat) : Prop := ∀ c ∈ s, sigL.contains c = true
theorem Sig.tail {c : Nat} {s : List Nat} (h : Sig (c :: s)) : Sig s := fun d hd => h d (.tail _ hd)
theorem Sig.head {c : Nat} {s : List Nat} (h : Sig (c :: s)) : sigL.contains c = true := h c (.head _)
theorem Sig.rs {s : List Nat} (h : Sig s) : Sig (rsOf s) := fun d hd => h d ((List.dropWhile_sublist _).mem hd)
theorem Sig.nm {s : List Nat} (h : Sig s) : Sig (nmOf s) := fun d hd => h d ((List.takeWhile_sublist _).mem hd)
theorem sig_all {P : Nat → Bool} (h : sigL.all P = true) {c : Nat} (hc : sigL.contains c = true) : P c = true := List.all_eq_true.mp h c (List.contains_iff_mem.mp hc)
noncomputable def clsR (tx : List Nat) : List (Nat × Nat) := if tx = cc "A-Za-z" then [(65, 90), (97, 122)] else if tx = cc "0-9" then [(48, 57)] else []
noncomputable def inR (rs : List (Nat × Nat)) (c : Nat) : Bool := rs.any fun m => decide (m.1 ≤ c) && decide (c ≤ m.2)
noncomputable def Rel (mem : List (Nat × Nat)) (cls : List (List Nat)) (held : List Nat) : Prop := ∀ c, lawSigns.contains c = true → held.contains c = (inR mem c || inR (cls.flatMap clsR) c)
structure Good (mem : List (Nat × Nat)) (cls : List (List Nat)) : Prop where
  gm : ∀ m ∈ mem, m.1 ≤ m.2 ∧ m.1 ≠ 47 ∧ sigL.contains m.1 = true ∧ sigL.contains m.2 = true
  gc : ∀ c ∈ cls, c = cc "A-Za-z" ∨ c = cc "0-9"
noncomputable def Prevs (prev : Option Nat) (la : La) (mem : List (Nat × Nat)) : Prop := (∀ l, la = .sgn l → prev = some l ∧ sigL.contains l = true ∧ ∃ m', mem = m' ++ [(l, l)]) ∧ (isSgn la = prev.isSome)
theorem contains_app (a b : List Nat) (c : Nat) : (a ++ b).contains c = (a.contains c || b.contains c) := by
  rw [Bool.eq_iff_iff]; simp
theorem inR_app (a b : List (Nat × Nat)) (c : Nat) : inR (a ++ b) c = (inR a c || inR b c) := by simp [inR]
theorem inR_one (l h c : Nat) : inR [(l, h)] c = (decide (l ≤ c) && decide (c ≤ h)) := by simp [inR]
theorem one_contains (a c : Nat) : [a].contains c = decide (c = a) := by
  rw [Bool.eq_iff_iff]; simp
theorem Rel.push {mem cls held} (R : Rel mem cls held) (c : Nat) : Rel (mem ++ [(c, c)]) cls (held ++ [c]) := fun x hx => by
  rw [contains_app, inR_app, R x hx, inR_one, one_contains]
  have : decide (x = c) = (decide (c ≤ x) && decide (x ≤ c)) := by
    rw [Bool.eq_iff_iff]; simp; lia
  rw [this]
  cases inR mem x <;> cases inR (cls.flatMap clsR) x <;> cases (decide (c ≤ x) && decide (x ≤ c)) <;> rfl
theorem span_contains {l h c : Nat} (hc : lawSigns.contains c = true) : (lawSpan l h).contains c = (decide (l ≤ c) && decide (c ≤ h)) := by
  rw [Bool.eq_iff_iff]
  rw [List.contains_iff_mem, lawSpan, List.mem_filter]
  exact ⟨fun h => h.2, fun h => ⟨List.contains_iff_mem.mp hc, h⟩⟩
theorem Rel.set {m' cls held l e} (R : Rel (m' ++ [(l, l)]) cls held) : Rel (if l ≤ e then setLast (m' ++ [(l, l)]) (l, e) else m' ++ [(l, l)]) cls (held ++ lawSpan l e) := fun x hx => by
  rw [contains_app, R x hx, span_contains hx]
  split
  · rename_i hle
    rw [setLast, List.dropLast_concat, inR_app, inR_app, inR_one, inR_one]
    have : (decide (l ≤ x) && decide (x ≤ l)) = true → (decide (l ≤ x) && decide (x ≤ e)) = true := by simp; lia
    cases h1 : (decide (l ≤ x) && decide (x ≤ l)) <;> cases h2 : (decide (l ≤ x) && decide (x ≤ e)) <;> simp_all
  · have : (decide (l ≤ x) && decide (x ≤ e)) = false := by simp; lia
    rw [this, Bool.or_false]
theorem Rel.cls {mem cls held more tx} (R : Rel mem cls held) (h : ∀ c, lawSigns.contains c = true → more.contains c = inR (clsR tx) c) : Rel mem (cls ++ [tx]) (held ++ more) := fun x hx => by
  rw [contains_app, R x hx, h x hx, List.flatMap_append, inR_app]
  simp only [List.flatMap_cons, List.flatMap_nil, List.append_nil, Bool.or_assoc]
theorem class_same {n : List Nat} (hn : Sig n) : (lawClass n = none ∧ posix n = none) ∨ ∃ more tx, lawClass n = some more ∧ posix n = some tx ∧ (tx = cc "A-Za-z" ∨ tx = cc "0-9") ∧ ∀ c, lawSigns.contains c = true → more.contains c = inR (clsR tx) c := by
  by_cases h1 : n = cc "alpha"
  · subst h1
    refine .inr ⟨cc "abczA", cc "A-Za-z", by decide +kernel, by decide +kernel, .inl rfl, fun c hc => ?_⟩
    exact of_decide_eq_true (List.all_eq_true.mp (show lawSigns.all (fun c => decide ((cc "abczA").contains c = inR (clsR (cc "A-Za-z")) c)) = true by decide +kernel) c (List.contains_iff_mem.mp hc))
  by_cases h2 : n = cc "digit"
  · subst h2
    refine .inr ⟨cc "0", cc "0-9", by decide +kernel, by decide +kernel, .inr rfl, fun c hc => ?_⟩
    exact of_decide_eq_true (List.all_eq_true.mp (show lawSigns.all (fun c => decide ((cc "0").contains c = inR (clsR (cc "0-9")) c)) = true by decide +kernel) c (List.contains_iff_mem.mp hc))
  refine .inl ⟨by rw [lawClass, if_neg h1, if_neg h2], ?_⟩
  have key : ∀ e ∈ posixT, (e.1.all fun c => sigL.contains c) = true → e.1 = cc "alpha" ∨ e.1 = cc "digit" := by decide +kernel
  rw [posix, List.find?_eq_none.mpr fun e he h => ?_]
  · rfl
  · have h3 : n = e.1 := eq_of_beq h
    rcases key e he (List.all_eq_true.mpr fun c hc => hn c (h3 ▸ hc)) with h4 | h4
    · exact h1 (h3.trans h4)
    · exact h2 (h3.trans h4)

noncomputable def Out (o : Option (List Nat × List Nat)) (b : Option (List (Nat × Nat) × List (List Nat) × List Nat)) (s : List Nat) (ne : Prop) : Prop :=
  match o with
  | none => b = none
  | some (held, r) => ∃ mem cls, b = some (mem, cls, r) ∧ Rel mem cls held ∧ Good mem cls ∧ (mem ≠ [] ∨ cls ≠ []) ∧ r.length < s.length ∧ Sig r
theorem Out.up {o b s s' ne} (h : Out o b s ne) (hl : s.length ≤ s'.length) : Out o b s' ne := by
  unfold Out at *
  cases o with
  | none => exact h
  | some p => obtain ⟨mem, cls, h1, h2, h3, h4, h5, h6⟩ := h; exact ⟨mem, cls, h1, h2, h3, h4, by lia, h6⟩
theorem Good.push {mem cls c} (g : Good mem cls) (hc : sigL.contains c = true) : Good (mem ++ [(c, c)]) cls :=
  ⟨fun m hm => by
    rcases List.mem_append.mp hm with h | h
    · exact g.gm m h
    · rw [List.mem_singleton.mp h]
      have : (decide (c ≠ 47)) = true := sig_all (P := fun c => decide (c ≠ 47)) (by decide +kernel) hc
      exact ⟨Nat.le_refl _, of_decide_eq_true this, hc, hc⟩, g.gc⟩
theorem Good.set {m' cls l e} (g : Good (m' ++ [(l, l)]) cls) (he : sigL.contains e = true) : Good (if l ≤ e then setLast (m' ++ [(l, l)]) (l, e) else m' ++ [(l, l)]) cls := by
  split
  · rename_i hle
    refine ⟨fun m hm => ?_, g.gc⟩
    rw [setLast, List.dropLast_concat] at hm
    rcases List.mem_append.mp hm with h | h
    · exact g.gm m (List.mem_append_left _ h)
    · rw [List.mem_singleton.mp h]
      have := g.gm (l, l) (by simp)
      exact ⟨hle, this.2.1, this.2.2.1, he⟩
  · exact g
theorem main1 : ∀ (n : Nat) (s : List Nat), s.length ≤ n → Sig s → ∀ (first : Bool) (prev : Option Nat) (mem : List (Nat × Nat)) (cls : List (List Nat)) (la : La) (held : List Nat), (first = true ↔ la = .beg) → Prevs prev la mem → Rel mem cls held → Good mem cls → (first = false → mem ≠ [] ∨ cls ≠ []) →
    Out (lawSet s la held) (br s first prev mem cls) s True
  | n, [], hn, hs, first, prev, mem, cls, la, held, hf, hp, hR, hG, hne => by
    rw [ls_nil, br_nil]; rfl
  | 0, c :: r, hn, _, _, _, _, _, _, _, _, _, _, _, _ => by simp at hn
  | n + 1, c :: r, hn, hs, first, prev, mem, cls, la, held, hf, hp, hR, hG, hne => by
    have hn' : r.length ≤ n := by simpa using hn
    by_cases hA : c = 93 ∧ first = false
    · obtain ⟨rfl, rfl⟩ := hA
      have hla : la ≠ .beg := fun h => by have := hf.mpr h; cases this
      rw [ls_93 hla, br_93]
      exact ⟨mem, cls, rfl, hR, hG, hne rfl, by simp, hs.tail⟩
    have hA' : ¬ (c = 93 ∧ la ≠ .beg) := fun ⟨h1, h2⟩ => hA ⟨h1, by cases first with
      | false => rfl
      | true => exact absurd (hf.mp rfl) h2⟩
    by_cases hB : c = 92
    · subst hB
      cases r with
      | nil => rw [ls_92n, br_92n]; rfl
      | cons d r' =>
        rw [ls_92, br_92]
        refine Out.up (main1 n r' (by simp at hn'; lia) hs.tail.tail false (some d) _ cls (.sgn d) _ (by simp) ⟨fun l e => ?_, rfl⟩ (hR.push d) (hG.push hs.tail.head) (by simp)) (by simp; lia)
        cases e; exact ⟨rfl, hs.tail.head, mem, rfl⟩
    by_cases hC : c = 45 ∧ prev.isSome = true ∧ r ≠ [] ∧ r.head? ≠ some 93
    · obtain ⟨rfl, hps, hr0, hr93⟩ := hC
      rw [← hp.2] at hps
      obtain ⟨l, rfl⟩ : ∃ l, la = .sgn l := by
        cases la with
        | sgn l => exact ⟨l, rfl⟩
        | beg => cases hps
        | non => cases hps
      obtain ⟨rfl, hl, m', rfl⟩ := hp.1 l rfl
      cases r with
      | nil => exact absurd rfl hr0
      | cons d r' =>
        have hd93 : d ≠ 93 := by simpa using hr93
        by_cases h92 : d = 92
        · subst h92
          cases r' with
          | nil => rw [ls_45n, br_45n]; rfl
          | cons e r'' =>
            rw [ls_45e, br_45e]
            refine Out.up (main1 n r'' (by simp at hn'; lia) hs.tail.tail.tail false none _ cls .non _ (by simp) ⟨fun l e => (by cases e), rfl⟩ hR.set (hG.set hs.tail.tail.head) (fun _ => .inl ?_)) (by simp; lia)
            split <;> simp [setLast]
        · rw [ls_45 hd93 h92, br_45 hd93 h92]
          refine Out.up (main1 n r' (by simp at hn'; lia) hs.tail.tail false none _ cls .non _ (by simp) ⟨fun l e => (by cases e), rfl⟩ hR.set (hG.set hs.tail.head) (fun _ => .inl ?_)) (by simp; lia)
          split <;> simp [setLast]
    have hC' : ¬ (c = 45 ∧ isSgn la = true ∧ r ≠ [] ∧ r.head? ≠ some 93) := fun ⟨h1, h2, h3, h4⟩ => hC ⟨h1, by rw [← hp.2]; exact h2, h3, h4⟩
    by_cases hD : c = 91 ∧ r.head? = some 58
    · obtain ⟨rfl, h58⟩ := hD
      cases r with
      | nil => cases h58
      | cons d r' =>
        have hd : d = 58 := by simpa using h58
        subst hd
        rw [ls_91, br_91]
        have hrs := rs_len r'
        by_cases h0 : rsOf r' = []
        · rw [if_pos h0, if_pos h0]; rfl
        rw [if_neg h0, if_neg h0]
        by_cases h1 : nmOf r' ≠ [] ∧ (nmOf r').getLast? = some 58
        · rw [if_pos h1, if_pos h1]
          have hsn : Sig (nmOf r').dropLast := fun x hx => hs.tail.tail.nm x ((List.dropLast_sublist _).mem hx)
          rcases class_same hsn with ⟨e1, e2⟩ | ⟨more, tx, e1, e2, e3, e4⟩
          · rw [e1, e2]; rfl
          · rw [e1, e2]
            dsimp only
            refine Out.up (main1 n _ (by simp at hn' ⊢; lia) (fun x hx => hs.tail.tail.rs x (List.mem_of_mem_tail hx)) false none _ _ .non _ (by simp) ⟨fun l e => (by cases e), rfl⟩ (hR.cls e4) ⟨hG.gm, fun c hc => ?_⟩ (by simp)) (by simp; lia)
            rcases List.mem_append.mp hc with h | h
            · exact hG.gc c h
            · rw [List.mem_singleton.mp h]; exact e3
        · rw [if_neg h1, if_neg h1]
          refine Out.up (main1 n _ hn' hs.tail false (some 91) _ cls (.sgn 91) _ (by simp) ⟨fun l e => ?_, rfl⟩ (hR.push 91) (hG.push hs.head) (by simp)) (by simp)
          cases e; exact ⟨rfl, hs.head, mem, rfl⟩
    · rw [ls_else hA' hB hC' hD, br_else hA hB hC hD]
      refine Out.up (main1 n r hn' hs.tail false (some c) _ cls (.sgn c) _ (by simp) ⟨fun l e => ?_, rfl⟩ (hR.push c) (hG.push hs.head) (by simp)) (by simp)
      cases e; exact ⟨rfl, hs.head, mem, rfl⟩
end Pl
end
/- HeadA -/
section
open PySem PySem.W PyProof.Rows
namespace Mine
noncomputable abbrev PWp : Program := PySem.Challenge.pw_jh0008_01
noncomputable def sv (s : String) (t : Nat) : Value := .str (.ofString s) t
noncomputable def iv (n : Int) : Value := .int n 0
noncomputable def rv (a : Nat) : Value := .ref a
noncomputable def en (P : Params) (s : String) (t : Nat) (v : Value) : DictEntry := ⟨PyData.keyHash P (.ofString s), sv s t, v⟩
noncomputable def dct (es : List DictEntry) (n : Nat) : Obj := { cls := .type "dict", data := .dict es.toArray n }
noncomputable def sq (c : String) (vs : List Value) : Obj := { cls := .type c, data := .seq vs.toArray }
noncomputable def fs (c : String) (vs : List Value) : Obj := { cls := .type c, data := .fields vs.toArray }
noncomputable def trip : List (Int × Int × Nat) → List Value
  | [] => []
  | (a, b, c) :: r => iv a :: iv b :: rv c :: trip r
noncomputable def fl (l : List (Int × Int × Nat)) : Obj := { cls := .none, data := .fields (trip l).toArray }
/- the statements of the text, those of its classes among them -/
noncomputable def flat : List Stmt → List Stmt
  | [] => []
  | .ClassDef _ _ _ b _ _ _ _ _ _ _ :: r => b ++ flat r
  | s :: r => s :: flat r
/- the def that begins on a line -/
noncomputable def defOn (n : Nat) : List Stmt → Stmt
  | [] => .Pass ⟨0, 0, 0, 0⟩
  | .FunctionDef a b c d e f g h i p :: r => if p.line = n then .FunctionDef a b c d e f g h i p else defOn n r
  | _ :: r => defOn n r
noncomputable def dParams : Stmt → Arguments
  | .FunctionDef _ a _ _ _ _ _ _ _ _ => a
  | _ => ⟨[], [], none, [], [], none, []⟩
noncomputable def dBody : Stmt → List Stmt
  | .FunctionDef _ _ b _ _ _ _ _ _ _ => b
  | _ => []
noncomputable def dScope : Stmt → Scope
  | .FunctionDef _ _ _ _ _ _ s _ _ _ => s
  | _ => PWp.main.scope
noncomputable def defAt (n : Nat) : Stmt := defOn n (flat (behindTheImports PWp))
noncomputable def svs (t : Nat) : List String → List Value
  | [] => []
  | s :: r => sv s t :: svs (t + 1) r
noncomputable def md0 : Value := sv "__main__" 164
noncomputable def md1 : Value := sv "dulwich.wildmatch" 194
noncomputable def md2 : Value := sv "dulwich.ignore" 480
noncomputable def md3 : Value := sv "law_jh0008_01" 696
noncomputable def cde (name qual : String) (t t2 : Nat) (line argc : Int) (b : Nat) (x y z : Value) : Obj :=
  fs "code" [sv name t, sv qual (t + 1), sv "/claim/cut.py" (t + 2), iv line, iv argc, iv 0, iv 0, iv 3, rv b, .bool true, iv 181, rv (b + 1), .none, x, y, z, iv t2, iv line, sv "/claim/cut.py" (t2 + 1)]
noncomputable def fnr (name qual : String) (d : Stmt) : Obj :=
  { cls := .none, data := .func { name := .ofString name, qualname := .ofString qual, params := dParams d, body := .stmts (dBody d), scope := dScope d, globals := 0, closure := [], defaults := .none, kwdefaults := .none } }
noncomputable def fnw (name qual : String) (d : Stmt) (df md : Value) (c : Nat) : Obj :=
  { cls := .type "function", data := .func { name := .ofString name, qualname := .ofString qual, params := dParams d, body := .stmts (dBody d), scope := dScope d, globals := 3, closure := [], defaults := df, kwdefaults := .none, pyModule := md, code := rv c } }
noncomputable def fn7 (name qual : String) (on : Nat) (line argc : Int) (t : Nat) (df md : Value) (b : Nat) (ns cs : List String) : List Obj :=
  [sq "tuple" [], fl [], sq "tuple" (svs (t + 3) ns), sq "tuple" (svs (t + 3 + ns.length) cs), fnr name qual (defAt on), cde name qual t (t + 3 + ns.length + cs.length) line argc b (rv (b + 2)) (rv (b + 3)) (rv (b + 4)), fnw name qual (defAt on) df md (b + 5)]
noncomputable def fn5 (name qual : String) (on : Nat) (line argc : Int) (t : Nat) (df md : Value) (b : Nat) : List Obj :=
  [sq "tuple" [], fl [], fnr name qual (defAt on), cde name qual t (t + 3) line argc b .none .none (rv (b + 2)), fnw name qual (defAt on) df md (b + 3)]
noncomputable def gls (P : Params) : List DictEntry :=
 [en P "__name__" 165 (sv "law_jh0008_01" 696), en P "__doc__" 166 .none, en P "__package__" 167 .none, en P "__loader__" 168 (.builtin "__main__.__loader__#opaque"), en P "__spec__" 169 .none, en P "__annotations__" 170 (rv 6), en P "__builtins__" 171 (rv 4), en P "__file__" 173 (sv "/claim/cut.py" 172), en P "__cached__" 174 .none, en P "_wall" 193 (rv 21), en P "_escape" 204 (rv 28), en P "_read_octet" 212 (rv 35), en P "_read_class" 224 (rv 42), en P "_read_parts" 237 (rv 49), en P "Expression" 317 (rv 92), en P "_SLASH" 319 (.int 47 318), en P "_POSIX_CLASSES" 356 (rv 97), en P "MalformedPattern" 376 (rv 107), en P "_render" 389 (rv 117), en P "_posix_class" 401 (rv 124), en P "translate_bracket_expression" 417 (rv 131), en P "_translate_segment" 429 (rv 138), en P "_split_segments" 441 (rv 145), en P "_translate_double_asterisk" 450 (rv 152), en P "_collapse_double_asterisks" 459 (rv 159), en P "_translate" 471 (rv 166), en P "translate" 478 (rv 187), en P "translate_wildmatch" 479 (rv 173), en P "_handle_leading_patterns" 489 (rv 180), en P "translate_ignore" 499 (rv 187), en P "Pattern" 571 (rv 233), en P "_relative_to" 579 (rv 244), en P "_last_matching_pattern" 592 (rv 251), en P "_decide" 607 (rv 258), en P "_excluded_inside" 619 (rv 265), en P "IgnoreFilter" 695 (rv 319), en P "_law_pieces" 716 (rv 324), en P "_law_signs" 718 (sv "a]b0-c\\!^[.z:A" 717), en P "_law_next" 727 (rv 331), en P "_law_state" 733 (rv 336), en P "_law_class" 740 (rv 343), en P "_law_span" 746 (rv 348), en P "_law_set" 760 (rv 355), en P "_law_read" 772 (rv 362), en P "_law_fits" 783 (rv 369), en P "law" 789 (rv 374)]
noncomputable def named (m : Value) : List DictEntry → List DictEntry
  | ⟨h, k, _⟩ :: r => ⟨h, k, m⟩ :: r
  | [] => []
/- the names of the module after the first n of them -/
noncomputable def gl (P : Params) (m : Value) (n : Nat) : Obj := dct (named m ((gls P).take n)) n
noncomputable def cds (n : Nat) : Obj := fl (List.take n [(1, 0, 20), (5, 0, 27), (12, 0, 34), (24, 0, 41), (36, 0, 48), (69, 0, 55), (117, 0, 103), (119, 0, 116), (130, 0, 123), (144, 0, 130), (187, 0, 137), (213, 0, 144), (231, 0, 151), (240, 0, 158), (247, 0, 165), (266, 0, 172), (270, 0, 179), (279, 0, 186), (291, 0, 193), (335, 0, 243), (337, 0, 250), (344, 0, 257), (359, 0, 264), (366, 0, 271), (399, 0, 330), (405, 0, 335), (407, 0, 342), (413, 0, 347), (415, 0, 354), (436, 0, 361), (457, 0, 368), (466, 0, 373)])
noncomputable def subs (P : Params) : Obj := { cls := .none, data := .dict #[en P "type.__subclasses__.Exception.0" 373 (iv 107), en P "type.__subclasses__.Exception.n" 374 (iv 1)] 2 }
noncomputable def objsW (P : Params) (g s c : Obj) : List Obj :=
[PySem.W.boot_o_0 P,
  PySem.W.boot_o_1 P,
  s,
  g,
  PySem.W.boot_o_4 P,
  PySem.W.boot_o_5 P,
  PySem.W.boot_o_6 P,
  PySem.W.boot_o_7 P,
  PySem.W.boot_o_8 P,
  PySem.W.boot_o_9 P,
  PySem.W.boot_o_10 P,
  sq "tuple" [],
  c,
  fs "code" [sv "<module>" 182, sv "<module>" 183, sv "/claim/cut.py" 184, iv 1, iv 0, iv 0, iv 0, iv 0, rv 11, .bool false, iv 181, rv 12, .none, .none, .none, .none, iv 185, iv 1, sv "/claim/cut.py" 186],
  { cls := .type "frame", slots := #[some (rv 13), some (rv 3), some (rv 3), none, some (sv "__main__" 164), none, some (rv 0)] }] ++ (
 fn7 "_wall" "_wall" 1 1 1 187 .none md0 15 ["k"] [] ++ (
 fn7 "_escape" "_escape" 5 5 1 196 .none md1 22 ["octets", "out", "octet"] [] ++ (
 fn7 "_read_octet" "_read_octet" 12 12 2 205 .none md1 29 ["text", "i"] [] ++ (
 fn7 "_read_class" "_read_class" 24 24 2 213 .none md1 36 ["text", "i", "negated", "ranges", "low", "high"] [] ++ (
 fn7 "_read_parts" "_read_parts" 36 36 2 225 .none md1 43 ["text", "i", "parts", "kind", "what", "least", "most"] [] ++ (
 [sq "tuple" [],
  fs "builtin_function_or_method" [.builtin "type.__prepare__", .type "type"],
  dct [en P "__module__" 245 (sv "dulwich.wildmatch" 194), en P "__qualname__" 247 (sv "Expression" 246), en P "__firstlineno__" 249 (.int 69 248), en P "__init__" 259 (rv 63), en P "holds" 274 (rv 70), en P "once" 280 (rv 75), en P "ends" 299 (rv 82), en P "match" 307 (rv 89), en P "__static_attributes__" 310 (rv 90)] 9,
  sq "tuple" [],
  fl [(71, 4, 62), (75, 4, 69), (88, 4, 74), (97, 4, 81), (113, 4, 88)],
  fs "code" [sv "Expression" 240, sv "Expression" 241, sv "/claim/cut.py" 242, iv 69, iv 0, iv 0, iv 0, iv 0, rv 53, .bool false, iv 181, rv 54, .none, .none, .none, .none, iv 243, iv 69, sv "/claim/cut.py" 244],
  { cls := .type "frame", slots := #[some (rv 55), some (rv 3), some (rv 52), none, some (sv "dulwich.wildmatch" 194), none, some (rv 0)] }] ++ (
 fn7 "__init__" "Expression.__init__" 71 71 3 250 .none md1 57 ["self", "text", "ignorecase", "_"] [] ++ (
 fn7 "holds" "Expression.holds" 75 75 3 260 .none md1 64 ["self", "what", "octet", "negated", "ranges", "octets", "low", "high", "one"] [] ++ (
 fn5 "once" "Expression.once" 88 88 5 275 .none md1 71 ++ (
 fn7 "ends" "Expression.ends" 97 97 4 281 .none md1 76 ["self", "parts", "name", "places", "kind", "what", "least", "most", "done", "now", "many", "fresh", "place"] [] ++ (
 fn7 "match" "Expression.match" 113 113 2 300 .none md1 83 ["self", "name"] [] ++ (
 [sq "tuple" [sv "ignorecase" 308, sv "parts" 309],
  dct [en P "__module__" 245 (sv "dulwich.wildmatch" 194), en P "__firstlineno__" 249 (.int 69 248), en P "__init__" 259 (rv 63), en P "holds" 274 (rv 70), en P "once" 280 (rv 75), en P "ends" 299 (rv 82), en P "match" 307 (rv 89), en P "__static_attributes__" 310 (rv 90), en P "__dict__" 312 (rv 93), en P "__weakref__" 314 (rv 94), en P "__doc__" 315 .none] 4,
  { cls := .type "type", data := .cls { name := .ofString "Expression", bases := [.type "object"], mro := [rv 92, .type "object"], ns := 91, qualname := .ofString "Expression" }, slots := #[none, none, some (sv "Expression" 238), some (sv "Expression" 246), some (.builtin "object.__new__"), some (.bool true)] },
  fs "getset_descriptor" [sv "__dict__" 311, rv 92, .builtin "function.__dict__", .builtin "function.__dict__#set"],
  fs "getset_descriptor" [sv "__weakref__" 313, rv 92, .builtin "ExceptionGroup.__weakref__", .none],
  fs "super" [rv 92, rv 92, rv 92],
  fs "builtin_function_or_method" [.builtin "object.__init_subclass__", rv 92],
  dct [{ hash := PyData.keyHash P (.ofString "alnum"), key := sv "alnum" 320, val := .bytes #[48, 45, 57, 65, 45, 90, 97, 45, 122] 321 }, { hash := PyData.keyHash P (.ofString "alpha"), key := sv "alpha" 322, val := .bytes #[65, 45, 90, 97, 45, 122] 323 }, { hash := PyData.keyHash P (.ofString "blank"), key := sv "blank" 324, val := .bytes #[92, 116, 32] 325 }, { hash := PyData.keyHash P (.ofString "cntrl"), key := sv "cntrl" 326, val := .bytes #[92, 120, 48, 48, 45, 92, 120, 49, 102, 92, 120, 55, 102] 327 }, { hash := PyData.keyHash P (.ofString "digit"), key := sv "digit" 328, val := .bytes #[48, 45, 57] 329 }, { hash := PyData.keyHash P (.ofString "graph"), key := sv "graph" 330, val := .bytes #[33, 45, 46, 48, 45, 126] 331 }, { hash := PyData.keyHash P (.ofString "lower"), key := sv "lower" 332, val := .bytes #[97, 45, 122] 333 }, { hash := PyData.keyHash P (.ofString "print"), key := sv "print" 334, val := .bytes #[32, 45, 46, 48, 45, 126] 335 }, { hash := PyData.keyHash P (.ofString "punct"), key := sv "punct" 336, val := .bytes #[33, 45, 46, 58, 45, 64, 92, 91, 45, 96, 123, 45, 126] 337 }, { hash := PyData.keyHash P (.ofString "space"), key := sv "space" 338, val := .bytes #[92, 116, 92, 110, 92, 114, 32] 339 }, { hash := PyData.keyHash P (.ofString "upper"), key := sv "upper" 340, val := .bytes #[65, 45, 90] 341 }, { hash := PyData.keyHash P (.ofString "xdigit"), key := sv "xdigit" 342, val := .bytes #[48, 45, 57, 65, 45, 70, 97, 45, 102] 343 }] 12,
  sq "tuple" [.type "Exception"],
  fs "builtin_function_or_method" [.builtin "type.__prepare__", .type "type"],
  dct [en P "__module__" 364 (sv "dulwich.wildmatch" 194), en P "__qualname__" 366 (sv "MalformedPattern" 365), en P "__firstlineno__" 368 (.int 117 367), en P "__static_attributes__" 369 (rv 105)] 4,
  sq "tuple" [],
  fl [],
  fs "code" [sv "MalformedPattern" 359, sv "MalformedPattern" 360, sv "/claim/cut.py" 361, iv 117, iv 0, iv 0, iv 0, iv 0, rv 101, .bool false, iv 181, rv 102, .none, .none, .none, .none, iv 362, iv 117, sv "/claim/cut.py" 363],
  { cls := .type "frame", slots := #[some (rv 103), some (rv 3), some (rv 100), none, some (sv "dulwich.wildmatch" 194), none, some (rv 0)] },
  sq "tuple" [],
  dct [en P "__module__" 364 (sv "dulwich.wildmatch" 194), en P "__firstlineno__" 368 (.int 117 367), en P "__static_attributes__" 369 (rv 105), en P "__weakref__" 371 (rv 108), en P "__doc__" 372 .none] 3,
  { cls := .type "type", data := .cls { name := .ofString "MalformedPattern", bases := [.type "Exception"], mro := [rv 107, .type "Exception", .type "BaseException", .type "object"], ns := 106, qualname := .ofString "MalformedPattern" }, slots := #[some (rv 98), none, some (sv "MalformedPattern" 357), some (sv "MalformedPattern" 365), some (.builtin "Exception.__new__"), some (.bool true)] },
  fs "getset_descriptor" [sv "__weakref__" 370, rv 107, .builtin "ExceptionGroup.__weakref__", .none],
  fs "super" [rv 107, rv 107, rv 107],
  fs "builtin_function_or_method" [.builtin "object.__init_subclass__", rv 107]] ++ (
 fn7 "_render" "_render" 119 119 1 377 .none md1 111 ["members", "out", "low", "high", "a", "b", "piece"] [] ++ (
 fn7 "_posix_class" "_posix_class" 130 130 4 390 .none md1 118 ["pattern", "i", "members", "classes", "start", "j"] [] ++ (
 fn7 "translate_bracket_expression" "translate_bracket_expression" 144 144 2 402 .none md1 125 ["pattern", "i", "n", "negated", "members", "classes", "prev", "first", "c", "body"] [] ++ (
 fn7 "_translate_segment" "_translate_segment" 187 187 1 418 .none md1 132 ["segment", "res", "i", "n", "c", "bracket"] [] ++ (
 fn7 "_split_segments" "_split_segments" 213 213 1 430 .none md1 139 ["pat", "segments", "start", "i", "c", "_bracket"] [] ++ (
 fn7 "_translate_double_asterisk" "_translate_double_asterisk" 231 231 2 442 .none md1 146 ["segments", "i", "remaining"] [] ++ (
 fn7 "_collapse_double_asterisks" "_collapse_double_asterisks" 240 240 1 451 .none md1 153 ["segments", "collapsed", "segment"] [] ++ (
 fn7 "_translate" "_translate" 247 247 1 460 .none md1 160 ["pat", "res", "segments", "i", "segment", "regex_part"] [] ++ (
 fn7 "translate" "translate" 266 266 1 472 .none md1 167 ["pattern"] [] ++ (
 fn7 "_handle_leading_patterns" "_handle_leading_patterns" 270 270 2 482 .none md2 174 ["pat", "res"] [] ++ (
 fn7 "translate" "translate" 279 279 1 490 .none md2 181 ["pat", "res", "prefix_added"] [] ++ (
 [sq "tuple" [],
  fs "builtin_function_or_method" [.builtin "type.__prepare__", .type "type"],
  dct [en P "__module__" 507 (sv "dulwich.ignore" 480), en P "__qualname__" 509 (sv "Pattern" 508), en P "__firstlineno__" 511 (.int 291 510), en P "__init__" 520 (rv 202), en P "__eq__" 528 (rv 209), en P "matches" 537 (rv 216), en P "reaches_inside" 546 (rv 223), en P "match" 554 (rv 230), en P "__static_attributes__" 563 (rv 231)] 9,
  sq "tuple" [],
  fl [(293, 4, 201), (309, 4, 208), (312, 4, 215), (319, 4, 222), (325, 4, 229)],
  fs "code" [sv "Pattern" 502, sv "Pattern" 503, sv "/claim/cut.py" 504, iv 291, iv 0, iv 0, iv 0, iv 0, rv 191, .bool false, iv 181, rv 192, .none, .none, .none, .none, iv 505, iv 291, sv "/claim/cut.py" 506],
  { cls := .type "frame", slots := #[some (rv 193), some (rv 3), some (rv 190), none, some (sv "dulwich.ignore" 480), none, some (rv 0)] },
  sq "tuple" [.bool false]] ++ (
 fn7 "__init__" "Pattern.__init__" 293 293 3 512 (.ref 195) md2 196 ["self", "pattern", "ignorecase"] [] ++ (
 fn7 "__eq__" "Pattern.__eq__" 309 309 2 521 .none md2 203 ["self", "other"] [] ++ (
 fn7 "matches" "Pattern.matches" 312 312 3 529 .none md2 210 ["self", "name", "is_dir"] [] ++ (
 fn7 "reaches_inside" "Pattern.reaches_inside" 319 319 2 538 .none md2 217 ["self", "name", "prefix"] [] ++ (
 fn7 "match" "Pattern.match" 325 325 2 547 .none md2 224 ["self", "path"] [] ++ (
 [sq "tuple" [sv "_describes_contents" 555, sv "_name_re" 556, sv "_re" 557, sv "ignorecase" 558, sv "is_directory_only" 559, sv "is_empty" 560, sv "is_exclude" 561, sv "pattern" 562],
  dct [en P "__module__" 507 (sv "dulwich.ignore" 480), en P "__firstlineno__" 511 (.int 291 510), en P "__init__" 520 (rv 202), en P "__eq__" 528 (rv 209), en P "matches" 537 (rv 216), en P "reaches_inside" 546 (rv 223), en P "match" 554 (rv 230), en P "__static_attributes__" 563 (rv 231), en P "__dict__" 565 (rv 234), en P "__weakref__" 567 (rv 235), en P "__doc__" 568 .none, en P "__hash__" 569 .none] 5,
  { cls := .type "type", data := .cls { name := .ofString "Pattern", bases := [.type "object"], mro := [rv 233, .type "object"], ns := 232, qualname := .ofString "Pattern" }, slots := #[none, none, some (sv "Pattern" 500), some (sv "Pattern" 508), some (.builtin "object.__new__"), some (.bool true)] },
  fs "getset_descriptor" [sv "__dict__" 564, rv 233, .builtin "function.__dict__", .builtin "function.__dict__#set"],
  fs "getset_descriptor" [sv "__weakref__" 566, rv 233, .builtin "ExceptionGroup.__weakref__", .none],
  fs "super" [rv 233, rv 233, rv 233],
  fs "builtin_function_or_method" [.builtin "object.__init_subclass__", rv 233]] ++ (
 fn7 "_relative_to" "_relative_to" 335 335 2 572 .none md2 238 ["path", "depth"] [] ++ (
 fn7 "_last_matching_pattern" "_last_matching_pattern" 337 337 3 580 .none md2 245 ["filters", "name", "is_dir", "depth", "f", "relname", "pattern"] [] ++ (
 fn7 "_decide" "_decide" 344 344 3 593 .none md2 252 ["filters_for", "path", "is_dir", "name", "parts", "i", "parent", "pattern", "filters"] [] ++ (
 fn7 "_excluded_inside" "_excluded_inside" 359 359 2 608 .none md2 259 ["filters", "name", "depth", "f", "relname", "pattern"] [] ++ (
 [sq "tuple" [],
  fs "builtin_function_or_method" [.builtin "type.__prepare__", .type "type"],
  dct [en P "__module__" 627 (sv "dulwich.ignore" 480), en P "__qualname__" 629 (sv "IgnoreFilter" 628), en P "__firstlineno__" 631 (.int 366 630), en P "__init__" 642 (rv 280), en P "append_pattern" 651 (rv 287), en P "find_matching" 659 (rv 294), en P "patterns" 667 (rv 302), en P "is_ignored" 676 (rv 309), en P "may_prune_directory" 684 (rv 316), en P "__static_attributes__" 688 (rv 317)] 10,
  sq "tuple" [],
  fl [(368, 4, 279), (375, 4, 286), (382, 4, 293), (386, 4, 300), (389, 4, 308), (394, 4, 315)],
  fs "code" [sv "IgnoreFilter" 622, sv "IgnoreFilter" 623, sv "/claim/cut.py" 624, iv 366, iv 0, iv 0, iv 0, iv 0, rv 269, .bool false, iv 181, rv 270, .none, .none, .none, .none, iv 625, iv 366, sv "/claim/cut.py" 626],
  { cls := .type "frame", slots := #[some (rv 271), some (rv 3), some (rv 268), none, some (sv "dulwich.ignore" 480), none, some (rv 0)] },
  sq "tuple" [.bool false, .none]] ++ (
 fn7 "__init__" "IgnoreFilter.__init__" 368 368 4 632 (.ref 273) md2 274 ["self", "patterns", "ignorecase", "path", "pattern"] [] ++ (
 fn7 "append_pattern" "IgnoreFilter.append_pattern" 375 375 2 643 .none md2 281 ["self", "pattern", "compiled"] [] ++ (
 fn7 "find_matching" "IgnoreFilter.find_matching" 382 382 2 652 .none md2 288 ["self", "path"] [] ++ (
 fn7 "patterns" "IgnoreFilter.patterns" 386 385 1 660 .none md2 295 ["self"] [] ++ (
 [fs "property" [rv 301, .none, .none, .none, sv "patterns" 667, .bool false]] ++ (
 fn7 "is_ignored" "IgnoreFilter.is_ignored" 389 389 2 668 .none md2 303 ["self", "path"] ["self"] ++ (
 fn7 "may_prune_directory" "IgnoreFilter.may_prune_directory" 394 394 2 677 .none md2 310 ["self", "path"] [] ++ (
 [sq "tuple" [sv "_ignorecase" 685, sv "_path" 686, sv "_patterns" 687],
  dct [en P "__module__" 627 (sv "dulwich.ignore" 480), en P "__firstlineno__" 631 (.int 366 630), en P "__init__" 642 (rv 280), en P "append_pattern" 651 (rv 287), en P "find_matching" 659 (rv 294), en P "patterns" 667 (rv 302), en P "is_ignored" 676 (rv 309), en P "may_prune_directory" 684 (rv 316), en P "__static_attributes__" 688 (rv 317), en P "__dict__" 690 (rv 320), en P "__weakref__" 692 (rv 321), en P "__doc__" 693 .none] 4,
  { cls := .type "type", data := .cls { name := .ofString "IgnoreFilter", bases := [.type "object"], mro := [rv 319, .type "object"], ns := 318, qualname := .ofString "IgnoreFilter" }, slots := #[none, none, some (sv "IgnoreFilter" 620), some (sv "IgnoreFilter" 628), some (.builtin "object.__new__"), some (.bool true)] },
  fs "getset_descriptor" [sv "__dict__" 689, rv 319, .builtin "function.__dict__", .builtin "function.__dict__#set"],
  fs "getset_descriptor" [sv "__weakref__" 691, rv 319, .builtin "ExceptionGroup.__weakref__", .none],
  fs "super" [rv 319, rv 319, rv 319],
  fs "builtin_function_or_method" [.builtin "object.__init_subclass__", rv 319],
  sq "list" [sv "[" 698, sv "]" 699, sv "!" 700, sv "^" 701, sv "-" 702, sv "\\" 703, sv "a" 704, sv "b" 705, sv "c" 706, sv "0" 707, sv "*" 708, sv "?" 709, sv "[:alpha:]" 710, sv "[:digit:]" 711, sv "[:bad:]" 712, sv "[:" 713, sv "z" 714, sv "." 715]] ++ (
 fn7 "_law_next" "_law_next" 399 399 2 719 .none md3 325 ["state", "size", "place"] [] ++ (
 fn5 "_law_state" "_law_state" 405 405 1 728 .none md3 332 ++ (
 fn7 "_law_class" "_law_class" 407 407 1 734 .none md3 337 ["name"] [] ++ (
 fn5 "_law_span" "_law_span" 413 413 2 741 .none md3 344 ++ (
 fn7 "_law_set" "_law_set" 415 415 4 747 .none md3 349 ["text", "at", "last", "held", "sign", "place", "end", "more"] [] ++ (
 fn7 "_law_read" "_law_read" 436 436 1 761 .none md3 356 ["text", "items", "at", "sign", "turned", "found"] [] ++ (
 fn7 "_law_fits" "_law_fits" 457 457 2 773 .none md3 363 ["items", "name", "kind", "turned", "held"] [] ++ (
 fn5 "law" "law" 466 466 1 784 .none md3 370)))))))))))))))))))))))))))))))))))))))))))))))))))

noncomputable def objs (P : Params) : List Obj := objsW P (gl P md3 46) (subs P) (cds 32)
/- every other one -/
noncomputable def alt : List Obj → List Obj
  | a :: _ :: r => a :: alt r
  | r => r
noncomputable def tr : Nat → List Obj → BT
  | u + 1, x :: r => .node x (tr u (alt r)) (tr u (alt r.tail))
  | _, _ => .nil
/- the heap so far, as a tree -/
noncomputable def stg (P : Params) (n : Nat) (g s : Obj) (c : Nat) : BT := tr 10 ((objsW P g s (cds c)).take n)
namespace hd
noncomputable def tree_47 (P : Params) : BT := stg P 15 (boot_o_3 P) (boot_o_2 P) 0
noncomputable def tree_85 (P : Params) : BT := stg P 50 (gl P md1 14) (boot_o_2 P) 5
noncomputable def tree_134 (P : Params) : BT := stg P 97 (gl P md1 16) (boot_o_2 P) 6
noncomputable def tree_151 (P : Params) : BT := stg P 111 (gl P md1 18) (subs P) 7
noncomputable def tree_232 (P : Params) : BT := stg P 188 (gl P md2 30) (subs P) 18
noncomputable def tree_291 (P : Params) : BT := stg P 245 (gl P md2 32) (subs P) 20
noncomputable def tree_314 (P : Params) : BT := stg P 266 (gl P md2 35) (subs P) 23
noncomputable def tree_374 (P : Params) : BT := stg P 324 (gl P md2 36) (subs P) 24
noncomputable def tree_427 (P : Params) : BT := stg P 375 (gl P md3 46) (subs P) 32
noncomputable def env_41 : Env := { scope := PWp.main.scope, locals := mainNs, globals := mainNs, cells := [], code := .ref 13, frame := some 14 }
noncomputable def seg (i n : Nat) : List Stmt := ((behindTheImports PWp).drop i).take n
noncomputable def sts_49 : List Stmt := seg 0 6
noncomputable def sts_86 : List Stmt := seg 6 2
noncomputable def sts_154 : List Stmt := seg 10 14
noncomputable def sts_233 : List Stmt := seg 24 2
noncomputable def sts_292 : List Stmt := seg 26 3
noncomputable def sts_315 : List Stmt := seg 29 1
noncomputable def sts_375 : List Stmt := seg 30 11
noncomputable def heap_46 (P : Params) : Heap := { objs := ⟨(objsW P (boot_o_3 P) (boot_o_2 P) (cds 0)).take 15⟩ }
noncomputable def heap_428 (P : Params) : Heap := { objs := ⟨objs P⟩ }
/- the statements that a reader of the program needs -/
noncomputable def kept : List Stmt → List Stmt
  | a :: _ :: r => a :: (r.take 16 ++ ((r.drop 17).take 1 ++ ((r.drop 19).take 9 ++ r.drop 29)))
  | r => r
noncomputable def view_39 : Program := { PWp with main := { PWp.main with body := kept PWp.main.body } }
end hd
end Mine
end
/- HeadB -/
section
open PySem PySem.W PyProof.Rows
namespace Mine
/- the table of the named classes, its hashes the world's -/
noncomputable def posixL (P : Params) : List DictEntry := [
  ⟨PyData.keyHash P ⟨#[97, 108, 110, 117, 109]⟩, .bytes #[97, 108, 110, 117, 109] 320, .bytes #[48, 45, 57, 65, 45, 90, 97, 45, 122] 321⟩,
  ⟨PyData.keyHash P ⟨#[97, 108, 112, 104, 97]⟩, .bytes #[97, 108, 112, 104, 97] 322, .bytes #[65, 45, 90, 97, 45, 122] 323⟩,
  ⟨PyData.keyHash P ⟨#[98, 108, 97, 110, 107]⟩, .bytes #[98, 108, 97, 110, 107] 324, .bytes #[92, 116, 32] 325⟩,
  ⟨PyData.keyHash P ⟨#[99, 110, 116, 114, 108]⟩, .bytes #[99, 110, 116, 114, 108] 326, .bytes #[92, 120, 48, 48, 45, 92, 120, 49, 102, 92, 120, 55, 102] 327⟩,
  ⟨PyData.keyHash P ⟨#[100, 105, 103, 105, 116]⟩, .bytes #[100, 105, 103, 105, 116] 328, .bytes #[48, 45, 57] 329⟩,
  ⟨PyData.keyHash P ⟨#[103, 114, 97, 112, 104]⟩, .bytes #[103, 114, 97, 112, 104] 330, .bytes #[33, 45, 46, 48, 45, 126] 331⟩,
  ⟨PyData.keyHash P ⟨#[108, 111, 119, 101, 114]⟩, .bytes #[108, 111, 119, 101, 114] 332, .bytes #[97, 45, 122] 333⟩,
  ⟨PyData.keyHash P ⟨#[112, 114, 105, 110, 116]⟩, .bytes #[112, 114, 105, 110, 116] 334, .bytes #[32, 45, 46, 48, 45, 126] 335⟩,
  ⟨PyData.keyHash P ⟨#[112, 117, 110, 99, 116]⟩, .bytes #[112, 117, 110, 99, 116] 336, .bytes #[33, 45, 46, 58, 45, 64, 92, 91, 45, 96, 123, 45, 126] 337⟩,
  ⟨PyData.keyHash P ⟨#[115, 112, 97, 99, 101]⟩, .bytes #[115, 112, 97, 99, 101] 338, .bytes #[92, 116, 92, 110, 92, 114, 32] 339⟩,
  ⟨PyData.keyHash P ⟨#[117, 112, 112, 101, 114]⟩, .bytes #[117, 112, 112, 101, 114] 340, .bytes #[65, 45, 90] 341⟩,
  ⟨PyData.keyHash P ⟨#[120, 100, 105, 103, 105, 116]⟩, .bytes #[120, 100, 105, 103, 105, 116] 342, .bytes #[48, 45, 57, 65, 45, 70, 97, 45, 102] 343⟩]
noncomputable def posix (P : Params) : Obj := { cls := .type "dict", data := .dict (posixL P).toArray 12 }
/- the heap behind the table's statement -/
noncomputable def tree8 (P : Params) : BT := BT.set (BT.ins (hd.tree_134 P) 97 (posix P)) 3 (Obj.putName ⟨#[95, 80, 79, 83, 73, 88, 95, 67, 76, 65, 83, 83, 69, 83]⟩ (PyData.keyHash P ⟨#[95, 80, 79, 83, 73, 88, 95, 67, 76, 65, 83, 83, 69, 83]⟩) (.str ⟨#[95, 80, 79, 83, 73, 88, 95, 67, 76, 65, 83, 83, 69, 83]⟩ 356) (.ref 97))
theorem r_preF (w : World) : (fun os : OsState => Fast.tw15667345088766844465 Fast.tw14364793385576792824 PySem.Challenge.pw_jh0008_01 w 11 (some (.ref 6)) 12 ⟨boot_heap w.params, #[], boot_drawn, boot_toks, os⟩ (topStub PySem.Challenge.pw_jh0008_01)) = fun os => some (⟨hd.heap_46 w.params, #[], {}, 187, os⟩, ⟨Fast.tw11892475500146522536 Fast.tw14364793385576792824 (Code.body (behindTheImports PySem.Challenge.pw_jh0008_01) hd.env_41), (Code.body (behindTheImports PySem.Challenge.pw_jh0008_01) hd.env_41), ⟨0, 0, 0, 0⟩, [topFrame ⟨0, 0, 0, 0⟩]⟩) := by kernel_rfl
theorem r_pre (w : World) (os : OsState) : PySem.W.topGo PySem.treeTable PySem.Challenge.pw_jh0008_01 w 11 (some (.ref 6)) 12 ⟨boot_heap w.params, #[], boot_drawn, boot_toks, os⟩ (topStub PySem.Challenge.pw_jh0008_01) = some (⟨hd.heap_46 w.params, #[], {}, 187, os⟩, ⟨PySem.denote PySem.treeTable (Code.body (behindTheImports PySem.Challenge.pw_jh0008_01) hd.env_41), (Code.body (behindTheImports PySem.Challenge.pw_jh0008_01) hd.env_41), ⟨0, 0, 0, 0⟩, [topFrame ⟨0, 0, 0, 0⟩]⟩) := by
  have h := congrFun (r_preF w) os
  try dsimp only at h
  rw [← Fast.te11892475500146522536, ← Fast.te15667345088766844465, ← Fast.te14364793385576792824] at h
  exact h
theorem r_blockF (w : World) : (fun os : OsState => Fast.tw14374325043358763698 Fast.tw14364793385576792824 PySem.Challenge.pw_jh0008_01 w 11 (some (.ref 6)) 1 1 ⟨hd.heap_46 w.params, #[], {}, 187, os⟩ (blockOf (behindTheImports PySem.Challenge.pw_jh0008_01) hd.env_41 (Code.body (behindTheImports PySem.Challenge.pw_jh0008_01) hd.env_41) ⟨0, 0, 0, 0⟩ [topFrame ⟨0, 0, 0, 0⟩])) = fun os => some (Flow.next, (⟨hd.tree_47 w.params, 15, {}, #[], {}, 187, os⟩ : SharedT).abs, (Code.body (behindTheImports PySem.Challenge.pw_jh0008_01) hd.env_41), ⟨0, 0, 0, 0⟩) := by kernel_rfl
theorem r_block (w : World) (os : OsState) : PySem.W.segRun PySem.treeTable PySem.Challenge.pw_jh0008_01 w 11 (some (.ref 6)) 1 1 ⟨hd.heap_46 w.params, #[], {}, 187, os⟩ (blockOf (behindTheImports PySem.Challenge.pw_jh0008_01) hd.env_41 (Code.body (behindTheImports PySem.Challenge.pw_jh0008_01) hd.env_41) ⟨0, 0, 0, 0⟩ [topFrame ⟨0, 0, 0, 0⟩]) = some (Flow.next, (⟨hd.tree_47 w.params, 15, {}, #[], {}, 187, os⟩ : SharedT).abs, (Code.body (behindTheImports PySem.Challenge.pw_jh0008_01) hd.env_41), ⟨0, 0, 0, 0⟩) := by
  have h := congrFun (r_blockF w) os
  try dsimp only at h
  rw [← Fast.te14374325043358763698, ← Fast.te14364793385576792824] at h
  exact h
theorem r_49F (w : World) : (fun os : OsState => Fast.tw10110043849684766642 Fast.tw14364793385576792824 PySem.Challenge.pw_jh0008_01 w 11 (some (.ref 6)) 1 169 (⟨hd.tree_47 w.params, 15, {}, #[], {}, 187, os⟩ : SharedT) (piecesOf hd.sts_49 hd.env_41 (Code.body (behindTheImports PySem.Challenge.pw_jh0008_01) hd.env_41) ⟨0, 0, 0, 0⟩ [topFrame ⟨0, 0, 0, 0⟩])) = fun os => some (Flow.next, (⟨hd.tree_85 w.params, 50, {}, #[], {}, 238, os⟩ : SharedT), (Code.body (behindTheImports PySem.Challenge.pw_jh0008_01) hd.env_41), ⟨36, 0, 68, 21⟩) := by kernel_rfl
theorem r_49 (w : World) (os : OsState) : PySem.W.segRunT PySem.treeTable PySem.Challenge.pw_jh0008_01 w 11 (some (.ref 6)) 1 169 (⟨hd.tree_47 w.params, 15, {}, #[], {}, 187, os⟩ : SharedT) (piecesOf hd.sts_49 hd.env_41 (Code.body (behindTheImports PySem.Challenge.pw_jh0008_01) hd.env_41) ⟨0, 0, 0, 0⟩ [topFrame ⟨0, 0, 0, 0⟩]) = some (Flow.next, (⟨hd.tree_85 w.params, 50, {}, #[], {}, 238, os⟩ : SharedT), (Code.body (behindTheImports PySem.Challenge.pw_jh0008_01) hd.env_41), ⟨36, 0, 68, 21⟩) := by
  have h := congrFun (r_49F w) os
  try dsimp only at h
  rw [← Fast.te10110043849684766642, ← Fast.te14364793385576792824] at h
  exact h
theorem r_86F (w : World) : (fun os : OsState => Fast.tw10110043849684766642 Fast.tw14364793385576792824 PySem.Challenge.pw_jh0008_01 w 11 (some (.ref 6)) 1 377 (⟨hd.tree_85 w.params, 50, {}, #[], {}, 238, os⟩ : SharedT) (piecesOf hd.sts_86 hd.env_41 (Code.body (behindTheImports PySem.Challenge.pw_jh0008_01) hd.env_41) ⟨36, 0, 68, 21⟩ [topFrame ⟨0, 0, 0, 0⟩])) = fun os => some (Flow.next, (⟨hd.tree_134 w.params, 97, {}, #[], {}, 320, os⟩ : SharedT), (Code.body (behindTheImports PySem.Challenge.pw_jh0008_01) hd.env_41), ⟨115, 0, 115, 6⟩) := by kernel_rfl
theorem r_86 (w : World) (os : OsState) : PySem.W.segRunT PySem.treeTable PySem.Challenge.pw_jh0008_01 w 11 (some (.ref 6)) 1 377 (⟨hd.tree_85 w.params, 50, {}, #[], {}, 238, os⟩ : SharedT) (piecesOf hd.sts_86 hd.env_41 (Code.body (behindTheImports PySem.Challenge.pw_jh0008_01) hd.env_41) ⟨36, 0, 68, 21⟩ [topFrame ⟨0, 0, 0, 0⟩]) = some (Flow.next, (⟨hd.tree_134 w.params, 97, {}, #[], {}, 320, os⟩ : SharedT), (Code.body (behindTheImports PySem.Challenge.pw_jh0008_01) hd.env_41), ⟨115, 0, 115, 6⟩) := by
  have h := congrFun (r_86F w) os
  try dsimp only at h
  rw [← Fast.te10110043849684766642, ← Fast.te14364793385576792824] at h
  exact h
noncomputable def st9 : List Stmt := (behindTheImports PySem.Challenge.pw_jh0008_01).drop 9 |>.take 1
theorem r_9F (w : World) (pos₀ : Pos) : (fun os : OsState => Fast.tw10110043849684766642 Fast.tw14364793385576792824 PySem.Challenge.pw_jh0008_01 w 11 (some (.ref 6)) 1 197 (⟨tree8 w.params, 98, {}, #[], {}, 357, os⟩ : SharedT) (piecesOf st9 hd.env_41 (Code.body (behindTheImports PySem.Challenge.pw_jh0008_01) hd.env_41) pos₀ [topFrame ⟨0, 0, 0, 0⟩])) = fun os => some (Flow.next, (⟨(BT.set (hd.tree_151 w.params) 97 (fun _ => posix w.params)), 111, {}, #[], {}, 377, os⟩ : SharedT), (Code.body (behindTheImports PySem.Challenge.pw_jh0008_01) hd.env_41), ⟨117, 0, 118, 8⟩) := by kernel_rfl
theorem r_9 (w : World) (pos₀ : Pos) (os : OsState) : PySem.W.segRunT PySem.treeTable PySem.Challenge.pw_jh0008_01 w 11 (some (.ref 6)) 1 197 (⟨tree8 w.params, 98, {}, #[], {}, 357, os⟩ : SharedT) (piecesOf st9 hd.env_41 (Code.body (behindTheImports PySem.Challenge.pw_jh0008_01) hd.env_41) pos₀ [topFrame ⟨0, 0, 0, 0⟩]) = some (Flow.next, (⟨(BT.set (hd.tree_151 w.params) 97 (fun _ => posix w.params)), 111, {}, #[], {}, 377, os⟩ : SharedT), (Code.body (behindTheImports PySem.Challenge.pw_jh0008_01) hd.env_41), ⟨117, 0, 118, 8⟩) := by
  have h := congrFun (r_9F w pos₀) os
  try dsimp only at h
  rw [← Fast.te10110043849684766642, ← Fast.te14364793385576792824] at h
  exact h
theorem r_154F (w : World) : (fun os : OsState => Fast.tw10110043849684766642 Fast.tw14364793385576792824 PySem.Challenge.pw_jh0008_01 w 11 (some (.ref 6)) 1 391 (⟨(BT.set (hd.tree_151 w.params) 97 (fun _ => posix w.params)), 111, {}, #[], {}, 377, os⟩ : SharedT) (piecesOf hd.sts_154 hd.env_41 (Code.body (behindTheImports PySem.Challenge.pw_jh0008_01) hd.env_41) ⟨117, 0, 118, 8⟩ [topFrame ⟨0, 0, 0, 0⟩])) = fun os => some (Flow.next, (⟨(BT.set (hd.tree_232 w.params) 97 (fun _ => posix w.params)), 188, {}, #[], {}, 500, os⟩ : SharedT), (Code.body (behindTheImports PySem.Challenge.pw_jh0008_01) hd.env_41), ⟨290, 0, 290, 16⟩) := by kernel_rfl
theorem r_154 (w : World) (os : OsState) : PySem.W.segRunT PySem.treeTable PySem.Challenge.pw_jh0008_01 w 11 (some (.ref 6)) 1 391 (⟨(BT.set (hd.tree_151 w.params) 97 (fun _ => posix w.params)), 111, {}, #[], {}, 377, os⟩ : SharedT) (piecesOf hd.sts_154 hd.env_41 (Code.body (behindTheImports PySem.Challenge.pw_jh0008_01) hd.env_41) ⟨117, 0, 118, 8⟩ [topFrame ⟨0, 0, 0, 0⟩]) = some (Flow.next, (⟨(BT.set (hd.tree_232 w.params) 97 (fun _ => posix w.params)), 188, {}, #[], {}, 500, os⟩ : SharedT), (Code.body (behindTheImports PySem.Challenge.pw_jh0008_01) hd.env_41), ⟨290, 0, 290, 16⟩) := by
  have h := congrFun (r_154F w) os
  try dsimp only at h
  rw [← Fast.te10110043849684766642, ← Fast.te14364793385576792824] at h
  exact h
theorem r_233F (w : World) : (fun os : OsState => Fast.tw10110043849684766642 Fast.tw14364793385576792824 PySem.Challenge.pw_jh0008_01 w 11 (some (.ref 6)) 1 398 (⟨(BT.set (hd.tree_232 w.params) 97 (fun _ => posix w.params)), 188, {}, #[], {}, 500, os⟩ : SharedT) (piecesOf hd.sts_233 hd.env_41 (Code.body (behindTheImports PySem.Challenge.pw_jh0008_01) hd.env_41) ⟨290, 0, 290, 16⟩ [topFrame ⟨0, 0, 0, 0⟩])) = fun os => some (Flow.next, (⟨(BT.set (hd.tree_291 w.params) 97 (fun _ => posix w.params)), 245, {}, #[], {}, 580, os⟩ : SharedT), (Code.body (behindTheImports PySem.Challenge.pw_jh0008_01) hd.env_41), ⟨335, 0, 336, 44⟩) := by kernel_rfl
theorem r_233 (w : World) (os : OsState) : PySem.W.segRunT PySem.treeTable PySem.Challenge.pw_jh0008_01 w 11 (some (.ref 6)) 1 398 (⟨(BT.set (hd.tree_232 w.params) 97 (fun _ => posix w.params)), 188, {}, #[], {}, 500, os⟩ : SharedT) (piecesOf hd.sts_233 hd.env_41 (Code.body (behindTheImports PySem.Challenge.pw_jh0008_01) hd.env_41) ⟨290, 0, 290, 16⟩ [topFrame ⟨0, 0, 0, 0⟩]) = some (Flow.next, (⟨(BT.set (hd.tree_291 w.params) 97 (fun _ => posix w.params)), 245, {}, #[], {}, 580, os⟩ : SharedT), (Code.body (behindTheImports PySem.Challenge.pw_jh0008_01) hd.env_41), ⟨335, 0, 336, 44⟩) := by
  have h := congrFun (r_233F w) os
  try dsimp only at h
  rw [← Fast.te10110043849684766642, ← Fast.te14364793385576792824] at h
  exact h
theorem r_292F (w : World) : (fun os : OsState => Fast.tw10110043849684766642 Fast.tw14364793385576792824 PySem.Challenge.pw_jh0008_01 w 11 (some (.ref 6)) 1 107 (⟨(BT.set (hd.tree_291 w.params) 97 (fun _ => posix w.params)), 245, {}, #[], {}, 580, os⟩ : SharedT) (piecesOf hd.sts_292 hd.env_41 (Code.body (behindTheImports PySem.Challenge.pw_jh0008_01) hd.env_41) ⟨335, 0, 336, 44⟩ [topFrame ⟨0, 0, 0, 0⟩])) = fun os => some (Flow.next, (⟨(BT.set (hd.tree_314 w.params) 97 (fun _ => posix w.params)), 266, {}, #[], {}, 620, os⟩ : SharedT), (Code.body (behindTheImports PySem.Challenge.pw_jh0008_01) hd.env_41), ⟨359, 0, 365, 16⟩) := by kernel_rfl
theorem r_292 (w : World) (os : OsState) : PySem.W.segRunT PySem.treeTable PySem.Challenge.pw_jh0008_01 w 11 (some (.ref 6)) 1 107 (⟨(BT.set (hd.tree_291 w.params) 97 (fun _ => posix w.params)), 245, {}, #[], {}, 580, os⟩ : SharedT) (piecesOf hd.sts_292 hd.env_41 (Code.body (behindTheImports PySem.Challenge.pw_jh0008_01) hd.env_41) ⟨335, 0, 336, 44⟩ [topFrame ⟨0, 0, 0, 0⟩]) = some (Flow.next, (⟨(BT.set (hd.tree_314 w.params) 97 (fun _ => posix w.params)), 266, {}, #[], {}, 620, os⟩ : SharedT), (Code.body (behindTheImports PySem.Challenge.pw_jh0008_01) hd.env_41), ⟨359, 0, 365, 16⟩) := by
  have h := congrFun (r_292F w) os
  try dsimp only at h
  rw [← Fast.te10110043849684766642, ← Fast.te14364793385576792824] at h
  exact h
theorem r_315F (w : World) : (fun os : OsState => Fast.tw10110043849684766642 Fast.tw14364793385576792824 PySem.Challenge.pw_jh0008_01 w 11 (some (.ref 6)) 1 448 (⟨(BT.set (hd.tree_314 w.params) 97 (fun _ => posix w.params)), 266, {}, #[], {}, 620, os⟩ : SharedT) (piecesOf hd.sts_315 hd.env_41 (Code.body (behindTheImports PySem.Challenge.pw_jh0008_01) hd.env_41) ⟨359, 0, 365, 16⟩ [topFrame ⟨0, 0, 0, 0⟩])) = fun os => some (Flow.next, (⟨(BT.set (hd.tree_374 w.params) 97 (fun _ => posix w.params)), 324, {}, #[], {}, 696, os⟩ : SharedT), (Code.body (behindTheImports PySem.Challenge.pw_jh0008_01) hd.env_41), ⟨366, 0, 395, 16⟩) := by kernel_rfl
theorem r_315 (w : World) (os : OsState) : PySem.W.segRunT PySem.treeTable PySem.Challenge.pw_jh0008_01 w 11 (some (.ref 6)) 1 448 (⟨(BT.set (hd.tree_314 w.params) 97 (fun _ => posix w.params)), 266, {}, #[], {}, 620, os⟩ : SharedT) (piecesOf hd.sts_315 hd.env_41 (Code.body (behindTheImports PySem.Challenge.pw_jh0008_01) hd.env_41) ⟨359, 0, 365, 16⟩ [topFrame ⟨0, 0, 0, 0⟩]) = some (Flow.next, (⟨(BT.set (hd.tree_374 w.params) 97 (fun _ => posix w.params)), 324, {}, #[], {}, 696, os⟩ : SharedT), (Code.body (behindTheImports PySem.Challenge.pw_jh0008_01) hd.env_41), ⟨366, 0, 395, 16⟩) := by
  have h := congrFun (r_315F w) os
  try dsimp only at h
  rw [← Fast.te10110043849684766642, ← Fast.te14364793385576792824] at h
  exact h
theorem r_375F (w : World) : (fun os : OsState => Fast.tw10110043849684766642 Fast.tw14364793385576792824 PySem.Challenge.pw_jh0008_01 w 11 (some (.ref 6)) 1 288 (⟨(BT.set (hd.tree_374 w.params) 97 (fun _ => posix w.params)), 324, {}, #[], {}, 696, os⟩ : SharedT) (piecesOf hd.sts_375 hd.env_41 (Code.body (behindTheImports PySem.Challenge.pw_jh0008_01) hd.env_41) ⟨366, 0, 395, 16⟩ [topFrame ⟨0, 0, 0, 0⟩])) = fun os => some (Flow.next, (⟨(BT.set (hd.tree_427 w.params) 97 (fun _ => posix w.params)), 375, {}, #[], {}, 790, os⟩ : SharedT), (Code.body (behindTheImports PySem.Challenge.pw_jh0008_01) hd.env_41), ⟨466, 0, 483, 15⟩) := by kernel_rfl
theorem r_375 (w : World) (os : OsState) : PySem.W.segRunT PySem.treeTable PySem.Challenge.pw_jh0008_01 w 11 (some (.ref 6)) 1 288 (⟨(BT.set (hd.tree_374 w.params) 97 (fun _ => posix w.params)), 324, {}, #[], {}, 696, os⟩ : SharedT) (piecesOf hd.sts_375 hd.env_41 (Code.body (behindTheImports PySem.Challenge.pw_jh0008_01) hd.env_41) ⟨366, 0, 395, 16⟩ [topFrame ⟨0, 0, 0, 0⟩]) = some (Flow.next, (⟨(BT.set (hd.tree_427 w.params) 97 (fun _ => posix w.params)), 375, {}, #[], {}, 790, os⟩ : SharedT), (Code.body (behindTheImports PySem.Challenge.pw_jh0008_01) hd.env_41), ⟨466, 0, 483, 15⟩) := by
  have h := congrFun (r_375F w) os
  try dsimp only at h
  rw [← Fast.te10110043849684766642, ← Fast.te14364793385576792824] at h
  exact h
end Mine
end
/- HeadC -/
section
open PySem PySem.W PyProof.Rows
namespace Mine
noncomputable abbrev PW : Program := PySem.Challenge.pw_jh0008_01
/- from one state and thread the run comes to another in so many steps or fewer -/
noncomputable def Goes (w : World) (K : Nat) (s : SharedT) (t : Thread) (s' : SharedT) (t' : Thread) : Prop :=
  ∀ N r, topRun treeTable PW w 11 (some (.ref 6)) N s'.abs t' = some r → topRun treeTable PW w 11 (some (.ref 6)) (K + N) s.abs t = some r
theorem Goes.trans {w : World} {K K' : Nat} {s s' s'' : SharedT} {t t' t'' : Thread} (a : Goes w K s t s' t') (b : Goes w K' s' t' s'' t'') : Goes w (K + K') s t s'' t'' := fun N r h => by
  rw [Nat.add_assoc]; exact a _ _ (b _ _ h)
theorem Goes.more {w : World} {K K' : Nat} {s s' : SharedT} {t t' : Thread} (a : Goes w K s t s' t') (h : K ≤ K') : Goes w K' s t s' t' := fun N r k => by
  have := topRun_mono (K' - K) _ _ _ _ (a N r k)
  rwa [show K + N + (K' - K) = K' + N by lia] at this
theorem Goes.refl {w : World} {K : Nat} {s : SharedT} {t : Thread} : Goes w K s t s t := fun N r h => by
  have := topRun_mono K _ _ _ _ h
  rwa [Nat.add_comm] at this
/- so many steps, evaluated -/
noncomputable def goT (w : World) : Nat → SharedT → Thread → Option (SharedT × Thread)
  | 0, s, t => some (s, t)
  | n + 1, s, t => match through t with
    | true => none
    | false => match stepOk 11 (some (.ref 6)) t with
      | false => none
      | true => match stepT (denote treeTable) PW w s t with
        | some (s', t') => goT w n s' t'
        | none => none
theorem Goes.of_go {w : World} : ∀ {n : Nat} {s s' : SharedT} {t t' : Thread}, goT w n s t = some (s', t') → Goes w n s t s' t'
  | 0, s, s', t, t', h => by
    cases (show some (s, t) = some (s', t') from h)
    exact .refl
  | n + 1, s, s', t, t', h => by
    have h : (match through t with
    | true => none
    | false => match stepOk 11 (some (.ref 6)) t with
      | false => none
      | true => match stepT (denote treeTable) PW w s t with
        | some (s', t') => goT w n s' t'
        | none => none) = some (s', t') := h
    cases ht : through t with
    | true => rw [ht] at h; cases h
    | false =>
      rw [ht] at h
      cases hk : stepOk 11 (some (.ref 6)) t with
      | false => rw [hk] at h; cases h
      | true =>
        rw [hk] at h
        cases hs : stepT (denote treeTable) PW w s t with
        | none => rw [hs] at h; cases h
        | some r =>
          obtain ⟨s₂, t₂⟩ := r
          rw [hs] at h
          intro N r k
          rw [show n + 1 + N = (n + N) + 1 by lia]
          unfold topRun
          rw [ht, hk, stepT_spec hs]
          exact Goes.of_go (n := n) h N r k
/- the tree comes to a value, whatever it is wrapped in -/
noncomputable def Ev {α : Type} (w : World) (K : Nat) (m : Sem α) (s : SharedT) (a : α) (s' : SharedT) : Prop :=
  ∀ (F : α → Sem Fin) (H : Value → Sem Fin) (gd : Bool → Bool) (lv : List Value → List Value) (pos q : Pos), ∃ pos',
    Goes w K s ⟨m.wrap F H gd lv, .body (behindTheImports PW) hd.env_41, pos, [topFrame q]⟩ s' ⟨F a, .body (behindTheImports PW) hd.env_41, pos', [topFrame q]⟩
section
variable {α β : Type} {w : World} {K K' : Nat} {s s' s'' : SharedT}
theorem Ev.pure {a : α} : Ev w K (Pure.pure a : Sem α) s a s := fun F H gd lv pos q => ⟨pos, .refl⟩
theorem Ev.more {m : Sem α} {a : α} (x : Ev w K m s a s') (h : K ≤ K') : Ev w K' m s a s' := fun F H gd lv pos q =>
  let ⟨p, g⟩ := x F H gd lv pos q
  ⟨p, g.more h⟩
theorem Ev.bind {m : Sem α} {f : α → Sem β} {a : α} {b : β} (x : Ev w K m s a s') (y : Ev w K' (f a) s' b s'') : Ev w (K + K') (m >>= f) s b s'' := fun F H gd lv pos q => by
  obtain ⟨p1, g1⟩ := x (fun a => (f a).wrap F H gd lv) H gd lv pos q
  obtain ⟨p2, g2⟩ := y F H gd lv p1 q
  refine ⟨p2, ?_⟩
  have e : (m >>= f).wrap F H gd lv = m.wrap (fun a => (f a).wrap F H gd lv) H gd lv := by
    rw [Sem.bind_eq_wrap', Sem.wrap_wrap]; rfl
  rw [e]
  exact g1.trans g2
theorem Ev.keep {m : Sem α} {a : α} {vs : List Value} (x : Ev w K m s a s') : Ev w K (m.keep vs) s a s' := fun F H gd lv pos q => by
  obtain ⟨p1, g1⟩ := x F H gd (fun l => lv (vs ++ l)) pos q
  refine ⟨p1, ?_⟩
  rw [Sem.keep_eq_wrap, Sem.wrap_wrap]
  exact g1
theorem Ev.holding {m : Sem α} {a : α} {vs : List Value} (x : Ev w K m s a s') : Ev w K (PySem.holding vs m) s a s' := by
  show Ev w K (match vs.filter _ with | [] => m | refs => m.keep refs) s a s'
  cases vs.filter _ with
  | nil => exact x
  | cons => exact x.keep
/- by evaluation -/
theorem Ev.of_go {m : Sem α} {a : α} {n : Nat} (g : Pos → Pos) (h : ∀ (F : α → Sem Fin) (H : Value → Sem Fin) (gd : Bool → Bool) (lv : List Value → List Value) (pos q : Pos),
    goT w n s ⟨m.wrap F H gd lv, .body (behindTheImports PW) hd.env_41, pos, [topFrame q]⟩ = some (s', ⟨F a, .body (behindTheImports PW) hd.env_41, g pos, [topFrame q]⟩)) : Ev w n m s a s' :=
  fun F H gd lv pos q => ⟨g pos, .of_go (h F H gd lv pos q)⟩
end
end Mine
end
/- HeadD -/
section
open PySem PySem.W PyProof.Rows
namespace Mine
noncomputable def goQ (w : World) : Nat → SharedT → Thread → Option (SharedT × Thread)
  | 0, s, t => some (s, t)
  | n + 1, s, t => match through t with
    | true => none
    | false => match Fast.tw6613529449190102663 11 (some (.ref 6)) t with
      | false => none
      | true => match Fast.tw10156331382660048174 (Fast.tw11892475500146522536 Fast.tw14364793385576792824) PW w s t with
        | some (s', t') => goQ w n s' t'
        | none => none
theorem goQ_eq (w : World) : ∀ n s t, goT w n s t = goQ w n s t
  | 0, s, t => rfl
  | n + 1, s, t => by
    unfold goT goQ
    rw [← Fast.te6613529449190102663, ← Fast.te10156331382660048174, ← Fast.te11892475500146522536, ← Fast.te14364793385576792824]
    cases through t with
    | true => rfl
    | false =>
      cases stepOk 11 (some (.ref 6)) t with
      | false => rfl
      | true =>
        cases stepT (denote treeTable) PW w s t with
        | none => rfl
        | some r => exact goQ_eq w n r.1 r.2
noncomputable abbrev CC : Code := .body (behindTheImports PW) hd.env_41
noncomputable abbrev St (T : BT) (toks : Nat) (os : OsState) : SharedT := ⟨T, 98, {}, #[], {}, toks, os⟩
theorem hash_go (T : BT) (toks : Nat) (os : OsState) (k : Array UInt8) (t : Nat) (F : Int → Sem Fin) (H : Value → Sem Fin) (gd : Bool → Bool) (lv : List Value → List Value) (pos q : Pos) (w : World) :
    goT w 6 (St T toks os) ⟨(Fast.tw17926724086988771738 (.bytes k t)).wrap F H gd lv, CC, pos, [topFrame q]⟩ =
      some (St T (toks + 1) os, ⟨(Fast.tw199310478702765468 (PyData.keyHash w.params ⟨Fast.tw5641932497162447470 (fun x => x.toNat) k⟩)).wrap F H gd lv, CC, pos, [topFrame q]⟩) := by
  revert w
  refine byRow2 "special-get-raises" (fun w => ?_) (fun w => ?_) <;> (rw [goQ_eq]; kernel_rfl)
theorem reduced_key (P : Params) (x : Str) : PySem.pyHashByItsType.reduced (PyData.keyHash P x) = pure (PyData.keyHash P x) := by
  have h : -(2 ^ 63 : Int) ≤ PyData.keyHash P x ∧ PyData.keyHash P x < 2 ^ 63 ∧ PyData.keyHash P x ≠ -1 := by
    unfold PyData.keyHash
    split
    · decide
    · unfold reduceHash
      generalize P.strHash x.cps = i
      split
      · rename_i h
        simp only [Bool.and_eq_true, decide_eq_true_eq] at h
        split
        · decide
        · rename_i n
          refine ⟨h.1, h.2, by simpa using n⟩
      · dsimp only
        by_cases hi : i < 0 <;> simp only [hi, if_true, if_false]
        all_goals generalize hm : ((i.natAbs : Int) % (2 ^ 61 - 1)) = m
        all_goals have h0 : 0 ≤ m := by rw [← hm]; exact Int.emod_nonneg _ (by decide)
        all_goals have h1 : m < 2 ^ 61 - 1 := by rw [← hm]; exact Int.emod_lt_of_pos _ (by decide)
        all_goals split
        all_goals rename_i n
        all_goals simp only [beq_iff_eq] at n
        all_goals (refine ⟨by lia, by lia, by lia⟩)
  unfold PySem.pyHashByItsType.reduced
  obtain ⟨h1, h2, h3⟩ := h
  rw [if_pos (by simp only [Bool.and_eq_true, decide_eq_true_eq]; exact ⟨h1, h2⟩)]
  rw [if_neg (by simpa using h3)]
theorem ev_hash {w : World} {T : BT} {toks : Nat} {os : OsState} {k : Array UInt8} {t : Nat} : Ev w 6 (PySem.pyHash (.bytes k t)) (St T toks os) (PyData.keyHash w.params ⟨k.map UInt8.toNat⟩) (St T (toks + 1) os) := by
  show Ev w (6 + 0) (PySem.pyHashByItsType (.bytes k t)) _ _ _
  rw [Fast.te17926724086988771738]
  have z : Ev w 0 (Fast.tw199310478702765468 (PyData.keyHash w.params ⟨Fast.tw5641932497162447470 (fun x => x.toNat) k⟩)) (St T (toks + 1) os) (PyData.keyHash w.params ⟨k.map UInt8.toNat⟩) (St T (toks + 1) os) := by
    rw [← Fast.te199310478702765468, reduced_key, ← Fast.te5641932497162447470]
    exact .pure
  intro F H gd lv pos q
  obtain ⟨p, y⟩ := z F H gd lv pos q
  exact ⟨p, (Goes.of_go (hash_go T toks os k t F H gd lv pos q w)).trans y⟩
theorem eq_go (T : BT) (toks : Nat) (os : OsState) (b k : Array UInt8) (tb t : Nat) (F : Bool → Sem Fin) (H : Value → Sem Fin) (gd : Bool → Bool) (lv : List Value → List Value) (pos q : Pos) (w : World) :
    goT w 4 (St T toks os) ⟨(PySem.richCompare .Eq (.bytes b tb) (.bytes k t) >>= truthOfDropped).wrap F H gd lv, CC, pos, [topFrame q]⟩ =
      some (St T toks os, ⟨F (Builtin.Bytes.order b.toList k.toList == .eq), CC, pos, [topFrame q]⟩) := by
  revert w
  refine byRow2 "special-get-raises" (fun w => ?_) (fun w => ?_) <;> (rw [goQ_eq]; kernel_rfl)
theorem ev_eq {w : World} {T : BT} {toks : Nat} {os : OsState} {b k : Array UInt8} {tb t : Nat} (h : b.toList ≠ k.toList) : Ev w 4 (PySem.eqBool (.bytes b tb) (.bytes k t)) (St T toks os) false (St T toks os) := by
  unfold PySem.eqBool
  refine Ev.holding ?_
  have n : ((Value.bytes b tb) == (Value.bytes k t)) = false := by
    rw [beq_eq_false_iff_ne]
    intro e
    cases e
    exact h rfl
  rw [n, if_neg (by decide)]
  have e : (Builtin.Bytes.order b.toList k.toList == .eq) = false := by
    rw [order_eq]; simpa using h
  have g : Ev w 4 (PySem.richCompare .Eq (.bytes b tb) (.bytes k t) >>= truthOfDropped) (St T toks os) (Builtin.Bytes.order b.toList k.toList == .eq) (St T toks os) := Ev.of_go id (fun F H gd lv pos q => eq_go T toks os b k tb t F H gd lv pos q w)
  rw [e] at g
  exact g
/- keys that are bytes, none of them this one -/
noncomputable def Off (k : Array UInt8) (es : Array DictEntry) : Prop := ∀ e ∈ es, ∃ b tb, e.key = .bytes b tb ∧ b.toList ≠ k.toList
theorem ev_load {w : World} {T : BT} {toks : Nat} {os : OsState} {o : Obj} {part : Option Value} (hT : T.get 97 = some o) (ha : alive o = some o) : Ev w 1 (loadPart 97 part) (St T toks os) o (St T toks os) := by
  refine Ev.of_go id fun F H gd lv pos q => ?_
  show (match stepT (denote treeTable) PW w (St T toks os) ⟨.load 97 part _, CC, pos, [topFrame q]⟩ with | some (s', t') => goT w 0 s' t' | none => none) = _
  simp only [stepT, show Nat.blt 97 98 = true from rfl, hT, ha]
  rfl
theorem ev_update {w : World} {T : BT} {toks : Nat} {os : OsState} {o : Obj} {part : Option Value} {f : Obj → Obj} (hT : T.get 97 = some o) (ha : alive o = some o) : Ev w 1 (updatePart 97 part f) (St T toks os) () (St (T.set 97 f) toks os) := by
  refine Ev.of_go id fun F H gd lv pos q => ?_
  show (match stepT (denote treeTable) PW w (St T toks os) ⟨.update 97 part f _, CC, pos, [topFrame q]⟩ with | some (s', t') => goT w 0 s' t' | none => none) = _
  simp only [stepT, show Nat.blt 97 98 = true from rfl, hT, ha]
  rfl
theorem ev_rule {w : World} {s : SharedT} {tag : String} : Ev w 1 (rule tag) s () s := by
  obtain ⟨T, n, life, gens, drawn, toks, os⟩ := s
  exact Ev.of_go id fun F H gd lv pos q => rfl
noncomputable def dic (es : Array DictEntry) (ep : Nat) : Obj := { cls := .type "dict", data := .dict es ep }
theorem ev_epoch {w : World} {T : BT} {toks : Nat} {os : OsState} {es : Array DictEntry} {ep : Nat} {part : Option Value} (hT : T.get 97 = some (dic es ep)) : Ev w 1 (dictEpoch 97 part) (St T toks os) ep (St T toks os) := by
  unfold dictEpoch
  exact Ev.bind (K := 1) (K' := 0) (ev_load hT rfl) (by exact Ev.pure)
theorem ev_entries {w : World} {T : BT} {toks : Nat} {os : OsState} {es : Array DictEntry} {ep : Nat} {part : Option Value} (hT : T.get 97 = some (dic es ep)) : Ev w 1 (dictEntries 97 part) (St T toks os) es (St T toks os) := by
  unfold dictEntries
  exact Ev.bind (K := 1) (K' := 0) (ev_load hT rfl) (by exact Ev.pure)
theorem ev_for {w : World} {s : SharedT} (f : Nat → Option (Option Nat) × Unit → Sem (ForInStep (Option (Option Nat) × Unit))) (h : ∀ i, Ev w 10 (f i (none, ())) s (.yield (none, ())) s) :
    ∀ l : List Nat, Ev w (10 * l.length) (forIn l (none, ()) f) s (none, ()) s
  | [] => by rw [List.forIn_nil]; exact Ev.pure
  | i :: l => by
    rw [List.forIn_cons]
    exact (Ev.bind (h i) (ev_for f h l)).more (by simp only [List.length_cons]; lia)
theorem ev_walk {w : World} {T : BT} {toks : Nat} {os : OsState} {es : Array DictEntry} {ep : Nat} {k : Array UInt8} {t : Nat} {h : Int} (hT : T.get 97 = some (dic es ep)) (ho : Off k es) (l : List Nat) :
    Ev w (10 * l.length) (dictWalkPlain 97 (.bytes k t) h es l) (St T toks os) none (St T toks os) := by
  unfold dictWalkPlain
  refine Ev.bind (K' := 0) (ev_for _ (fun i => ?_) l) (by exact Ev.pure)
  cases hi : es[i]? with
  | none => exact Ev.more .pure (Nat.zero_le 10)
  | some e =>
    dsimp only
    by_cases he : (e.hash == h) = true
    · rw [if_pos he]
      obtain ⟨b, tb, hk, hne⟩ := ho e (Array.mem_of_getElem? hi)
      rw [hk]
      refine (Ev.bind (ev_epoch hT) (Ev.bind (ev_eq hne) (Ev.bind (K' := 1) (ev_epoch hT) ?_))).more (by decide)
      rw [if_neg (by simp)]
      try dsimp only
      rw [if_neg (by decide)]
      exact Ev.bind (K' := 0) ev_rule Ev.pure
    · rw [if_neg he]
      exact Ev.more .pure (Nat.zero_le 10)
theorem ev_find {w : World} {T : BT} {toks : Nat} {os : OsState} {es : Array DictEntry} {ep : Nat} {k : Array UInt8} {t : Nat} {h : Int} (hT : T.get 97 = some (dic es ep)) (ho : Off k es) :
    Ev w (1 + 10 * es.size) (dictFind 97 (.bytes k t) h) (St T toks os) none (St T toks os) := by
  unfold dictFind
  refine Ev.holding ?_
  refine Ev.bind (ev_entries hT) ?_
  dsimp only
  have e : ((Value.bytes k t :: List.filterMap (fun i => Option.map (fun x => x.key) es[i]?) (placesWithHash es.size (fun i => Option.map (fun x => x.hash) es[i]?) h)).all carriedByValue) = true := by
    rw [List.all_cons]
    refine Bool.and_eq_true_iff.mpr ⟨rfl, List.all_eq_true.mpr fun v hv => ?_⟩
    obtain ⟨i, _, hv⟩ := List.mem_filterMap.mp hv
    obtain ⟨x, hx, rfl⟩ := Option.map_eq_some_iff.mp hv
    obtain ⟨b, tb, hk, _⟩ := ho x (Array.mem_of_getElem? hx)
    rw [hk]; rfl
  rw [if_pos e]
  refine (ev_walk hT ho _).more (Nat.mul_le_mul_left 10 ?_)
  unfold placesWithHash
  exact Nat.le_trans (List.length_filter_le ..) (by rw [List.length_range]; exact Nat.le_refl _)
end Mine
end
/- HeadE -/
section
open PySem PySem.W PyProof.Rows
namespace Mine
theorem set_ins (o : Obj) (f : Obj → Obj) : ∀ (t : BT) (a : Nat), ((t.ins a o).get a).isSome = true → (t.ins a o).set a f = t.ins a (f o)
  | .nil, a, h => by
    have e : (BT.nil.ins a o) = .node o .nil .nil := rfl
    rw [e, BT.get_node] at h
    have ha : a = 0 := by
      by_cases q : a = 0
      · exact q
      · exfalso; revert h; by_cases p : a % 2 = 1 <;> simp [q, p, BT.get]
    subst ha
    rfl
  | .node v l r, a, h => by
    rw [BT.ins_node] at h ⊢
    rw [BT.ins_node]
    by_cases ha : a = 0
    · subst ha; simp only [if_true]; rw [BT.set_node]; simp
    · rw [if_neg ha] at h ⊢
      rw [if_neg ha]
      by_cases pa : a % 2 = 1
      · rw [if_pos pa] at h ⊢
        rw [if_pos pa, BT.set_node, if_neg ha, if_pos pa]
        rw [BT.get_node, if_neg ha, if_pos pa] at h
        rw [set_ins o f l _ h]
      · rw [if_neg pa] at h ⊢
        rw [if_neg pa, BT.set_node, if_neg ha, if_neg pa]
        rw [BT.get_node, if_neg ha, if_neg pa] at h
        rw [set_ins o f r _ h]
theorem get_ins_self (o : Obj) (t : BT) (a : Nat) (h : ((t.ins a o).get a).isSome = true) : (t.ins a o).get a = some o := by
  rw [BT.get_ins o t a h a, if_pos rfl]
/- a place that can take an object -/
noncomputable def Room (T : BT) : Prop := ∀ o, ((T.ins 97 o).get 97).isSome = true
noncomputable abbrev DT (T : BT) (es : Array DictEntry) (ep : Nat) : BT := T.ins 97 (dic es ep)
theorem get_DT {T : BT} (hT : Room T) (es : Array DictEntry) (ep : Nat) : (DT T es ep).get 97 = some (dic es ep) := get_ins_self _ _ _ (hT _)
theorem ev_push {w : World} {T : BT} {toks : Nat} {os : OsState} {es : Array DictEntry} {ep : Nat} {part : Option Value} {e : DictEntry} (hT : Room T) (hz : es.size ≤ 100) :
    Ev w 3 (updateDictKeys 97 (·.push e) part) (St (DT T es ep) toks os) () (St (DT T (es.push e) (ep + 1)) toks os) := by
  unfold updateDictKeys
  refine Ev.bind (K := 1) (K' := 2) (ev_load (get_DT hT es ep) rfl) ?_
  show Ev w (1 + 1) (updatePart 97 part (Obj.mapDictKeys (·.push e)) >>= fun _ => lookBehind 97 part) _ _ _
  refine Ev.bind (K := 1) (K' := 1) (ev_update (get_DT hT es ep) rfl) ?_
  rw [show (DT T es ep).set 97 (Obj.mapDictKeys (·.push e)) = DT T (es.push e) (ep + 1) from set_ins _ _ _ _ (hT _)]
  unfold lookBehind
  refine Ev.bind (K := 1) (K' := 0) (ev_load (get_DT hT _ _) rfl) ?_
  rw [show (dic (es.push e) (ep + 1)).data.pastItsLine = none from pastItsLine_dict (by rw [Array.size_push, sizeLine_eq]; lia)]
  exact Ev.pure
theorem ev_dictSet {w : World} {T : BT} {toks : Nat} {os : OsState} {es : Array DictEntry} {ep : Nat} {k : Array UInt8} {t : Nat} {v : Value} (hT : Room T) (hz : es.size ≤ 100) (ho : Off k es) :
    Ev w 1100 (dictSet 97 (.bytes k t) v) (St (DT T es ep) toks os) () (St (DT T (es.push ⟨PyData.keyHash w.params ⟨k.map UInt8.toNat⟩, .bytes k t, v⟩) (ep + 1)) (toks + 1) os) := by
  unfold dictSet
  refine Ev.holding ?_
  refine (Ev.bind (K' := 1090) ev_hash ?_).more (by decide)
  unfold dictSetHashed
  refine Ev.holding ?_
  refine (Ev.bind (K' := 4) ((ev_find (get_DT hT es ep) ho).more (K' := 1001) (by lia)) ?_).more (by decide)
  exact Ev.bind (K := 1) (K' := 3) ev_rule (ev_push hT hz)
/- the entries that a list of keys and values makes -/
noncomputable def ents (P : Params) (l : List (Array UInt8 × Nat × Value)) : List DictEntry := l.map fun x => ⟨PyData.keyHash P ⟨x.1.map UInt8.toNat⟩, .bytes x.1 x.2.1, x.2.2⟩
theorem ev_sets {w : World} {T : BT} {os : OsState} (hT : Room T) : ∀ (l : List (Array UInt8 × Nat × Value)) (es : Array DictEntry) (ep toks : Nat), es.size + l.length ≤ 100 →
    (∀ x ∈ l, Off x.1 es) → l.Pairwise (fun x y => x.1.toList ≠ y.1.toList) →
    Ev w (1100 * l.length) (forIn (l.map fun x => (Value.bytes x.1 x.2.1, x.2.2)) PUnit.unit fun x r => do dictSet 97 x.1 x.2; pure (ForInStep.yield PUnit.unit)) (St (DT T es ep) toks os) PUnit.unit
      (St (DT T (es ++ (ents w.params l).toArray) (ep + l.length)) (toks + l.length) os)
  | [], es, ep, toks, _, _, _ => by
    rw [List.map_nil, List.forIn_nil]
    simpa [ents] using (Ev.pure (w := w) (K := 0) (a := PUnit.unit) (s := St (DT T es ep) toks os))
  | x :: l, es, ep, toks, hz, ho, hp => by
    rw [List.map_cons, List.forIn_cons]
    rw [List.length_cons] at hz
    obtain ⟨hx, hp⟩ := List.pairwise_cons.mp hp
    have step := ev_dictSet (w := w) (toks := toks) (os := os) (ep := ep) (t := x.2.1) (v := x.2.2) hT (by lia) (ho x (.head _))
    have rest := ev_sets (w := w) (os := os) hT l (es.push ⟨PyData.keyHash w.params ⟨x.1.map UInt8.toNat⟩, .bytes x.1 x.2.1, x.2.2⟩) (ep + 1) (toks + 1) (by rw [Array.size_push]; lia)
      (fun y hy e he => by
        rcases Array.mem_push.mp he with he | he
        · exact ho y (.tail _ hy) e he
        · exact ⟨x.1, x.2.1, by rw [he], hx y hy⟩) hp
    have e1 : (es.push ⟨PyData.keyHash w.params ⟨x.1.map UInt8.toNat⟩, .bytes x.1 x.2.1, x.2.2⟩) ++ (ents w.params l).toArray = es ++ (ents w.params (x :: l)).toArray := by
      apply Array.ext'
      simp [ents]
    rw [e1, show ep + 1 + l.length = ep + (x :: l).length by rw [List.length_cons]; lia, show toks + 1 + l.length = toks + (x :: l).length by rw [List.length_cons]; lia] at rest
    have s1 : Ev w (1100 + 0) (dictSet 97 (.bytes x.1 x.2.1) x.2.2 >>= fun _ => (pure (ForInStep.yield PUnit.unit) : Sem (ForInStep PUnit))) _ (ForInStep.yield PUnit.unit) _ := Ev.bind step Ev.pure
    exact (Ev.bind s1 rest).more (by rw [List.length_cons]; lia)
/- the table's keys and values, as the statement makes them -/
noncomputable def posixT : List (Array UInt8 × Nat × Value) := [
  (#[97, 108, 110, 117, 109], 320, .bytes #[48, 45, 57, 65, 45, 90, 97, 45, 122] 321),
  (#[97, 108, 112, 104, 97], 322, .bytes #[65, 45, 90, 97, 45, 122] 323),
  (#[98, 108, 97, 110, 107], 324, .bytes #[92, 116, 32] 325),
  (#[99, 110, 116, 114, 108], 326, .bytes #[92, 120, 48, 48, 45, 92, 120, 49, 102, 92, 120, 55, 102] 327),
  (#[100, 105, 103, 105, 116], 328, .bytes #[48, 45, 57] 329),
  (#[103, 114, 97, 112, 104], 330, .bytes #[33, 45, 46, 48, 45, 126] 331),
  (#[108, 111, 119, 101, 114], 332, .bytes #[97, 45, 122] 333),
  (#[112, 114, 105, 110, 116], 334, .bytes #[32, 45, 46, 48, 45, 126] 335),
  (#[112, 117, 110, 99, 116], 336, .bytes #[33, 45, 46, 58, 45, 64, 92, 91, 45, 96, 123, 45, 126] 337),
  (#[115, 112, 97, 99, 101], 338, .bytes #[92, 116, 92, 110, 92, 114, 32] 339),
  (#[117, 112, 112, 101, 114], 340, .bytes #[65, 45, 90] 341),
  (#[120, 100, 105, 103, 105, 116], 342, .bytes #[48, 45, 57, 65, 45, 70, 97, 45, 102] 343)]
theorem ents_posix (P : Params) : (ents P posixT) = posixL P := by kernel_rfl
theorem posix_apart : posixT.Pairwise (fun x y => x.1.toList ≠ y.1.toList) := by decide +kernel
theorem room_134 (P : Params) : Room (hd.tree_134 P) := fun o => by kernel_rfl
noncomputable def st8 : Stmt := ((behindTheImports PySem.Challenge.pw_jh0008_01)[8]?).getD (.Pass default)
end Mine
end
/- HeadF -/
section
open PySem PySem.W PyProof.Rows
namespace Mine
noncomputable def dictKs : Stmt → List (Option PySem.Expr)
  | .Assign _ (.Dict ks _ _) _ => ks
  | _ => []
noncomputable def dictVs : Stmt → List PySem.Expr
  | .Assign _ (.Dict _ vs _) _ => vs
  | _ => []
noncomputable def dictP : Stmt → Pos
  | .Assign _ (.Dict _ _ p) _ => p
  | _ => default
noncomputable def assignP : Stmt → Pos
  | .Assign _ _ p => p
  | _ => default
noncomputable def K8 : List (Option PySem.Expr) := dictKs st8
noncomputable def V8 : List PySem.Expr := dictVs st8
noncomputable def D8 : Pos := dictP st8
noncomputable def P8 : Pos := assignP st8
theorem st8_is : st8 = .Assign [.Name (Str.ofString "_POSIX_CLASSES") ⟨116, 0, 116, 14⟩] (.Dict K8 V8 D8) P8 := by kernel_rfl
noncomputable def items8 : List (Option (Sem Value) × Sem Value) := (evalEachOpt K8 hd.env_41).zip ((evalEach V8 hd.env_41).map fun v => do let x ← v; standAt D8; pure x)
noncomputable def prs8 : List (Sem Value × Sem Value) := items8.filterMap fun x => x.1.map (·, x.2)
theorem display_is : dictDisplay items8 = ((subDict prs8 >>= fun d => pure (some d)) >>= fun r => match r with | some d => pure (.ref d) | none => newDict) := by kernel_rfl
theorem exec8 : exec st8 hd.env_41 = (do
    standAt P8
    let v ← (do standAt D8; dictDisplay items8)
    standAt ⟨116, 0, 116, 14⟩
    bindName hd.env_41 (Str.ofString "_POSIX_CLASSES") v
    pure .next) := by
  rw [st8_is, exec_Assign_Name _ _ _ _ _ (by rfl)]
  rfl
theorem prs_len : prs8.length = 12 := by kernel_rfl
end Mine
end
/- HeadG -/
section
open PySem PySem.W PyProof.Rows
namespace Mine
theorem pairs_go (T : BT) (os : OsState) (F : List (Value × Value) → Sem Fin) (H : Value → Sem Fin) (gd : Bool → Bool) (lv : List Value → List Value) (pos q : Pos) (w : World) :
    goT w 36 (St T 320 os) ⟨(evalPairs prs8).wrap F H gd lv, CC, pos, [topFrame q]⟩ =
      some (St T 344 os, ⟨F (posixT.map fun x => (Value.bytes x.1 x.2.1, x.2.2)), CC, D8, [topFrame q]⟩) := by
  rw [goQ_eq]; kernel_rfl
theorem bind_go (os : OsState) (F : Unit → Sem Fin) (H : Value → Sem Fin) (gd : Bool → Bool) (lv : List Value → List Value) (pos q : Pos) (w : World) :
    goT w 6 (St (BT.ins (hd.tree_134 w.params) 97 (posix w.params)) 356 os) ⟨(bindName hd.env_41 (Str.ofString "_POSIX_CLASSES") (.ref 97)).wrap F H gd lv, CC, pos, [topFrame q]⟩ =
      some (St (tree8 w.params) 357 os, ⟨F (), CC, pos, [topFrame q]⟩) := by
  rw [goQ_eq]; kernel_rfl
theorem ev_standAt {w : World} {T : BT} {n toks : Nat} {os : OsState} {p : Pos} : Ev w 1 (standAt p) ⟨T, n, {}, #[], {}, toks, os⟩ () ⟨T, n, {}, #[], {}, toks, os⟩ :=
  Ev.of_go (fun _ => p) fun F H gd lv pos q => rfl
theorem ev_alloc {w : World} {T : BT} {toks : Nat} {os : OsState} {o : Obj} (hT : (T.ins 97 o).get 97 = some o) : Ev w 1 (alloc o) ⟨T, 97, {}, #[], {}, toks, os⟩ 97 (St (T.ins 97 o) toks os) := by
  refine Ev.of_go id fun F H gd lv pos q => ?_
  show (match stepT (denote treeTable) PW w ⟨T, 97, {}, #[], {}, toks, os⟩ ⟨.alloc o _, CC, pos, [topFrame q]⟩ with | some (s', t') => goT w 0 s' t' | none => none) = _
  simp only [stepT, hT]
  rfl
theorem room (P : Params) : Room (hd.tree_134 P) := room_134 P
theorem ev_subDict (w : World) (os : OsState) : Ev w 13300 (subDict prs8) ⟨hd.tree_134 w.params, 97, {}, #[], {}, 320, os⟩ 97 (St (BT.ins (hd.tree_134 w.params) 97 (posix w.params)) 356 os) := by
  unfold subDict
  refine (Ev.bind (K' := 13236) (ev_alloc (get_ins_self _ _ _ (room w.params _))) ?_).more (by decide)
  refine Ev.more (K' := 13236) (K := 13236 + 0) (Ev.bind (a := ()) (s' := St (BT.ins (hd.tree_134 w.params) 97 (posix w.params)) 356 os) (Ev.holding ?_) (by exact Ev.pure)) (by decide)
  rw [if_pos (by rw [prs_len]; decide)]
  refine Ev.bind (K := 36) (K' := 13200) (Ev.of_go (fun _ => D8) fun F H gd lv pos q => pairs_go _ os F H gd lv pos q w) ?_
  refine Ev.holding ?_
  refine Ev.more (K' := 13200) (K := 13200 + 0) (Ev.bind (a := PUnit.unit) (s' := St (BT.ins (hd.tree_134 w.params) 97 (posix w.params)) 356 os) ?_ (by exact Ev.pure)) (by decide)
  have h := ev_sets (w := w) (os := os) (room w.params) posixT #[] 0 344 (by decide +kernel) (fun x hx e he => by simp at he) posix_apart
  rw [show DT (hd.tree_134 w.params) (#[] ++ (ents w.params posixT).toArray) (0 + posixT.length) = BT.ins (hd.tree_134 w.params) 97 (posix w.params) by
    rw [ents_posix, Array.empty_append]; rfl] at h
  exact h
theorem ev_stmt (w : World) (os : OsState) : Ev w 13400 (exec st8 hd.env_41) ⟨hd.tree_134 w.params, 97, {}, #[], {}, 320, os⟩ Flow.next (St (tree8 w.params) 357 os) := by
  rw [exec8]
  refine (Ev.bind (K' := 13310) ev_standAt ?_).more (by decide)
  refine (Ev.bind (K := 13301) (K' := 7) (a := .ref 97) (s' := St (BT.ins (hd.tree_134 w.params) 97 (posix w.params)) 356 os) ?_ ?_).more (by decide)
  · refine (Ev.bind (K' := 13300) ev_standAt ?_).more (by decide)
    rw [display_is]
    refine Ev.bind (K := 13300) (K' := 0) (a := some 97) (Ev.bind (K := 13300) (K' := 0) (ev_subDict w os) Ev.pure) ?_
    exact Ev.pure
  · refine (Ev.bind (K' := 6) ev_standAt ?_).more (by decide)
    exact Ev.bind (K := 6) (K' := 0) (Ev.of_go id fun F H gd lv pos q => bind_go os F H gd lv pos q w) Ev.pure
theorem run_8 (w : World) (os : OsState) (rest : List Stmt) (pos q : Pos) : ∃ pos', Goes w 13400 ⟨hd.tree_134 w.params, 97, {}, #[], {}, 320, os⟩ (restOf (st8 :: rest) hd.env_41 CC pos [topFrame q]) (St (tree8 w.params) 357 os) (restOf rest hd.env_41 CC pos' [topFrame q]) := by
  obtain ⟨p, g⟩ := ev_stmt w os (fun f => match f with | .next => (execs rest hd.env_41).wrap doneF (leaveH hd.env_41) id id | f => doneF f) (leaveH hd.env_41) id id pos q
  refine ⟨p, ?_⟩
  unfold restOf
  rw [execs_cons_wrap]
  exact g
end Mine
end
/- HeadH -/
section
open PySem PySem.W PySem.Calls PyProof.Rows
namespace Mine
noncomputable def heap1 (P : Params) : Heap := ⟨(hd.heap_428 P).objs.setIfInBounds 97 (posix P), (hd.heap_428 P).life⟩
noncomputable def looseS : List Str := [Str.ofString "_POSIX_CLASSES", Str.ofString "translate_wildmatch", Str.ofString "translate_ignore", Str.ofString "IgnoreFilter", Str.ofString "_law_pieces"]
noncomputable abbrev RR : RowW := (PySem.Challenge.rw_jh0008_01.row).toRowW
noncomputable abbrev XtP : Shared → Bool := fun s => xlAt hd.view_39 [] s && recOk (RowW.records RR) s
theorem fin_run (w : World) (os : OsState) : topRun treeTable PW w 11 (some (.ref 6)) 2 (⟨BT.set (hd.tree_427 w.params) 97 (fun _ => posix w.params), 375, {}, #[], {}, 790, os⟩ : SharedT).abs
    ⟨doneF .next, CC, ⟨466, 0, 483, 15⟩, [topFrame ⟨0, 0, 0, 0⟩]⟩ = some ⟨heap1 w.params, #[], {}, 790, os⟩ := by kernel_rfl
theorem body_is : behindTheImports PW = hd.sts_49 ++ (hd.sts_86 ++ (st8 :: (st9 ++ (hd.sts_154 ++ (hd.sts_233 ++ (hd.sts_292 ++ (hd.sts_315 ++ (hd.sts_375 ++ [])))))))) := by kernel_rfl
theorem the_run (w : World) (os : OsState) : topRun treeTable PW w 11 (some (.ref 6)) (12 + (1 + (169 + (377 + (13400 + (197 + (391 + (398 + (107 + (448 + (288 + 2)))))))))))
    ⟨boot_heap w.params, #[], boot_drawn, boot_toks, os⟩ (topStub PW) = some ⟨heap1 w.params, #[], {}, 790, os⟩ := by
  refine go_top (r_pre w os) (piece_block (r_block w os) ?_)
  show topRun treeTable PW w 11 (some (.ref 6)) _ _ (restOf (behindTheImports PW) hd.env_41 CC _ _) = _
  rw [body_is]
  refine piece_app (segRun_of (r_49 w os)) ?_
  refine piece_app (segRun_of (r_86 w os)) ?_
  obtain ⟨p8, g8⟩ := run_8 w os (st9 ++ (hd.sts_154 ++ (hd.sts_233 ++ (hd.sts_292 ++ (hd.sts_315 ++ (hd.sts_375 ++ [])))))) ⟨115, 0, 115, 6⟩ ⟨0, 0, 0, 0⟩
  refine g8 _ _ ?_
  refine piece_app (segRun_of (r_9 w p8 os)) ?_
  refine piece_app (segRun_of (r_154 w os)) ?_
  refine piece_app (segRun_of (r_233 w os)) ?_
  refine piece_app (segRun_of (r_292 w os)) ?_
  refine piece_app (segRun_of (r_315 w os)) ?_
  refine piece_app (segRun_of (r_375 w os)) ?_
  exact piece_nil (fin_run w os)
theorem l_statF (w : World) : (fun os : OsState => (staticsOk (Fast.tw5923862056798008813 PySem.Challenge.pw_jh0008_01.main.body) (boot_heap w.params) (heap1 w.params) && namesBound PySem.Challenge.pw_jh0008_01 (heap1 w.params) && gensDone (⟨heap1 w.params, #[], {}, 790, os⟩ : Shared) && laidKept (boot_heap w.params) (heap1 w.params))) = fun os => true := by kernel_rfl
theorem l_stat (w : World) (os : OsState) : (staticsOk (importedModules PySem.Challenge.pw_jh0008_01.main.body) (boot_heap w.params) (heap1 w.params) && namesBound PySem.Challenge.pw_jh0008_01 (heap1 w.params) && gensDone (⟨heap1 w.params, #[], {}, 790, os⟩ : Shared) && laidKept (boot_heap w.params) (heap1 w.params)) = true := by
  have h := congrFun (l_statF w) os
  try dsimp only at h
  rw [← Fast.te5923862056798008813] at h
  exact h
theorem l_seenF (w : World) : (fun os : OsState => (Fast.tw5160383126252970620 ((Fast.tw3399658132070893891 hd.view_39).map (·.name)) (Fast.tw5991557255702980513 hd.view_39) [] { (⟨heap1 w.params, #[], {}, 790, os⟩ : Shared) with gens := #[] })) = fun os => expectedOf hd.view_39 := by kernel_rfl
theorem l_seen (w : World) (os : OsState) : (seen ((recsOf hd.view_39).map (·.name)) (ownsOf hd.view_39) [] { (⟨heap1 w.params, #[], {}, 790, os⟩ : Shared) with gens := #[] }) = expectedOf hd.view_39 := by
  have h := congrFun (l_seenF w) os
  try dsimp only at h
  rw [← Fast.te5991557255702980513, ← Fast.te3399658132070893891, ← Fast.te5160383126252970620] at h
  exact h
theorem l_bltF (w : World) : (fun os : OsState => ((⟨heap1 w.params, #[], {}, 790, os⟩ : Shared).heap.bltView)) = fun os => bltViewBooted := by kernel_rfl
theorem l_blt (w : World) (os : OsState) : ((⟨heap1 w.params, #[], {}, 790, os⟩ : Shared).heap.bltView) = bltViewBooted := by
  have h := congrFun (l_bltF w) os
  try dsimp only at h
  exact h
theorem l_keysF (w : World) : (fun os : OsState => (Fast.tw10880121769531294198 (⟨heap1 w.params, #[], {}, 790, os⟩ : Shared).heap (Fast.tw821141287760084731 hd.view_39 looseS) ((Fast.tw3399658132070893891 hd.view_39).map (·.name)) ((Fast.tw7409074990110511671 hd.view_39).map (·.1)) ((Fast.tw13664370479719496447 hd.view_39 (Fast.tw821141287760084731 hd.view_39 looseS)).map (·.name)) && Fast.tw14722251495701143533 (⟨heap1 w.params, #[], {}, 790, os⟩ : Shared).heap (Fast.tw5923862056798008813 PySem.Challenge.pw_jh0008_01.main.body) && (⟨heap1 w.params, #[], {}, 790, os⟩ : Shared).heap.isNs mainGlobals && (⟨heap1 w.params, #[], {}, 790, os⟩ : Shared).heap.isNs builtinsNs && Fast.tw10994771534591457954 hd.view_39 (⟨heap1 w.params, #[], {}, 790, os⟩ : Shared).heap && (xlAt hd.view_39 [] (⟨heap1 w.params, #[], {}, 790, os⟩ : Shared) && recOk (RowW.records RR) (⟨heap1 w.params, #[], {}, 790, os⟩ : Shared)) && (if true then (⟨heap1 w.params, #[], {}, 790, os⟩ : Shared).gens.size == 0 else !leftWithCleanup (⟨heap1 w.params, #[], {}, 790, os⟩ : Shared).gens))) = fun os => true := by kernel_rfl
theorem l_keys (w : World) (os : OsState) : (Heap.keysOk (⟨heap1 w.params, #[], {}, 790, os⟩ : Shared).heap (looseW hd.view_39 looseS) ((recsOf hd.view_39).map (·.name)) ((litsOf hd.view_39).map (·.1)) ((clssOf hd.view_39 (looseW hd.view_39 looseS)).map (·.name)) && Heap.accountedOkI (⟨heap1 w.params, #[], {}, 790, os⟩ : Shared).heap (importedModules PySem.Challenge.pw_jh0008_01.main.body) && (⟨heap1 w.params, #[], {}, 790, os⟩ : Shared).heap.isNs mainGlobals && (⟨heap1 w.params, #[], {}, 790, os⟩ : Shared).heap.isNs builtinsNs && tablesOk hd.view_39 (⟨heap1 w.params, #[], {}, 790, os⟩ : Shared).heap && (xlAt hd.view_39 [] (⟨heap1 w.params, #[], {}, 790, os⟩ : Shared) && recOk (RowW.records RR) (⟨heap1 w.params, #[], {}, 790, os⟩ : Shared)) && (if true then (⟨heap1 w.params, #[], {}, 790, os⟩ : Shared).gens.size == 0 else !leftWithCleanup (⟨heap1 w.params, #[], {}, 790, os⟩ : Shared).gens)) = true := by
  have h := congrFun (l_keysF w) os
  try dsimp only at h
  rw [← Fast.te14722251495701143533, ← Fast.te13664370479719496447, ← Fast.te5923862056798008813, ← Fast.te10880121769531294198, ← Fast.te7409074990110511671, ← Fast.te821141287760084731, ← Fast.te3399658132070893891, ← Fast.te10994771534591457954] at h
  exact h
theorem l_tabsF (w : World) : (fun os : OsState => (Fast.tw479339242167458305 hd.view_39 (⟨heap1 w.params, #[], {}, 790, os⟩ : Shared))) = fun os => true := by kernel_rfl
theorem l_tabs (w : World) (os : OsState) : (tabsOk hd.view_39 (⟨heap1 w.params, #[], {}, 790, os⟩ : Shared)) = true := by
  have h := congrFun (l_tabsF w) os
  try dsimp only at h
  rw [← Fast.te479339242167458305] at h
  exact h
theorem l_pinF (w : World) : (fun os : OsState => (Fast.tw16090120013241838585 hd.view_39 (Fast.tw3247288618530077131 hd.view_39) (⟨heap1 w.params, #[], {}, 790, os⟩ : Shared))) = fun os => pinGoodD (Fast.tw3247288618530077131 hd.view_39) := by kernel_rfl
theorem l_pin (w : World) (os : OsState) : (pinSeenD hd.view_39 (drecsOf hd.view_39) (⟨heap1 w.params, #[], {}, 790, os⟩ : Shared)) = pinGoodD (drecsOf hd.view_39) := by
  have h := congrFun (l_pinF w) os
  try dsimp only at h
  rw [← Fast.te3247288618530077131, ← Fast.te16090120013241838585] at h
  exact h
theorem l_plEF (w : World) : (fun os : OsState => (Fast.tw2386780881361962483 hd.view_39 (Fast.tw821141287760084731 hd.view_39 looseS) (⟨heap1 w.params, #[], {}, 790, os⟩ : Shared))) = fun os => plainGoodE hd.view_39 (Fast.tw821141287760084731 hd.view_39 looseS) := by kernel_rfl
theorem l_plE (w : World) (os : OsState) : (plainSeenE hd.view_39 (looseW hd.view_39 looseS) (⟨heap1 w.params, #[], {}, 790, os⟩ : Shared)) = plainGoodE hd.view_39 (looseW hd.view_39 looseS) := by
  have h := congrFun (l_plEF w) os
  try dsimp only at h
  rw [← Fast.te821141287760084731, ← Fast.te2386780881361962483] at h
  exact h
theorem l_plDF (w : World) : (fun os : OsState => (Fast.tw11698064438423848299 hd.view_39 looseS (⟨heap1 w.params, #[], {}, 790, os⟩ : Shared))) = fun os => plainGoodD hd.view_39 looseS := by kernel_rfl
theorem l_plD (w : World) (os : OsState) : (plainSeenD hd.view_39 looseS (⟨heap1 w.params, #[], {}, 790, os⟩ : Shared)) = plainGoodD hd.view_39 looseS := by
  have h := congrFun (l_plDF w) os
  try dsimp only at h
  rw [← Fast.te11698064438423848299] at h
  exact h
theorem l_wideF (w : World) : (fun os : OsState => (Fast.tw7317090234206586261 hd.view_39 (⟨heap1 w.params, #[], {}, 790, os⟩ : Shared))) = fun os => wideGood hd.view_39 := by kernel_rfl
theorem l_wide (w : World) (os : OsState) : (wideSeen hd.view_39 (⟨heap1 w.params, #[], {}, 790, os⟩ : Shared)) = wideGood hd.view_39 := by
  have h := congrFun (l_wideF w) os
  try dsimp only at h
  rw [← Fast.te7317090234206586261] at h
  exact h
theorem l_clsF (w : World) : (fun os : OsState => (Fast.tw7369524293546568484 hd.view_39 looseS (⟨heap1 w.params, #[], {}, 790, os⟩ : Shared))) = fun os => clsGoodW hd.view_39 looseS := by kernel_rfl
theorem l_cls (w : World) (os : OsState) : (clsSeenW hd.view_39 looseS (⟨heap1 w.params, #[], {}, 790, os⟩ : Shared)) = clsGoodW hd.view_39 looseS := by
  have h := congrFun (l_clsF w) os
  try dsimp only at h
  rw [← Fast.te7369524293546568484] at h
  exact h
theorem l_open (w : World) (os : OsState) : openSeen hd.view_39 looseS (importedModules PW.main.body) XtP true ⟨heap1 w.params, #[], {}, 790, os⟩ = openGood hd.view_39 looseS := by
  unfold openSeen openGood
  exact looks_pair (l_seen w os) (looks_pair (l_blt w os) (looks_pair (l_keys w os) (looks_pair (l_tabs w os) (looks_pair (l_pin w os) (looks_pair (l_plE w os) (looks_pair (l_plD w os) (looks_pair (l_wide w os) (l_cls w os))))))))
noncomputable def KA : List Addr := [2, 3, 15, 17, 18, 20, 21, 22, 24, 25, 27, 28, 29, 31, 32, 34, 35, 36, 38, 39, 41, 42, 43, 45, 46, 48, 49, 57, 59, 60, 62, 63, 64, 66, 67, 69, 70, 71, 74, 75, 76, 78, 79, 81, 82, 83, 85, 86, 88, 89, 90, 91, 92, 93, 94, 97, 98, 105, 106, 107, 108, 111, 113, 114, 116, 117, 118, 120, 121, 123, 124, 125, 127, 128, 130, 131, 132, 134, 135, 137, 138, 139, 141, 142, 144, 145, 146, 148, 149, 151, 152, 153, 155, 156, 158, 159, 160, 162, 163, 165, 166, 167, 169, 170, 172, 173, 174, 176, 177, 179, 180, 181, 183, 184, 186, 187, 195, 196, 198, 199, 201, 202, 203, 205, 206, 208, 209, 210, 212, 213, 215, 216, 217, 219, 220, 222, 223, 224, 226, 227, 229, 230, 231, 232, 233, 234, 235, 238, 240, 241, 243, 244, 245, 247, 248, 250, 251, 252, 254, 255, 257, 258, 259, 261, 262, 264, 265, 273, 274, 276, 277, 279, 280, 281, 283, 284, 286, 287, 288, 290, 291, 293, 294, 295, 297, 298, 300, 301, 302, 303, 305, 306, 308, 309, 310, 312, 313, 315, 316, 317, 318, 319, 320, 321, 324, 325, 327, 328, 330, 331, 332, 335, 336, 337, 339, 340, 342, 343, 344, 347, 348, 349, 351, 352, 354, 355, 356, 358, 359, 361, 362, 363, 365, 366, 368, 369, 370, 373, 374]
/- the written part of the heap, the table of the named classes within -/
noncomputable def KP (P : Params) : Frag := KA.map fun a => (a, ((objs P).set 97 (posix P)).getD a (posix P))
theorem KP_keys (P : Params) : KA = (KP P).map (·.1) := by kernel_rfl
theorem KP_looks (w : World) (os : OsState) : KA.map (⟨heap1 w.params, #[], {}, 790, os⟩ : Shared).heap.get? = (KP w.params).map fun p => some p.2 := by kernel_rfl
noncomputable abbrev HK : Hook := kHook KP KA KP_keys
theorem the_left : LeftO PW hd.view_39 looseS XtP HK.obs HK.val 20000 := by
  refine LeftO.of_pieces (m₀ := 11) (ann := some (.ref 6)) (M := 12 + (1 + (169 + (377 + (13400 + (197 + (391 + (398 + (107 + (448 + (288 + 2)))))))))))
    (H₀ := boot_heap) (H₁ := heap1) (gs₀ := Array.mk []) (gs₁ := #[]) (d₀ := boot_drawn) (d₁ := {}) (k₀ := boot_toks) (k₁ := 790) (boot_open (by kernel_rfl) (by rfl) fun s => by kernel_rfl) (fun w => by kernel_rfl) (fun w os => the_run w os) (by kernel_rfl) (fun w => ?_)
  funext os
  exact looks_pair (l_stat w os) (looks_pair (l_open w os) (KP_looks w os))
end Mine
end
/- HeadI -/
section
open PySem PySem.W PySem.Calls PyProof.Rows
namespace Mine
noncomputable def defRec : Stmt → DefRec
  | .FunctionDef n a b _ _ _ sc _ _ p => ⟨n, a, b, sc, p⟩
  | _ => ⟨default, ⟨[], [], none, [], [], none, []⟩, [], default, default⟩
noncomputable def lawD : DefRec := defRec ((PySem.Challenge.pw_jh0008_01.main.body[40]?).getD (.Pass default))
set_option maxHeartbeats 8000000 in
theorem sd_imp : ((moduleNames (OpenLaw.row PySem.Challenge.rw_jh0008_01).prog.main.body).isEmpty || lookedIntoSs (moduleNames (OpenLaw.row PySem.Challenge.rw_jh0008_01).prog.main.body) (OpenLaw.row PySem.Challenge.rw_jh0008_01).prog.main.body) = true := by kernel_rfl
theorem sd_res : namesResolve (OpenLaw.row PySem.Challenge.rw_jh0008_01).prog = true := by kernel_rfl
theorem sd_bnd : (OpenLaw.row PySem.Challenge.rw_jh0008_01).prog.boundNames.all (fun n => !worldNames.contains n) = true := by kernel_rfl
theorem ro_1 : readsOut (OpenLaw.row PySem.Challenge.rw_jh0008_01).prog (OpenLaw.row PySem.Challenge.rw_jh0008_01).prog.main.body "vars" = false := by kernel_rfl
theorem ro_2 : readsOut (OpenLaw.row PySem.Challenge.rw_jh0008_01).prog (OpenLaw.row PySem.Challenge.rw_jh0008_01).prog.main.body "dir" = false := by kernel_rfl
theorem ro_3 : readsOut (OpenLaw.row PySem.Challenge.rw_jh0008_01).prog (OpenLaw.row PySem.Challenge.rw_jh0008_01).prog.main.body "locals" = false := by kernel_rfl
theorem sd_road : noRoadLSs { strict := !(importedModules (OpenLaw.row PySem.Challenge.rw_jh0008_01).prog.main.body).all cThrough.contains, foot := none, bare := (["vars", "dir", "locals"] : List Str).filter (readsOut (OpenLaw.row PySem.Challenge.rw_jh0008_01).prog (OpenLaw.row PySem.Challenge.rw_jh0008_01).prog.main.body) } (OpenLaw.row PySem.Challenge.rw_jh0008_01).prog.main.body = true := by
  rw [List.filter_cons_of_neg (by rw [ro_1]; exact Bool.false_ne_true), List.filter_cons_of_neg (by rw [ro_2]; exact Bool.false_ne_true), List.filter_cons_of_neg (by rw [ro_3]; exact Bool.false_ne_true)]
  kernel_rfl
theorem sd_att : (namesMeet (OpenLaw.row PySem.Challenge.rw_jh0008_01).prog (OpenLaw.row PySem.Challenge.rw_jh0008_01).prog.main.body fun _ n => attrL n) = true := by kernel_rfl
theorem sd_look : looksOpen (OpenLaw.row PySem.Challenge.rw_jh0008_01).prog = true := look_both (look_both (look_both (look_both (look_both (by kernel_rfl) sd_imp) sd_res) sd_bnd) sd_road) sd_att
theorem sd_row : (OpenLaw.row PySem.Challenge.rw_jh0008_01).wellSaid = true := by
  refine look_both (look_both ?_ (by kernel_rfl)) (by kernel_rfl)
  iterate 13 refine look_both ?_ (by kernel_rfl)
  exact sd_look
theorem sd_foot : noRoadLSs { strict := true, foot := some PySem.Challenge.rw_jh0008_01.bound', writes := PySem.Challenge.rw_jh0008_01.writes, may := PySem.Challenge.rw_jh0008_01.may } PySem.Challenge.rw_jh0008_01.footing = true := by kernel_rfl
theorem sd_abv : namesMeet PySem.Challenge.rw_jh0008_01.prog PySem.Challenge.rw_jh0008_01.above (fun _ n => !PySem.Challenge.rw_jh0008_01.own.contains n) = true := by kernel_rfl
theorem sd_law : PySem.Challenge.rw_jh0008_01.wellSaid = true := by
  refine look_both (look_both ?_ sd_abv) (by kernel_rfl)
  iterate 10 refine look_both ?_ (by kernel_rfl)
  refine look_both ?_ sd_foot
  iterate 5 refine look_both ?_ (by kernel_rfl)
  exact sd_row
theorem headP (h : WalkO hd.view_39 looseS (XL hd.view_39 []) HK.says RR lawD [] fun f vs => PySem.call f vs) : PySem.Challenge.rw_jh0008_01.Holds := by
  w_on
  refine holds_law sd_law fun said => ?_
  refine holds_open (q := hd.view_39) (loose := looseS) (Xt := XtP) (XP := XL hd.view_39 []) (Yf := HK.obs) (Ya := HK.val) (YP := HK.says) (N := 20000) ?hl HK.of HK.keeps (fun s e => xl_of s (Bool.and_eq_true_iff.mp e).1) XL.keeps (by rfl) (by rfl) (by rfl) (fun s e => recFacts_of (Bool.and_eq_true_iff.mp e).2) (by rfl) (by first | assumption | decide +kernel) (by decide +kernel) ⟨rfl, rfl, rfl, rfl, rfl, by decide +kernel⟩ ?hw ?hc
  case hl => exact the_left
  case hw => w_witness2
  case hc => exact h
end Mine
end
/- L1 -/
section
open PySem PySem.W PySem.Calls PyProof.Rows
namespace Wk
open Mine

/- a value without its identity marks; what it holds is written out in full -/
inductive PV where
  | val (v : Value) | int (i : Int) | str (s : List Nat) | byt (b : List UInt8)
  | tup (xs : List PV) | lst (xs : List PV) | obj (C : Addr) (fs : List (Str × PV))

noncomputable abbrev G := Addr → Option Obj
noncomputable def G.Le (g g' : G) : Prop := ∀ b o, g b = some o → g' b = some o
theorem G.Le.refl (g : G) : g.Le g := fun _ _ e => e
theorem G.Le.trans {g g' g'' : G} (x : g.Le g') (y : g'.Le g'') : g.Le g'' := fun b o e => y b o (x b o e)

mutual
noncomputable def Is (g : G) : PV → Value → Prop
  | .val v, u => u = v
  | .int i, u => ∃ t, u = .int i t
  | .str l, u => ∃ t, u = .str ⟨l.toArray⟩ t
  | .byt l, u => ∃ t, u = .bytes l.toArray t
  | .tup xs, u => ∃ a vs o n, u = .ref a ∧ g a = some o ∧ o.cls = .type "tuple" ∧ o.data = .seq vs n ∧ IsL g xs vs.toList
  | .lst xs, u => ∃ a vs o n, u = .ref a ∧ g a = some o ∧ o.cls = .type "list" ∧ o.data = .seq vs n ∧ IsL g xs vs.toList
  | .obj C fs, u => ∃ a d o es n, u = .ref a ∧ g a = some (instObj C d) ∧ g d = some o ∧ o.data = .dict es n ∧ StrKeys es ∧ (∀ k, k ∉ fs.map (·.1) → nsFind es k = none) ∧ IsF g fs (nsFind es)
noncomputable def IsL (g : G) : List PV → List Value → Prop
  | [], vs => vs = []
  | p :: ps, vs => ∃ v r, vs = v :: r ∧ Is g p v ∧ IsL g ps r
noncomputable def IsF (g : G) : List (Str × PV) → (Str → Option Value) → Prop
  | [], _ => True
  | x :: fs, m => (∃ v, m x.1 = some v ∧ Is g x.2 v) ∧ IsF g fs m
end

section
variable {g : G}
theorem is_val {v u} : Is g (.val v) u ↔ u = v := Iff.rfl
theorem is_int {i u} : Is g (.int i) u ↔ ∃ t, u = .int i t := Iff.rfl
theorem is_str {l u} : Is g (.str l) u ↔ ∃ t, u = .str ⟨l.toArray⟩ t := Iff.rfl
theorem is_byt {l u} : Is g (.byt l) u ↔ ∃ t, u = .bytes l.toArray t := Iff.rfl
theorem is_tup {xs u} : Is g (.tup xs) u ↔ ∃ a vs o n, u = .ref a ∧ g a = some o ∧ o.cls = .type "tuple" ∧ o.data = .seq vs n ∧ IsL g xs vs.toList := Iff.rfl
theorem is_lst {xs u} : Is g (.lst xs) u ↔ ∃ a vs o n, u = .ref a ∧ g a = some o ∧ o.cls = .type "list" ∧ o.data = .seq vs n ∧ IsL g xs vs.toList := Iff.rfl
theorem is_obj {C fs u} : Is g (.obj C fs) u ↔ ∃ a d o es n, u = .ref a ∧ g a = some (instObj C d) ∧ g d = some o ∧ o.data = .dict es n ∧ StrKeys es ∧ (∀ k, k ∉ fs.map (·.1) → nsFind es k = none) ∧ IsF g fs (nsFind es) := Iff.rfl
theorem isL_nil {vs} : IsL g [] vs ↔ vs = [] := Iff.rfl
theorem isL_cons {p ps vs} : IsL g (p :: ps) vs ↔ ∃ v r, vs = v :: r ∧ Is g p v ∧ IsL g ps r := Iff.rfl
theorem isF_cons {y fs m} : IsF g (y :: fs) m ↔ (∃ v, m y.1 = some v ∧ Is g y.2 v) ∧ IsF g fs m := Iff.rfl
end
mutual
theorem Is.up {g g' : G} (k : g.Le g') : ∀ (p : PV) {v : Value}, Is g p v → Is g' p v
  | .val _, _, h => h
  | .int _, _, h => h
  | .str _, _, h => h
  | .byt _, _, h => h
  | .tup xs, _, h => by
    obtain ⟨a, vs, o, n, e, q, q1, q2, r⟩ := is_tup.mp h
    exact is_tup.mpr ⟨a, vs, o, n, e, k _ _ q, q1, q2, IsL.up k xs r⟩
  | .lst xs, _, h => by
    obtain ⟨a, vs, o, n, e, q, q1, q2, r⟩ := is_lst.mp h
    exact is_lst.mpr ⟨a, vs, o, n, e, k _ _ q, q1, q2, IsL.up k xs r⟩
  | .obj C fs, _, h => by
    obtain ⟨a, d, o, es, n, e, q, q', q'', z, z', r⟩ := is_obj.mp h
    exact is_obj.mpr ⟨a, d, o, es, n, e, k _ _ q, k _ _ q', q'', z, z', IsF.up k fs r⟩
theorem IsL.up {g g' : G} (k : g.Le g') : ∀ (ps : List PV) {vs : List Value}, IsL g ps vs → IsL g' ps vs
  | [], _, h => h
  | p :: ps, _, h => by
    obtain ⟨v, r, e, a, b⟩ := isL_cons.mp h
    exact isL_cons.mpr ⟨v, r, e, Is.up k p a, IsL.up k ps b⟩
theorem IsF.up {g g' : G} (k : g.Le g') : ∀ (fs : List (Str × PV)) {m : Str → Option Value}, IsF g fs m → IsF g' fs m
  | [], _, _ => trivial
  | x :: fs, _, h => by
    obtain ⟨⟨v, e, a⟩, b⟩ := isF_cons.mp h
    exact isF_cons.mpr ⟨⟨v, e, Is.up k x.2 a⟩, IsF.up k fs b⟩
end

/- what may still be changed: a list, a cell, the bare object of a class, the dict of its attributes -/
inductive MK where
  | lst (xs : List PV) | cell (p : PV) | ecell | inst (C d : Addr) | ns (fs : List (Str × PV)) | raw (o : Obj)
noncomputable def MIs (g : G) (h : Heap) (d : Addr) : MK → Prop
  | .lst xs => ∃ vs o n, h.get? d = some o ∧ o.cls = .type "list" ∧ o.data = .seq vs n ∧ o.dict = none ∧ IsL g xs vs.toList
  | .cell p => ∃ o v, h.get? d = some o ∧ o.data = .cell (some v) ∧ Is g p v
  | .ecell => ∃ o, h.get? d = some o ∧ o.data = .cell none
  | .inst C dx => h.get? d = some (instObj C dx)
  | .ns fs => ∃ o es n, h.get? d = some o ∧ o.data = .dict es n ∧ es.size ≤ 1000 * fs.length ∧ StrKeys es ∧ (∀ k, k ∉ fs.map (·.1) → nsFind es k = none) ∧ IsF g fs (nsFind es)
  | .raw o => h.get? d = some o
theorem MIs.up {g g' : G} (k : g.Le g') {h h' : Heap} {d : Addr} (e : h'.get? d = h.get? d) {o : MK} (i : MIs g h d o) : MIs g' h' d o := by
  cases o with
  | lst xs => obtain ⟨vs, o, n, a, a1, a2, a3, b⟩ := i; exact ⟨vs, o, n, e.trans a, a1, a2, a3, IsL.up k xs b⟩
  | cell p => obtain ⟨o, v, a, b, c⟩ := i; exact ⟨o, v, e.trans a, b, Is.up k p c⟩
  | ecell => obtain ⟨o, a, b⟩ := i; exact ⟨o, e.trans a, b⟩
  | inst C dx => exact e.trans i
  | ns fs => obtain ⟨o, es, n, a, a', a'', b, b', c⟩ := i; exact ⟨o, es, n, e.trans a, a', a'', b, b', IsF.up k fs c⟩
  | raw o => exact e.trans i
theorem MIs.there {g : G} {h : Heap} {d : Addr} {o : MK} (i : MIs g h d o) : ∃ o', h.get? d = some o' := by
  cases o with
  | lst xs => obtain ⟨vs, o, n, a, _⟩ := i; exact ⟨_, a⟩
  | cell p => obtain ⟨o, v, a, _⟩ := i; exact ⟨_, a⟩
  | ecell => obtain ⟨o, a, b⟩ := i; exact ⟨_, a⟩
  | inst C dx => exact ⟨_, i⟩
  | ns fs => obtain ⟨o, es, n, a, _⟩ := i; exact ⟨_, a⟩
  | raw o => exact ⟨_, i⟩

set_option genInjectivity false in
/- one run of one block: all that stays as it is while it runs -/
structure Act where
  w : World
  A : Around
  base : Heap
  frames : List Env
  h₀ : Heap
  g₀ : G
  L : Addr
  qual : Str
  fn : Option Addr
  ccd : Value
  fr : Option Addr
  cl : List (Str × Addr)
  mg : Str → Option Value
  mb : Str → Option Value
  s₀ : Shared
  r : Nat
  hn : Bool
noncomputable abbrev Act.env (x : Act) (cs : Scope) : Env :=
  { scope := cs, locals := x.L, globals := mainGlobals, cells := x.cl, qual := x.qual, func := x.fn, code := x.ccd, frame := x.fr, builtins := builtinsNs }
noncomputable abbrev Act.M (x : Act) : Model := model PW x.w

noncomputable def fadrs (l : List Env) : List Addr := l.filterMap fun e => e.frame
theorem fadrs_cons {env : Env} {l : List Env} {a : Addr} (h : env.frame = some a) : fadrs (env :: l) = a :: fadrs l := List.filterMap_cons_some h
/- the heap as the block found it, without the frames of the callers (an exception leaves marks in those) -/
noncomputable def Act.k₀ (x : Act) : Heap := hideAll x.h₀ (fadrs x.frames)
theorem utsTo {h₀ h h' : Heap} (u : h₀.UpToSlots h) (k : ∀ b o, h₀.get? b = some o → h'.get? b = h.get? b) : h₀.UpToSlots h' := fun b o e hn => by
  obtain ⟨sl, z⟩ := u b o e hn
  exact ⟨sl, (k b o e).trans z⟩

structure Act.Ok (x : Act) (cs : Scope) : Prop where
  frs : x.A.frames = some x.frames
  bel : ∀ h mr, Fr x.k₀ x.L h mr → x.h₀.UpToSlots h → ∀ fps : List Addr, (∀ b ∈ fps, b ≠ x.L ∧ x.h₀.get? b = none) → Below x.A x.base x.frames (hideAll h fps)
  lim : x.k₀.NoLimit
  kin : (KP x.w.params).In x.k₀
  top : TopRead hd.view_39 (looseW hd.view_39 looseS) x.mg x.mb x.k₀
  kg : ∀ a o, (KP x.w.params).lookup a = some o → x.g₀ a = some o
  depth : x.A.depth + x.r ≤ 900
  units : x.A.units + 10 * x.r ≤ 9800
  guards : x.A.guards = some []
  kind : cs.kind = .function
  nod : (cs.names.map (·.1)).Nodup
  bare : AllBare x.s₀.gens
  hand : x.hn = true → x.A.handled = none
  foff : ∀ env ∈ x.frames, ∀ a, env.frame = some a → x.g₀ a = none

structure Q where
  m : List (Option PV)
  led : List (Addr × MK)

noncomputable def Locs (g : G) (ns : List (Str × NameKind)) (m : List (Option PV)) (mr : Str → Option Value) : Prop :=
  ∀ (i : Nat) n k p, ns[i]? = some (n, k) → m[i]? = some (some p) → ∃ v, mr n = some v ∧ Is g p v
theorem Locs.up {g g' : G} (k : g.Le g') {ns m mr} (l : Locs g ns m mr) : Locs g' ns m mr := fun i n kd p e e' => let ⟨v, a, b⟩ := l i n kd p e e'; ⟨v, a, b.up k⟩

structure Rep (x : Act) (cs : Scope) (hid : List (Addr × MK)) (g : G) (q : Q) (s : Shared) : Prop where
  fr : ∃ mr, Fr x.k₀ x.L s.heap mr ∧ Locs g cs.names q.m mr
  sub : ∀ b o, g b = some o → s.heap.get? b = some o
  base : x.g₀.Le g
  own : ∀ b o, g b = some o → x.g₀ b = some o ∨ x.h₀.get? b = none
  off : g x.L = none
  led : ∀ e ∈ q.led ++ hid, e.1 ≠ x.L ∧ g e.1 = none ∧ x.h₀.get? e.1 = none ∧ MIs g s.heap e.1 e.2
  nod : ((q.led ++ hid).map (·.1)).Nodup
  os : s.os = x.s₀.os
  gens : s.gens = x.s₀.gens
  sl : x.h₀.UpToSlots s.heap
theorem Rep.above {x cs hid g q s} (R : Rep x cs hid g q s) : x.h₀.objs.size ≤ x.L := by
  obtain ⟨mr, F, _⟩ := R.fr
  exact Nat.le_trans (Nat.le_of_eq (hideAll_size _ _).symm) F.above

theorem Rep.none_h {x cs hid g q s} (R : Rep x cs hid g q s) : x.h₀.get? s.heap.objs.size = none := by
  obtain ⟨mr, F, _⟩ := id R.fr
  obtain ⟨oL, _, _, hL, _⟩ := F.ns
  cases e : x.h₀.get? s.heap.objs.size with
  | none => rfl
  | some o => exact absurd (Nat.lt_trans (Nat.lt_of_lt_of_le (Heap.lt_size e) R.above) (Heap.lt_size hL)) (Nat.lt_irrefl _)

/- what a tree that ends in a value has to show -/
inductive Dn (x : Act) (cs : Scope) (hid : List (Addr × MK)) (g : G) (Qn : PV → Q → Prop) (v : Value) (s' : Shared) : Prop where
  | mk (g' p q') (h1_0 : g.Le g') (h2_1 : Is g' p v) (h3_2 : Rep x cs hid g' q' s') (h4_3 : Qn p q') : Dn x cs hid g Qn v s'
/- for a tree that ends without a value -/
inductive Du (x : Act) (cs : Scope) (hid : List (Addr × MK)) (g : G) (Qn : Q → Prop) (u_ : Unit) (s' : Shared) : Prop where
  | mk (g' q') (h1_0 : g.Le g') (h2_1 : Rep x cs hid g' q' s') (h3_2 : Qn q') : Du x cs hid g Qn u_ s'
/- for a test -/
inductive Db (x : Act) (cs : Scope) (hid : List (Addr × MK)) (g : G) (Qn : Bool → Q → Prop) (b : Bool) (s' : Shared) : Prop where
  | mk (g' q') (h1_0 : g.Le g') (h2_1 : Rep x cs hid g' q' s') (h3_2 : Qn b q') : Db x cs hid g Qn b s'
inductive Out where | nxt | brk | cnt | ret (p : PV)
noncomputable def OutIs (g : G) : Out → Flow → Prop
  | .nxt, f => f = .next
  | .brk, f => f = .brk
  | .cnt, f => f = .cont
  | .ret p, f => ∃ v, f = .ret v ∧ Is g p v
inductive Df (x : Act) (cs : Scope) (hid : List (Addr × MK)) (g : G) (Qn : Out → Q → Prop) (f : Flow) (s' : Shared) : Prop where
  | mk (g' o q') (h1_0 : g.Le g') (h2_1 : OutIs g' o f) (h3_2 : Rep x cs hid g' q' s') (h4_3 : Qn o q') : Df x cs hid g Qn f s'
/- for a list of values -/
inductive Dl (x : Act) (cs : Scope) (hid : List (Addr × MK)) (g : G) (Qn : List PV → Q → Prop) (vs : List Value) (s' : Shared) : Prop where
  | mk (g' ps q') (h1_0 : g.Le g') (h2_1 : IsL g' ps vs) (h3_2 : Rep x cs hid g' q' s') (h4_3 : Qn ps q') : Dl x cs hid g Qn vs s'

noncomputable abbrev Er := Value → Shared → Prop
noncomputable def Ev (x : Act) (cs : Scope) (e : Expr) (q : Q) (Qn : PV → Q → Prop) (E : Er) : Prop :=
  ∀ hid g s, Rep x cs hid g q s → wpAny x.M x.A (eval e (x.env cs)) (Dn x cs hid g Qn) E s
noncomputable def Tst (x : Act) (cs : Scope) (e : Expr) (q : Q) (Qn : Bool → Q → Prop) (E : Er) : Prop :=
  ∀ hid g s, Rep x cs hid g q s → wpAny x.M x.A (isTrue e (x.env cs) (eval e (x.env cs))) (Db x cs hid g Qn) E s
noncomputable def Ex (x : Act) (cs : Scope) (st : Stmt) (q : Q) (Qn : Out → Q → Prop) (E : Er) : Prop :=
  ∀ hid g s, Rep x cs hid g q s → wpAny x.M x.A (exec st (x.env cs)) (Df x cs hid g Qn) E s
noncomputable def Exs (x : Act) (cs : Scope) (ss : List Stmt) (q : Q) (Qn : Out → Q → Prop) (E : Er) : Prop :=
  ∀ hid g s, Rep x cs hid g q s → wpAny x.M x.A (execs ss (x.env cs)) (Df x cs hid g Qn) E s
/- a value put where a target says -/
noncomputable def Asg (x : Act) (cs : Scope) (t : Expr) (p : PV) (q : Q) (Qn : Q → Prop) (E : Er) : Prop :=
  ∀ hid g s v, Rep x cs hid g q s → Is g p v → wpAny x.M x.A (assign t (x.env cs) v) (Du x cs hid g Qn) E s
/- a tree of one, of two and of three values -/
noncomputable def Op1 (x : Act) (cs : Scope) (t : Value → Sem Value) (a : PV) (q : Q) (Qn : PV → Q → Prop) (E : Er) : Prop :=
  ∀ hid g s u, Rep x cs hid g q s → Is g a u → wpAny x.M x.A (t u) (Dn x cs hid g Qn) E s
noncomputable def Op2 (x : Act) (cs : Scope) (t : Value → Value → Sem Value) (a b : PV) (q : Q) (Qn : PV → Q → Prop) (E : Er) : Prop :=
  ∀ hid g s u v, Rep x cs hid g q s → Is g a u → Is g b v → wpAny x.M x.A (t u v) (Dn x cs hid g Qn) E s
/- the truth of a value -/
noncomputable def Tru (x : Act) (cs : Scope) (a : PV) (q : Q) (Qn : Bool → Q → Prop) (E : Er) : Prop :=
  ∀ hid g s u, Rep x cs hid g q s → Is g a u → wpAny x.M x.A (truthy u) (Db x cs hid g Qn) E s

section
variable {x : Act} {cs : Scope} {E : Er} {hid : List (Addr × MK)} {g g₁ : G}
theorem Dn.le {Qn v s'} (k : g.Le g₁) (d : Dn x cs hid g₁ Qn v s') : Dn x cs hid g Qn v s' := d.casesOn fun g' p q' a b c e => ⟨g', p, q', k.trans a, b, c, e⟩
theorem Df.le {Qn v s'} (k : g.Le g₁) (d : Df x cs hid g₁ Qn v s') : Df x cs hid g Qn v s' := d.casesOn fun g' p q' a b c e => ⟨g', p, q', k.trans a, b, c, e⟩
theorem Db.le {Qn v s'} (k : g.Le g₁) (d : Db x cs hid g₁ Qn v s') : Db x cs hid g Qn v s' := d.casesOn fun g' q' a b c => ⟨g', q', k.trans a, b, c⟩
theorem Du.le {Qn v s'} (k : g.Le g₁) (d : Du x cs hid g₁ Qn v s') : Du x cs hid g Qn v s' := d.casesOn fun g' q' a b c => ⟨g', q', k.trans a, b, c⟩
theorem Dl.le {Qn v s'} (k : g.Le g₁) (d : Dl x cs hid g₁ Qn v s') : Dl x cs hid g Qn v s' := d.casesOn fun g' p q' a b c e => ⟨g', p, q', k.trans a, b, c, e⟩

@[elab_as_elim] theorem int_k {P : Value → Prop} {i : Int} {u : Value} (h : Is g (.int i) u) (k : ∀ t, P (.int i t)) : P u := by obtain ⟨t, rfl⟩ := is_int.mp h; exact k t
@[elab_as_elim] theorem str_k {P : Value → Prop} {l : List Nat} {u : Value} (h : Is g (.str l) u) (k : ∀ t, P (.str ⟨l.toArray⟩ t)) : P u := by obtain ⟨t, rfl⟩ := is_str.mp h; exact k t
@[elab_as_elim] theorem byt_k {P : Value → Prop} {l : List UInt8} {u : Value} (h : Is g (.byt l) u) (k : ∀ t, P (.bytes l.toArray t)) : P u := by obtain ⟨t, rfl⟩ := is_byt.mp h; exact k t
@[elab_as_elim] theorem isL1_k {P : List Value → Prop} {p : PV} {vs : List Value} (h : IsL g [p] vs) (k : ∀ v, Is g p v → P [v]) : P vs := by
  obtain ⟨v, r, rfl, iv, il⟩ := isL_cons.mp h; rw [isL_nil.mp il]; exact k v iv
@[elab_as_elim] theorem isL2_k {P : List Value → Prop} {p p' : PV} {vs : List Value} (h : IsL g [p, p'] vs) (k : ∀ v u, Is g p v → Is g p' u → P [v, u]) : P vs := by
  obtain ⟨v, r, rfl, iv, il⟩ := isL_cons.mp h; exact isL1_k (P := fun r => P (v :: r)) il fun u iu => k v u iv iu
theorem IsL.length : ∀ {ps vs}, IsL g ps vs → vs.length = ps.length
  | [], vs, h => by rw [isL_nil.mp h]; rfl
  | p :: ps, vs, h => by obtain ⟨v, r, rfl, _, b⟩ := isL_cons.mp h; simp [IsL.length b]
theorem IsL.get : ∀ {ps vs} {i : Nat} {v}, IsL g ps vs → vs[i]? = some v → ∃ p, ps[i]? = some p ∧ Is g p v
  | [], vs, i, v, h, e => by rw [isL_nil.mp h] at e; cases e
  | p :: ps, vs, i, v, h, e => by
    obtain ⟨u, r, rfl, a, b⟩ := isL_cons.mp h
    cases i with
    | zero => cases e; exact ⟨p, rfl, a⟩
    | succ i => exact IsL.get (ps := ps) b e
theorem IsL.at : ∀ {ps vs} {i : Nat} {p}, IsL g ps vs → ps[i]? = some p → ∃ v, vs[i]? = some v ∧ Is g p v
  | [], vs, i, v, h, e => by cases e
  | p :: ps, vs, i, v, h, e => by
    obtain ⟨u, r, rfl, a, b⟩ := isL_cons.mp h
    cases i with
    | zero => cases e; exact ⟨u, rfl, a⟩
    | succ i => obtain ⟨v, a', b'⟩ := IsL.at (ps := ps) b e; exact ⟨v, a', b'⟩
theorem IsL.append : ∀ {ps vs ps' vs'}, IsL g ps vs → IsL g ps' vs' → IsL g (ps ++ ps') (vs ++ vs')
  | [], vs, _, _, h, h' => by rw [isL_nil.mp h]; exact h'
  | p :: ps, vs, _, _, h, h' => by obtain ⟨u, r, rfl, a, b⟩ := isL_cons.mp h; exact isL_cons.mpr ⟨u, _, rfl, a, IsL.append b h'⟩
theorem IsL.drop : ∀ {ps vs} (n : Nat), IsL g ps vs → IsL g (ps.drop n) (vs.drop n)
  | _, _, 0, h => h
  | [], vs, n + 1, h => by rw [isL_nil.mp h]; exact isL_nil.mpr rfl
  | p :: ps, vs, n + 1, h => by obtain ⟨u, r, rfl, a, b⟩ := isL_cons.mp h; exact IsL.drop (ps := ps) n b
theorem IsL.take : ∀ {ps vs} (n : Nat), IsL g ps vs → IsL g (ps.take n) (vs.take n)
  | _, _, 0, h => isL_nil.mpr rfl
  | [], vs, n + 1, h => by rw [isL_nil.mp h]; exact isL_nil.mpr rfl
  | p :: ps, vs, n + 1, h => by obtain ⟨u, r, rfl, a, b⟩ := isL_cons.mp h; exact isL_cons.mpr ⟨u, _, rfl, a, IsL.take (ps := ps) n b⟩

/- marks drawn leave the state as it is -/
theorem Rep.tok {q s} (R : Rep x cs hid g q s) (t : Nat) : Rep x cs hid g q { s with toks := t } := ⟨R.fr, R.sub, R.base, R.own, R.off, R.led, R.nod, R.os, R.gens, R.sl⟩
theorem Rep.dn {q s v p t} {Qn : PV → Q → Prop} (R : Rep x cs hid g q s) (i : Is g p v) (h : Qn p q) : Dn x cs hid g Qn v { s with toks := t } := ⟨g, p, q, .refl g, i, R.tok t, h⟩
theorem Rep.dn' {q s v p} {Qn : PV → Q → Prop} (R : Rep x cs hid g q s) (i : Is g p v) (h : Qn p q) : Dn x cs hid g Qn v s := ⟨g, p, q, .refl g, i, R, h⟩

/- a heap in which all but the frame's names stays -/
theorem Rep.frame {q s m' mr' h'} {t : Nat} (R : Rep x cs hid g q s) (F : Fr x.k₀ x.L h' mr') (l : Locs g cs.names m' mr') (hs : Heap.SameBut x.L s.heap h') : Rep x cs hid g ⟨m', q.led⟩ { s with heap := h', toks := t } where
  fr := ⟨mr', F, l⟩
  sub b o e := (hs.2 b (fun z => by rw [z, R.off] at e; cases e)).trans (R.sub b o e)
  base := R.base
  own := R.own
  off := R.off
  led e he := let ⟨a, b, c, d⟩ := R.led e he; ⟨a, b, c, d.up (.refl g) (hs.2 _ a)⟩
  nod := R.nod
  os := R.os
  gens := R.gens
  sl := utsTo R.sl fun b o e => hs.2 b fun z => by
    rw [z] at e
    exact absurd (Heap.lt_size e) (Nat.not_lt.mpr R.above)

theorem names_get {ns : List (Str × NameKind)} (h : (ns.map (·.1)).Nodup) : ∀ {i : Nat} {n k}, ns[i]? = some (n, k) → ns.lookup n = some k := by
  induction ns with
  | nil => intro i n k e; cases e
  | cons a r ih =>
    intro i n k e
    obtain ⟨b, kd⟩ := a
    rw [List.map_cons, List.nodup_cons] at h
    cases i with
    | zero => cases e; simp [List.lookup]
    | succ i =>
      have e' : r[i]? = some (n, k) := e
      have hne : ¬ n = b := fun z => h.1 (List.mem_map.mpr ⟨(n, k), List.mem_of_getElem? e', z⟩)
      simp only [List.lookup, beq_eq_false_iff_ne.mpr hne]
      exact ih h.2 e'
theorem names_inj {ns : List (Str × NameKind)} (h : (ns.map (·.1)).Nodup) {i j : Nat} {n k k'} (a : ns[i]? = some (n, k)) (b : ns[j]? = some (n, k')) : i = j := by
  have a' : (ns.map (·.1))[i]? = some n := by rw [List.getElem?_map, a]; rfl
  have b' : (ns.map (·.1))[j]? = some n := by rw [List.getElem?_map, b]; rfl
  obtain ⟨hi, ei⟩ := List.getElem?_eq_some_iff.mp a'
  obtain ⟨hj, ej⟩ := List.getElem?_eq_some_iff.mp b'
  have P := List.pairwise_iff_getElem.mp h
  rcases Nat.lt_trichotomy i j with l | l | l
  · exact absurd (ei.trans ej.symm) (P i j hi hj l)
  · exact l
  · exact absurd (ej.trans ei.symm) (P j i hj hi l)

theorem Locs.set {ns m mr n k p v} {i : Nat} (l : Locs g ns m mr) (hn : (ns.map (·.1)).Nodup) (hi : ns[i]? = some (n, k)) (is : Is g p v) :
    Locs g ns (m.set i (some p)) (fun y => if y = n then some v else mr y) := fun j n' k' p' e e' => by
  by_cases h : n' = n
  · subst h
    have hj : i = j := names_inj hn hi e
    subst hj
    rw [List.getElem?_set] at e'
    simp only [if_true] at e'
    split at e'
    · cases e'; exact ⟨v, if_pos rfl, is⟩
    · cases e'
  · have hne : i ≠ j := fun z => by subst z; rw [hi] at e; cases e; exact h rfl
    rw [List.getElem?_set_ne hne] at e'
    obtain ⟨u, a, b⟩ := l j n' k' p' e e'
    exact ⟨u, (if_neg h).trans a, b⟩

theorem store_L {n : Str} {p : PV} {v : Value} {q s} {i : Nat} {Qn : Q → Prop} (O : x.Ok cs) (R : Rep x cs hid g q s) (is : Is g p v) (hi : cs.names[i]? = some (n, .local))
    (h : Qn ⟨q.m.set i (some p), q.led⟩) : wpAny x.M x.A (storeName (x.env cs) n v) (Du x cs hid g Qn) E s := by
  obtain ⟨mr, F, l⟩ := R.fr
  refine wpAny_storeName_local (m := mr) (names_get O.nod hi) F.ns (fun h' hn hs => ?_) (by show (cs.kind == .class || (cs.kind == .module && x.L != mainGlobals)) = false; rw [O.kind]; rfl)
  exact ⟨g, _, .refl g, R.frame (F.set hn hs) (l.set O.nod hi is) hs, h⟩
end

section
variable {x : Act} {cs : Scope} {hid : List (Addr × MK)} {g : G} {E : Er} {s : Shared}
theorem dn_k {m : Sem Value} {Qn : PV → Q → Prop} {Q' : Value → Shared → Prop} (h : wpAny x.M x.A m (Dn x cs hid g Qn) E s) (k : ∀ (a : Value) (s₁ : Shared) (g₁ : G) (p : PV) (q₁ : Q), g.Le g₁ → Is g₁ p a → Rep x cs hid g₁ q₁ s₁ → Qn p q₁ → Q' a s₁) : wpAny x.M x.A m Q' E s :=
  wpAny_mono h (fun a s₁ ⟨g₁, p, q₁, z0, z1, z2, z3⟩ => k a s₁ g₁ p q₁ z0 z1 z2 z3) fun _ _ e => e
theorem db_k {m : Sem Bool} {Qn : Bool → Q → Prop} {Q' : Bool → Shared → Prop} (h : wpAny x.M x.A m (Db x cs hid g Qn) E s) (k : ∀ (a : Bool) (s₁ : Shared) (g₁ : G) (q₁ : Q), g.Le g₁ → Rep x cs hid g₁ q₁ s₁ → Qn a q₁ → Q' a s₁) : wpAny x.M x.A m Q' E s :=
  wpAny_mono h (fun a s₁ ⟨g₁, q₁, z0, z1, z2⟩ => k a s₁ g₁ q₁ z0 z1 z2) fun _ _ e => e
theorem du_k {m : Sem Unit} {Qn : Q → Prop} {Q' : Unit → Shared → Prop} (h : wpAny x.M x.A m (Du x cs hid g Qn) E s) (k : ∀ (a : Unit) (s₁ : Shared) (g₁ : G) (q₁ : Q), g.Le g₁ → Rep x cs hid g₁ q₁ s₁ → Qn q₁ → Q' a s₁) : wpAny x.M x.A m Q' E s :=
  wpAny_mono h (fun a s₁ ⟨g₁, q₁, z0, z1, z2⟩ => k a s₁ g₁ q₁ z0 z1 z2) fun _ _ e => e
theorem df_k {m : Sem Flow} {Qn : Out → Q → Prop} {Q' : Flow → Shared → Prop} (h : wpAny x.M x.A m (Df x cs hid g Qn) E s) (k : ∀ (a : Flow) (s₁ : Shared) (g₁ : G) (o : Out) (q₁ : Q), g.Le g₁ → OutIs g₁ o a → Rep x cs hid g₁ q₁ s₁ → Qn o q₁ → Q' a s₁) : wpAny x.M x.A m Q' E s :=
  wpAny_mono h (fun a s₁ ⟨g₁, o, q₁, z0, z1, z2, z3⟩ => k a s₁ g₁ o q₁ z0 z1 z2 z3) fun _ _ e => e
theorem dl_k {m : Sem (List Value)} {Qn : List PV → Q → Prop} {Q' : (List Value) → Shared → Prop} (h : wpAny x.M x.A m (Dl x cs hid g Qn) E s) (k : ∀ (a : (List Value)) (s₁ : Shared) (g₁ : G) (ps : List PV) (q₁ : Q), g.Le g₁ → IsL g₁ ps a → Rep x cs hid g₁ q₁ s₁ → Qn ps q₁ → Q' a s₁) : wpAny x.M x.A m Q' E s :=
  wpAny_mono h (fun a s₁ ⟨g₁, ps, q₁, z0, z1, z2, z3⟩ => k a s₁ g₁ ps q₁ z0 z1 z2 z3) fun _ _ e => e
end
end Wk
end
/- L2 -/
section
open PySem PySem.W PySem.Calls PyProof.Rows
namespace Wk
open Mine
section
variable {x : Act} {cs : Scope} {E : Er} {q : Q} {Qn : PV → Q → Prop} {Qb : Bool → Q → Prop} {Qf : Out → Q → Prop} {Qu : Q → Prop}

theorem Ev.imp {e} {Qn' : PV → Q → Prop} (h : Ev x cs e q Qn E) (k : ∀ p q', Qn p q' → Qn' p q') : Ev x cs e q Qn' E :=
  fun hid g s R => dn_k (h hid g s R) fun v s' g' p q' a b c d => ⟨g', p, q', a, b, c, k _ _ d⟩

/- constants -/
theorem ev_int {i k pos} (h : Qn (.int i) q) : Ev x cs (.Constant (.int i) k pos) q Qn E := fun hid g s R => wpAny_Constant_int (R.dn (is_int.mpr ⟨_, rfl⟩) h)
theorem ev_none {k pos} (h : Qn (.val .none) q) : Ev x cs (.Constant .none k pos) q Qn E := fun hid g s R => wpAny_Constant_none (R.dn' (is_val.mpr rfl) h)
theorem ev_bool {b k pos} (h : Qn (.val (.bool b)) q) : Ev x cs (.Constant (.bool b) k pos) q Qn E := fun hid g s R => wpAny_Constant_bool (R.dn' (is_val.mpr rfl) h)
theorem ev_str {n : Str} {l : List Nat} {k pos} (e : n = ⟨l.toArray⟩) (h : Qn (.str l) q) : Ev x cs (.Constant (.str n) k pos) q Qn E := fun hid g s R => wpAny_Constant_str (R.dn (is_str.mpr ⟨_, by rw [e]⟩) h)
theorem ev_byt {b k pos} (h : Qn (.byt b) q) : Ev x cs (.Constant (.bytes b) k pos) q Qn E := fun hid g s R => Constant_bytes (R.dn (is_byt.mpr ⟨_, rfl⟩) h)

/- names -/
theorem ev_L (O : x.Ok cs) (i : Nat) {n : Str} {nk} {p : PV} {pos} (hi' : cs.names[i]? = some nk) (hn' : nk = (n, .local)) (hm : q.m[i]? = some (some p)) (h : Qn p q) (hd : (n == ("__debug__" : Str)) = false) :
    Ev x cs (.Name n pos) q Qn E := fun hid g s R => by
  have hi : cs.names[i]? = some (n, .local) := hi'.trans (congrArg some hn')
  obtain ⟨mr, F, l⟩ := R.fr
  obtain ⟨v, a, b⟩ := l i n _ p hi hm
  exact wpAny_Name (wpAny_loadName_local O.kind (names_get O.nod hi) F.ns a (R.dn' b h)) hd
theorem ev_G (O : x.Ok cs) (i : Nat) {n : Str} {nk} {v : Value} {pos} (hi' : cs.names[i]? = some nk) (hn' : nk = (n, .globalImplicit)) (e : nsIn (KP x.w.params) mainGlobals n = some (some v)) (h : Qn (.val v) q) (hd : (n == ("__debug__" : Str)) = false) :
    Ev x cs (.Name n pos) q Qn E := fun hid g s R => by
  have hi : cs.names[i]? = some (n, .globalImplicit) := hi'.trans (congrArg some hn')
  obtain ⟨mr, F, l⟩ := R.fr
  exact Name_function_global O.kind (names_get O.nod hi) (loadGlobal_global (env := x.env cs) (O.top.g.keeps F.keep) (mg_of O.kin O.top.g e) (R.dn' (is_val.mpr rfl) h)) hd
theorem ev_B (O : x.Ok cs) (i : Nat) {n : Str} {nk} {v : Value} {pos} (hi' : cs.names[i]? = some nk) (hn' : nk = (n, .globalImplicit)) (e : nsIn (KP x.w.params) mainGlobals n = some none) (hv : bootBuiltins n = some v) (hn : n ≠ "__name__") (h : Qn (.val v) q) (hd : (n == ("__debug__" : Str)) = false) :
    Ev x cs (.Name n pos) q Qn E := fun hid g s R => by
  have hi : cs.names[i]? = some (n, .globalImplicit) := hi'.trans (congrArg some hn')
  obtain ⟨mr, F, l⟩ := R.fr
  exact Name_function_global O.kind (names_get O.nod hi) (loadGlobal_builtin (env := x.env cs) (O.top.g.keeps F.keep) (mg_none_of O.kin O.top.g e) (O.top.b.keeps F.keep) ((O.top.builtins n hn).trans hv) (R.dn' (is_val.mpr rfl) h)) hd
theorem ev_C (O : x.Ok cs) (i : Nat) {n : Str} {nk} {c : Addr} {p : PV} {pos} (hi' : cs.names[i]? = some nk) (hn' : nk = (n, .cell)) (hc : x.cl.lookup n = some c) (hm : (c, MK.cell p) ∈ q.led) (h : Qn p q) (hd : (n == ("__debug__" : Str)) = false) :
    Ev x cs (.Name n pos) q Qn E := fun hid g s R => by
  have hi : cs.names[i]? = some (n, .cell) := hi'.trans (congrArg some hn')
  obtain ⟨_, _, _, o, v, a, b, c'⟩ := R.led _ (List.mem_append_left _ hm)
  exact wpAny_Name (wpAny_loadName_cell O.kind (names_get O.nod hi) hc ⟨o, a, b⟩ (R.dn' c' h)) hd

/- trees of two and one -/
theorem ev_bin {l op r pos} (h : Ev x cs l q (fun a q1 => Ev x cs r q1 (fun b q2 => Op2 x cs (binaryOp op) a b q2 Qn E) E) E) : Ev x cs (.BinOp l op r pos) q Qn E := fun hid g s R => by
  refine wpAny_BinOp (dn_k (h hid g s R) fun a s₁ g₁ pa q₁ k₁ ia R₁ h₁ => ?_)
  refine dn_k (h₁ hid g₁ s₁ R₁) fun b s₂ g₂ pb q₂ k₂ ib R₂ h₂ => ?_
  exact wpAny_mono (h₂ hid g₂ s₂ a b R₂ (ia.up k₂) ib) (fun _ _ d => d.le (k₁.trans k₂)) fun _ _ e => e
theorem ev_cmp {l op r pos} (h : Ev x cs l q (fun a q1 => Ev x cs r q1 (fun b q2 => Op2 x cs (compareOp op) a b q2 Qn E) E) E) (hm : behindInMarks op r = false) :
    Ev x cs (.Compare l [op] [r] pos) q Qn E := fun hid g s R => by
  refine wpAny_Compare1 (hm := hm) (dn_k (h hid g s R) fun a s₁ g₁ pa q₁ k₁ ia R₁ h₁ => ?_)
  refine dn_k (h₁ hid g₁ s₁ R₁) fun b s₂ g₂ pb q₂ k₂ ib R₂ h₂ => ?_
  exact wpAny_mono (h₂ hid g₂ s₂ a b R₂ (ia.up k₂) ib) (fun _ _ d => d.le (k₁.trans k₂)) fun _ _ e => e
theorem ev_un {op e pos} (h : Ev x cs e q (fun a q1 => Op1 x cs (unaryOp op) a q1 Qn E) E) : Ev x cs (.UnaryOp op e pos) q Qn E := fun hid g s R => by
  refine UnaryOp_ (dn_k (h hid g s R) fun a s₁ g₁ pa q₁ k₁ ia R₁ h₁ => ?_)
  exact wpAny_mono (h₁ hid g₁ s₁ a R₁ ia) (fun _ _ d => d.le k₁) fun _ _ e => e
theorem op_not {a} (h : Tru x cs a q (fun b q' => Qn (.val (.bool (!b))) q') E) : Op1 x cs (unaryOp .Not) a q Qn E := fun hid g s u R i =>
  not_of (db_k (h hid g s u R i) fun b s' g' q' k R' z => ⟨g', _, q', k, is_val.mpr rfl, R', z⟩)
theorem ev_sub {value slice pos} (h : Ev x cs value q (fun a q1 => Ev x cs slice q1 (fun b q2 => Op2 x cs (subscriptTail value slice) a b q2 Qn E) E) E) :
    Ev x cs (.Subscript value slice pos) q Qn E := fun hid g s R => by
  refine Subscript_ (dn_k (h hid g s R) fun a s₁ g₁ pa q₁ k₁ ia R₁ h₁ => ?_)
  refine dn_k (h₁ hid g₁ s₁ R₁) fun b s₂ g₂ pb q₂ k₂ ib R₂ h₂ => ?_
  exact wpAny_mono (h₂ hid g₂ s₂ a b R₂ (ia.up k₂) ib) (fun _ _ d => d.le (k₁.trans k₂)) fun _ _ e => e
theorem ev_if {test body orelse pos} (h : Tst x cs test q (fun b q1 => if b then Ev x cs body q1 Qn E else Ev x cs orelse q1 Qn E) E) : Ev x cs (.IfExp test body orelse pos) q Qn E := fun hid g s R => by
  refine IfExp_ (db_k (h hid g s R) fun b s₁ g₁ q₁ k₁ R₁ h₁ => ?_)
  cases b with
  | true => exact wpAny_mono (h₁ hid g₁ s₁ R₁) (fun _ _ d => d.le k₁) fun _ _ e => e
  | false => exact wpAny_mono (h₁ hid g₁ s₁ R₁) (fun _ _ d => d.le k₁) fun _ _ e => e
theorem ev_and {e₁ e₂ rest pos} (h : Ev x cs e₁ q (fun a q1 => Tru x cs a q1 (fun b q2 => if b then Ev x cs (.BoolOp .And (e₂ :: rest) pos) q2 Qn E else Qn a q2) E) E) :
    Ev x cs (.BoolOp .And (e₁ :: e₂ :: rest) pos) q Qn E := fun hid g s R => by
  refine BoolOp_and (dn_k (h hid g s R) fun a s₁ g₁ pa q₁ k₁ ia R₁ h₁ => ?_)
  refine db_k (h₁ hid g₁ s₁ a R₁ ia) fun b s₂ g₂ q₂ k₂ R₂ h₂ => ?_
  cases b with
  | true => exact wpAny_mono (h₂ hid g₂ s₂ R₂) (fun _ _ d => d.le (k₁.trans k₂)) fun _ _ e => e
  | false => exact ⟨g₂, pa, q₂, k₁.trans k₂, ia.up k₂, R₂, h₂⟩
theorem ev_or {e₁ e₂ rest pos} (h : Ev x cs e₁ q (fun a q1 => Tru x cs a q1 (fun b q2 => if b then Qn a q2 else Ev x cs (.BoolOp .Or (e₂ :: rest) pos) q2 Qn E) E) E) :
    Ev x cs (.BoolOp .Or (e₁ :: e₂ :: rest) pos) q Qn E := fun hid g s R => by
  refine BoolOp_or (dn_k (h hid g s R) fun a s₁ g₁ pa q₁ k₁ ia R₁ h₁ => ?_)
  refine db_k (h₁ hid g₁ s₁ a R₁ ia) fun b s₂ g₂ q₂ k₂ R₂ h₂ => ?_
  cases b with
  | false => exact wpAny_mono (h₂ hid g₂ s₂ R₂) (fun _ _ d => d.le (k₁.trans k₂)) fun _ _ e => e
  | true => exact ⟨g₂, pa, q₂, k₁.trans k₂, ia.up k₂, R₂, h₂⟩
theorem ev_one {op e pos} (h : Ev x cs e q Qn E) : Ev x cs (.BoolOp op [e] pos) q Qn E := fun hid g s R => BoolOp_one (h hid g s R)

/- tests -/
theorem ts_plain {e} (h : Ev x cs e q (fun a q1 => Tru x cs a q1 Qb E) E)
    (he : ∀ env whole, isTrue e env whole = (do let v ← whole; standAt e.pos; holding [v] (truthy v))) : Tst x cs e q Qb E := fun hid g s R => by
  refine isTrue_plain (he := he _ _) (dn_k (h hid g s R) fun a s₁ g₁ pa q₁ k₁ ia R₁ h₁ => ?_)
  exact wpAny_mono (h₁ hid g₁ s₁ a R₁ ia) (fun _ _ d => d.le k₁) fun _ _ e => e
theorem ts_cmp {l op r pos} (h : Ev x cs l q (fun a q1 => Ev x cs r q1 (fun b q2 => Op2 x cs (compareOp op) a b q2 (fun c q3 => Tru x cs c q3 Qb E) E) E) E)
    (hm : behindInMarks op r = false) : Tst x cs (.Compare l [op] [r] pos) q Qb E := fun hid g s R => by
  refine wpAny_isTrue_Compare1 (hm := hm) (dn_k (h hid g s R) fun a s₁ g₁ pa q₁ k₁ ia R₁ h₁ => ?_)
  refine dn_k (h₁ hid g₁ s₁ R₁) fun b s₂ g₂ pb q₂ k₂ ib R₂ h₂ => ?_
  refine dn_k (h₂ hid g₂ s₂ a b R₂ (ia.up k₂) ib) fun c s₃ g₃ pc q₃ k₃ ic R₃ h₃ => ?_
  exact wpAny_mono (h₃ hid g₃ s₃ c R₃ ic) (fun _ _ d => d.le (k₁.trans (k₂.trans k₃))) fun _ _ e => e
theorem ts_not {e pos} (h : Tst x cs e q (fun b q1 => Qb (!b) q1) E) : Tst x cs (.UnaryOp .Not e pos) q Qb E := fun hid g s R => by
  exact isTrue_not (db_k (h hid g s R) fun b s₁ g₁ q₁ k₁ R₁ h₁ => ⟨g₁, q₁, k₁, R₁, h₁⟩)
theorem ts_and {e rest pos} (h : Tst x cs e q (fun b q1 => if b then Tst x cs (.BoolOp .And rest pos) q1 Qb E else Qb false q1) E) : Tst x cs (.BoolOp .And (e :: rest) pos) q Qb E := fun hid g s R => by
  refine isTrue_and (db_k (h hid g s R) fun b s₁ g₁ q₁ k₁ R₁ h₁ => ?_)
  cases b with
  | true => exact wpAny_mono (h₁ hid g₁ s₁ R₁) (fun _ _ d => d.le k₁) fun _ _ e => e
  | false => exact ⟨g₁, q₁, k₁, R₁, h₁⟩
theorem ts_or {e rest pos} (h : Tst x cs e q (fun b q1 => if b then Qb true q1 else Tst x cs (.BoolOp .Or rest pos) q1 Qb E) E) : Tst x cs (.BoolOp .Or (e :: rest) pos) q Qb E := fun hid g s R => by
  refine isTrue_or (db_k (h hid g s R) fun b s₁ g₁ q₁ k₁ R₁ h₁ => ?_)
  cases b with
  | false => exact wpAny_mono (h₁ hid g₁ s₁ R₁) (fun _ _ d => d.le k₁) fun _ _ e => e
  | true => exact ⟨g₁, q₁, k₁, R₁, h₁⟩
theorem ts_and0 {pos} (h : Qb true q) : Tst x cs (.BoolOp .And [] pos) q Qb E := fun hid g s R => isTrue_and_nil ⟨g, q, .refl g, R, h⟩
theorem ts_or0 {pos} (h : Qb false q) : Tst x cs (.BoolOp .Or [] pos) q Qb E := fun hid g s R => isTrue_or_nil ⟨g, q, .refl g, R, h⟩
theorem tr_bool {b} (h : Qb b q) : Tru x cs (.val (.bool b)) q Qb E := fun hid g s u R i => by
  rw [is_val.mp i]; exact wpAny_truthy_bool ⟨g, q, .refl g, R, h⟩

/- what is to be shown behind a statement -/
noncomputable def Cont (x : Act) (cs : Scope) (rest : List Stmt) (Qf : Out → Q → Prop) (E : Er) (o : Out) (q : Q) : Prop := match o with
  | .nxt => Exs x cs rest q Qf E
  | o => Qf o q
/- blocks -/
theorem co_nxt {rest} (h : Exs x cs rest q Qf E) : Cont x cs rest Qf E .nxt q := h
theorem co_ret {rest p} (h : Qf (.ret p) q) : Cont x cs rest Qf E (.ret p) q := h
theorem co_brk {rest} (h : Qf .brk q) : Cont x cs rest Qf E .brk q := h
theorem co_cnt {rest} (h : Qf .cnt q) : Cont x cs rest Qf E .cnt q := h
theorem xs_nil (h : Qf .nxt q) : Exs x cs [] q Qf E := fun hid g s R => wpAny_execs_nil ⟨g, .nxt, q, .refl g, rfl, R, h⟩
theorem xs_cons {st rest} (h : Ex x cs st q (Cont x cs rest Qf E) E) : Exs x cs (st :: rest) q Qf E := fun hid g s R => by
  refine wpAny_execs_cons (df_k (h hid g s R) fun f s₁ g₁ o q₁ k₁ io R₁ h₁ => ?_)
  cases o with
  | nxt => cases io; exact wpAny_mono (h₁ hid g₁ s₁ R₁) (fun _ _ d => d.le k₁) fun _ _ e => e
  | brk => cases io; exact ⟨g₁, .brk, q₁, k₁, rfl, R₁, h₁⟩
  | cnt => cases io; exact ⟨g₁, .cnt, q₁, k₁, rfl, R₁, h₁⟩
  | ret p => obtain ⟨v, rfl, i⟩ := io; exact ⟨g₁, .ret p, q₁, k₁, ⟨v, rfl, i⟩, R₁, h₁⟩
theorem ex_if {test body orelse pos} (h : Tst x cs test q (fun b q1 => if b then Exs x cs body q1 Qf E else Exs x cs orelse q1 Qf E) E) : Ex x cs (.If test body orelse pos) q Qf E := fun hid g s R => by
  refine wpAny_If (db_k (h hid g s R) fun b s₁ g₁ q₁ k₁ R₁ h₁ => ?_)
  cases b with
  | true => exact wpAny_mono (h₁ hid g₁ s₁ R₁) (fun _ _ d => d.le k₁) fun _ _ e => e
  | false => exact wpAny_mono (h₁ hid g₁ s₁ R₁) (fun _ _ d => d.le k₁) fun _ _ e => e
theorem ex_ret {e pos} (h : Ev x cs e q (fun a q1 => Qf (.ret a) q1) E) : Ex x cs (.Return (some e) pos) q Qf E := fun hid g s R =>
  wpAny_Return_some (dn_k (h hid g s R) fun a s₁ g₁ pa q₁ k₁ ia R₁ h₁ => ⟨g₁, .ret pa, q₁, k₁, ⟨a, rfl, ia⟩, R₁, h₁⟩)
theorem ex_ret0 {pos} (h : Qf (.ret (.val .none)) q) : Ex x cs (.Return none pos) q Qf E := fun hid g s R =>
  wpAny_Return_none ⟨g, .ret (.val .none), q, .refl g, ⟨_, rfl, is_val.mpr rfl⟩, R, h⟩
theorem ex_brk {pos} (h : Qf .brk q) : Ex x cs (.Break pos) q Qf E := fun hid g s R => wpAny_Break ⟨g, .brk, q, .refl g, rfl, R, h⟩
theorem ex_cnt {pos} (h : Qf .cnt q) : Ex x cs (.Continue pos) q Qf E := fun hid g s R => wpAny_Continue ⟨g, .cnt, q, .refl g, rfl, R, h⟩

theorem ex_asg {n nk pos' value pos} (O : x.Ok cs) (i : Nat) (hi' : cs.names[i]? = some nk) (hn' : nk = (n, .local)) (h : Ev x cs value q (fun a q1 => Qf .nxt ⟨q1.m.set i (some a), q1.led⟩) E)
    (hs : swapsWith value (some (.Name n pos')) pos.line (x.env cs) = pure false) : Ex x cs (.Assign [.Name n pos'] value pos) q Qf E := fun hid g s R => by
  have hi : cs.names[i]? = some (n, .local) := hi'.trans (congrArg some hn')
  refine wpAny_Assign_Name (hs := hs) (dn_k (h hid g s R) fun a s₁ g₁ pa q₁ k₁ ia R₁ h₁ => ?_)
  exact du_k (store_L O R₁ ia hi h₁) fun _ s₂ g₂ q₂ k₂ R₂ h₂ => ⟨g₂, .nxt, q₂, k₁.trans k₂, rfl, R₂, h₂⟩
theorem ex_aug {n nk pos' op value pos p} (O : x.Ok cs) (i : Nat) (hi' : cs.names[i]? = some nk) (hn' : nk = (n, .local)) (hm : q.m[i]? = some (some p))
    (h : Ev x cs value q (fun a q1 => Op2 x cs (inplaceOp op) p a q1 (fun r q2 => Qf .nxt ⟨q2.m.set i (some r), q2.led⟩) E) E) : Ex x cs (.AugAssign (.Name n pos') op value pos) q Qf E := fun hid g s R => by
  have hi : cs.names[i]? = some (n, .local) := hi'.trans (congrArg some hn')
  obtain ⟨mr, F, l⟩ := R.fr
  obtain ⟨v, a, b⟩ := l i n _ p hi hm
  refine wpAny_AugAssign_Name (wpAny_loadName_local O.kind (names_get O.nod hi) F.ns a ?_)
  refine dn_k (h hid g s R) fun u s₁ g₁ pu q₁ k₁ iu R₁ h₁ => ?_
  refine dn_k (h₁ hid g₁ s₁ v u R₁ (b.up k₁) iu) fun r s₂ g₂ pr q₂ k₂ ir R₂ h₂ => ?_
  exact du_k (store_L O R₂ ir hi h₂) fun _ s₃ g₃ q₃ k₃ R₃ h₃ => ⟨g₃, .nxt, q₃, (k₁.trans k₂).trans k₃, rfl, R₃, h₃⟩
theorem as_L {n nk pos p} (O : x.Ok cs) (i : Nat) (hi' : cs.names[i]? = some nk) (hn' : nk = (n, .local)) (h : Qu ⟨q.m.set i (some p), q.led⟩) : Asg x cs (.Name n pos) p q Qu E := fun hid g s v R iv =>
  wpAny_assign_Name (store_L O R iv (hi'.trans (congrArg some hn')) h)
theorem ex_asg2 {n n' pos' pos'' value pos} (O : x.Ok cs) (i j : Nat) (hi : cs.names[i]? = some (n, .local)) (hj : cs.names[j]? = some (n', .local))
    (h : Ev x cs value q (fun a q1 => Qf .nxt ⟨(q1.m.set i (some a)).set j (some a), q1.led⟩) E)
    (hw : swappedStores [.Name n pos', .Name n' pos''] value (x.env cs) = pure none) : Ex x cs (.Assign [.Name n pos', .Name n' pos''] value pos) q Qf E := fun hid g s R => by
  refine wpAny_Assign_two (hw := hw) (dn_k (h hid g s R) fun a s₁ g₁ pa q₁ k₁ ia R₁ h₁ => ?_)
  refine wpAny_assign_Name (du_k (store_L (Qn := fun q' => q' = ⟨q₁.m.set i (some pa), q₁.led⟩) O R₁ ia hi rfl) fun _ s₂ g₂ q₂ k₂ R₂ h₂ => ?_)
  subst h₂
  refine wpAny_assign_Name (du_k (store_L O R₂ (ia.up k₂) hj h₁) fun _ s₃ g₃ q₃ k₃ R₃ h₃ => ?_)
  exact ⟨g₃, .nxt, q₃, (k₁.trans k₂).trans k₃, rfl, R₃, h₃⟩
theorem ex_asgT {elts k tpos value pos} (h : Ev x cs value q (fun a q1 => Asg x cs (.Tuple elts k tpos) a q1 (Qf .nxt) E) E)
    (hs : swapsWithSole [.Tuple elts k tpos] value pos.line (x.env cs) = pure false) (hw : swappedStores [.Tuple elts k tpos] value (x.env cs) = pure none) :
    Ex x cs (.Assign [.Tuple elts k tpos] value pos) q Qf E := fun hid g s R => by
  refine Assign_Tuple (hs := hs) (hw := hw) (dn_k (h hid g s R) fun a s₁ g₁ pa q₁ k₁ ia R₁ h₁ => ?_)
  exact du_k (h₁ hid g₁ s₁ a R₁ ia) fun _ s₂ g₂ q₂ k₂ R₂ h₂ => ⟨g₂, .nxt, q₂, k₁.trans k₂, rfl, R₂, h₂⟩
theorem ex_expr {e pos} (h : Ev x cs e q (fun a q1 => a = .val .none ∧ Qf .nxt q1) E) (hi : interactive (x.env cs) = false) (hs : swapsWith e none pos.line (x.env cs) = pure false) :
    Ex x cs (.Expr e pos) q Qf E := fun hid g s R => by
  refine wpAny_Expr (hi := hi) (hs := hs) (dn_k (h hid g s R) fun a s₁ g₁ pa q₁ k₁ ia R₁ ⟨e₁, h₁⟩ => ?_)
  subst e₁; rw [is_val.mp ia]
  exact ⟨g₁, .nxt, q₁, k₁, rfl, R₁, h₁⟩

/- loops -/
noncomputable def Pass (x : Act) (cs : Scope) (E' E : Er) : Prop := ∀ e s, E' e s → notedBy x.M x.A (x.env cs) (cameBackBy x.M x.A (x.env cs) E) e s
noncomputable def noE : Er := fun _ _ => False
theorem noE_pass : Pass x cs noE E := fun _ _ h => h.elim
section
variable {x : Act} {cs : Scope} {E : Er} {Qn : PV → Q → Prop} {hid : List (Addr × MK)} {g : G} {s : Shared}
theorem dn_kn {m : Sem Value} {Q' : Value → Shared → Prop} (h : wpAny x.M x.A m (Dn x cs hid g Qn) noE s) (k : ∀ (a : Value) (s₁ : Shared) (g₁ : G) (p : PV) (q₁ : Q), g.Le g₁ → Is g₁ p a → Rep x cs hid g₁ q₁ s₁ → Qn p q₁ → Q' a s₁) : wpAny x.M x.A m Q' E s :=
  wpAny_mono (dn_k h k) (fun _ _ z => z) fun _ _ e => e.elim
theorem db_kn {m : Sem Bool} {Qb : Bool → Q → Prop} {Q' : Bool → Shared → Prop} (h : wpAny x.M x.A m (Db x cs hid g Qb) noE s) (k : ∀ (a : Bool) (s₁ : Shared) (g₁ : G) (q₁ : Q), g.Le g₁ → Rep x cs hid g₁ q₁ s₁ → Qb a q₁ → Q' a s₁) : wpAny x.M x.A m Q' E s :=
  wpAny_mono (db_k h k) (fun _ _ z => z) fun _ _ e => e.elim
theorem du_kn {m : Sem Unit} {Qu : Q → Prop} {Q' : Unit → Shared → Prop} (h : wpAny x.M x.A m (Du x cs hid g Qu) noE s) (k : ∀ (a : Unit) (s₁ : Shared) (g₁ : G) (q₁ : Q), g.Le g₁ → Rep x cs hid g₁ q₁ s₁ → Qu q₁ → Q' a s₁) : wpAny x.M x.A m Q' E s :=
  wpAny_mono (du_k h k) (fun _ _ z => z) fun _ _ e => e.elim
theorem dl_kn {m : Sem (List Value)} {Ql : List PV → Q → Prop} {Q' : List Value → Shared → Prop} (h : wpAny x.M x.A m (Dl x cs hid g Ql) noE s) (k : ∀ (a : List Value) (s₁ : Shared) (g₁ : G) (ps : List PV) (q₁ : Q), g.Le g₁ → IsL g₁ ps a → Rep x cs hid g₁ q₁ s₁ → Ql ps q₁ → Q' a s₁) : wpAny x.M x.A m Q' E s :=
  wpAny_mono (dl_k h k) (fun _ _ z => z) fun _ _ e => e.elim
end
noncomputable def WPost (I : Nat → Q → Prop) (Qf : Out → Q → Prop) (n : Nat) (o : Out) (q3 : Q) : Prop := match o with
  | .nxt => ∃ m, m < n ∧ I m q3 | .cnt => ∃ m, m < n ∧ I m q3 | .brk => Qf .nxt q3 | .ret p => Qf (.ret p) q3
theorem ex_while {test body pos} (E' : Er) (hE : Pass x cs E' E) (I : Nat → Q → Prop)
    (turn : ∀ n q', I n q' → Tst x cs test q' (fun b q2 => if b then Exs x cs body q2 (WPost I Qf n) E' else Qf .nxt q2) E')
    (n : Nat) (h : I n q) : Ex x cs (.While test body [] pos) q Qf E := fun hid g s R => by
  refine wpAny_While ?_
  refine codeAny_whileLoop (fun n s => ∃ g' q', g.Le g' ∧ Rep x cs hid g' q' s ∧ I n q') ?_ n ⟨g, q, .refl g, R, h⟩
  rintro n s₁ ⟨g₁, q₁, k₁, R₁, h₁⟩
  refine wpAny_mono (turn n q₁ h₁ hid g₁ s₁ R₁) (fun b s₂ ⟨g₂, q₂, k₂, R₂, h₂⟩ => ?_) hE
  cases b with
  | false => exact wpAny_execs_nil ⟨g₂, .nxt, q₂, k₁.trans k₂, rfl, R₂, h₂⟩
  | true =>
    refine wpAny_mono (h₂ hid g₂ s₂ R₂) (fun f s₃ ⟨g₃, o, q₃, k₃, io, R₃, h₃⟩ => ?_) hE
    have k := (k₁.trans k₂).trans k₃
    cases o with
    | nxt => cases io; obtain ⟨m, hm, z⟩ := h₃; exact ⟨m, hm, g₃, q₃, k, R₃, z⟩
    | cnt => cases io; obtain ⟨m, hm, z⟩ := h₃; exact ⟨m, hm, g₃, q₃, k, R₃, z⟩
    | brk => cases io; exact ⟨g₃, .nxt, q₃, k, rfl, R₃, h₃⟩
    | ret p => obtain ⟨v, rfl, i⟩ := io; exact ⟨g₃, .ret p, q₃, k, ⟨v, rfl, i⟩, R₃, h₃⟩
end
end Wk
end
/- L3 -/
section
open PySem PySem.W PySem.Calls PyProof.Rows
namespace Wk
open Mine
section
variable {x : Act} {cs : Scope} {E : Er} {q : Q} {Qn : PV → Q → Prop} {Qb : Bool → Q → Prop} {Qf : Out → Q → Prop} {Qu : Q → Prop} {hid : List (Addr × MK)} {g : G}

/- objects added, none changed -/
theorem Rep.grow {q s h'} {t : Nat} (R : Rep x cs hid g q s) (k : ∀ b o, s.heap.get? b = some o → h'.get? b = some o) : Rep x cs hid g q { s with heap := h', toks := t } where
  fr := let ⟨mr, F, l⟩ := R.fr; ⟨mr, ⟨F.ns.keeps k, fun b o e => k _ _ (F.keep b o e), F.above⟩, l⟩
  sub b o e := k _ _ (R.sub b o e)
  base := R.base
  own := R.own
  off := R.off
  led e he := let ⟨a, b, c, d⟩ := R.led e he; ⟨a, b, c, let ⟨o, z⟩ := d.there; d.up (.refl g) ((k _ _ z).trans z.symm)⟩
  nod := R.nod
  os := R.os
  gens := R.gens
  sl := R.sl.trans (.of_keeps k)
theorem Rep.dnG {q s h' v p t} {Qn : PV → Q → Prop} (R : Rep x cs hid g q s) (k : ∀ b o, s.heap.get? b = some o → h'.get? b = some o) (i : Is g p v) (h : Qn p q) : Dn x cs hid g Qn v { s with heap := h', toks := t } := ⟨g, p, q, .refl g, i, R.grow k, h⟩
theorem Rep.db {q s b t} (R : Rep x cs hid g q s) (h : Qb b q) : Db x cs hid g Qb b { s with toks := t } := ⟨g, q, .refl g, R.tok t, h⟩

/- ints -/
section
variable {a b : Int}
theorem op_add (h : Qn (.int (a + b)) q) : Op2 x cs (binaryOp .Add) (.int a) (.int b) q Qn E := fun hid g s u v R i j => by
  with_reducible refine int_k i fun t => ?_; with_reducible refine int_k j fun t' => ?_; with_reducible refine PySem.P.add_int ?_; exact R.dn (is_int.mpr ⟨_, rfl⟩) h
theorem op_iadd (h : Qn (.int (a + b)) q) : Op2 x cs (inplaceOp .Add) (.int a) (.int b) q Qn E := fun hid g s u v R i j => by
  with_reducible refine int_k i fun t => ?_; with_reducible refine int_k j fun t' => ?_; with_reducible refine PySem.P.iadd_int ?_; exact R.dn (is_int.mpr ⟨_, rfl⟩) h
theorem op_sub (h : Qn (.int (a - b)) q) : Op2 x cs (binaryOp .Sub) (.int a) (.int b) q Qn E := fun hid g s u v R i j => by
  with_reducible refine int_k i fun t => ?_; with_reducible refine int_k j fun t' => ?_; with_reducible refine PySem.P.sub_int ?_; exact R.dn (is_int.mpr ⟨_, rfl⟩) h
theorem op_addb {c : Bool} (h : Qn (.int (a + if c = true then (1 : Int) else 0)) q) : Op2 x cs (binaryOp .Add) (.int a) (.val (.bool c)) q Qn E := fun hid g s u v R i j => by
  with_reducible refine int_k i fun t => ?_; rw [is_val.mp j]; exact PySem.add_int_bool (R.dn (is_int.mpr ⟨_, rfl⟩) h)
theorem op_mod (hb : b ≠ 0) (h : Qn (.int (a.fmod b)) q) : Op2 x cs (binaryOp .Mod) (.int a) (.int b) q Qn E := fun hid g s u v R i j => by
  with_reducible refine int_k i fun t => ?_; with_reducible refine int_k j fun t' => ?_; with_reducible refine PyProof.Rows.mod_int ?_ ?_; (exact hb); exact R.dn (is_int.mpr ⟨_, rfl⟩) h
theorem op_mul (hm : IntMulOk a b) (h : Qn (.int (a * b)) q) : Op2 x cs (binaryOp .Mult) (.int a) (.int b) q Qn E := fun hid g s u v R i j => by
  with_reducible refine int_k i fun t => ?_; with_reducible refine int_k j fun t' => ?_; with_reducible refine PySem.P.mul_int ?_ ?_; (exact R.dn (is_int.mpr ⟨_, rfl⟩) h); exact hm
theorem op_fdiv (hb : b ≠ 0) (hp : Builtin.divisionGoesByPylong a b = false) (h : Qn (.int (a.fdiv b)) q) : Op2 x cs (binaryOp .FloorDiv) (.int a) (.int b) q Qn E := fun hid g s u v R i j => by
  with_reducible refine int_k i fun t => ?_; with_reducible refine int_k j fun t' => ?_; with_reducible refine PyProof.Rows.floordiv_int ?_ ?_ ?_; (exact hb); (exact R.dn (is_int.mpr ⟨_, rfl⟩) h); exact .inl hp
theorem op_lt (h : Qn (.val (.bool (decide (a < b)))) q) : Op2 x cs (compareOp .Lt) (.int a) (.int b) q Qn E := fun hid g s u v R i j => by
  with_reducible refine int_k i fun t => ?_; with_reducible refine int_k j fun t' => ?_; with_reducible refine PySem.P.lt_int ?_; exact R.dn' (is_val.mpr rfl) h
theorem op_le (h : Qn (.val (.bool (decide (a ≤ b)))) q) : Op2 x cs (compareOp .LtE) (.int a) (.int b) q Qn E := fun hid g s u v R i j => by
  with_reducible refine int_k i fun t => ?_; with_reducible refine int_k j fun t' => ?_; with_reducible refine PySem.P.le_int ?_; exact R.dn' (is_val.mpr rfl) h
theorem op_gt (h : Qn (.val (.bool (decide (a > b)))) q) : Op2 x cs (compareOp .Gt) (.int a) (.int b) q Qn E := fun hid g s u v R i j => by
  with_reducible refine int_k i fun t => ?_; with_reducible refine int_k j fun t' => ?_; with_reducible refine PySem.P.gt_int ?_; exact R.dn' (is_val.mpr rfl) h
theorem op_ge (h : Qn (.val (.bool (decide (a ≥ b)))) q) : Op2 x cs (compareOp .GtE) (.int a) (.int b) q Qn E := fun hid g s u v R i j => by
  with_reducible refine int_k i fun t => ?_; with_reducible refine int_k j fun t' => ?_; with_reducible refine PySem.P.ge_int ?_; exact R.dn' (is_val.mpr rfl) h
theorem op_eq (h : Qn (.val (.bool (a == b))) q) : Op2 x cs (compareOp .Eq) (.int a) (.int b) q Qn E := fun hid g s u v R i j => by
  with_reducible refine int_k i fun t => ?_; with_reducible refine int_k j fun t' => ?_; with_reducible refine PySem.P.eq_int ?_; exact R.dn' (is_val.mpr rfl) h
theorem op_ne (h : Qn (.val (.bool (a != b))) q) : Op2 x cs (compareOp .NotEq) (.int a) (.int b) q Qn E := fun hid g s u v R i j => by
  with_reducible refine int_k i fun t => ?_; with_reducible refine int_k j fun t' => ?_; with_reducible refine PySem.P.ne_int ?_; exact R.dn' (is_val.mpr rfl) h
theorem op_eqbb {a b : Bool} (h : Qn (.val (.bool (a == b))) q) : Op2 x cs (compareOp .Eq) (.val (.bool a)) (.val (.bool b)) q Qn E := fun hid g s u v R i j => by
  rw [is_val.mp i, is_val.mp j]; with_reducible refine PyProof.Rows.eq_bool ?_; exact R.dn' (is_val.mpr rfl) h
end

/- is -/
noncomputable def PV.isNone : PV → Bool
  | .val v => v == .none
  | _ => false
theorem isNone_eq {p : PV} {v : Value} (i : Is g p v) : (v == .none) = p.isNone := by
  cases p with
  | val u => rw [is_val.mp i]; rfl
  | int => obtain ⟨t, rfl⟩ := is_int.mp i; rfl
  | str => obtain ⟨t, rfl⟩ := is_str.mp i; rfl
  | byt => obtain ⟨t, rfl⟩ := is_byt.mp i; rfl
  | tup => obtain ⟨a, vs, o, n, rfl, _⟩ := is_tup.mp i; rfl
  | lst => obtain ⟨a, vs, o, n, rfl, _⟩ := is_lst.mp i; rfl
  | obj => obtain ⟨a, d, o, es, n, rfl, _⟩ := is_obj.mp i; rfl
theorem op_isN {a} (h : Qn (.val (.bool a.isNone)) q) : Op2 x cs (compareOp .Is) a (.val .none) q Qn E := fun hid g s u v R i j => by
  rw [is_val.mp j]; with_reducible refine PyProof.Rows.is_none_gen ?_; exact R.dn' (is_val.mpr (by rw [isNone_eq i])) h
theorem op_isnotN {a} (h : Qn (.val (.bool (!a.isNone))) q) : Op2 x cs (compareOp .IsNot) a (.val .none) q Qn E := fun hid g s u v R i j => by
  rw [is_val.mp j]; with_reducible refine PyProof.Rows.isnot_none_gen ?_; exact R.dn' (is_val.mpr (by rw [isNone_eq i])) h
theorem op_isnotB {a b : Bool} (h : Qn (.val (.bool (a != b))) q) : Op2 x cs (compareOp .IsNot) (.val (.bool a)) (.val (.bool b)) q Qn E := fun hid g s u v R i j => by
  rw [is_val.mp i, is_val.mp j]; with_reducible refine PyProof.Rows.isnot_bool ?_; exact R.dn' (is_val.mpr rfl) h

/- bytes -/
section
variable {a b : List UInt8}
theorem op_addB (hz : a.length + b.length ≤ 16777216) (h : Qn (.byt (a ++ b)) q) : Op2 x cs (binaryOp .Add) (.byt a) (.byt b) q Qn E := fun hid g s u v R i j => by
  with_reducible refine byt_k i fun t => ?_; with_reducible refine byt_k j fun t' => ?_
  exact KBy.add_bytes (by simpa using hz) fun t' k => R.dn (is_byt.mpr ⟨_, by simp; rfl⟩) h
theorem op_eqB (h : Qn (.val (.bool (a == b))) q) : Op2 x cs (compareOp .Eq) (.byt a) (.byt b) q Qn E := fun hid g s u v R i j => by
  with_reducible refine byt_k i fun t => ?_; with_reducible refine byt_k j fun t' => ?_; with_reducible refine eq_bytes ?_; exact R.dn' (is_val.mpr rfl) h
theorem op_neB (h : Qn (.val (.bool (a != b))) q) : Op2 x cs (compareOp .NotEq) (.byt a) (.byt b) q Qn E := fun hid g s u v R i j => by
  with_reducible refine byt_k i fun t => ?_; with_reducible refine byt_k j fun t' => ?_; with_reducible refine ne_bytes ?_; exact R.dn' (is_val.mpr rfl) h
theorem op_itemB {value slice : Expr} {k : Int} (hz : a.length ≤ 16777216) (h0 : 0 ≤ k) (h1 : k < a.length) (h : Qn (.int ((a.getD k.toNat 0).toNat : Nat)) q)
    (hs : ∀ t u, subscripted slice false (.bytes a.toArray t) (.int k u) = operate [.bytes a.toArray t, .int k u] (getItem (.bytes a.toArray t) (.int k u)))
    (ht : ∀ t r, letTemporaryGo value (.bytes a.toArray t) r = pure ()) :
    Op2 x cs (subscriptTail value slice) (.byt a) (.int k) q Qn E := fun hid g s u v R i j => by
  with_reducible refine byt_k i fun t => ?_; with_reducible refine int_k j fun t' => ?_
  exact tail_of_ItemOn ⟨"bytes", _, FB.slot_bytes_getitem.lookup, typeIs_bytes _ _ _, getItem_bytes (by lia) h0 h1 (R.dn (is_int.mpr ⟨_, rfl⟩) h)⟩ (hs _ _) (ht _)
theorem tr_byt (hz : a.length ≤ 16777216) (h : Qb (!a.isEmpty) q) : Tru x cs (.byt a) q Qb E := fun hid g s u R i => by
  with_reducible refine byt_k i fun t => ?_
  refine truthy_bytes (by simp; lia) ?_
  have e : (((a.toArray.size : Nat) : Int) != 0) = !a.isEmpty := by cases a <;> simp <;> lia
  rw [e]; exact R.db h
end

/- slices -/
noncomputable def Part (x : Act) (cs : Scope) (o : Option Expr) (q : Q) (k : Option Int → Q → Prop) (E : Er) : Prop := match o with
  | none => k none q
  | some e => Ev x cs e q (fun p q' => ∃ i, p = .int i ∧ k (some i) q') E
noncomputable def Slc (x : Act) (cs : Scope) (T : String) (a : PV) (l u : Option Int) (q : Q) (Qn : PV → Q → Prop) (E : Er) : Prop :=
  ∀ hid g s b sl vl vu, Rep x cs hid g q s → Is g a b → s.heap.IsSliceOf sl vl vu .none → IsPart vl l → IsPart vu u → s.TypeIs b T ∧ wpAny x.M x.A (getItem b (.ref sl)) (Dn x cs hid g Qn) E s
inductive Dp (x : Act) (cs : Scope) (hid : List (Addr × MK)) (g : G) (k : Option Int → Q → Prop) (v : Value) (s' : Shared) : Prop where
  | mk (g' l q') (h1_0 : g.Le g') (h2_1 : IsPart v l) (h3_2 : Rep x cs hid g' q' s') (h4_3 : k l q') : Dp x cs hid g k v s'
section
variable {x : Act} {cs : Scope} {hid : List (Addr × MK)} {g : G} {E : Er} {s : Shared}
theorem dp_k {m : Sem Value} {Qn : Option Int → Q → Prop} {Q' : Value → Shared → Prop} (h : wpAny x.M x.A m (Dp x cs hid g Qn) E s) (k : ∀ (a : Value) (s₁ : Shared) (g₁ : G) (l : Option Int) (q₁ : Q), g.Le g₁ → IsPart a l → Rep x cs hid g₁ q₁ s₁ → Qn l q₁ → Q' a s₁) : wpAny x.M x.A m Q' E s :=
  wpAny_mono h (fun a s₁ ⟨g₁, l, q₁, z0, z1, z2, z3⟩ => k a s₁ g₁ l q₁ z0 z1 z2 z3) fun _ _ e => e
end
theorem part_run {o q k hid g s} (h : Part x cs o q k E) (R : Rep x cs hid g q s) : wpAny x.M x.A (evalPart o (x.env cs)) (Dp x cs hid g k) E s := by
  cases o with
  | none => rw [evalPart_none]; exact wpAny_pure ⟨g, none, q, .refl g, .none, R, h⟩
  | some e =>
    rw [evalPart_some]
    exact dn_k (h hid g s R) fun v s' g' p q' a b c ⟨i, e, d⟩ => by subst e; with_reducible refine int_k b fun t => ?_; exact ⟨g', some i, q', a, .int _ _, c, d⟩
theorem ev_slc (T : String) {id value lo hi p pos} (hl : typeLookup (.type T) "__getitem__" = pure (some (.builtin id)))
    (h : Ev x cs value q (fun a q1 => Part x cs lo q1 (fun l q2 => Part x cs hi q2 (fun u q3 => Slc x cs T a l u q3 Qn E) E) E) E)
    (ht : ∀ o r, letTemporaryGo value o r = pure ()) : Ev x cs (.Subscript value (.Slice lo hi none p) pos) q Qn E := fun hid g s R => by
  refine wpAny_Subscript_Slice (T := T) hl (dn_k (h hid g s R) fun a s₁ g₁ pa q₁ k₁ ia R₁ h₁ => ?_) ht
  refine wpAny_Slice (dp_k (part_run h₁ R₁) fun vl s₂ g₂ l q₂ k₂ il R₂ h₂ => ?_)
  refine dp_k (part_run h₂ R₂) fun vu s₃ g₃ u q₃ k₃ iu R₃ h₃ => ?_
  rw [evalPart_none]
  refine wpAny_pure ?_
  have R₄ : Rep x cs hid g₃ q₃ { s₃ with heap := s₃.heap.push { cls := .type "slice", data := .fields #[vl, vu, .none] } } := R₃.grow (t := s₃.toks) fun b o e => Heap.get?_push_of_some _ e
  obtain ⟨hT, hw⟩ := h₃ hid g₃ _ a _ vl vu R₄ (ia.up (k₂.trans k₃)) (Heap.IsSliceOf.new ..) il iu
  exact ⟨hT, wpAny_mono hw (fun _ _ d => d.le (k₁.trans (k₂.trans k₃))) fun _ _ e => e⟩
/- the piece of a list that a slice takes -/
noncomputable def cut {α : Type} (l : List α) (lo hi : Option Int) : List α := (l.drop (lo.elim 0 (clipAt l.length))).take (hi.elim l.length (clipAt l.length) - lo.elim 0 (clipAt l.length))
theorem sl_byt {a : List UInt8} {l u : Option Int} (hz : a.length ≤ 16777216) (h : Qn (.byt (cut a l u)) q) : Slc x cs "bytes" (.byt a) l u q Qn E := fun hid g s b sl vl vu R i hs pl pu => by
  with_reducible refine byt_k i fun t => ?_
  refine ⟨typeIs_bytes _ _ _, getItem_meets (typeIs_bytes _ _ _) (by decide) FB.slot_bytes_getitem FB.entry_bytes_getitem (FB.args_bytes_getitem_2 _ _) (KBc.meets_slice2 _ t _ pl pu) ⟨hs, ?_, fun t' k => ?_⟩⟩
  · exact Nat.le_trans (KBc.size_picked_le _ l u) (by rw [sizeLine_eq]; simpa using hz)
  · refine R.dn (p := .byt (cut a l u)) (is_byt.mpr ⟨t', ?_⟩) h
    rw [KBc.picked_eq]; simp [cut]
end
end Wk
end
/- L4 -/
section
open PySem PySem.W PySem.Calls PyProof.Rows
namespace Wk
open Mine

/- what a call of `f` does: it needs so much room, changes no more than the objects of `fp`, and gives so -/
noncomputable def Cl (b : Bool) (f : Value) (args : List PV) (fp : List (Addr × MK)) (need : Nat) (Qc : PV → List (Addr × MK) → Prop) (w : World) : Prop :=
  ∀ (x : Act) cs hid g m rest s vals (E : Er), x.w = w → x.Ok cs → (b = true → x.hn = true) → need ≤ x.r → Rep x cs hid g ⟨m, fp ++ rest⟩ s → IsL g args vals →
    codeAny x.M x.A (.call f ⟨vals, []⟩) (fun r s' => match r with | .ok (.ret v) => Dn x cs hid g (fun p q' => ∃ fp', q' = ⟨m, fp' ++ rest⟩ ∧ Qc p fp') v s' | .ok _ => False | .error e => E e s') s

theorem Rep.perm {x cs hid g m l l' s} (R : Rep x cs hid g ⟨m, l⟩ s) (p : l.Perm l') : Rep x cs hid g ⟨m, l'⟩ s where
  fr := R.fr
  sub := R.sub
  base := R.base
  own := R.own
  off := R.off
  led e he := R.led e (((p.append_right hid).mem_iff).mpr he)
  nod := ((p.append_right hid).map _).nodup_iff.mp R.nod
  os := R.os
  gens := R.gens
  sl := R.sl

noncomputable def Act.callee (x : Act) (g : G) (h₀ : Heap) (L : Addr) (qual : Str) (fa : Addr) (cd : Value) (cl : List (Str × Addr)) (sc : Scope) : Act :=
  { x with A := x.A.deeper (envX qual sc L fa cd cl), frames := envX qual sc L fa cd cl :: x.frames, h₀ := h₀, g₀ := g, L := L, qual := qual ++ ".<locals>.", fn := some fa, ccd := cd, fr := some L, cl := cl, r := x.r - 1 }

section
variable {x : Act} {cs : Scope} {E : Er} {g : G} {hid : List (Addr × MK)} {m : List (Option PV)} {fp rest : List (Addr × MK)} {s : Shared}

theorem fp_h (R : Rep x cs hid g ⟨m, fp ++ rest⟩ s) : ∀ b ∈ fp.map (·.1), b ≠ x.L ∧ x.h₀.get? b = none := fun b hb => by
  obtain ⟨p, hp, rfl⟩ := List.mem_map.mp hb
  have := R.led p (by simp [hp]); exact ⟨this.1, this.2.2.1⟩
theorem callee_slots (R : Rep x cs hid g ⟨m, fp ++ rest⟩ s) : x.h₀.UpToSlots (hideAll s.heap (fp.map (·.1))) := utsTo R.sl fun b o e => by
  have hb : b ∉ fp.map (·.1) := fun q => by rw [(fp_h R b q).2] at e; cases e
  cases z : s.heap.get? b with
  | some o' => exact hideAll_get _ z hb
  | none =>
    cases z' : (hideAll s.heap (fp.map (·.1))).get? b with
    | none => rfl
    | some o' => have := of_hideAll _ z'; rw [z] at this; cases this
theorem callee_keeps (O : x.Ok cs) (R : Rep x cs hid g ⟨m, fp ++ rest⟩ s) {L : Addr} (hL : L = s.heap.objs.size) : ∀ b o, x.k₀.get? b = some o → ∀ {env : Env}, env.frame = some L → (hideAll (hideAll s.heap (fp.map (·.1))) (fadrs (env :: x.frames))).get? b = some o := fun b o e env hf => by
  obtain ⟨mr, F, _⟩ := id R.fr
  have e0 : x.h₀.get? b = some o := of_hideAll _ e
  have hs := F.keep b o e
  refine hideAll_get _ (hideAll_get _ hs fun q => by rw [(fp_h R b q).2] at e0; cases e0) fun q => ?_
  unfold fadrs at q
  rw [List.filterMap_cons, hf] at q
  rcases List.mem_cons.mp q with rfl | q
  · have := Heap.lt_size hs; rw [hL] at this; exact absurd this (Nat.lt_irrefl _)
  · rw [show x.k₀.get? b = none from hideAll_none _ q] at e; cases e
theorem bel_there (O : x.Ok cs) (R : Rep x cs hid g ⟨m, fp ++ rest⟩ s) {env : Env} (he : env ∈ x.frames) {a : Addr} (hf : env.frame = some a) (hne : a ≠ x.L) : x.h₀.get? a ≠ none := fun z => by
  obtain ⟨mr, F, _⟩ := id R.fr
  have B : Below x.A x.base x.frames (hideAll s.heap [a]) := O.bel _ _ F R.sl _ fun b hb => by
    rw [List.mem_singleton.mp hb]; exact ⟨hne, z⟩
  obtain ⟨L₁, o₁, hf₁, ho₁⟩ := funFrames_in B.frames env he
  rw [hf₁] at hf
  rw [hideAll_none _ (by rw [Option.some.inj hf]; exact .head _)] at ho₁
  cases ho₁
theorem led_off (O : x.Ok cs) (R : Rep x cs hid g ⟨m, fp ++ rest⟩ s) {b : Addr} (h1 : b ≠ x.L) (h2 : x.h₀.get? b = none) : b ∉ fadrs x.frames := fun hm => by
  obtain ⟨env, he, hf⟩ := List.mem_filterMap.mp hm
  exact bel_there O R he hf h1 h2
theorem g_off (O : x.Ok cs) (R : Rep x cs hid g ⟨m, fp ++ rest⟩ s) {b : Addr} {o : Obj} (z : g b = some o) : b ∉ fadrs x.frames := fun hm => by
  obtain ⟨env, he, hf⟩ := List.mem_filterMap.mp hm
  by_cases hL' : b = x.L
  · rw [hL', R.off] at z; cases z
  · rcases R.own b o z with h1 | h1
    · rw [O.foff env he b hf] at h1; cases h1
    · exact absurd h1 (bel_there O R he hf hL')
theorem foff_callee {sc : Scope} {L fa : Addr} {qual : Str} {cd : Value} {cl : List (Str × Addr)} (O : x.Ok cs) (R : Rep x cs hid g ⟨m, fp ++ rest⟩ s) (hL : L = s.heap.objs.size) :
    ∀ env ∈ envX qual sc L fa cd cl :: x.frames, ∀ a, env.frame = some a → g a = none := fun env he a hf => by
  cases z : g a with
  | none => rfl
  | some o =>
    rcases List.mem_cons.mp he with rfl | he
    · have e : L = a := Option.some.inj hf
      have := Heap.lt_size (R.sub _ _ z); rw [← e, hL] at this; exact absurd this (Nat.lt_irrefl _)
    · exact absurd (List.mem_filterMap.mpr ⟨env, he, hf⟩) (g_off O R z)

theorem callee_ok {sc : Scope} {L fa : Addr} {qual : Str} {cd : Value} {cl : List (Str × Addr)} (O : x.Ok cs) (R : Rep x cs hid g ⟨m, fp ++ rest⟩ s) (hr : 1 ≤ x.r)
    (hk : sc.kind = .function) (hn : (sc.names.map (·.1)).Nodup) (hL : L = s.heap.objs.size) : (x.callee g (hideAll s.heap (fp.map (·.1))) L qual fa cd cl sc).Ok sc := by
  obtain ⟨mr, F, _⟩ := id R.fr
  have ck : ∀ b o, x.k₀.get? b = some o → (x.callee g (hideAll s.heap (fp.map (·.1))) L qual fa cd cl sc).k₀.get? b = some o := fun b o e => callee_keeps O R hL b o e (env := envX qual sc L fa cd cl) rfl
  have B : Below x.A x.base x.frames (hideAll s.heap (fp.map (·.1))) := O.bel _ _ F R.sl _ (fp_h R)
  refine ⟨?_, fun h mr' F' sl' fps hf => ?_, O.lim.keeps ck, O.kin.keeps ck, O.top.keeps ck, fun a o e => R.base _ _ (O.kg a o e), ?_, ?_, O.guards, hk, hn, O.bare, O.hand, foff_callee O R hL⟩
  · show Option.map _ x.A.frames = _; rw [O.frs]; rfl
  · have hnb : x.base.get? L = none := by
      cases q : x.base.get? L with
      | none => rfl
      | some o => have := Heap.lt_size (of_hideAll _ (B.stays _ _ q)); rw [hL] at this; exact absurd this (Nat.lt_irrefl _)
    have B₁ : h.FunFrames x.base (envX qual sc L fa cd cl :: x.frames) := .cons (by show sc.kind ≠ .module; rw [hk]; decide) rfl F'.ns hnb (B.frames.of_keeps fun b o e hn => let ⟨sl, z⟩ := sl' b o e hn; ⟨_, z, rfl⟩)
    have st : ∀ b o, x.base.get? b = some o → h.get? b = some o := fun b o e => F'.keep b o (hideAll_get _ (B.stays b o e) fun q => by
      rw [(B₁.mem q).1] at e; cases e)
    refine ⟨by show Option.map _ x.A.frames = _; rw [O.frs]; rfl, fun b o e => hideAll_get _ (st b o e) fun q => ?_, funFrames_hideAll B₁ fun env' he b hb hf' => ?_⟩
    · have := B.stays b o e
      have h2 : (hideAll s.heap (fp.map (·.1))).get? b = none := (hf b q).2
      rw [h2] at this; cases this
    · cases he with
      | head => exact (hf b hb).1 (Option.some.inj hf').symm
      | tail _ he =>
        obtain ⟨L₁, o₁, hf₁, ho₁⟩ := funFrames_in B.frames env' he
        rw [hf₁] at hf'
        have h2 : (hideAll s.heap (fp.map (·.1))).get? b = none := (hf b hb).2
        rw [(Option.some.inj hf' : L₁ = b)] at ho₁
        rw [h2] at ho₁; cases ho₁
  · have := O.depth; show x.A.depth + 1 + (x.r - 1) ≤ 900; lia
  · have := O.units; show x.A.units + 3 + 10 * (x.r - 1) ≤ 9800; lia

theorem callee_rep {sc : Scope} {L fa : Addr} {qual : Str} {cd : Value} {cl : List (Str × Addr)} {h₁ : Heap} {mr₁ : Str → Option Value} {m₀ : List (Option PV)} {t : Nat} (R : Rep x cs hid g ⟨m, fp ++ rest⟩ s)
    (hL : L = s.heap.objs.size) (hns : h₁.Ns L mr₁) (hk : ∀ b o, s.heap.get? b = some o → h₁.get? b = some o) (hl : Locs g sc.names m₀ mr₁) :
    Rep (x.callee g (hideAll s.heap (fp.map (·.1))) L qual fa cd cl sc) sc [] g ⟨m₀, fp⟩ { s with heap := h₁, toks := t } where
  fr := ⟨mr₁, ⟨hns, fun b o e => hk b o (of_hideAll _ (of_hideAll _ e)), by rw [hL]; exact Nat.le_of_eq ((hideAll_size _ _).trans (hideAll_size _ _))⟩, hl⟩
  sub b o e := hk _ _ (R.sub b o e)
  base := .refl g
  own b o e := .inl e
  off := by
    cases e : g L with
    | none => exact e
    | some o => have := Heap.lt_size (R.sub _ _ e); rw [hL] at this; exact absurd this (Nat.lt_irrefl _)
  led e he := by
    have he' : e ∈ fp := by simpa using he
    obtain ⟨a, b, c, d⟩ := R.led e (by simp [he'])
    obtain ⟨o, z⟩ := d.there
    exact ⟨by show e.1 ≠ L; rw [hL]; exact Nat.ne_of_lt (Heap.lt_size z), b, hideAll_none _ (List.mem_map_of_mem he'), d.up (.refl g) ((hk _ _ z).trans z.symm)⟩
  nod := by
    have := R.nod
    simp only [List.append_nil]
    rw [List.append_assoc, List.map_append] at this
    exact (List.nodup_append.mp this).1
  os := R.os
  gens := R.gens
  sl := .of_keeps fun b o e => hk b o (of_hideAll _ e)

theorem callee_back {sc : Scope} {L fa : Addr} {qual : Str} {cd : Value} {cl : List (Str × Addr)} {g' : G} {q' : Q} {s' : Shared} (O : x.Ok cs) (hLs : L = s.heap.objs.size) (R : Rep x cs hid g ⟨m, fp ++ rest⟩ s)
    (R' : Rep (x.callee g (hideAll s.heap (fp.map (·.1))) L qual fa cd cl sc) sc [] g' q' s') : Rep x cs hid g' ⟨m, q'.led ++ rest⟩ s' := by
  obtain ⟨mr, F, l⟩ := R.fr
  obtain ⟨mr', F', l'⟩ := R'.fr
  have nodf : ∀ e ∈ rest ++ hid, e.1 ∉ fp.map (·.1) := fun e he hm => by
    have := R.nod
    rw [List.append_assoc, List.map_append] at this
    exact (List.nodup_append.mp this).2.2 _ hm _ (List.mem_map_of_mem he) rfl
  have kept : ∀ b o, s.heap.get? b = some o → b ∉ fp.map (·.1) → b ∉ fadrs x.frames → s'.heap.get? b = some o := fun b o e hb hf => F'.keep b o (hideAll_get _ (hideAll_get _ e hb) fun q => by
    unfold Act.callee fadrs at q
    rw [List.filterMap_cons] at q
    rcases List.mem_cons.mp q with q | q
    · have := Heap.lt_size e; rw [q, hLs] at this; exact absurd this (Nat.lt_irrefl _)
    · exact hf q)
  have inh : ∀ b o, s.heap.get? b = some o → b ∉ fp.map (·.1) → (hideAll s.heap (fp.map (·.1))).get? b ≠ none := fun b o e hb z => by
    rw [hideAll_get _ e hb] at z; cases z
  have nL : x.L ∉ fp.map (·.1) := fun hm => by
    obtain ⟨p, hp, e⟩ := List.mem_map.mp hm
    exact (R.led p (by simp [hp])).1 e
  obtain ⟨oL, es, ep, hL, r⟩ := F.ns
  have goff : ∀ b, g b = none → (∃ o, s.heap.get? b = some o) → b ∉ fp.map (·.1) → g' b = none := fun b e ⟨o, z⟩ hb => by
    cases q : g' b with
    | none => rfl
    | some o' =>
      rcases R'.own b o' q with h1 | h1
      · have h2 : g b = some o' := h1
        rw [e] at h2; cases h2
      · exact absurd h1 (inh b o z hb)
  have cs' := callee_slots R
  have xh : ∀ b, (hideAll s.heap (fp.map (·.1))).get? b = none → x.h₀.get? b = none := fun b e => by
    cases q : x.h₀.get? b with
    | none => rfl
    | some o =>
      obtain ⟨mr0, F0, _⟩ := id R.fr
      exfalso
      by_cases hm : b ∈ fadrs x.frames
      · obtain ⟨env, he, hf⟩ := List.mem_filterMap.mp hm
        have B : Below x.A x.base x.frames (hideAll s.heap (fp.map (·.1))) := O.bel _ _ F0 R.sl _ (fp_h R)
        obtain ⟨L₁, o₁, hf₁, ho₁⟩ := funFrames_in B.frames env he
        rw [hf₁] at hf
        rw [(Option.some.inj hf : L₁ = b), e] at ho₁; cases ho₁
      · have hs := F0.keep b o (hideAll_get _ q hm)
        rw [hideAll_get _ hs fun z => by rw [(fp_h R b z).2] at q; cases q] at e; cases e
  have sl' : (hideAll s.heap (fp.map (·.1))).UpToSlots s'.heap := R'.sl
  refine ⟨⟨mr, ⟨sl'.ns ⟨oL, es, ep, hideAll_get _ hL nL, r⟩, fun b o e => ?_, F.above⟩, l.up R'.base⟩, R'.sub, R.base.trans R'.base, fun b o e => ?_, goff _ R.off ⟨_, hL⟩ nL, fun e he => ?_, ?_, R'.os, R'.gens, cs'.trans sl'⟩
  · have hf : b ∉ fadrs x.frames := fun q => by rw [show x.k₀.get? b = none from hideAll_none _ q] at e; cases e
    exact kept b o (F.keep b o e) (fun q => by rw [show x.k₀.get? b = x.h₀.get? b from by rw [e, of_hideAll _ e], (fp_h R b q).2] at e; cases e) hf
  · rcases R'.own b o e with h1 | h1
    · exact R.own b o h1
    · exact .inr (xh b h1)
  · rcases List.mem_append.mp (show e ∈ q'.led ++ (rest ++ hid) by rw [← List.append_assoc]; exact he) with h1 | h1
    · obtain ⟨a, b, c, d⟩ := R'.led e (by simp [h1])
      refine ⟨fun z => ?_, b, xh _ c, d⟩
      exact inh x.L _ hL nL (z ▸ c)
    · obtain ⟨a, b, c, d⟩ := R.led e (by rw [List.append_assoc]; exact List.mem_append_right _ h1)
      obtain ⟨o, z⟩ := d.there
      exact ⟨a, goff _ b ⟨o, z⟩ (nodf e h1), c, d.up R'.base ((kept _ _ z (nodf e h1) (led_off O R a c)).trans z.symm)⟩
  · show ((q'.led ++ rest ++ hid).map (·.1)).Nodup
    rw [List.append_assoc, List.map_append]
    refine List.nodup_append.mpr ⟨by simpa using R'.nod, ?_, fun a ha b hb e => ?_⟩
    · have := R.nod
      rw [List.append_assoc, List.map_append] at this
      exact (List.nodup_append.mp this).2.1
    · subst e
      obtain ⟨p, hp, rfl⟩ := List.mem_map.mp ha
      obtain ⟨p', hp', e⟩ := List.mem_map.mp hb
      obtain ⟨_, _, c, _⟩ := R'.led p (by simp [hp])
      obtain ⟨_, _, _, d⟩ := R.led p' (by rw [List.append_assoc]; exact List.mem_append_right _ hp')
      obtain ⟨o, z⟩ := d.there
      exact inh _ _ z (nodf p' hp') (e ▸ c)
end

/- the arguments' places among the names of a function -/
theorem locs_binds {g : G} : ∀ {ps : List Str} {args : List PV} {vals : List Value}, IsL g args vals → ps.length = args.length → ps.Nodup → ∀ n p, (ps.zip args).lookup n = some p →
    ∃ v, (ps.zip vals).reverse.lookup n = some v ∧ Is g p v
  | [], _, _, _, _, _, n, p, e => by cases e
  | _ :: _, [], _, _, h, _, _, _, _ => by simp at h
  | a :: ps, b :: args, vals, h, hl, hn, n, p, e => by
    obtain ⟨v, r, rfl, i, hr⟩ := isL_cons.mp h
    rw [List.nodup_cons] at hn
    simp only [List.zip_cons_cons, List.lookup] at e
    rw [List.zip_cons_cons, List.reverse_cons, List.lookup_append]
    split at e
    · rename_i hb
      cases e
      have hna : n = a := by simpa using hb
      subst hna
      have hnone : (ps.zip r).reverse.lookup n = none := by
        rw [List.lookup_eq_none_iff]
        intro y hy
        have := List.of_mem_zip (List.mem_reverse.mp hy)
        exact bne_iff_ne.mpr fun (z : n = y.1) => hn.1 (by rw [z]; exact this.1)
      rw [hnone]
      exact ⟨v, by simp, i⟩
    · obtain ⟨u, hu, iu⟩ := locs_binds hr (by simpa using hl) hn.2 n p e
      exact ⟨u, by rw [hu]; rfl, iu⟩
end Wk
namespace Wk
open Mine
theorem isL_append {g : G} {ps ps' : List PV} {vs vs' : List Value} (a : IsL g ps vs) (b : IsL g ps' vs') : IsL g (ps ++ ps') (vs ++ vs') := a.append b

/- what a body is to come to -/
noncomputable def Ret (Qc : PV → List (Addr × MK) → Prop) (o : Out) (q' : Q) : Prop := match o with | .ret p => Qc p q'.led | .nxt => Qc (.val .none) q'.led | _ => False
theorem vl_cons {n : Nat} : ∀ {l : List Value}, l.length = n + 1 → ∃ a r, l = a :: r ∧ r.length = n
  | a :: r, h => ⟨a, r, rfl, Nat.succ.inj h⟩
theorem vl_nil {l : List Value} (h : l.length = 0) : l = [] := List.length_eq_zero_iff.mp h
theorem vlist1 {l : List Value} (h : l.length = 1) : ∃ a, l = [a] := by
  obtain ⟨a, r, rfl, h1⟩ := vl_cons h; exact ⟨a, by rw [vl_nil h1]⟩
theorem vlist2 {l : List Value} (h : l.length = 2) : ∃ a b, l = [a, b] := by
  obtain ⟨a, r, rfl, h1⟩ := vl_cons h; obtain ⟨b, rfl⟩ := vlist1 h1; exact ⟨a, b, rfl⟩
theorem vlist3 {l : List Value} (h : l.length = 3) : ∃ a b c, l = [a, b, c] := by
  obtain ⟨a, r, rfl, h1⟩ := vl_cons h; obtain ⟨b, c, rfl⟩ := vlist2 h1; exact ⟨a, b, c, rfl⟩
theorem vlist4 {l : List Value} (h : l.length = 4) : ∃ a b c d, l = [a, b, c, d] := by
  obtain ⟨a, r, rfl, h1⟩ := vl_cons h; obtain ⟨b, c, d, rfl⟩ := vlist3 h1; exact ⟨a, b, c, d, rfl⟩
theorem vlist5 {l : List Value} (h : l.length = 5) : ∃ a b c d e, l = [a, b, c, d, e] := by
  obtain ⟨a, r, rfl, h1⟩ := vl_cons h; obtain ⟨b, c, d, e, rfl⟩ := vlist4 h1; exact ⟨a, b, c, d, e, rfl⟩
theorem cl_def {b : Bool} {w : World} {fa : Addr} {name qual : Str} {params : Arguments} {body₀ body : List Stmt} {sc₀ sc : Scope} {dV kV doc pm cdv ct oc : Value} {an od : Option Addr} {osl : Array (Option Value)}
    {ps : List Str} {args dargs : List PV} {dvals : List Value} {fp : List (Addr × MK)} {need : Nat} {Qc : PV → List (Addr × MK) → Prop} {m₀ : List (Option PV)}
    (hK : (KP w.params).lookup fa = some ⟨oc, od, .func (fnX name qual params body₀ sc₀ [] dV kV doc pm an cdv ct), osl⟩) (hB : body₀ = body) (hS : sc₀ = sc) (hcd : codeIn (KP w.params) cdv qual = true)
    (hb : ∀ (s : Shared) (vals : List Value), (KP w.params).In s.heap → vals.length = args.length → BindsTo s (fnX name qual params body₀ sc₀ [] dV kV doc pm an cdv ct) ⟨vals, []⟩ (ps.zip (vals ++ dvals)))
    (hd : ∀ g, IsL g dargs dvals) (hpl : ps.length = (args ++ dargs).length) (hps : ps.Nodup) (hloc : ∀ n ∈ ps, sc.names.lookup n = some .local) (hn : (sc.names.map (·.1)).Nodup) (hcell : ∀ y ∈ sc.names, y.2 ≠ .cell)
    (hco : sc.isCoroutine = false) (hgen : sc.isGenerator = false) (hk : sc.kind = .function)
    (hm : sc.names.map (fun nk => (ps.zip (args ++ dargs)).lookup nk.1) = m₀)
    (hbody : ∀ y : Act, y.w = w → y.Ok sc → (b = true → y.hn = true) → need - 1 ≤ y.r → y.cl = [] → ∀ K : Out → Q → Prop, (∀ p q', Qc p q'.led → K (.ret p) q') → (∀ q', Qc (.val .none) q'.led → K .nxt q') → Exs y sc body ⟨m₀, fp⟩ K noE)
    (hneed : 1 ≤ need) : Cl b (.ref fa) args fp need Qc w := by
  have hB := hB.symm; have hS := hS.symm; subst hB hS
  rintro x cs hid g m rest s vals E rfl O hb' hr R ia
  obtain ⟨mr, F, l⟩ := id R.fr
  have X : (KP x.w.params).In s.heap := O.kin.keeps F.keep
  have hlen := ia.length
  refine codeAny_call_def (fd := fnX name qual params body sc [] dV kV doc pm an cdv ct) (body := body) (binds := ps.zip (vals ++ dvals)) ?_ (X _ _ hK) rfl (O.lim.keeps F.keep) (codeRec_of X hcd) rfl (hb s vals X hlen) hcell ?_ ?_ hco hgen hk
  · have := O.depth; show x.A.depth < recursionLimit; unfold recursionLimit; lia
  · intro y hy
    exact hloc _ (List.of_mem_zip hy).1
  · intro h₁ hns hk₁
    have ia' := isL_append ia (hd g)
    have hl : Locs g sc.names m₀ (fun y => (ps.zip (vals ++ dvals)).reverse.lookup y) := by
      intro i n k p e e'
      rw [← hm, List.getElem?_map, e] at e'
      simp only [Option.map_some, Option.some.injEq] at e'
      exact locs_binds ia' hpl hps n p e'
    have Oy := callee_ok (sc := sc) (L := s.heap.objs.size) (fa := fa) (qual := qual) (cd := cdv) (cl := []) O R (by lia) hk hn rfl
    have Ry := callee_rep (sc := sc) (fa := fa) (qual := qual) (cd := cdv) (cl := []) (t := s.toks + (ps.zip (vals ++ dvals)).length) R rfl hns hk₁ hl
    have hy := hbody (x.callee g (hideAll s.heap (fp.map (·.1))) s.heap.objs.size qual fa cdv [] sc) rfl Oy hb' (by show need - 1 ≤ x.r - 1; lia) rfl (Ret Qc) (fun _ _ h => h) (fun _ h => h) [] g _ Ry
    refine wpAny_mono hy (fun f s' ⟨g', o, q', k, io, R', hq⟩ => ?_) fun _ _ e => e.elim
    have Rb := callee_back O rfl R R'
    cases o with
    | nxt => cases io; exact ⟨g', .val .none, _, k, is_val.mpr rfl, Rb, q'.led, rfl, hq⟩
    | brk => exact hq.elim
    | cnt => exact hq.elim
    | ret p => obtain ⟨v, rfl, i⟩ := io; exact ⟨g', p, _, k, i, Rb, q'.led, rfl, hq⟩
end Wk
end
/- L5 -/
section
open PySem PySem.W PySem.Calls PyProof.Rows
namespace Wk
open Mine
section
variable {x : Act} {cs : Scope} {E : Er} {q : Q} {Qn : PV → Q → Prop} {Qb : Bool → Q → Prop} {Qf : Out → Q → Prop} {Qu : Q → Prop} {hid : List (Addr × MK)} {g : G}

noncomputable def Evs (x : Act) (cs : Scope) : List Expr → Q → (List PV → Q → Prop) → Er → Prop
  | [], q, Ql, _ => Ql [] q
  | e :: rest, q, Ql, E => (∀ env, starEach (e :: rest) env = (false, eval e env) :: starEach rest env) ∧ Ev x cs e q (fun p q1 => Evs x cs rest q1 (fun ps q2 => Ql (p :: ps) q2) E) E
theorem evs_nil {Ql : List PV → Q → Prop} (h : Ql [] q) : Evs x cs [] q Ql E := h
theorem evs_cons {e rest} {Ql : List PV → Q → Prop} (h : Ev x cs e q (fun p q1 => Evs x cs rest q1 (fun ps q2 => Ql (p :: ps) q2) E) E)
    (he : ∀ env, starEach (e :: rest) env = (false, eval e env) :: starEach rest env) : Evs x cs (e :: rest) q Ql E := ⟨he, h⟩
theorem evs_run {pos : Pos} : ∀ {es : List Expr} {q : Q} {Ql : List PV → Q → Prop} {hid g s}, Evs x cs es q Ql E → Rep x cs hid g q s → wpAny x.M x.A (spliced (backTo pos (starEach es (x.env cs)))) (Dl x cs hid g Ql) E s
  | [], q, Ql, hid, g, s, h, R => args_nil ⟨g, [], q, .refl g, isL_nil.mpr rfl, R, h⟩
  | e :: rest, q, Ql, hid, g, s, h, R => by
    rw [h.1]
    refine Calls.spliced_cons (dn_k (h.2 hid g s R) fun v s₁ g₁ p q₁ k₁ i R₁ h₁ => ?_)
    refine dl_k (evs_run h₁ R₁) fun vs s₂ g₂ ps q₂ k₂ il R₂ h₂ => ?_
    exact ⟨g₂, p :: ps, q₂, k₁.trans k₂, isL_cons.mpr ⟨v, vs, rfl, i.up k₂, il⟩, R₂, h₂⟩

noncomputable def CallR (x : Act) (cs : Scope) (f : Value) (ps : List PV) (q : Q) (Qn : PV → Q → Prop) (E : Er) : Prop :=
  ∀ hid g s vs, Rep x cs hid g q s → IsL g ps vs → wpAny x.M x.A (call f vs) (Dn x cs hid g Qn) E s
noncomputable def keepOk (K : Frag) : Value → Bool
  | .type _ => true
  | .builtin _ => true
  | f => keepIn K f
theorem keepOk_K {M : Model} {K : Frag} {f : Value} (hk : keepOk K f = true) (h : Heap) (X : K.In h) : ∃ k, (k = Keeper.frame ∨ k = Keeper.machine ∨ k = Keeper.boundFrame) ∧ Looks M h (keeperOf f) k := by
  cases f with
  | type n => exact ⟨.machine, .inr (.inl rfl), .now⟩
  | builtin n => exact ⟨.machine, .inr (.inl rfl), .now⟩
  | ref a => exact keeps_K (K := K) (f := .ref a) hk h X
  | _ => exact absurd (show false = true from hk) Bool.false_ne_true

theorem evalArgs_W {f : Value} {es : List Expr} {pos : Pos} {Q' : Args → Shared → Prop} {s : Shared} (hes : ∀ e rest, es = e :: rest → ∀ env, starEach (e :: rest) env = (false, eval e env) :: starEach rest env)
    (h : wpAny x.M x.A (spliced (backTo pos (starEach es (x.env cs)))) (fun vs s₁ => Q' ⟨vs, []⟩ s₁) E s) : wpAny x.M x.A (evalArgs f true (backTo pos (starEach es (x.env cs))) (backToKw pos (keywordEach [] (x.env cs)))) Q' E s := by
  cases es with
  | nil =>
    show wpAny x.M x.A (evalArgs f true [] []) Q' E s
    unfold evalArgs
    show wpAny x.M x.A (spliced [] >>= _) Q' E s
    refine wpAny_bind (wpAny_mono h (fun vs s' h' => ?_) fun _ _ e => e)
    refine wpAny_bind (wpAny_pure ?_)
    refine wpAny_holding ?_
    exact wpAny_bind (wpAny_pure (wpAny_bind (wpAny_pure (wpAny_pure h'))))
  | cons e rest => exact evalArgs_kw2 rfl (wpAny_mono h (fun vs s' h' => wpAny_evalAll_nil h') fun _ _ e => e) (hes e rest rfl _)
theorem callWith_W {f : Value} {first : List Value} {es : List Expr} {pos : Pos} {Qv : Value → Shared → Prop} {s : Shared} (hk : keepOk (KP x.w.params) f = true)
    (hes : ∀ e rest, es = e :: rest → ∀ env, starEach (e :: rest) env = (false, eval e env) :: starEach rest env) (hpl : ∀ pos env, (backTo pos (starEach es env)).any (·.1) = false)
    (h : wpAny x.M x.A (spliced (backTo pos (starEach es (x.env cs)))) (fun vs s₁ => (KP x.w.params).In s₁.heap ∧ wpAny x.M x.A (call f (first ++ vs)) Qv E s₁) E s) :
    wpAny x.M x.A (callWith pos f first (backTo pos (starEach es (x.env cs))) (backToKw pos (keywordEach [] (x.env cs)))) Qv E s :=
  callWith_of (P := (KP x.w.params).In) (by rw [hpl]; rfl) (fun h X => keepOk_K hk h X) (evalArgs_W hes h)
theorem evs_hes {es : List Expr} {Ql : List PV → Q → Prop} (h : Evs x cs es q Ql E) : ∀ e rest, es = e :: rest → ∀ env, starEach (e :: rest) env = (false, eval e env) :: starEach rest env := fun e rest e' => by subst e'; exact h.1

theorem Rep.inK {hid q s} (O : x.Ok cs) (R : Rep x cs hid g q s) : (KP x.w.params).In s.heap := by obtain ⟨mr, F, _⟩ := R.fr; exact O.kin.keeps F.keep

theorem ev_call {n : Str} {np : Pos} {es pos} (O : x.Ok cs) (h : Ev x cs (.Name n np) q (fun fp q1 => ∃ f, fp = .val f ∧ keepOk (KP x.w.params) f = true ∧ Evs x cs es q1 (fun ps q2 => CallR x cs f ps q2 Qn E) E) E)
    (hpl : ∀ pos env, (backTo pos (starEach es env)).any (·.1) = false) : Ev x cs (.Call (.Name n np) es [] pos) q Qn E := fun hid g s R => by
  refine wpAny_Call_Name_kw (dn_k (h hid g s R) fun f s₁ g₁ pf q₁ k₁ i R₁ ⟨f', e, hk, h₁⟩ => ?_)
  subst e
  rw [is_val.mp i]
  refine callWith_W hk (evs_hes h₁) hpl (dl_k (evs_run h₁ R₁) fun vs s₂ g₂ ps q₂ k₂ il R₂ h₂ => ⟨R₂.inK O, ?_⟩)
  exact wpAny_mono (h₂ hid g₂ s₂ _ R₂ il) (fun _ _ d => d.le (k₁.trans k₂)) fun _ _ e => e

noncomputable def Mth (x : Act) (cs : Scope) (a : PV) (name : Str) (q : Q) (k : Value → List PV → Q → Prop) (E : Er) : Prop :=
  ∀ hid g s u, Rep x cs hid g q s → Is g a u → ∀ pl, wpAny x.M x.A (getMethod u name pl) (fun fx s' => ∃ g' q' fps, g.Le g' ∧ Rep x cs hid g' q' s' ∧ IsL g' fps fx.2 ∧ k fx.1 fps q') E s
theorem ev_meth {o : Expr} {name : Str} {apos : Pos} {es pos} (O : x.Ok cs)
    (h : Ev x cs o q (fun a q1 => Mth x cs a name q1 (fun f fps q2 => keepOk (KP x.w.params) f = true ∧ Evs x cs es q2 (fun ps q3 => CallR x cs f (fps ++ ps) q3 Qn E) E) E) E)
    (pl : Env → Sem Bool)
    (he : ∀ env, eval (.Call (.Attribute o name apos) es [] pos) env = (do
      let ov ← eval o env
      standAt apos.atName
      let (f, first) ← holding [ov] (getMethod ov name (pl env))
      callWith pos f first (backTo pos (starEach es env)) (backToKw pos (keywordEach [] env))))
    (hpl : ∀ pos env, (backTo pos (starEach es env)).any (·.1) = false) : Ev x cs (.Call (.Attribute o name apos) es [] pos) q Qn E := fun hid g s R => by
  refine methodCall_KW (pl := pl (x.env cs)) (dn_k (h hid g s R) fun u s₁ g₁ pa q₁ k₁ i R₁ h₁ => ?_) (he _)
  refine wpAny_mono (h₁ hid g₁ s₁ u R₁ i _) (fun fx s₂ ⟨g₂, q₂, fps, k₂, R₂, il, hk, h₂⟩ => ?_) fun _ _ e => e
  refine callWith_W hk (evs_hes h₂) hpl (dl_k (evs_run h₂ R₂) fun vs s₃ g₃ ps q₃ k₃ il₃ R₃ h₃ => ⟨R₃.inK O, ?_⟩)
  exact wpAny_mono (h₃ hid g₃ s₃ _ R₃ ((IsL.up k₃ _ il).append il₃)) (fun _ _ d => d.le (k₁.trans (k₂.trans k₃))) fun _ _ e => e

theorem call_cl {b : Bool} {f : Value} {args : List PV} {fp rest : List (Addr × MK)} {need : Nat} {Qc : PV → List (Addr × MK) → Prop} (C : Cl b f args fp need Qc x.w) (O : x.Ok cs) (hb : b = true → x.hn = true) (hr : need ≤ x.r) (hp : q.led.Perm (fp ++ rest))
    (h : ∀ p fp', Qc p fp' → Qn p ⟨q.m, fp' ++ rest⟩) : CallR x cs f args q Qn E := fun hid g s vs R il => by
  have R' : Rep x cs hid g ⟨q.m, fp ++ rest⟩ s := Rep.perm (l := q.led) R hp
  refine dn_k (wpAny_call (C x cs hid g q.m rest s vs E rfl O hb hr R' il)) fun v s' g' p q' a b c ⟨fp', e, d⟩ => ?_
  subst e
  exact ⟨g', p, _, a, b, c, h p fp' d⟩
theorem call_pure {b : Bool} {f : Value} {args : List PV} {need : Nat} {Qc : PV → List (Addr × MK) → Prop} (C : Cl b f args [] need Qc x.w) (O : x.Ok cs) (hb : b = true → x.hn = true) (hr : need ≤ x.r)
    (h : ∀ p fp', Qc p fp' → Qn p ⟨q.m, fp' ++ q.led⟩) : CallR x cs f args q Qn E := call_cl C O hb hr (List.Perm.refl _) h
end
end Wk
end
/- L6 -/
section
open PySem PySem.W PySem.Calls PyProof.Rows
namespace Wk
open Mine
section
variable {x : Act} {cs : Scope} {E : Er} {q : Q} {Qn : PV → Q → Prop} {Qb : Bool → Q → Prop} {Qf : Out → Q → Prop} {Qu : Q → Prop} {hid : List (Addr × MK)} {g : G}

/- an object that is no enumerate, zip .. -/
noncomputable def quietIt (o : Obj) : Prop := ∀ n vs, o.cls = .type n → o.data = .fields vs → ["enumerate", "zip", "dict_itemiterator", "dict_reverseitemiterator", "odict_iterator", "itertools.zip_longest", "itertools.pairwise"].contains n = false
structure Walker (x : Act) (g : G) (I : Addr) (els : List PV) (h : Heap) : Prop where
  ex : ∃ fp P St, Walks PW x.w x.A I fp [I] els.length P St ∧ St 0 h ∧ (∀ b ∈ fp, b = I ∨ ∃ o, g b = some o) ∧ (∀ i h', St i h' → ∃ o, h'.get? I = some o ∧ quietIt o) ∧ (∀ i v, P i v → ∃ el, els[i]? = some el ∧ Is g el v)
/- the values that walking through `p` gives -/
noncomputable def Iter (x : Act) (cs : Scope) (q : Q) (p : PV) (els : List PV) : Prop := ∀ (hid : List (Addr × MK)) g s v (Qv : Value → Shared → Prop) (E : Er), Rep x cs hid g q s → Is g p v →
  (∀ o, o.isFreed = false → Walker x g s.heap.objs.size els (s.heap.push o) → Qv (.ref s.heap.objs.size) { s with heap := s.heap.push o }) → wpAny x.M x.A (pyIter v) Qv E s

theorem quiet_cls {o : Obj} {n : String} (e : o.cls = .type n) (h : ["enumerate", "zip", "dict_itemiterator", "dict_reverseitemiterator", "odict_iterator", "itertools.zip_longest", "itertools.pairwise"].contains n = false) : quietIt o := fun m vs e' _ => by
  rw [e] at e'; cases e'; exact h

theorem iter_lst {xs : List PV} (hh : x.A.handled = none) : Iter x cs q (.lst xs) xs := fun hid g s v Qv E R i k => by
  obtain ⟨a, vs, o, n, rfl, ga, oc, od, il⟩ := is_lst.mp i
  have ha := R.sub _ _ ga
  have hl : s.heap.IsList a vs := ⟨_, ha, oc, _, od⟩
  have hne : a ≠ s.heap.objs.size := Nat.ne_of_lt (Heap.lt_size ha)
  have hlen := il.length
  have W := Walks.list (prog := PW) (w := x.w) hh s.heap.objs.size a hne vs
  have hlen' : vs.size = xs.length := by simpa using hlen
  rw [hlen'] at W
  refine wpAny_pyIter_list hl (k _ rfl ⟨_, _, _, W, ⟨⟨_, Heap.get?_push_size _ rfl, rfl, rfl⟩, hl.push _⟩, ?_, ?_, ?_⟩)
  · intro b hb
    simp only [List.mem_cons, List.not_mem_nil, or_false] at hb
    rcases hb with rfl | rfl
    · exact .inl rfl
    · exact .inr ⟨_, ga⟩
  · rintro i h' ⟨⟨o, ho, hc, _⟩, _⟩
    exact ⟨o, ho, quiet_cls hc (by decide +kernel)⟩
  · intro i v e
    exact il.get (by simpa using e)
theorem iter_tup {xs : List PV} (hh : x.A.handled = none) : Iter x cs q (.tup xs) xs := fun hid g s v Qv E R i k => by
  obtain ⟨a, vs, o, n, rfl, ga, oc, od, il⟩ := is_tup.mp i
  have ha := R.sub _ _ ga
  have hl : s.heap.IsTuple a vs := ⟨_, ha, oc, _, od⟩
  have hne : a ≠ s.heap.objs.size := Nat.ne_of_lt (Heap.lt_size ha)
  have hlen := il.length
  have W := Walks.tuple (prog := PW) (w := x.w) hh s.heap.objs.size a hne vs
  have hlen' : vs.size = xs.length := by simpa using hlen
  rw [hlen'] at W
  refine wpAny_pyIter_tuple hl (k _ rfl ⟨_, _, _, W, ⟨⟨_, Heap.get?_push_size _ rfl, rfl, rfl⟩, hl.push _⟩, ?_, ?_, ?_⟩)
  · intro b hb
    simp only [List.mem_cons, List.not_mem_nil, or_false] at hb
    rcases hb with rfl | rfl
    · exact .inl rfl
    · exact .inr ⟨_, ga⟩
  · rintro i h' ⟨⟨o, ho, hc, _⟩, _⟩
    exact ⟨o, ho, quiet_cls hc (by decide +kernel)⟩
  · intro i v e
    exact il.get (by simpa using e)
noncomputable def byteEls (b : List UInt8) : List PV := b.map fun c => .int (c.toNat : Nat)
theorem iter_byt {b : List UInt8} (hh : x.A.handled = none) : Iter x cs q (.byt b) (byteEls b) := fun hid g s v Qv E R i k => by
  obtain ⟨t, rfl⟩ := is_byt.mp i
  have W := KBw.walks (prog := PW) (w := x.w) hh s.heap.objs.size b.toArray t
  have hlen : b.toArray.size = (byteEls b).length := by simp [byteEls]
  rw [hlen] at W
  refine KBw.pyIter_bytes (k _ rfl ⟨_, _, _, W, ⟨_, Heap.get?_push_size _ rfl, rfl, rfl⟩, ?_, ?_, ?_⟩)
  · intro c hc; exact .inl (by simpa using hc)
  · rintro i h' ⟨o, ho, hc, _⟩
    exact ⟨o, ho, quiet_cls hc (by decide +kernel)⟩
  · rintro i v ⟨c, u, e, rfl⟩
    refine ⟨.int (c.toNat : Nat), ?_, is_int.mpr ⟨_, rfl⟩⟩
    simp only [byteEls, List.getElem?_map]
    have e' : b[i]? = some c := by simpa using e
    rw [e']; rfl
noncomputable def strEls (l : List Nat) : List PV := l.map fun c => .str [c]
theorem iter_str {l : List Nat} (hh : x.A.handled = none) : Iter x cs q (.str l) (strEls l) := fun hid g s v Qv E R i k => by
  obtain ⟨t, rfl⟩ := is_str.mp i
  refine wpAny_pyIter_strU ?_
  have hlen : (⟨l.toArray⟩ : Str).cps.size = (strEls l).length := by simp [strEls]
  have fin : ∀ n, (n = "str_ascii_iterator" ∨ n = "str_iterator") → strIterType ⟨l.toArray⟩ = n → Qv (.ref s.heap.objs.size) { s with heap := s.heap.push { cls := .type n, data := .fields #[.str ⟨l.toArray⟩ t, .int 0 0] } } := by
    intro n hn e
    have W : Walks PW x.w x.A s.heap.objs.size [s.heap.objs.size] [s.heap.objs.size] (strEls l).length (SignAt ⟨l.toArray⟩) (fun i h => h.IsStrIter s.heap.objs.size n ⟨l.toArray⟩ t i) := by
      rw [← hlen]
      rcases hn with rfl | rfl
      · exact Walks.strAscii hh _ _ t
      · exact Walks.strWide hh _ _ t
    refine k _ rfl ⟨_, _, _, W, ⟨_, Heap.get?_push_size _ rfl, rfl, rfl⟩, ?_, ?_, ?_⟩
    · intro c hc; exact .inl (by simpa using hc)
    · rintro i h' ⟨o, ho, hc, _⟩
      exact ⟨o, ho, quiet_cls hc (by rcases hn with rfl | rfl <;> decide +kernel)⟩
    · rintro i v ⟨c, u, e, rfl⟩
      refine ⟨.str [c], ?_, is_str.mpr ⟨_, rfl⟩⟩
      simp only [strEls, List.getElem?_map]
      have e' : l[i]? = some c := by simpa using e
      rw [e']; rfl
  unfold strIterType at fin ⊢
  split
  · rename_i h; exact fin _ (.inl rfl) (if_pos h)
  · rename_i h; exact fin _ (.inr rfl) (if_neg h)

/- the iterator's object has moved on -/
theorem Rep.moved {q s o h'} {t : Nat} {I : Addr} (R : Rep x cs ((I, .raw o) :: hid) g q s) (k : ∀ b o, b ∉ [I] → s.heap.get? b = some o → h'.get? b = some o) {o' : Obj} (ho : h'.get? I = some o') :
    Rep x cs ((I, .raw o') :: hid) g q { s with heap := h', toks := t } := by
  have hI := R.led (I, .raw o) (by simp)
  obtain ⟨mr, F, l⟩ := R.fr
  obtain ⟨oL, es, ep, hL, r⟩ := F.ns
  have kk : ∀ b o, b ≠ I → s.heap.get? b = some o → h'.get? b = some o := fun b o hb e => k b o (by simpa using hb) e
  refine ⟨⟨mr, ⟨⟨oL, es, ep, kk _ _ (Ne.symm hI.1) hL, r⟩, fun b o e => kk b o (fun z => ?_) (F.keep b o e), F.above⟩, l⟩, fun b o e => kk b o (fun z => ?_) (R.sub b o e), R.base, R.own, R.off, fun e he => ?_, ?_, R.os, R.gens, fun b o e hn => let ⟨sl, z⟩ := R.sl b o e hn; ⟨sl, kk _ _ (fun w => by rw [w, hI.2.2.1] at e; cases e) z⟩⟩
  · subst z; have := hI.2.2.1; rw [of_hideAll _ e] at this; cases this
  · subst z; have := hI.2.1; rw [e] at this; cases this
  · by_cases hz : e = (I, MK.raw o')
    · subst hz; exact ⟨hI.1, hI.2.1, hI.2.2.1, ho⟩
    · have he' : e ∈ q.led ++ (I, MK.raw o) :: hid := by
        rcases List.mem_append.mp he with h1 | h1
        · exact List.mem_append_left _ h1
        · rcases List.mem_cons.mp h1 with h2 | h2
          · exact absurd h2 hz
          · exact List.mem_append_right _ (.tail _ h2)
      obtain ⟨a, b, c, d⟩ := R.led e he'
      have hne : e.1 ≠ I := fun z => by
        have hn := R.nod
        rw [List.map_append, List.map_cons] at hn
        have hn' := List.nodup_append.mp hn
        rcases List.mem_append.mp he with h1 | h1
        · exact hn'.2.2 e.1 (List.mem_map_of_mem h1) I (.head _) z
        · rcases List.mem_cons.mp h1 with h2 | h2
          · exact hz h2
          · exact (List.nodup_cons.mp hn'.2.1).1 (List.mem_map.mpr ⟨e, h2, z⟩)
      obtain ⟨ob, z⟩ := d.there
      exact ⟨a, b, c, d.up (.refl g) ((kk _ _ hne z).trans z.symm)⟩
  · have := R.nod; simpa using this

/- an object put down that nobody may change -/
theorem Rep.pushHid {q s o} (R : Rep x cs hid g q s) (hf : o.isFreed = false) : Rep x cs ((s.heap.objs.size, .raw o) :: hid) g q { s with heap := s.heap.push o } := by
  have R' : Rep x cs hid g q { s with heap := s.heap.push o, toks := s.toks } := R.grow fun b o e => Heap.get?_push_of_some _ e
  obtain ⟨mr, F, l⟩ := R.fr
  have nog : ∀ {f : Addr → Option Obj}, (∀ b o, f b = some o → s.heap.get? b = some o) → f s.heap.objs.size = none := fun {f} hf => by
    cases e : f s.heap.objs.size with
    | none => rfl
    | some o => exact absurd (Heap.lt_size (hf _ _ e)) (Nat.lt_irrefl _)
  refine ⟨R'.fr, R'.sub, R'.base, R'.own, R'.off, fun e he => ?_, ?_, R'.os, R'.gens, R'.sl⟩
  · rcases List.mem_append.mp he with h1 | h1
    · exact R'.led e (List.mem_append_left _ h1)
    · rcases List.mem_cons.mp h1 with h2 | h2
      · subst h2
        obtain ⟨oL, _, _, hL, _⟩ := F.ns
        exact ⟨Nat.ne_of_gt (Heap.lt_size hL), nog R.sub, R.none_h, Heap.get?_push_size _ hf⟩
      · exact R'.led e (List.mem_append_right _ h2)
  · rw [List.map_append, List.map_cons]
    have hn := R.nod
    rw [List.map_append] at hn
    obtain ⟨n1, n2, n3⟩ := List.nodup_append.mp hn
    have out : ∀ e ∈ q.led ++ hid, e.1 ≠ s.heap.objs.size := fun e he => by
      obtain ⟨_, _, _, d⟩ := R.led e he
      obtain ⟨_, z⟩ := d.there
      exact Nat.ne_of_lt (Heap.lt_size z)
    refine List.nodup_append.mpr ⟨n1, List.nodup_cons.mpr ⟨fun hm => ?_, n2⟩, fun a ha b hb => ?_⟩
    · obtain ⟨e, he, ee⟩ := List.mem_map.mp hm
      exact out e (List.mem_append_right _ he) ee
    · rcases List.mem_cons.mp hb with rfl | hb
      · obtain ⟨e, he, ee⟩ := List.mem_map.mp ha
        exact fun z => out e (List.mem_append_left _ he) (ee.trans z)
      · exact n3 a ha b hb
theorem Rep.unhide {q s e} (R : Rep x cs (e :: hid) g q s) : Rep x cs hid g q s := by
  refine ⟨R.fr, R.sub, R.base, R.own, R.off, fun e' he => R.led e' ?_, ?_, R.os, R.gens, R.sl⟩
  · rcases List.mem_append.mp he with h | h
    · exact List.mem_append_left _ h
    · exact List.mem_append_right _ (.tail _ h)
  · have := R.nod
    rw [List.map_append, List.map_cons] at this
    obtain ⟨n1, n2, n3⟩ := List.nodup_append.mp this
    rw [List.map_append]
    exact List.nodup_append.mpr ⟨n1, (List.nodup_cons.mp n2).2, fun a ha b hb => n3 a ha b (.tail _ hb)⟩

theorem letGo {target : Expr} {I : Addr} {v : Value} {s : Shared} {o : Obj} {Qv : Unit → Shared → Prop} (ho : s.heap.get? I = some o) (hq : quietIt o) (h : Qv () s) : wpAny x.M x.A (letOwnedTupleGo target (.ref I) v) Qv E s := by
  have main : wpAny x.M x.A (letOwnedTupleGo (.Tuple [] 0 default) (.ref I) v) Qv E s := by
    cases v <;> try exact wpAny_pure h
    refine wpAny_bind (wpAny_load ho ?_)
    obtain ⟨oc, dd, od, os⟩ := o
    cases oc with
    | type n => cases od with
      | fields vs => exact wpAny_of_eq (if_neg (by rw [hq n vs rfl rfl]; exact Bool.false_ne_true)) h
      | _ => exact wpAny_pure h
    | _ => exact wpAny_pure h
  cases target with
  | Tuple => exact main
  | List => exact main
  | _ => exact wpAny_pure h

inductive ForAt (x : Act) (cs : Scope) (hid : List (Addr × MK)) (ln : Nat) (Ia : Addr) (g₁ : G) (St : Nat → Heap → Prop) (J : Nat → Q → Prop) (n : Nat) (s : Shared) : Prop where
  | mk (i : Nat) (g' : G) (q' : Q) (o : Obj) (hn : n = ln + 1 - i) (hi : i ≤ ln) (k : g₁.Le g') (R : Rep x cs ((Ia, .raw o) :: hid) g' q' s) (st : St i s.heap) (hJ : J i q') : ForAt x cs hid ln Ia g₁ St J n s
noncomputable def FPost (J : Q → Prop) (Qf : Out → Q → Prop) (o : Out) (q4 : Q) : Prop := match o with
  | .nxt => J q4 | .cnt => J q4 | .brk => Qf .nxt q4 | .ret v => Qf (.ret v) q4
theorem ex_for {target iter body pos} (hh : x.A.handled = none) (E' : Er) (hE : Pass x cs E' E) (els : PV → Q → List PV) (I : PV → Q → Nat → Q → Prop)
    (h : Ev x cs iter q (fun p q1 => Iter x cs q1 p (els p q1) ∧ I p q1 0 q1 ∧
      (∀ i el q2, (els p q1)[i]? = some el → I p q1 i q2 → Asg x cs target el q2 (fun q3 => Exs x cs body q3 (FPost (I p q1 (i + 1)) Qf) E') E') ∧
      (∀ q2, I p q1 (els p q1).length q2 → Qf .nxt q2)) E)
    (hs : ∀ v, foldedSetIterable iter (x.env cs) v = pure v) : Ex x cs (.For target iter body [] pos) q Qf E := fun hid g s R => by
  refine wpAny_For (hs := hs) (dn_k (h hid g s R) fun v s₁ g₁ p q₁ k₁ iv R₁ ⟨hit, h0, turn, fin⟩ => ?_)
  refine hit hid g₁ s₁ v _ _ R₁ iv fun o hfo W => ?_
  obtain ⟨fp, P, St, W, hst, hfp, hob, hP⟩ := W.ex
  have R₂ := R₁.pushHid hfo
  generalize s₁.heap.objs.size = Ia at *
  refine codeAny_forLoop_any (ForAt x cs hid (els p q₁).length Ia g₁ St (I p q₁)) ?_ _ ⟨0, g₁, q₁, o, rfl, Nat.zero_le _, .refl _, R₂, hst, h0⟩
  rintro n s₂ ⟨i, g₂, q₂, o₂, rfl, hi, k₂, R₂, hst₂, hI⟩
  by_cases hlt : i < (els p q₁).length
  · refine W.item i s₂ _ _ hlt hst₂ fun v' h' tk hv hst' hk => ?_
    obtain ⟨el, hel, ie⟩ := hP i v' hv
    obtain ⟨o', ho', hq'⟩ := hob _ _ hst'
    have R₃ := R₂.moved (t := tk) hk ho'
    refine letGo ho' hq' ?_
    refine wpAny_mono (turn i el q₂ hel hI _ g₂ _ v' R₃ (ie.up k₂)) (fun _ s₃ ⟨g₃, q₃, k₃, R₄, h₃⟩ => ?_) hE
    refine wpAny_mono (h₃ _ g₃ s₃ R₄) (fun f s₄ ⟨g₄, out, q₄, k₄, io, R₅, h₄⟩ => ?_) hE
    have st4 : St (i + 1) s₄.heap := W.frame _ _ _ hst' fun b hb ob eb => by
      rcases hfp b hb with rfl | ⟨og, hg⟩
      · have h3 : s₄.heap.get? b = some o' := (R₅.led (b, .raw o') (by simp)).2.2.2
        rw [h3]; exact ho'.symm.trans eb
      · have h1 : s₄.heap.get? b = some og := R₅.sub _ _ ((k₂.trans (k₃.trans k₄)) _ _ hg)
        have h2 : h'.get? b = some og := R₃.sub _ _ (k₂ _ _ hg)
        rw [h1]; exact h2.symm.trans eb
    have k := (k₁.trans k₂).trans (k₃.trans k₄)
    cases out with
    | nxt => cases io; exact ⟨(els p q₁).length + 1 - (i + 1), by lia, i + 1, g₄, q₄, o', rfl, hlt, k₂.trans (k₃.trans k₄), R₅, st4, h₄⟩
    | cnt => cases io; exact ⟨(els p q₁).length + 1 - (i + 1), by lia, i + 1, g₄, q₄, o', rfl, hlt, k₂.trans (k₃.trans k₄), R₅, st4, h₄⟩
    | brk => cases io; exact ⟨g₄, .nxt, q₄, k, rfl, R₅.unhide, h₄⟩
    | ret v => obtain ⟨u, rfl, iu⟩ := io; exact ⟨g₄, .ret v, q₄, k, ⟨u, rfl, iu⟩, R₅.unhide, h₄⟩
  · have hi' : i = (els p q₁).length := by lia
    subst hi'
    refine W.done s₂ _ _ hst₂ fun h' tk hk => wpAny_execs_nil ?_
    have R₃ : Rep x cs hid g₂ q₂ { s₂ with heap := h', toks := tk } := by
      have hIa := R₂.led (Ia, .raw o₂) (by simp)
      obtain ⟨mr, F, l⟩ := R₂.fr
      obtain ⟨oL, es, ep, hL, r⟩ := F.ns
      have kk : ∀ b o, b ≠ Ia → s₂.heap.get? b = some o → h'.get? b = some o := fun b o hb e => hk b o (by simpa using hb) e
      refine ⟨⟨mr, ⟨⟨oL, es, ep, kk _ _ (Ne.symm hIa.1) hL, r⟩, fun b o e => kk b o (fun z => ?_) (F.keep b o e), F.above⟩, l⟩, fun b o e => kk b o (fun z => ?_) (R₂.sub b o e), R₂.base, R₂.own, R₂.off, fun e he => ?_, R₂.unhide.nod, R₂.os, R₂.gens, fun b o e hn => let ⟨sl, z⟩ := R₂.sl b o e hn; ⟨sl, kk _ _ (fun w => by rw [w, hIa.2.2.1] at e; cases e) z⟩⟩
      · subst z; have := hIa.2.2.1; rw [of_hideAll _ e] at this; cases this
      · subst z; have := hIa.2.1; rw [e] at this; cases this
      · have he' : e ∈ q₂.led ++ (Ia, MK.raw o₂) :: hid := by
          rcases List.mem_append.mp he with h | h
          · exact List.mem_append_left _ h
          · exact List.mem_append_right _ (.tail _ h)
        obtain ⟨a, b, c, d⟩ := R₂.led e he'
        have hne : e.1 ≠ Ia := fun z => by
          have hn := R₂.nod
          rw [List.map_append, List.map_cons] at hn
          have hn' := List.nodup_append.mp hn
          rcases List.mem_append.mp he with h1 | h1
          · exact hn'.2.2 e.1 (List.mem_map_of_mem h1) Ia (.head _) z
          · exact (List.nodup_cons.mp hn'.2.1).1 (List.mem_map.mpr ⟨e, h1, z⟩)
        obtain ⟨ob, z⟩ := d.there
        exact ⟨a, b, c, d.up (.refl _) ((kk _ _ hne z).trans z.symm)⟩
    exact ⟨g₂, .nxt, q₂, k₁.trans k₂, rfl, R₃, fin q₂ hI⟩
end
end Wk
end
/- L7 -/
section
open PySem PySem.W PySem.Calls PyProof.Rows
namespace Wk
open Mine
section
variable {x : Act} {cs : Scope} {E : Er} {q : Q} {Qn : PV → Q → Prop} {Qb : Bool → Q → Prop} {Qf : Out → Q → Prop} {Qu : Q → Prop} {hid : List (Addr × MK)} {g : G}

noncomputable def G.put (g : G) (a : Addr) (o : Obj) : G := fun b => if b = a then some o else g b
theorem G.le_put {g : G} {a : Addr} {o : Obj} (h : g a = none) : g.Le (g.put a o) := fun b o' e => by
  unfold G.put
  by_cases hb : b = a
  · subst hb; rw [h] at e; cases e
  · rw [if_neg hb]; exact e
theorem G.put_at {g : G} {a : Addr} {o : Obj} : g.put a o a = some o := if_pos rfl

theorem Rep.none_g {q s} (R : Rep x cs hid g q s) : g s.heap.objs.size = none := by
  cases e : g s.heap.objs.size with
  | none => rfl
  | some o => exact absurd (Heap.lt_size (R.sub _ _ e)) (Nat.lt_irrefl _)
theorem Rep.new_L {q s} (R : Rep x cs hid g q s) : s.heap.objs.size ≠ x.L := by
  obtain ⟨mr, F, _⟩ := R.fr
  obtain ⟨oL, _, _, hL, _⟩ := F.ns
  exact Nat.ne_of_gt (Heap.lt_size hL)
theorem Rep.led_lt {q s} (R : Rep x cs hid g q s) : ∀ e ∈ q.led ++ hid, e.1 < s.heap.objs.size := fun e he => by
  obtain ⟨_, _, _, d⟩ := R.led e he
  obtain ⟨_, z⟩ := d.there
  exact Heap.lt_size z

/- an object made that stays as it is -/
theorem Rep.frozen {q s o} (R : Rep x cs hid g q s) (hf : o.isFreed = false) : Rep x cs hid (g.put s.heap.objs.size o) q { s with heap := s.heap.push o } where
  fr := let ⟨mr, F, l⟩ := R.fr; ⟨mr, F.push o, l.up (G.le_put R.none_g)⟩
  sub b ob e := by
    unfold G.put at e
    by_cases hb : b = s.heap.objs.size
    · subst hb; rw [if_pos rfl] at e; cases e; exact Heap.get?_push_size _ hf
    · rw [if_neg hb] at e; exact Heap.get?_push_of_some _ (R.sub _ _ e)
  base := R.base.trans (G.le_put R.none_g)
  own b ob e := by
    unfold G.put at e
    by_cases hb : b = s.heap.objs.size
    · subst hb; exact .inr R.none_h
    · rw [if_neg hb] at e; exact R.own _ _ e
  off := (if_neg (Ne.symm R.new_L)).trans R.off
  led e he := let ⟨a, b, c, d⟩ := R.led e he
    let ⟨ob, z⟩ := d.there
    ⟨a, (if_neg (Nat.ne_of_lt (Heap.lt_size z))).trans b, c, d.up (G.le_put R.none_g) ((Heap.get?_push_of_some _ z).trans z.symm)⟩
  nod := R.nod
  os := R.os
  gens := R.gens
  sl := R.sl.trans (.of_keeps fun b o e => Heap.get?_push_of_some _ e)
/- an object made that may still be changed -/
theorem Rep.made {q s o} {k : MK} (R : Rep x cs hid g q s) (hf : o.isFreed = false) (hm : ∀ h : Heap, h.get? s.heap.objs.size = some o → MIs g h s.heap.objs.size k) :
    Rep x cs hid g ⟨q.m, (s.heap.objs.size, k) :: q.led⟩ { s with heap := s.heap.push o } where
  fr := let ⟨mr, F, l⟩ := R.fr; ⟨mr, F.push o, l⟩
  sub b ob e := Heap.get?_push_of_some _ (R.sub _ _ e)
  base := R.base
  own := R.own
  off := R.off
  led e he := by
    rcases List.mem_cons.mp (show e ∈ (s.heap.objs.size, k) :: (q.led ++ hid) from he) with rfl | h
    · exact ⟨R.new_L, R.none_g, R.none_h, hm _ (Heap.get?_push_size _ hf)⟩
    · obtain ⟨a, b, c, d⟩ := R.led e h
      obtain ⟨ob, z⟩ := d.there
      exact ⟨a, b, c, d.up (.refl g) ((Heap.get?_push_of_some _ z).trans z.symm)⟩
  nod := by
    show (((s.heap.objs.size, k) :: (q.led ++ hid)).map (·.1)).Nodup
    rw [List.map_cons, List.nodup_cons]
    refine ⟨fun hm => ?_, R.nod⟩
    obtain ⟨e, he, ee⟩ := List.mem_map.mp hm
    exact absurd ee (Nat.ne_of_lt (R.led_lt e he))
  os := R.os
  gens := R.gens
  sl := R.sl.trans (.of_keeps fun b o e => Heap.get?_push_of_some _ e)
/- one object changed -/
theorem Rep.setLed {q s h'} {t : Nat} {i : Nat} {d : Addr} {k k' : MK} (R : Rep x cs hid g q s) (hi : q.led[i]? = some (d, k)) (hs : Heap.SameBut d s.heap h') (hm : MIs g h' d k') :
    Rep x cs hid g ⟨q.m, q.led.set i (d, k')⟩ { s with heap := h', toks := t } := by
  have hd := R.led (d, k) (List.mem_append_left _ (List.mem_of_getElem? hi))
  obtain ⟨mr, F, l⟩ := R.fr
  obtain ⟨oL, es, ep, hL, r⟩ := F.ns
  have he : (q.led.set i (d, k')).map (·.1) = q.led.map (·.1) := by
    rw [List.map_set]
    have : (q.led.map (·.1))[i]? = some d := by rw [List.getElem?_map, hi]; rfl
    obtain ⟨hlt, e⟩ := List.getElem?_eq_some_iff.mp this
    conv => lhs; rw [← e]
    exact List.set_getElem_self hlt
  refine ⟨⟨mr, ⟨⟨oL, es, ep, (hs.2 _ (Ne.symm hd.1)).trans hL, r⟩, fun b o e => (hs.2 b fun z => ?_).trans (F.keep b o e), F.above⟩, l⟩, fun b o e => (hs.2 b fun z => ?_).trans (R.sub b o e), R.base, R.own, R.off, fun e hel => ?_, ?_, R.os, R.gens, utsTo R.sl fun b o e => hs.2 b fun z => by rw [z, hd.2.2.1] at e; cases e⟩
  · subst z; have := of_hideAll _ e; rw [hd.2.2.1] at this; cases this
  · subst z; rw [hd.2.1] at e; cases e
  · by_cases hz : e.1 = d
    · have hek : e = (d, k') := by
        obtain ⟨hlt, ei⟩ := List.getElem?_eq_some_iff.mp hi
        have hn := R.nod
        rw [List.map_append] at hn
        obtain ⟨n1, n2, n3⟩ := List.nodup_append.mp hn
        rcases List.mem_append.mp hel with h1 | h1
        · obtain ⟨j, hj⟩ := List.getElem?_of_mem h1
          by_cases hij : i = j
          · subst hij; rw [List.getElem?_set_self hlt] at hj; exact (Option.some.inj hj).symm
          · rw [List.getElem?_set_ne hij] at hj
            exfalso
            have P := List.pairwise_iff_getElem.mp n1
            obtain ⟨hlj, ej⟩ := List.getElem?_eq_some_iff.mp hj
            have a1 : (q.led.map (·.1))[i]'(by simpa using hlt) = d := by simp [ei]
            have a2 : (q.led.map (·.1))[j]'(by simpa using hlj) = d := by simp [ej, hz]
            rcases Nat.lt_or_gt_of_ne hij with l | l
            · exact P i j (by simpa using hlt) (by simpa using hlj) l (a1.trans a2.symm)
            · exact P j i (by simpa using hlj) (by simpa using hlt) l (a2.trans a1.symm)
        · exact absurd rfl (n3 d (List.mem_map.mpr ⟨(d, k), List.mem_of_getElem? hi, rfl⟩) d (List.mem_map.mpr ⟨e, h1, hz⟩))
      subst hek
      exact ⟨hd.1, hd.2.1, hd.2.2.1, hm⟩
    · have hel' : e ∈ q.led ++ hid := by
        rcases List.mem_append.mp hel with h1 | h1
        · rcases List.mem_or_eq_of_mem_set h1 with h2 | h2
          · exact List.mem_append_left _ h2
          · exact absurd (congrArg Prod.fst h2) hz
        · exact List.mem_append_right _ h1
      obtain ⟨a, b, c, dd⟩ := R.led e hel'
      exact ⟨a, b, c, dd.up (.refl g) (hs.2 _ hz)⟩
  · show ((q.led.set i (d, k') ++ hid).map (·.1)).Nodup
    rw [List.map_append, he, ← List.map_append]
    exact R.nod

/- a list that is not changed any more -/
noncomputable def Frz (d : Addr) (p : PV) (m m' : List (Option PV)) : Prop := ∀ i : Nat, ∀ p', m'[i]? = some (some p') → m[i]? = some (some p') ∨ (p' = p ∧ m[i]? = some (some (.val (.ref d))))
theorem Rep.freeze {q s} {d : Addr} {xs : List PV} {m' : List (Option PV)} {led' : List (Addr × MK)} (R : Rep x cs hid g q s) (hp : q.led.Perm ((d, .lst xs) :: led')) (hf : Frz d (.lst xs) q.m m') :
    ∃ g', g.Le g' ∧ Is g' (.lst xs) (.ref d) ∧ Rep x cs hid g' ⟨m', led'⟩ s := by
  have R' : Rep x cs hid g ⟨q.m, (d, .lst xs) :: led'⟩ s := Rep.perm (l := q.led) R hp
  obtain ⟨a, b, c, vs, o, n, ho, oc, od, odn, il⟩ := R'.led (d, .lst xs) (List.mem_append_left _ (.head _))
  have le := G.le_put (g := g) (a := d) (o := o) b
  have hn := R'.nod
  rw [List.cons_append, List.map_cons, List.nodup_cons] at hn
  have i' : Is (g.put d o) (.lst xs) (.ref d) := is_lst.mpr ⟨d, vs, o, n, rfl, G.put_at, oc, od, IsL.up le xs il⟩
  refine ⟨g.put d o, le, i', ?_⟩
  obtain ⟨mr, F, l⟩ := R.fr
  refine ⟨⟨mr, F, fun i n k p e e' => ?_⟩, fun b' ob e => ?_, R.base.trans le, fun b' ob e => ?_, (if_neg (Ne.symm a)).trans R.off, fun e he => ?_, hn.2, R.os, R.gens, R.sl⟩
  · rcases hf i p e' with h | ⟨h1, h⟩
    · obtain ⟨v, z, w⟩ := l i n k p e h; exact ⟨v, z, w.up le⟩
    · subst h1
      obtain ⟨v, z, w⟩ := l i n k _ e h
      rw [is_val.mp w] at z
      exact ⟨_, z, i'⟩
  · unfold G.put at e
    by_cases hb : b' = d
    · subst hb; rw [if_pos rfl] at e; cases e; exact ho
    · rw [if_neg hb] at e; exact R.sub _ _ e
  · unfold G.put at e
    by_cases hb : b' = d
    · subst hb; exact .inr c
    · rw [if_neg hb] at e; exact R.own _ _ e
  · obtain ⟨a', b', c', d'⟩ := R'.led e (.tail _ he)
    have hne : e.1 ≠ d := fun z => hn.1 (List.mem_map.mpr ⟨e, he, z⟩)
    exact ⟨a', (if_neg hne).trans b', c', d'.up le rfl⟩
theorem xs_freeze {ss} (d : Addr) (xs : List PV) {m' : List (Option PV)} {led' : List (Addr × MK)} (hp : q.led.Perm ((d, .lst xs) :: led')) (hf : Frz d (.lst xs) q.m m') (h : Exs x cs ss ⟨m', led'⟩ Qf E) : Exs x cs ss q Qf E := fun hid g s R => by
  obtain ⟨g', le, _, R'⟩ := R.freeze hp hf
  exact wpAny_mono (h hid g' s R') (fun _ _ d => d.le le) fun _ _ e => e

/- displays -/
theorem ev_tup {es k pos} (h : Evs x cs es q (fun ps q' => ps.length ≤ 1000 ∧ Qn (.tup ps) q') E) : Ev x cs (.Tuple es k pos) q Qn E := fun hid g s R => by
  refine Tuple_ (dl_k (evs_run h R) fun vs s₁ g₁ ps q₁ k₁ il R₁ ⟨hz, h₁⟩ => ?_)
  have hl := il.length
  refine wpAny_newObj_type ?_ (by show vs.toArray.size ≤ sizeLine; rw [List.size_toArray, sizeLine_eq]; lia)
  have le := G.le_put (o := { cls := .type "tuple", data := .seq vs.toArray }) R₁.none_g
  exact ⟨_, .tup ps, q₁, k₁.trans le, is_tup.mpr ⟨_, _, _, _, rfl, G.put_at, rfl, rfl, by simpa using IsL.up le _ il⟩, R₁.frozen rfl, h₁⟩
theorem ev_lstF {es pos} (h : Evs x cs es q (fun ps q' => ps.length ≤ 1000 ∧ Qn (.lst ps) q') E) : Ev x cs (.List es pos) q Qn E := fun hid g s R => by
  refine List_ (dl_k (evs_run h R) fun vs s₁ g₁ ps q₁ k₁ il R₁ ⟨hz, h₁⟩ => ?_)
  have hl := il.length
  refine wpAny_newObj_type ?_ (by show vs.toArray.size ≤ sizeLine; rw [List.size_toArray, sizeLine_eq]; lia)
  have le := G.le_put (o := { cls := .type "list", data := .seq vs.toArray }) R₁.none_g
  exact ⟨_, .lst ps, q₁, k₁.trans le, is_lst.mpr ⟨_, _, _, _, rfl, G.put_at, rfl, rfl, by simpa using IsL.up le _ il⟩, R₁.frozen rfl, h₁⟩
theorem ev_lstM {es pos} (h : Evs x cs es q (fun ps q' => ps.length ≤ 1000 ∧ ∀ d, Qn (.val (.ref d)) ⟨q'.m, (d, .lst ps) :: q'.led⟩) E) : Ev x cs (.List es pos) q Qn E := fun hid g s R => by
  refine List_ (dl_k (evs_run h R) fun vs s₁ g₁ ps q₁ k₁ il R₁ ⟨hz, h₁⟩ => ?_)
  have hl := il.length
  refine wpAny_newObj_type ?_ (by show vs.toArray.size ≤ sizeLine; rw [List.size_toArray, sizeLine_eq]; lia)
  exact ⟨g₁, _, _, k₁, is_val.mpr rfl, R₁.made (k := .lst ps) rfl (fun h e => ⟨_, _, _, e, rfl, rfl, rfl, by simpa using il⟩), h₁ _⟩

/- lists that may change -/
theorem mth_append {d : Addr} {xs : List PV} {k : Value → List PV → Q → Prop} (hm : (d, MK.lst xs) ∈ q.led) (h : k (.builtin "list.append") [.val (.ref d)] q) : Mth x cs (.val (.ref d)) "append" q k E := fun hid g s u R i pl => by
  rw [is_val.mp i]
  obtain ⟨_, _, _, vs, o, n, ho, oc, od, odn, il⟩ := R.led _ (List.mem_append_left _ hm)
  exact getMethod_builtin ⟨_, ho, oc⟩ PySem.F.plainAttrs_list PySem.F.slot_list_append PySem.F.type_list_append (fun a e => by cases e; exact ⟨_, ho, odn⟩) ⟨g, q, _, .refl g, R, isL_cons.mpr ⟨_, _, rfl, is_val.mpr rfl, isL_nil.mpr rfl⟩, h⟩
theorem call_append {d : Addr} {xs : List PV} {p : PV} (i : Nat) (hi : q.led[i]? = some (d, .lst xs)) (hz : xs.length ≤ 100000) (h : Qn (.val .none) ⟨q.m, q.led.set i (d, .lst (xs ++ [p]))⟩) :
    CallR x cs (.builtin "list.append") [.val (.ref d), p] q Qn E := fun hid g s vs R il => by
  obtain ⟨v, r, rfl, iv, il⟩ := isL_cons.mp il
  obtain ⟨u, r, rfl, iu, il⟩ := isL_cons.mp il
  rw [is_val.mp iv, isL_nil.mp il]
  obtain ⟨_, _, _, vs, o, n, ho, oc, od, odn, ill⟩ := R.led _ (List.mem_append_left _ (List.mem_of_getElem? hi))
  have hl := ill.length
  have hsz : vs.size ≤ sizeLine := by rw [sizeLine_eq]; simp at hl; lia
  refine wpAny_call_entry slot_list_append ⟨_, ho, oc⟩ entry_list_append ?_ (args_list_append _ _)
  show wpAny _ _ (updateSeq d (·.push u) >>= fun _ => ret .none) _ _ s
  refine wpAny_bind (wpAny_updateSeq ho od (wpAny_pure ⟨.none, rfl, ?_⟩) hsz (by rw [Array.size_push]; lia))
  obtain ⟨c, dd, dt, sl⟩ := o
  dsimp only at oc od odn
  subst oc od odn
  have hs : Heap.SameBut d s.heap (s.heap.update d (Obj.mapSeq (·.push u))) := Heap.SameBut.update ..
  have hg : (s.heap.update d (Obj.mapSeq (·.push u))).get? d = some (Obj.mapSeq (·.push u) ⟨.type "list", none, .seq vs n, sl⟩) := Heap.get?_update_self _ ho rfl
  refine ⟨g, _, _, .refl g, is_val.mpr rfl, R.setLed (t := s.toks) hi hs (k' := .lst (xs ++ [p])) ⟨vs.push u, _, _, hg, rfl, rfl, rfl, ?_⟩, h⟩
  rw [Array.toList_push]
  exact ill.append (isL_cons.mpr ⟨u, [], rfl, iu, isL_nil.mpr rfl⟩)

/- len -/
theorem call_lenB {b : List UInt8} (hz : b.length ≤ 16777216) (h : Qn (.int (b.length : Nat)) q) : CallR x cs (.builtin "len") [.byt b] q Qn E := fun hid g s vs R il => by
  with_reducible refine isL1_k il fun v iv => ?_
  with_reducible refine byt_k iv fun t => ?_
  exact len_bytes (by simp; lia) (R.dn (is_int.mpr ⟨_, by simp; rfl⟩) h)
theorem call_lenL {xs : List PV} (hz : xs.length ≤ 16777216) (h : Qn (.int (xs.length : Nat)) q) : CallR x cs (.builtin "len") [.lst xs] q Qn E := fun hid g s vs R il => by
  with_reducible refine isL1_k il fun v iv => ?_
  obtain ⟨a, vs, o, n, rfl, ga, oc, od, il'⟩ := is_lst.mp iv
  have hl := il'.length
  have hl' : vs.size = xs.length := by simpa using hl
  exact PyProof.Rows.len_list ⟨_, R.sub _ _ ga, oc, _, od⟩ (by lia) (R.dn (is_int.mpr ⟨_, by rw [hl']⟩) h)
theorem tr_lst {xs : List PV} (hz : xs.length ≤ 16777216) (h : Qb (!xs.isEmpty) q) : Tru x cs (.lst xs) q Qb E := fun hid g s u R i => by
  obtain ⟨a, vs, o, n, rfl, ga, oc, od, il⟩ := is_lst.mp i
  have hl' : vs.size = xs.length := by simpa using il.length
  refine wpAny_truthy_list ⟨_, R.sub _ _ ga, oc, _, od⟩ (by lia) ?_
  have e : (!vs.isEmpty) = !xs.isEmpty := by cases xs <;> simp_all [Array.isEmpty]
  rw [e]; exact R.db h

/- items of lists and tuples -/
theorem op_itemL {value slice : Expr} {xs : List PV} {k : Int} {p : PV} (hz : xs.length ≤ 16777216) (h0 : 0 ≤ k) (hp : xs[k.toNat]? = some p) (h : Qn p q)
    (hs : ∀ a u, subscripted slice false (.ref a) (.int k u) = operate [.ref a, .int k u] (getItem (.ref a) (.int k u)))
    (ht : ∀ a r, letTemporaryGo value (.ref a) r = pure ()) : Op2 x cs (subscriptTail value slice) (.lst xs) (.int k) q Qn E := fun hid g s u v R i j => by
  obtain ⟨a, vs, o, n, rfl, ga, oc, od, il⟩ := is_lst.mp i
  with_reducible refine int_k j fun t => ?_
  obtain ⟨w, hw, iw⟩ := il.at hp
  have hl := (List.getElem?_eq_some_iff.mp hp).1
  exact item_list ⟨_, R.sub _ _ ga, oc, _, od⟩ h0 (by lia) (by simpa using hw) (R.dn' iw h) (hs _ _) (ht _)
theorem op_itemM {value slice : Expr} {d : Addr} {xs : List PV} {k : Int} {p : PV} (hm : (d, MK.lst xs) ∈ q.led) (hz : xs.length ≤ 16777216) (h0 : 0 ≤ k) (hp : xs[k.toNat]? = some p) (h : Qn p q)
    (hs : ∀ a u, subscripted slice false (.ref a) (.int k u) = operate [.ref a, .int k u] (getItem (.ref a) (.int k u)))
    (ht : ∀ a r, letTemporaryGo value (.ref a) r = pure ()) : Op2 x cs (subscriptTail value slice) (.val (.ref d)) (.int k) q Qn E := fun hid g s u v R i j => by
  rw [is_val.mp i]
  obtain ⟨_, _, _, vs, o, n, ho, oc, od, odn, il⟩ := R.led _ (List.mem_append_left _ hm)
  with_reducible refine int_k j fun t => ?_
  obtain ⟨w, hw, iw⟩ := il.at hp
  have hl := (List.getElem?_eq_some_iff.mp hp).1
  exact item_list ⟨_, ho, oc, _, od⟩ h0 (by lia) (by simpa using hw) (R.dn' iw h) (hs _ _) (ht _)
theorem op_itemT {value slice : Expr} {xs : List PV} {k : Int} {p : PV} (hz : xs.length ≤ 16777216) (h0 : 0 ≤ k) (hp : xs[k.toNat]? = some p) (h : Qn p q)
    (hs : ∀ a u, subscripted slice false (.ref a) (.int k u) = operate [.ref a, .int k u] (getItem (.ref a) (.int k u)))
    (ht : ∀ a r, letTemporaryGo value (.ref a) r = pure ()) : Op2 x cs (subscriptTail value slice) (.tup xs) (.int k) q Qn E := fun hid g s u v R i j => by
  obtain ⟨a, vs, o, n, rfl, ga, oc, od, il⟩ := is_tup.mp i
  with_reducible refine int_k j fun t => ?_
  obtain ⟨w, hw, iw⟩ := il.at hp
  have hl := (List.getElem?_eq_some_iff.mp hp).1
  have hl' : vs.size = xs.length := by simpa using il.length
  refine item_tuple (j := k.toNat) ⟨_, R.sub _ _ ga, oc, _, od⟩ (by lia) (by lia) ?_ (by simpa using hw) (R.dn' iw h) (hs _ _) (ht _)
  have hn : ¬ k < 0 := by lia
  have h3 : k < (vs.size : Int) := by lia
  simp [seqIndex?, hn, h0, h3]

/- a tuple taken apart -/
noncomputable def Asgs (x : Act) (cs : Scope) : List Expr → List PV → Q → (Q → Prop) → Er → Prop
  | [], [], q, Qu, _ => Qu q
  | e :: es, p :: ps, q, Qu, E => Asg x cs e p q (fun q1 => Asgs x cs es ps q1 Qu E) E
  | _, _, _, _, _ => False
theorem asgs_run : ∀ {es : List Expr} {ps : List PV} {q : Q} {Qu : Q → Prop} {hid g s vs}, Asgs x cs es ps q Qu E → Rep x cs hid g q s → IsL g ps vs →
    (assignEach es (x.env cs)).map (·.2) = es.map (fun e => assign e (x.env cs)) → wpAny x.M x.A (assignInOrder ((assignEach es (x.env cs)).map (·.2)) vs) (Du x cs hid g Qu) E s
  | [], [], q, Qu, hid, g, s, vs, h, R, il, _ => assignInOrder_nil ⟨g, q, .refl g, R, h⟩
  | [], _ :: _, _, _, _, _, _, _, h, _, _, _ => h.elim
  | _ :: _, [], _, _, _, _, _, _, h, _, _, _ => h.elim
  | e :: es, p :: ps, q, Qu, hid, g, s, vs, h, R, il, he => by
    obtain ⟨v, r, rfl, iv, il⟩ := isL_cons.mp il
    rw [he]
    have hgo : ∀ (es : List Expr) (ps : List PV) (q : Q) (g : G) (s : Shared) (vs : List Value), Asgs x cs es ps q Qu E → Rep x cs hid g q s → IsL g ps vs →
        wpAny x.M x.A (assignInOrder (es.map (fun e => assign e (x.env cs))) vs) (Du x cs hid g Qu) E s := by
      intro es
      induction es with
      | nil =>
        intro ps q g s vs h R il
        cases ps with
        | nil => exact assignInOrder_nil ⟨g, q, .refl g, R, h⟩
        | cons _ _ => exact h.elim
      | cons e es ih =>
        intro ps q g s vs h R il
        cases ps with
        | nil => exact h.elim
        | cons p ps =>
          obtain ⟨v, r, rfl, iv, il⟩ := isL_cons.mp il
          refine assignInOrder_cons (du_k (h hid g s v R iv) fun _ s₁ g₁ q₁ k₁ R₁ h₁ => ?_)
          exact wpAny_mono (ih ps q₁ g₁ s₁ r h₁ R₁ (IsL.up k₁ _ il)) (fun _ _ d => d.le k₁) fun _ _ e => e
    exact hgo (e :: es) (p :: ps) q g s (v :: r) h R (isL_cons.mpr ⟨v, r, rfl, iv, il⟩)
theorem as_T {es : List Expr} {k : Nat} {pos : Pos} {ps : List PV} (hh : x.A.handled = none) (hl : es.length = ps.length) (h : Asgs x cs es ps q Qu E)
    (he : (assignEach es (x.env cs)).map (·.2) = es.map (fun e => assign e (x.env cs))) (hst : (assignEach es (x.env cs)).findIdx? (·.1) = none) : Asg x cs (.Tuple es k pos) (.tup ps) q Qu E := fun hid g s v R i => by
  obtain ⟨a, vs, o, n, rfl, ga, oc, od, il⟩ := is_tup.mp i
  have hl' : vs.size = ps.length := by simpa using il.length
  refine assign_Tuple_tuple hh ⟨_, R.sub _ _ ga, oc, _, od⟩ ?_ hst fun h' hx => ?_
  · have := congrArg List.length he
    simp only [List.length_map] at this
    rw [this, hl, hl']
  · have R' : Rep x cs hid g q { s with heap := h', toks := s.toks } := R.grow fun b o e => hx b o (Nat.ne_of_lt (Heap.lt_size e)) e
    exact asgs_run h R' il he
end
end Wk
end
/- L8a -/
section
open PySem PySem.W PySem.Calls PyProof.Rows
namespace Wk
open Mine
section
variable {x : Act} {cs : Scope} {E : Er} {q : Q} {Qn : PV → Q → Prop} {Qb : Bool → Q → Prop} {Qf : Out → Q → Prop} {Qu : Q → Prop} {hid : List (Addr × MK)} {g : G}
theorem gives_in_int {b : Array UInt8} {t u : Tok} {i : Int} (h0 : 0 ≤ i) (h1 : i < 256) : Gives (Builtin.«bytes.__contains__» ⟨[.bytes b t, .int i u], []⟩) (.val (.bool (b.contains i.toNat.toUInt8))) := by
  refine .of_wp fun M A E s Q hq => ?_
  show wpAny M A (Builtin.Bytes.containsIn "bytes.__contains__" (.bytes b t) (.int i u) >>= fun r => _) _ E s
  refine wpAny_bind ?_
  unfold Builtin.Bytes.containsIn
  refine wpAny_bind (wpAny_attempt (wpAny_of_eq (a := i) rfl ?_))
  refine wpAny_bind (wpAny_of_eq KBy.buffer_eq ?_)
  show wpAny M A (if (decide (i < 0) || decide (i ≥ 256)) = true then _ else _) _ E s
  rw [if_neg (by simp; lia)]
  exact wpAny_pure (wpAny_pure ⟨_, rfl, hq⟩)
theorem op_inIB {i : Int} {b : List UInt8} (h0 : 0 ≤ i) (h1 : i < 256) (h : Qn (.val (.bool (b.contains i.toNat.toUInt8))) q) : Op2 x cs (compareOp .In) (.int i) (.byt b) q Qn E := fun hid g s u v R i j => by
  with_reducible refine int_k i fun t => ?_; with_reducible refine byt_k j fun t' => ?_
  refine in_gives (typeIs_bytes _ _ _) FB.slot_bytes_contains FB.entry_bytes_contains (FB.args_bytes_contains_2 _ _) (gives_in_int h0 h1) (R.dn' (is_val.mpr ?_) h)
  simp
theorem noI_bytes_add : typeLookup (.type "bytes") (dunderI "add") = pure none := by rw [typeLookup_type, builtinLookup_eq_fast]; kernel_rfl
theorem op_iaddB {a b : List UInt8} (hz : a.length + b.length ≤ 16777216) (h : Qn (.byt (a ++ b)) q) : Op2 x cs (inplaceOp .Add) (.byt a) (.byt b) q Qn E := fun hid g s u v R i j => by
  with_reducible refine byt_k i fun t => ?_; with_reducible refine byt_k j fun t' => ?_
  refine iconcat_gives (typeIs_bytes s _ t) (typeIs_bytes s _ t') noI_bytes_add KBy.noFill_bytes_add KBy.seq_bytes_add FB.slot_bytes_add FB.entry_bytes_add (FB.args_bytes_add_2 _ _) (KBy.gives_bytes_add (KBy.tooLong_not (by simpa using hz))) ?_
  by_cases ha : a.toArray.isEmpty = true
  · rw [if_pos ha]
    have e : a = [] := by simpa using ha
    subst e
    exact R.dn' (is_byt.mpr ⟨_, rfl⟩) h
  · rw [if_neg ha]
    by_cases hb : b.toArray.isEmpty = true
    · rw [if_pos hb]
      have e : b = [] := by simpa using hb
      subst e
      rw [List.append_nil] at h
      exact R.dn' (is_byt.mpr ⟨_, rfl⟩) h
    · rw [if_neg hb]
      exact ⟨by simpa [sizeLine_eq] using hz, R.dn (is_byt.mpr ⟨_, by simp; rfl⟩) h⟩
theorem call_bytes {i : Int} (hh : x.A.handled = none) (h0 : 0 ≤ i) (h1 : i < 256) (h : Qn (.byt [i.toNat.toUInt8]) q) : CallR x cs (.type "bytes") [.lst [.int i]] q Qn E := fun hid g s vs R il => by
  with_reducible refine isL1_k il fun v iv => ?_
  obtain ⟨a, vs, o, n, rfl, ga, oc, od, il'⟩ := is_lst.mp iv
  obtain ⟨u, r, e, iu, il3⟩ := isL_cons.mp il'
  obtain ⟨t, rfl⟩ := is_int.mp iu
  have er := isL_nil.mp il3
  subst er
  have hl : s.heap.IsList a [Value.int i t].toArray := ⟨_, R.sub _ _ ga, oc, _, by rw [od, ← e]⟩
  refine call_bytes_ints (ns := [i]) hl (.cons _ _ .nil) (by intro n hn; simp at hn; subst hn; exact ⟨h0, h1⟩) (by rw [sizeLine_eq]; simp) hh fun h' t' k hk => R.dnG hk (is_byt.mpr ⟨t', by simp [byteArr]⟩) h
end

noncomputable def special : List UInt8 := [40, 41, 91, 93, 123, 125, 63, 42, 43, 45, 124, 94, 36, 92, 46, 38, 126, 35, 32, 9, 10, 13, 11, 12]
noncomputable def escB (b : List UInt8) : List UInt8 := b.flatMap fun c => if special.contains c then [92, c] else [c]
theorem escB_len (b : List UInt8) : (escB b).length ≤ 2 * b.length := by
  induction b with
  | nil => simp [escB]
  | cons c r ih =>
    have : escB (c :: r) = (if special.contains c then [92, c] else [c]) ++ escB r := by simp [escB]
    rw [this, List.length_append, List.length_cons]
    split <;> simp <;> lia
theorem escB_take (b : List UInt8) {i : Nat} {c : UInt8} (h : b[i]? = some c) : escB (b.take (i + 1)) = escB (b.take i) ++ (if special.contains c then [92, c] else [c]) := by
  rw [List.take_add_one, h]
  simp [escB]
set_option maxHeartbeats 4000000
theorem cl_escape (w : World) (b : List UInt8) (hb : b.length ≤ 1000) : Cl true (.ref 28) [.byt b] [] 2 (fun p l => p = .byt (escB b) ∧ l = []) w := by
  refine cl_def (dargs := []) (dvals := []) (ps := ["octets"]) (by rfl) (by conv => lhs; whnf) (by conv => lhs; whnf) (by kernel_rfl) ?hb (fun _ => isL_nil.mpr rfl) rfl (by decide +kernel) ?hloc (by decide +kernel) (by decide +kernel) rfl rfl rfl (m₀ := [some (.byt b), none, none, none]) (by kernel_rfl) ?body (by decide)
  case hb =>
    intro s vals X hl
    obtain ⟨a, rfl⟩ := vlist1 hl
    exact .of_eq (by kernel_rfl)
  case hloc => decide +kernel
  case body =>
    intro y hw O hn hr hcl K0 hKr hKn
    have hh := O.hand (hn rfl)
    refine xs_cons (ex_asg (hs := by rfl) O 1 rfl (by with_reducible rfl) (ev_byt ?_))
    refine xs_cons (ex_for (hs := by intro _; rfl) hh noE noE_pass (fun _ _ => byteEls b) (fun _ _ i q2 => ∃ el, q2 = ⟨[some (.byt b), some (.byt (escB (b.take i))), el, none], []⟩) (ev_L (hd := by decide +kernel) O 0 rfl (by with_reducible rfl) rfl ⟨iter_byt hh, ⟨none, rfl⟩, ?turn, ?fin⟩))
    case fin =>
      rintro q2 ⟨el, rfl⟩
      refine xs_cons (ex_ret (ev_L (hd := by decide +kernel) O 1 rfl (by with_reducible rfl) rfl (co_ret (hKr _ _ ?_))))
      simp [byteEls]
    case turn =>
      rintro i el q2 hel ⟨el0, rfl⟩
      simp only [byteEls, List.getElem?_map] at hel
      obtain ⟨c, hc, rfl⟩ := Option.map_eq_some_iff.mp hel
      refine as_L O 2 rfl (by with_reducible rfl) ?_
      have hc1 : c.toNat < 256 := c.toNat_lt
      have hlen : i < b.length := (List.getElem?_eq_some_iff.mp hc).1
      have hl1 := escB_len (b.take i)
      rw [List.length_take] at hl1
      refine xs_cons (ex_if (ts_cmp (hm := by with_unfolding_all rfl) (ev_L (hd := by decide +kernel) O 2 rfl (by with_reducible rfl) rfl (ev_byt (op_inIB (by lia) (by lia) (tr_bool ?_))))))
      have ec : (((c.toNat : Nat) : Int).toNat.toUInt8) = c := by simp
      rw [ec]
      have es := escB_take b hc
      split
      · rename_i hs
        have hs' : special.contains c = true := hs
        rw [if_pos hs'] at es
        refine xs_cons (ex_aug O 1 rfl (by with_reducible rfl) rfl (ev_byt (op_iaddB (by simp; lia) ?_)))
        refine xs_nil ?_
        refine xs_cons (ex_aug O 1 rfl (by with_reducible rfl) rfl ?_)
        refine ev_call (hpl := by intro _ _; rfl) O (ev_B (hd := by decide +kernel) O 3 rfl (by with_reducible rfl) (by kernel_rfl) Boot.«bytes» (by decide +kernel) ⟨_, rfl, rfl, evs_cons (he := by intro _; rfl) (ev_lstF (evs_cons (he := by intro _; rfl) (ev_L (hd := by decide +kernel) O 2 rfl (by with_reducible rfl) rfl (evs_nil ⟨by simp, evs_nil (call_bytes hh (by lia) (by lia) (op_iaddB (by simp; lia) (xs_nil ?_)))⟩))))⟩)
        refine ⟨some (.int (c.toNat : Nat)), ?_⟩
        rw [es, ec]; simp
      · rename_i hs
        have hs' : ¬ special.contains c = true := hs
        rw [if_neg hs'] at es
        refine xs_nil ?_
        refine xs_cons (ex_aug O 1 rfl (by with_reducible rfl) rfl ?_)
        refine ev_call (hpl := by intro _ _; rfl) O (ev_B (hd := by decide +kernel) O 3 rfl (by with_reducible rfl) (by kernel_rfl) Boot.«bytes» (by decide +kernel) ⟨_, rfl, rfl, evs_cons (he := by intro _; rfl) (ev_lstF (evs_cons (he := by intro _; rfl) (ev_L (hd := by decide +kernel) O 2 rfl (by with_reducible rfl) rfl (evs_nil ⟨by simp, evs_nil (call_bytes hh (by lia) (by lia) (op_iaddB (by simp; lia) (xs_nil ?_)))⟩))))⟩)
        refine ⟨some (.int (c.toNat : Nat)), ?_⟩
        rw [es, ec]; simp
end Wk
end
/- L8b -/
section
open PySem PySem.W PySem.Calls PyProof.Rows
namespace Wk
open Mine
section
variable {x : Act} {cs : Scope} {E : Er} {q : Q} {Qn : PV → Q → Prop} {Qb : Bool → Q → Prop} {Qf : Out → Q → Prop} {Qu : Q → Prop} {hid : List (Addr × MK)} {g : G}
variable {a b : List Nat}

theorem op_addS (hz : a.length + b.length ≤ 16777216) (h : Qn (.str (a ++ b)) q) : Op2 x cs (binaryOp .Add) (.str a) (.str b) q Qn E := fun hid g s u v R i j => by
  with_reducible refine str_k i fun t => ?_; with_reducible refine str_k j fun t' => ?_
  refine SB.add (fun t' k => R.dn (is_str.mpr ⟨t', ?_⟩) h) (by rw [sizeLine_eq]; simpa [Str.length] using hz)
  show Value.str ⟨a.toArray ++ b.toArray⟩ t' = _
  simp
theorem op_eqS (h : Qn (.val (.bool (a == b))) q) : Op2 x cs (compareOp .Eq) (.str a) (.str b) q Qn E := fun hid g s u v R i j => by
  with_reducible refine str_k i fun t => ?_; with_reducible refine str_k j fun t' => ?_; with_reducible refine PySem.P.eq_str ?_; exact R.dn' (is_val.mpr rfl) h
theorem op_neS (h : Qn (.val (.bool (a != b))) q) : Op2 x cs (compareOp .NotEq) (.str a) (.str b) q Qn E := fun hid g s u v R i j => by
  with_reducible refine str_k i fun t => ?_; with_reducible refine str_k j fun t' => ?_; with_reducible refine PySem.P.ne_str ?_; exact R.dn' (is_val.mpr rfl) h
theorem op_leS (h : Qn (.val (.bool (!(b < a : Bool)))) q) : Op2 x cs (compareOp .LtE) (.str a) (.str b) q Qn E := fun hid g s u v R i j => by
  with_reducible refine str_k i fun t => ?_; with_reducible refine str_k j fun t' => ?_; with_reducible refine PySem.P.le_str ?_; exact R.dn' (is_val.mpr rfl) h
theorem op_itemS {value slice : Expr} {k : Int} {c : Nat} (hz : a.length ≤ 16777216) (h1 : -(a.length : Int) ≤ k) (h2 : k < a.length) (hc : (seqIndex? k a.length).bind (a[·]?) = some c) (h : Qn (.str [c]) q)
    (hs : ∀ t u, subscripted slice false (.str ⟨a.toArray⟩ t) (.int k u) = operate [.str ⟨a.toArray⟩ t, .int k u] (getItem (.str ⟨a.toArray⟩ t) (.int k u)))
    (ht : ∀ t r, letTemporaryGo value (.str ⟨a.toArray⟩ t) r = pure ()) : Op2 x cs (subscriptTail value slice) (.str a) (.int k) q Qn E := fun hid g s u v R i j => by
  with_reducible refine str_k i fun t => ?_; with_reducible refine int_k j fun t' => ?_
  refine item_str (x := ⟨a.toArray⟩) ?_ (by simpa [Str.length] using h1) (by simpa [Str.length] using h2) (fun _ => R.dn (is_str.mpr ⟨s.toks, ?_⟩) h) (hs _ _) (ht _)
  · simp only [fitsSsize, Bool.and_eq_true, Bool.not_eq_true', Bool.or_eq_false_iff, decide_eq_true_eq, decide_eq_false_iff_not]; lia
  · have e : Txt.charAt ⟨a.toArray⟩ k = some c := by
      unfold Txt.charAt
      rw [← hc]
      simp [Str.length]
    unfold Txt.item; rw [e]; rfl
theorem sl_str {a : List Nat} {l u : Option Int} (hz : a.length ≤ 16777216) (h : Qn (.str (cut a l u)) q) : Slc x cs "str" (.str a) l u q Qn E := fun hid g s b sl vl vu R i hs pl pu => by
  with_reducible refine str_k i fun t => ?_
  obtain ⟨so, hso, hsc, hsd⟩ := hs
  have key : ∀ (l' u' : Option (Int × Tok)), l'.map (·.1) = l → u'.map (·.1) = u → vl = partValue l' → vu = partValue u' → wpAny x.M x.A (getItem (.str ⟨a.toArray⟩ t) (.ref sl)) (Dn x cs hid g Qn) E s := by
    intro l' u' el eu e1 e2
    have picked : (slicePicked ⟨a.toArray⟩ l' u' none).filterMap (fun i => (⟨a.toArray⟩ : Str).cps[i]?) = cut a l u := by
      unfold slicePicked
      rw [el, eu]
      have e : Builtin.Str.strSliceIndices l u 1 a.length = sliceRange (sliceBounds l u none a.length).1 (sliceBounds l u none a.length).2.1 (sliceBounds l u none a.length).2.2 := by
        unfold Builtin.Str.strSliceIndices sliceBounds
        rfl
      show ((Builtin.Str.strSliceIndices l u 1 (a.toArray.size)).filterMap fun i => a.toArray[i]?) = _
      rw [List.size_toArray, e, sliceBounds_plain]
      simp only [sliceRange_one, pick_run]
      simp [cut]
    refine wpAny_getItem_str_slice (l := l') (u := u') (st := none) ⟨so, hso, hsc, by rw [hsd, e1, e2]; rfl⟩ rfl ?_
    unfold sliceMade
    rw [picked]
    split
    · rename_i hc
      simp only [Option.map_none, Option.getD_none, beq_self_eq_true, Bool.true_and, beq_iff_eq] at hc
      have hw : cut a l u = a := by
        have hc' : (slicePicked ⟨a.toArray⟩ l' u' none).length = a.length := by rw [hc]; simp [Str.length]
        have hlen : (cut a l u).length = a.length := by
          rw [← picked, ← hc']
          have e : Builtin.Str.strSliceIndices l u 1 a.length = sliceRange (sliceBounds l u none a.length).1 (sliceBounds l u none a.length).2.1 (sliceBounds l u none a.length).2.2 := by
            unfold Builtin.Str.strSliceIndices sliceBounds
            rfl
          have e2 : slicePicked ⟨a.toArray⟩ l' u' none = sliceRange (sliceBounds l u none a.length).1 (sliceBounds l u none a.length).2.1 (sliceBounds l u none a.length).2.2 := by
            unfold slicePicked
            rw [el, eu]
            show Builtin.Str.strSliceIndices l u 1 (a.toArray.size) = _
            rw [List.size_toArray, e]
          rw [e2, sliceBounds_plain]
          simp only [sliceRange_one, pick_run, List.length_map, List.length_range]
          have h1 : u.elim a.length (clipAt a.length) ≤ a.length := by
            cases u with
            | none => exact Nat.le_refl _
            | some k => simp only [Option.elim, clipAt]; lia
          simp
          lia
        unfold cut at hlen ⊢
        have hd : (l.elim 0 (clipAt a.length)) = 0 ∨ a.length = 0 := by
          rw [List.length_take, List.length_drop] at hlen
          lia
        rw [List.length_take, List.length_drop] at hlen
        rcases hd with hd | hd
        · rw [hd, List.drop_zero]
          exact List.take_of_length_le (by rw [hd] at hlen; lia)
        · have : a = [] := List.length_eq_zero_iff.mp hd
          subst this; simp
      rw [hw] at h
      exact R.dn' (is_str.mpr ⟨t, rfl⟩) h
    · refine ⟨?_, R.dn (is_str.mpr ⟨_, rfl⟩) h⟩
      rw [sizeLine_eq]
      show (cut a l u).toArray.size ≤ _
      rw [List.size_toArray]
      unfold cut
      rw [List.length_take, List.length_drop]; lia
  refine ⟨typeIs_str _ _ _, ?_⟩
  cases pl <;> cases pu
  · exact key none none rfl rfl rfl rfl
  · rename_i k tk; exact key none (some (k, tk)) rfl rfl rfl rfl
  · rename_i k tk; exact key (some (k, tk)) none rfl rfl rfl rfl
  · rename_i k tk k' tk'; exact key (some (k, tk)) (some (k', tk')) rfl rfl rfl rfl
theorem contains_one (a : List Nat) (c : Nat) : Txt.contains ⟨a.toArray⟩ ⟨#[c]⟩ = a.contains c := by
  unfold Txt.contains
  rcases StrLaws.occ_head_from ⟨a.toArray⟩ ⟨#[c]⟩ 0 1 (Nat.le_refl 1) with ⟨h0, hn⟩ | ⟨k, r, h0, hlo, hk, hn⟩
  · rw [h0]
    have : ¬ c ∈ a := fun hm => by
      obtain ⟨i, hi⟩ := List.getElem?_of_mem hm
      exact hn i (Nat.zero_le _) ((StrLaws.subAt_one _ c i).mpr (by simpa using hi))
    simpa using this
  · rw [h0]
    have hm := (StrLaws.subAt_one _ c k).mp hk
    have : c ∈ a := List.mem_of_getElem? (by simpa using hm)
    simpa using this
theorem op_inS {c : Nat} (h : Qn (.val (.bool (a.contains c))) q) : Op2 x cs (compareOp .In) (.str [c]) (.str a) q Qn E := fun hid g s u v R i j => by
  with_reducible refine str_k i fun t => ?_; with_reducible refine str_k j fun t' => ?_
  with_reducible refine SB.contains ?_; exact R.dn' (is_val.mpr (by rw [show (⟨[c].toArray⟩ : Str) = ⟨#[c]⟩ from rfl, contains_one])) h
theorem call_lenS (hz : a.length ≤ 16777216) (h : Qn (.int (a.length : Nat)) q) : CallR x cs (.builtin "len") [.str a] q Qn E := fun hid g s vs R il => by
  with_reducible refine isL1_k il fun v iv => ?_
  with_reducible refine str_k iv fun t => ?_
  exact PySem.P.len_str (by simp [Str.length]; lia) (R.dn (is_int.mpr ⟨_, by simp [Str.length]; rfl⟩) h)
theorem strsAre_of : ∀ {ls : List (List Nat)} {vs : List Value}, IsL g (ls.map .str) vs → StrsAre vs (ls.map fun l => (⟨l.toArray⟩ : Str))
  | [], vs, h => by rw [isL_nil.mp h]; exact .nil
  | l :: ls, vs, h => by
    obtain ⟨v, r, rfl, i, h'⟩ := isL_cons.mp h
    with_reducible refine str_k i fun t => ?_
    exact .cons _ _ (strsAre_of h')
theorem join_empty (ls : List (List Nat)) : Txt.join ⟨#[]⟩ (ls.map fun l => (⟨l.toArray⟩ : Str)) = ⟨ls.flatten.toArray⟩ := by
  have key : ∀ (ls : List (List Nat)) (acc : Array Nat), (ls.map fun l => (⟨l.toArray⟩ : Str)).foldl (fun acc p => acc ++ (⟨#[]⟩ : Str).cps ++ p.cps) acc = acc ++ ls.flatten.toArray := by
    intro ls
    induction ls with
    | nil => intro acc; simp
    | cons l r ih => intro acc; rw [List.map_cons, List.foldl_cons, ih]; simp
  unfold Txt.join Builtin.Str.glued
  cases ls with
  | nil => rfl
  | cons l r =>
    simp only [List.map_cons, List.drop_succ_cons, List.drop_zero, List.headD_cons, key]
    simp
theorem sum_len : ∀ ls : List (List Nat), ((ls.map fun l => (⟨l.toArray⟩ : Str)).map (·.length)).sum = ls.flatten.length
  | [] => rfl
  | l :: r => by
    rw [List.map_cons, List.map_cons, List.sum_cons, sum_len r, List.flatten_cons, List.length_append]
    simp [Str.length]
theorem call_join {ls : List (List Nat)} (hz : ls.flatten.length ≤ 16777216) (h : Qn (.str ls.flatten) q) : CallR x cs (.builtin "str.join") [.str [], .lst (ls.map .str)] q Qn E := fun hid g s vs R il => by
  with_reducible refine isL2_k il fun v u iv iu => ?_
  with_reducible refine str_k iv fun t => ?_
  obtain ⟨a, vs, o, n, rfl, ga, oc, od, il'⟩ := is_lst.mp iu
  refine join_list (x := ⟨#[]⟩) ⟨_, R.sub _ _ ga, oc, _, od⟩ (strsAre_of il') ?_ fun t' k => R.dn (is_str.mpr ⟨t', by rw [join_empty]⟩) h
  rw [sum_len]
  show _ + _ * 0 ≤ _
  lia
theorem mth_join {k : Value → List PV → Q → Prop} (h : k (.builtin "str.join") [.str a] q) : Mth x cs (.str a) "join" q k E := fun hid g s u R i pl => by
  obtain ⟨t, rfl⟩ := is_str.mp i
  with_reducible refine getMethod_builtin (typeIs_str _ _ _) PySem.F.plainAttrs_str PySem.F.slot_str_join PySem.F.type_str_join ?_ ?_
  · intro a e; cases e
  · exact ⟨g, q, _, .refl g, R, isL_cons.mpr ⟨_, _, rfl, i, isL_nil.mpr rfl⟩, h⟩
theorem mth_find {k : Value → List PV → Q → Prop} (h : k (.builtin "str.find") [.str a] q) : Mth x cs (.str a) "find" q k E := fun hid g s u R i pl => by
  obtain ⟨t, rfl⟩ := is_str.mp i
  with_reducible refine getMethod_builtin (typeIs_str _ _ _) PySem.F.plainAttrs_str PySem.F.slot_str_find PySem.F.type_str_find ?_ ?_
  · intro a e; cases e
  · exact ⟨g, q, _, .refl g, R, isL_cons.mpr ⟨_, _, rfl, i, isL_nil.mpr rfl⟩, h⟩
/- the place of a sign at or behind a place -/
noncomputable def findFrom (c : Nat) : List Nat → Nat → Int
  | [], _ => -1
  | d :: r, i => if d = c then (i : Int) else findFrom c r (i + 1)
theorem findFrom_none {c : Nat} : ∀ {l : List Nat} {i : Nat}, (∀ v : Nat, l[v]? ≠ some c) → findFrom c l i = -1
  | [], _, _ => rfl
  | d :: r, i, h => by
    have h0 : d ≠ c := fun e => h 0 (by rw [e]; rfl)
    unfold findFrom
    rw [if_neg h0]
    exact findFrom_none fun v => h (v + 1)
theorem findFrom_some {c : Nat} : ∀ {l : List Nat} {i j : Nat}, l[j]? = some c → (∀ v, v < j → l[v]? ≠ some c) → findFrom c l i = ((i + j : Nat) : Int)
  | [], _, _, h, _ => by cases h
  | d :: r, i, 0, h, _ => by
    cases h
    unfold findFrom
    rw [if_pos rfl]; rfl
  | d :: r, i, j + 1, h, hn => by
    have h0 : d ≠ c := fun e => hn 0 (by lia) (by rw [e]; rfl)
    unfold findFrom
    rw [if_neg h0, findFrom_some (j := j) h fun v hv => hn (v + 1) (by lia)]
    congr 1; lia
theorem call_find {c : Nat} {k : Nat} (hk : k ≤ a.length) (h : Qn (.int (findFrom c (a.drop k) k)) q) : CallR x cs (.builtin "str.find") [.str a, .str [c], .int (k : Int)] q Qn E := fun hid g s vs R il => by
  obtain ⟨v, r, rfl, iv, il2⟩ := isL_cons.mp il
  with_reducible refine str_k iv fun t => ?_
  obtain ⟨u, r, rfl, iu, il3⟩ := isL_cons.mp il2
  with_reducible refine str_k iu fun t' => ?_
  obtain ⟨w, r, rfl, iw, il4⟩ := isL_cons.mp il3
  obtain ⟨t'', rfl⟩ := is_int.mp iw
  have er := isL_nil.mp il4
  subst er
  refine SC.find3 (R.dn (is_int.mpr ⟨s.toks, ?_⟩) h)
  congr 1
  have hsz : (⟨a.toArray⟩ : Str).length = a.length := by simp [Str.length]
  have hf : fromIndex (⟨a.toArray⟩ : Str).length (k : Int) = k := by
    rw [hsz]; unfold fromIndex; lia
  have spec := StrLaws.find3_spec ⟨a.toArray⟩ c (k : Int)
  rw [hf, hsz] at spec
  have get : ∀ v : Nat, (⟨a.toArray⟩ : Str).cps.getD v 0 = a.getD v 0 := fun v => by simp
  rcases spec with ⟨e, hn⟩ | ⟨j, e, h1, h2, h3, hn⟩
  · refine e.trans (findFrom_none fun v hv => ?_).symm
    rw [List.getElem?_drop] at hv
    have hlt := (List.getElem?_eq_some_iff.mp hv).1
    exact hn (k + v) (by lia) hlt (by rw [get]; simp [List.getD, hv])
  · refine e.trans ?_
    rw [findFrom_some (j := j - k) ?_ ?_]
    · congr 1; lia
    · rw [List.getElem?_drop, show k + (j - k) = j by lia]
      rw [get] at h3
      rw [List.getElem?_eq_getElem h2]
      simp [List.getD, h2] at h3
      rw [h3]
    · intro v hv hc
      rw [List.getElem?_drop] at hc
      exact hn (k + v) (by lia) (by lia) (by rw [get]; simp [List.getD, hc])
end
end Wk
end
/- L8c -/
section
open PySem PySem.W PySem.Calls PyProof.Rows
namespace Wk
open Mine
section
variable {x : Act} {cs : Scope} {E : Er} {q : Q} {Qn : PV → Q → Prop} {Qb : Bool → Q → Prop} {Qf : Out → Q → Prop} {Qu : Q → Prop} {hid : List (Addr × MK)} {g : G}
variable {a b : List UInt8}

theorem bytes_no_index : typeLookup (.type "bytes") "__index__" = pure none := by rw [typeLookup_type, builtinLookup_eq_fast]; kernel_rfl
theorem asIndex_bytes {M : Model} {A : Around} {E : Er} {Q : Int → Shared → Prop} {s : Shared} {b : Array UInt8} {t : Tok} (hh : A.handled = none)
    (h : ∀ h' tk e, Heap.NewExc s.heap h' e "TypeError" → E (.ref e) { s with heap := h', toks := tk }) : wpAny M A (asIndex (.bytes b t)) Q E s := by
  unfold asIndex
  refine wpAny_bind (wpAny_of_eq (a := none) rfl ?_)
  dsimp only
  have hs : specialOf (.bytes b t) "__index__" = pure none := by
    have e : specialOf (.bytes b t) "__index__" = typeLookup (.type "bytes") "__index__" := rfl
    rw [e, bytes_no_index]
  refine wpAny_bind (m := callSpecial? (.bytes b t) "__index__") ?_
  unfold callSpecial?
  refine wpAny_bind (wpAny_of_eq hs (wpAny_pure ?_))
  refine wpAny_bind (wpAny_of_eq (a := "bytes") rfl ?_)
  exact_raiseError plainExc_TypeError hh h
/- a run of bytes stands somewhere -/
noncomputable def isIn (b c : List UInt8) : Bool := (Builtin.Bytes.find? b.toArray c.toArray 0 b.length).isSome
theorem in_bytes {M : Model} {A : Around} {E : Er} {Q : Fin → Shared → Prop} {s : Shared} {t u : Tok} (hh : A.handled = none)
    (h : ∀ h' tk, (∀ b o, s.heap.get? b = some o → h'.get? b = some o) → Q (.done (.ret (.bool (isIn b a)))) { s with heap := h', toks := tk }) :
    wpAny M A (Builtin.«bytes.__contains__» ⟨[.bytes b.toArray t, .bytes a.toArray u], []⟩) Q E s := by
  show wpAny M A (Builtin.Bytes.containsIn "bytes.__contains__" (.bytes b.toArray t) (.bytes a.toArray u) >>= fun r => _) _ E s
  refine wpAny_bind ?_
  unfold Builtin.Bytes.containsIn
  refine wpAny_bind (wpAny_attempt (asIndex_bytes hh fun h' tk e he => ?_))
  refine wpAny_bind (wpAny_of_eq KBy.buffer_eq ?_)
  dsimp only
  refine wpAny_bind (wpAny_of_eq KBy.buffer_eq ?_)
  dsimp only
  refine wpAny_bind (wpAny_rule (wpAny_pure (wpAny_pure ?_)))
  have := h h' tk he.1
  unfold isIn at this
  rw [show b.length = b.toArray.size by simp] at this
  exact this
theorem op_ninBB (hh : x.A.handled = none) (h : Qn (.val (.bool (!(isIn b a)))) q) : Op2 x cs (compareOp .NotIn) (.byt a) (.byt b) q Qn E := fun hid g s u v R i j => by
  with_reducible refine byt_k i fun t => ?_; with_reducible refine byt_k j fun t' => ?_
  show wpAny x.M x.A (do return Value.bool (!(← contains (.bytes b.toArray t') (.bytes a.toArray t))) : Sem Value) (Dn x cs hid g Qn) E s
  refine wpAny_bind (wpAny_contains_slot (typeIs_bytes _ _ _) FB.slot_bytes_contains (wpAny_call_entry FB.slot_bytes_contains (typeIs_bytes _ _ _) FB.entry_bytes_contains ?_ (FB.args_bytes_contains_2 _ _)))
  exact in_bytes hh fun h' tk k => ⟨_, rfl, wpAny_pure (wpAny_pure (R.dnG k (is_val.mpr rfl) h))⟩
theorem extract_one (i : Nat) (c : UInt8) : (b.toArray.extract i (i + 1) == #[c]) = true ↔ b[i]? = some c := by
  rw [beq_iff_eq, ← Array.toList_inj, Array.toList_extract]
  simp only [List.extract_eq_take_drop, Nat.add_sub_cancel_left, List.take_one, List.head?_drop]
  cases b[i]? <;> simp
theorem isIn_one (c : UInt8) : isIn b [c] = b.contains c := by
  unfold isIn Builtin.Bytes.find?
  rw [Bool.eq_iff_iff]
  simp only [List.size_toArray, List.length_cons, List.length_nil, List.find?_isSome, List.mem_map, List.mem_range]
  constructor
  · rintro ⟨y, ⟨i, hi, rfl⟩, e⟩
    have := (extract_one (b := b) (i + 0) c).mp e
    simpa using List.mem_of_getElem? this
  · intro h
    have hm : c ∈ b := by simpa using h
    obtain ⟨i, hi⟩ := List.getElem?_of_mem hm
    have hlt := (List.getElem?_eq_some_iff.mp hi).1
    exact ⟨i, ⟨i, by lia, rfl⟩, (extract_one (b := b) i c).mpr hi⟩
/- startswith, endswith -/
theorem not_tuple {b : Array UInt8} {t : Tok} : isInstance (.bytes b t) (.type "tuple") = pure false := by
  have e : isInstance (.bytes b t) (.type "tuple") = isSubtype (.type "bytes") (.type "tuple") := rfl
  rw [e, isSubtype_type]; kernel_rfl
theorem win0 (n : Nat) : Builtin.Bytes.window n none none = (0, (n : Int)) := by
  unfold Builtin.Bytes.window
  simp
  lia
theorem take_prefix : ∀ a b : List UInt8, (a.take b.length == b) = b.isPrefixOf a
  | _, [] => by simp
  | [], _ :: _ => rfl
  | x :: a, y :: b => by
    have := take_prefix a b
    simp only [List.length_cons, List.take_succ_cons, List.cons_beq_cons, List.isPrefixOf, this]
    rw [Bool.eq_iff_iff]
    simp only [Bool.and_eq_true, beq_iff_eq]
    constructor <;> rintro ⟨rfl, h⟩ <;> exact ⟨rfl, h⟩
theorem arr_eq {x y : Array UInt8} : (x == y) = (x.toList == y.toList) := by
  rw [Bool.eq_iff_iff, beq_iff_eq, beq_iff_eq, Array.toList_inj]
theorem gives_starts {t u : Tok} : Gives (Builtin.«bytes.startswith» ⟨[.bytes a.toArray t, .bytes b.toArray u], []⟩) (.val (.bool (b.isPrefixOf a))) := by
  refine .of_wp fun M A E s Q hq => ?_
  unfold Builtin.«bytes.startswith» Builtin.Bytes.tailMatchM
  refine wpAny_bind (wpAny_of_eq (a := (Value.bytes a.toArray t, [Value.bytes b.toArray u])) (by kernel_rfl) ?_)
  dsimp only
  refine wpAny_bind (wpAny_of_eq (a := none) rfl ?_)
  refine wpAny_bind (wpAny_of_eq (a := none) rfl ?_)
  refine wpAny_bind (wpAny_of_eq (a := a.toArray) rfl ?_)
  rw [win0]
  dsimp only [List.headD]
  refine wpAny_bind (wpAny_of_eq not_tuple ?_)
  refine wpAny_bind (wpAny_of_eq KBy.buffer_eq ?_)
  refine wpAny_pure ⟨_, rfl, ?_⟩
  simp only [Bool.false_eq_true, if_false, Int.sub_zero, List.size_toArray, Int.toNat_zero, Nat.zero_add, arr_eq, Array.toList_extract, List.extract_eq_take_drop, List.drop_zero, Nat.sub_zero]
  rw [take_prefix]
  have hl : (if (a.length : Int) < (b.length : Int) then false else b.isPrefixOf a) = b.isPrefixOf a := by
    split
    · rename_i h
      cases hp : b.isPrefixOf a with
      | false => rfl
      | true => have := (List.isPrefixOf_iff_prefix.mp hp).length_le; lia
    · rfl
  rw [hl]; exact hq
/- the last signs -/
noncomputable def endsB (a b : List UInt8) : Bool := decide (b.length ≤ a.length) && a.drop (a.length - b.length) == b
theorem gives_ends {t u : Tok} : Gives (Builtin.«bytes.endswith» ⟨[.bytes a.toArray t, .bytes b.toArray u], []⟩) (.val (.bool (endsB a b))) := by
  refine .of_wp fun M A E s Q hq => ?_
  unfold Builtin.«bytes.endswith» Builtin.Bytes.tailMatchM
  refine wpAny_bind (wpAny_of_eq (a := (Value.bytes a.toArray t, [Value.bytes b.toArray u])) (by kernel_rfl) ?_)
  dsimp only
  refine wpAny_bind (wpAny_of_eq (a := none) rfl ?_)
  refine wpAny_bind (wpAny_of_eq (a := none) rfl ?_)
  refine wpAny_bind (wpAny_of_eq (a := a.toArray) rfl ?_)
  rw [win0]
  dsimp only [List.headD]
  refine wpAny_bind (wpAny_of_eq not_tuple ?_)
  refine wpAny_bind (wpAny_of_eq KBy.buffer_eq ?_)
  refine wpAny_pure ⟨_, rfl, ?_⟩
  simp only [Bool.false_eq_true, if_false, if_true, Int.sub_zero, List.size_toArray, Int.toNat_natCast, arr_eq, Array.toList_extract, List.extract_eq_take_drop]
  unfold endsB at hq
  have hl : (if (a.length : Int) < (b.length : Int) then false else ((a.drop (a.length - b.length)).take (a.length - (a.length - b.length)) == b)) = (decide (b.length ≤ a.length) && a.drop (a.length - b.length) == b) := by
    split
    · rename_i h
      rw [decide_eq_false (by lia)]; rfl
    · rename_i h
      rw [decide_eq_true (by lia), Bool.true_and, List.take_of_length_le (by rw [List.length_drop]; lia)]
  rw [hl]; exact hq
theorem mth_starts {k : Value → List PV → Q → Prop} (h : k (.builtin "bytes.startswith") [.byt a] q) : Mth x cs (.byt a) "startswith" q k E := fun hid g s u R i pl => by
  obtain ⟨t, rfl⟩ := is_byt.mp i
  with_reducible refine getMethod_builtin (typeIs_bytes _ _ _) FB.plainAttrs_bytes FB.slot_bytes_startswith FB.type_bytes_startswith ?_ ?_
  · intro a e; cases e
  · exact ⟨g, q, _, .refl g, R, isL_cons.mpr ⟨_, _, rfl, i, isL_nil.mpr rfl⟩, h⟩
theorem mth_ends {k : Value → List PV → Q → Prop} (h : k (.builtin "bytes.endswith") [.byt a] q) : Mth x cs (.byt a) "endswith" q k E := fun hid g s u R i pl => by
  obtain ⟨t, rfl⟩ := is_byt.mp i
  with_reducible refine getMethod_builtin (typeIs_bytes _ _ _) FB.plainAttrs_bytes FB.slot_bytes_endswith FB.type_bytes_endswith ?_ ?_
  · intro a e; cases e
  · exact ⟨g, q, _, .refl g, R, isL_cons.mpr ⟨_, _, rfl, i, isL_nil.mpr rfl⟩, h⟩
theorem call_starts (h : Qn (.val (.bool (b.isPrefixOf a))) q) : CallR x cs (.builtin "bytes.startswith") [.byt a, .byt b] q Qn E := fun hid g s vs R il => by
  with_reducible refine isL2_k il fun v u iv iu => ?_
  with_reducible refine byt_k iv fun t => ?_
  with_reducible refine byt_k iu fun t' => ?_
  with_reducible refine call_gives FB.slot_bytes_startswith (typeIs_bytes _ _ _) FB.entry_bytes_startswith (FB.args_bytes_startswith_2 _ _) gives_starts ?_
  exact R.dn' (is_val.mpr rfl) h
theorem call_ends (h : Qn (.val (.bool (endsB a b))) q) : CallR x cs (.builtin "bytes.endswith") [.byt a, .byt b] q Qn E := fun hid g s vs R il => by
  with_reducible refine isL2_k il fun v u iv iu => ?_
  with_reducible refine byt_k iv fun t => ?_
  with_reducible refine byt_k iu fun t' => ?_
  with_reducible refine call_gives FB.slot_bytes_endswith (typeIs_bytes _ _ _) FB.entry_bytes_endswith (FB.args_bytes_endswith_2 _ _) gives_ends ?_
  exact R.dn' (is_val.mpr rfl) h
end
end Wk
end
/- L8d -/
section
open PySem PySem.W PySem.Calls PyProof.Rows
namespace Wk
open Mine
theorem slot_rstrip : Slot "bytes" "rstrip" "bytes.rstrip" :=
  .of (owner := "bytes") (n := "rstrip") (by rw [typeLookup_type, builtinLookup_eq_fast]; kernel_rfl) (by decide +kernel) (by decide +kernel) (by decide +kernel)
    (by first | exact .inl (by decide +kernel) | exact .inr (by decide +kernel)) (by rw [isSubtype_type]; kernel_rfl)
theorem type_rstrip : typeOf (.builtin "bytes.rstrip") = pure (.type "method_descriptor") := by show builtinType _ = _; rw [builtinType_eq_fast]; kernel_rfl
theorem entry_rstrip : entryFor table "bytes.rstrip" = some Builtin.«bytes.rstrip» := entryFor_of_tree (by kernel_rfl)
theorem args_rstrip (a b : Value) : argsOk "bytes.rstrip" ⟨[a, b], []⟩ := by unfold argsOk; kernel_rfl
theorem slot_join : Slot "bytes" "join" "bytes.join" :=
  .of (owner := "bytes") (n := "join") (by rw [typeLookup_type, builtinLookup_eq_fast]; kernel_rfl) (by decide +kernel) (by decide +kernel) (by decide +kernel)
    (by first | exact .inl (by decide +kernel) | exact .inr (by decide +kernel)) (by rw [isSubtype_type]; kernel_rfl)
theorem type_join : typeOf (.builtin "bytes.join") = pure (.type "method_descriptor") := by show builtinType _ = _; rw [builtinType_eq_fast]; kernel_rfl
theorem entry_join : entryFor table "bytes.join" = some Builtin.«bytes.join» := entryFor_of_tree (by kernel_rfl)
theorem args_join (a b : Value) : argsOk "bytes.join" ⟨[a, b], []⟩ := by unfold argsOk; kernel_rfl
theorem slot_split : Slot "bytes" "split" "bytes.split" :=
  .of (owner := "bytes") (n := "split") (by rw [typeLookup_type, builtinLookup_eq_fast]; kernel_rfl) (by decide +kernel) (by decide +kernel) (by decide +kernel)
    (by first | exact .inl (by decide +kernel) | exact .inr (by decide +kernel)) (by rw [isSubtype_type]; kernel_rfl)
theorem type_split : typeOf (.builtin "bytes.split") = pure (.type "method_descriptor") := by show builtinType _ = _; rw [builtinType_eq_fast]; kernel_rfl
theorem entry_split : entryFor table "bytes.split" = some Builtin.«bytes.split» := entryFor_of_tree (by kernel_rfl)
theorem args_split (a b : Value) : argsOk "bytes.split" ⟨[a, b], []⟩ := by unfold argsOk; kernel_rfl
theorem slot_encode : Slot "str" "encode" "str.encode" :=
  .of (owner := "str") (n := "encode") (by rw [typeLookup_type, builtinLookup_eq_fast]; kernel_rfl) (by decide +kernel) (by decide +kernel) (by decide +kernel)
    (by first | exact .inl (by decide +kernel) | exact .inr (by decide +kernel)) (by rw [isSubtype_type]; kernel_rfl)
theorem type_encode : typeOf (.builtin "str.encode") = pure (.type "method_descriptor") := by show builtinType _ = _; rw [builtinType_eq_fast]; kernel_rfl
theorem entry_encode : entryFor table "str.encode" = some Builtin.«str.encode» := entryFor_of_tree (by kernel_rfl)
open Builtin._codecs in
theorem enc_fold : ∀ (l : List Nat) (acc : Array UInt8), (∀ c ∈ l, c < 128) → l.foldl (fun acc y => acc ++ (utf8Codec.bytesOf y).toArray) acc = acc ++ (l.map (·.toUInt8)).toArray
  | [], acc, _ => by simp
  | c :: r, acc, h => by
    have hc : utf8Codec.bytesOf c = [c.toUInt8] := by
      show Str.utf8Of c = _
      unfold Str.utf8Of
      rw [if_pos (h c (.head _))]
    rw [List.foldl_cons, enc_fold r _ (fun d hd => h d (.tail _ hd)), hc]
    simp
theorem forIn_two {β : Type} {f : Nat → β → Sem (ForInStep β)} {b b1 : β} (h0 : f 0 b = pure (.yield b1)) (h1 : f 1 b1 = pure (.done b1)) : ∀ n : Nat, forIn (List.range' 0 (n + 1)) b f = (pure b1 : Sem β)
  | 0 => by
    show forIn [0] b f = _
    rw [List.forIn_cons, h0]; rfl
  | n + 1 => by
    show forIn (0 :: 1 :: List.range' 2 n) b f = _
    rw [List.forIn_cons, h0]
    show forIn (1 :: List.range' 2 n) b1 f = _
    rw [List.forIn_cons, h1]; rfl
open Builtin._codecs in
/- the encoder as a walk: a turn at a sign that can be written takes all such signs, a turn at the end is the last -/
theorem enc_is (id : String) (self : Value) (t : Str) : ∃ F : Nat → (Nat × Array UInt8 × Faults) → Sem (ForInStep (Nat × Array UInt8 × Faults)),
    encodeNarrow id utf8Codec none self t = (forIn [0:t.length] (0, #[], {}) (fun i r => F i r) >>= fun r => pure r.2.1) ∧
    (∀ i j out st c, ¬ out.size > sizeLine → t.cps[j]? = some c → utf8Codec.bad c = false → F i (j, out, st) = pure (.yield (j + ((t.cps.extract j t.cps.size).findIdx? utf8Codec.bad).getD (t.cps.extract j t.cps.size).size,
      ((t.cps.extract j t.cps.size).extract 0 (((t.cps.extract j t.cps.size).findIdx? utf8Codec.bad).getD (t.cps.extract j t.cps.size).size)).foldl (fun acc y => acc ++ (utf8Codec.bytesOf y).toArray) out, st))) ∧
    (∀ i j out st, ¬ out.size > sizeLine → t.cps[j]? = none → F i (j, out, st) = pure (.done (j, out, st))) := by
  refine ⟨_, rfl, ?_, ?_⟩
  · intro i j out st c ho hc hb
    dsimp only
    rw [if_neg ho, hc]
    dsimp only
    rw [hb]
    rfl
  · intro i j out st ho hc
    dsimp only
    rw [if_neg ho, hc]
open Builtin._codecs in
theorem enc {M : Model} {A : Around} {E : Er} {s : Shared} {Q : Array UInt8 → Shared → Prop} {id : String} {self : Value} (l : List Nat) (hl : ∀ c ∈ l, c < 128) (hz : l.length ≤ 16777216)
    (h : Q (l.map (·.toUInt8)).toArray s) : wpAny M A (encodeNarrow id utf8Codec none self ⟨l.toArray⟩) Q E s := by
  have hbad : ∀ c ∈ l, utf8Codec.bad c = false := fun c hc => by
    show Str.isSurrogate c = false
    unfold Str.isSurrogate
    have := hl c hc
    simp; lia
  have hfind : Array.findIdx? utf8Codec.bad (l.toArray.extract 0 l.toArray.size) = none := by
    rw [Array.findIdx?_eq_none_iff]
    intro c hc
    refine hbad c ?_
    simpa using hc
  have hall : l.toArray.extract 0 l.toArray.size = l.toArray := by simp
  obtain ⟨F, hF, h0, h1⟩ := enc_is id self ⟨l.toArray⟩
  rw [hF, Std.Legacy.Range.forIn_eq_forIn_range']
  cases l with
  | nil => exact wpAny_bind (wpAny_pure (wpAny_pure h))
  | cons c r =>
    have e0 := h0 0 0 #[] {} c (Nat.not_lt_zero _) (by simp) (hbad c (.head _))
    rw [hfind, hall, Nat.zero_add] at e0
    have fo : Array.foldl (fun acc y => acc ++ (utf8Codec.bytesOf y).toArray) #[] ((c :: r).toArray.extract 0 (c :: r).toArray.size) = ((c :: r).map (·.toUInt8)).toArray := by
      rw [hall, List.foldl_toArray, enc_fold _ _ hl]; simp
    rw [show (none : Option Nat).getD (c :: r).toArray.size = (c :: r).toArray.size from rfl, fo] at e0
    have e1 := h1 1 (c :: r).toArray.size ((c :: r).map (·.toUInt8)).toArray {} (by rw [sizeLine_eq]; simp at hz ⊢; lia) (by simp)
    have hs : Std.Legacy.Range.size [0:(⟨(c :: r).toArray⟩ : Str).length] = r.length + 1 := by simp [Std.Legacy.Range.size, Str.length]
    rw [hs]
    rw [forIn_two e0 e1]
    exact wpAny_bind (wpAny_pure (wpAny_pure h))
section
variable {x : Act} {cs : Scope} {E : Er} {q : Q} {Qn : PV → Q → Prop} {Qb : Bool → Q → Prop} {Qf : Out → Q → Prop} {Qu : Q → Prop} {hid : List (Addr × MK)} {g : G}
variable {a b : List UInt8}
theorem mth_byt {name : Str} {id : String} {k : Value → List PV → Q → Prop} (S : Slot "bytes" name id) (hty : typeOf (.builtin id) = pure (.type "method_descriptor")) (h : k (.builtin id) [.byt a] q) : Mth x cs (.byt a) name q k E := fun hid g s u R i pl => by
  obtain ⟨t, rfl⟩ := is_byt.mp i
  with_reducible refine getMethod_builtin (typeIs_bytes _ _ _) FB.plainAttrs_bytes S hty ?_ ?_
  · intro a e; cases e
  · exact ⟨g, q, _, .refl g, R, isL_cons.mpr ⟨_, _, rfl, i, isL_nil.mpr rfl⟩, h⟩
theorem mth_strM {l : List Nat} {name : Str} {id : String} {k : Value → List PV → Q → Prop} (S : Slot "str" name id) (hty : typeOf (.builtin id) = pure (.type "method_descriptor")) (h : k (.builtin id) [.str l] q) : Mth x cs (.str l) name q k E := fun hid g s u R i pl => by
  obtain ⟨t, rfl⟩ := is_str.mp i
  with_reducible refine getMethod_builtin (typeIs_str _ _ _) PySem.F.plainAttrs_str S hty ?_ ?_
  · intro a e; cases e
  · exact ⟨g, q, _, .refl g, R, isL_cons.mpr ⟨_, _, rfl, i, isL_nil.mpr rfl⟩, h⟩

theorem call_rstrip (hz : a.length ≤ 16777216) (h : Qn (.byt (a.reverse.dropWhile b.contains).reverse) q) : CallR x cs (.builtin "bytes.rstrip") [.byt a, .byt b] q Qn E := fun hid g s vs R il => by
  with_reducible refine isL2_k il fun v u iv iu => ?_
  obtain ⟨t, rfl⟩ := is_byt.mp iv
  obtain ⟨t', rfl⟩ := is_byt.mp iu
  refine wpAny_call_entry slot_rstrip (typeIs_bytes _ _ _) entry_rstrip ?_ (args_rstrip _ _)
  unfold Builtin.«bytes.rstrip» Builtin.Bytes.stripM
  refine wpAny_bind (wpAny_of_eq (a := (Value.bytes a.toArray t, [Value.bytes b.toArray t'])) (by kernel_rfl) ?_)
  dsimp only
  refine wpAny_bind (m := Builtin.Bytes.bytesLike _ _) (wpAny_bind (wpAny_of_eq KBy.buffer_eq (wpAny_pure ?_)))
  refine wpAny_bind (wpAny_pure ?_)
  refine wpAny_bind (wpAny_of_eq (a := a.toArray) rfl ?_)
  simp only [Bool.false_eq_true, if_false, if_true]
  have ef : (b.toArray.contains) = b.contains := by funext c; simp
  rw [ef]
  have hle : ((a.reverse.dropWhile b.contains).reverse).length ≤ a.length := by
    rw [List.length_reverse]
    have := (List.dropWhile_sublist b.contains (l := a.reverse)).length_le
    simpa using this
  split
  · rename_i hl
    have heq : (a.reverse.dropWhile b.contains).reverse = a := by
      have hl' : (a.reverse.dropWhile b.contains).length = a.reverse.length := by simpa using hl
      have := (List.dropWhile_sublist b.contains (l := a.reverse)).eq_of_length hl'
      rw [this, List.reverse_reverse]
    refine wpAny_bind (wpAny_rule (wpAny_bind (m := Builtin.Bytes.Kind.same _ _) ?_))
    unfold Builtin.Bytes.Kind.same
    rw [if_pos (by rfl)]
    refine wpAny_bind (wpAny_of_eq (a := Value.type "bytes") rfl ?_)
    rw [if_pos (by rfl)]
    refine wpAny_pure (wpAny_pure ⟨_, rfl, ?_⟩)
    rw [heq] at h
    exact R.dn' iv h
  · refine wpAny_bind (m := mkBytes _) (wpAny_mkBytes (wpAny_pure ⟨_, rfl, ?_⟩) ?_)
    · exact R.dn (is_byt.mpr ⟨_, by simp; rfl⟩) h
    · rw [sizeLine_eq]; simp at hle ⊢; lia
theorem call_encode {l : List Nat} (hl : ∀ c ∈ l, c < 128) (hz : l.length ≤ 16777216) (h : Qn (.byt (l.map (·.toUInt8))) q) : CallR x cs (.builtin "str.encode") [.str l] q Qn E := fun hid g s vs R il => by
  with_reducible refine isL1_k il fun v iv => ?_
  obtain ⟨t, rfl⟩ := is_str.mp iv
  refine wpAny_call_entry PySem.F.slot_str_encode (typeIs_str _ _ _) PySem.F.entry_str_encode ?_ (PySem.F.args_str_encode_1 _)
  rw [encode_tree, encodeRoad_utf8]
  refine wpAny_bind (wpAny_bind (enc l hl hz (wpAny_mkBytes (wpAny_pure ⟨_, rfl, R.dn (is_byt.mpr ⟨_, rfl⟩) h⟩) ?_)))
  rw [sizeLine_eq]; simpa using hz

theorem occ_none {l : List UInt8} {c : UInt8} (h : l.contains c = false) : Builtin.Bytes.occurrences l.toArray #[c] 0 l.length = [] := by
  have hn : ∀ i, (l.toArray.extract i (i + 1) == #[c]) = false := fun i => by
    cases e : (l.toArray.extract i (i + 1) == #[c]) with
    | false => rfl
    | true =>
      have := (extract_one (b := l) i c).mp e
      have hm := List.mem_of_getElem? this
      simp [hm] at h
  unfold Builtin.Bytes.occurrences
  dsimp only
  have key : ∀ (is : List Nat), is.foldl (fun (acc : List Nat × Nat) (i : Nat) => if (decide (i ≥ acc.2) && l.toArray.extract i (i + (#[c] : Array UInt8).size) == #[c]) = true then (i :: acc.1, i + (#[c] : Array UInt8).size) else acc) ([], 0) = ([], 0) := by
    intro is
    induction is with
    | nil => rfl
    | cons i r ih =>
      rw [List.foldl_cons]
      have : (l.toArray.extract i (i + (#[c] : Array UInt8).size) == #[c]) = false := hn i
      rw [this, Bool.and_false, if_neg Bool.false_ne_true]
      exact ih
  rw [key]; rfl
theorem call_split {c : UInt8} (hh : a.contains c = false) (h : Qn (.lst [.byt a]) q) : CallR x cs (.builtin "bytes.split") [.byt a, .byt [c]] q Qn E := fun hid g s vs R il => by
  with_reducible refine isL2_k il fun v u iv iu => ?_
  obtain ⟨t, rfl⟩ := is_byt.mp iv
  obtain ⟨t', rfl⟩ := is_byt.mp iu
  refine wpAny_call_entry slot_split (typeIs_bytes _ _ _) entry_split ?_ (args_split _ _)
  unfold Builtin.«bytes.split» Builtin.Bytes.splitM
  dsimp only
  refine wpAny_bind (wpAny_of_eq (a := [some (Value.bytes [c].toArray t'), none]) (by kernel_rfl) ?_)
  dsimp only
  refine wpAny_bind (wpAny_pure ?_)
  refine wpAny_bind (wpAny_of_eq (a := a.toArray) rfl ?_)
  refine wpAny_bind (m := Builtin.Bytes.bytesLike _ _) (wpAny_bind (wpAny_of_eq KBy.buffer_eq (wpAny_pure ?_)))
  have ho : Builtin.Bytes.occurrences a.toArray [c].toArray 0 a.toArray.size = [] := by
    rw [List.size_toArray]; exact occ_none hh
  simp only [ho, Bool.false_eq_true, if_false, List.take_nil, List.isEmpty_nil, if_true, List.isEmpty_toArray, List.isEmpty_cons]
  refine wpAny_bind (wpAny_rule (wpAny_bind (m := Builtin.Bytes.Kind.same _ _) ?_))
  unfold Builtin.Bytes.Kind.same
  rw [if_pos (by rfl)]
  refine wpAny_bind (wpAny_of_eq (a := Value.type "bytes") rfl ?_)
  rw [if_pos (by rfl)]
  refine wpAny_pure (wpAny_bind (wpAny_newObj_type (wpAny_pure ⟨_, rfl, ?_⟩)))
  have le := G.le_put (o := { cls := .type "list", data := .seq [Value.bytes a.toArray t].toArray }) R.none_g
  exact ⟨_, _, _, le, is_lst.mpr ⟨_, _, _, _, rfl, G.put_at, rfl, rfl, isL_cons.mpr ⟨_, _, rfl, iv.up le, isL_nil.mpr rfl⟩⟩, R.frozen rfl, h⟩
theorem bytesAre_of {ls : List (List UInt8)} {vs : List Value} (h : IsL g (ls.map .byt) vs) (i : Nat) (l : List UInt8) (e : ls[i]? = some l) : ∃ t, vs[i]? = some (Value.bytes l.toArray t) := by
  obtain ⟨v, hv, iv⟩ := h.at (show _ = some (PV.byt l) by rw [List.getElem?_map, e]; rfl)
  obtain ⟨t, rfl⟩ := is_byt.mp iv
  exact ⟨t, hv⟩
theorem takeQ {id : String} {b : Array UInt8} {t : Tok} : Builtin.Bytes.takeBufferQuiet? id (.bytes b t) 0 = pure (some (b, none)) := by
  have e : Builtin.Bytes.takeBuffer? id (.bytes b t) 0 = pure (some (b, none)) := by
    unfold Builtin.Bytes.takeBuffer?
    rw [KBy.special_eq KBy.look_buffer, KBy.own_buffer]
    have hb : ∀ f, Builtin.Bytes.buffer? id (.bytes b t) f = pure (some b) := fun f => by
      unfold Builtin.Bytes.buffer?
      rw [KBy.special_eq KBy.look_buffer, KBy.own_buffer, KBy.own_release]
      kernel_rfl
    rw [hb]
    kernel_rfl
  unfold Builtin.Bytes.takeBufferQuiet?
  rw [e]; rfl
theorem joined_empty (ls : List (List UInt8)) : Builtin.Bytes.joined #[] (ls.map (·.toArray)) = ls.flatten.toArray := by
  have key : ∀ (ls : List (List UInt8)) (k : Nat) (acc : Array UInt8), ((ls.map (·.toArray)).zipIdx k).foldl (fun out (p : Array UInt8 × Nat) => (if p.2 > 0 then out ++ #[] else out) ++ p.1) acc = acc ++ ls.flatten.toArray := by
    intro ls
    induction ls with
    | nil => intro k acc; simp
    | cons l r ih =>
      intro k acc
      rw [List.map_cons, List.zipIdx_cons, List.foldl_cons, ih]
      split <;> simp
  unfold Builtin.Bytes.joined
  exact (key ls 0 #[]).trans (by simp)
theorem joinLet {M : Model} {A : Around} {s : Shared} {Q : Unit → Shared → Prop} {keep : List Value} (h : Q () s) : ∀ (l : List Value), wpAny M A (Builtin.Bytes.joinLetGo (l.map fun y => (y, none)) keep) Q E s
  | [] => wpAny_pure h
  | y :: r => by
    show wpAny M A (Builtin.Bytes.joinLetGo ((y, none) :: r.map fun y => (y, none)) keep) Q E s
    exact wpAny_bind (wpAny_letGo (joinLet h r))
theorem loop_abs {α β : Type} {M : Model} {A : Around} {E : Er} {s : Shared} {F : α → β → Sem (ForInStep β)} (I : List α → β → Prop)
    (T : ∀ i rest b, I (i :: rest) b → ∀ Q' : ForInStep β → Shared → Prop, (∀ b', I rest b' → Q' (.yield b') s) → wpAny M A (F i b) Q' E s) :
    ∀ (l : List α) (b : β) {Q : β → Shared → Prop}, I l b → (∀ b, I [] b → Q b s) → wpAny M A (forIn l b F) Q E s
  | [], b, Q, h, f => by rw [List.forIn_nil]; exact wpAny_pure (f b h)
  | i :: l, b, Q, h, f => by rw [List.forIn_cons]; exact wpAny_bind (T i l b h _ fun b' h' => loop_abs I T l b' h' f)
/- how far a join has come -/
inductive JoinAt (ls : List (List UInt8)) (vl : List Value) (rest : List Nat) (b : Array (Array UInt8) × List (Value × Option Value)) : Prop
  | mk (k : Nat) (hk : k ≤ ls.length) (hr : rest = List.range' k (ls.length - k)) (hb : b = (((ls.take k).map (·.toArray)).toArray, (vl.take k).map fun y => (y, (none : Option Value)))) : JoinAt ls vl rest b
theorem join_size (ls : List (List UInt8)) : Array.foldl (fun x1 (x2 : Array UInt8) => x1 + x2.size) (0 * ((ls.map (·.toArray)).toArray.size - 1)) (ls.map (·.toArray)).toArray = ls.flatten.length := by
  rw [Nat.zero_mul, List.foldl_toArray]
  have key : ∀ (ls : List (List UInt8)) (k : Nat), (ls.map (·.toArray)).foldl (fun x1 (x2 : Array UInt8) => x1 + x2.size) k = k + ls.flatten.length := by
    intro ls
    induction ls with
    | nil => intro k; simp
    | cons l r ih => intro k; rw [List.map_cons, List.foldl_cons, ih]; simp; lia
  rw [key, Nat.zero_add]
theorem join_quiet {ls : List (List UInt8)} {vl : List Value} (hat : ∀ (i : Nat) (l : List UInt8), ls[i]? = some l → ∃ t, vl[i]? = some (.bytes l.toArray t)) (hlen : vl.length = ls.length) (i : Nat) :
    (List.map (fun y => (y, (none : Option Value))) (vl.take i)).any (fun x => x.1.onHeap) = false := by
  rw [List.any_map]
  rw [List.any_eq_false]
  intro y hy
  obtain ⟨j, hj⟩ := List.getElem?_of_mem hy
  rw [List.getElem?_take] at hj
  split at hj
  · rename_i hji
    have hjl : j < ls.length := by
      rw [← hlen]; exact (List.getElem?_eq_some_iff.mp hj).1
    obtain ⟨tj, htj⟩ := hat j ls[j] (by simp [hjl])
    rw [htj] at hj
    cases hj
    exact Bool.false_ne_true
  · cases hj
theorem join_is : ∃ K : Value → Value → Option (Array Value) → Sem PySem.Fin,
    (∀ {M : Model} {A : Around} {E : Er} {s : Shared} {Q : PySem.Fin → Shared → Prop} (args : Args) (self it : Value), selfAndOne "bytes.join" args = pure (self, it) →
      wpAny M A (Builtin.Bytes.joinItems it) (fun seq s => wpAny M A (seqItems? seq >>= K self seq) Q E s) E s → wpAny M A (Builtin.«bytes.join» args) Q E s) ∧
    (∀ {M : Model} {A : Around} {E : Er} {s : Shared} {Q : PySem.Fin → Shared → Prop} (self seq : Value) (b : Array UInt8) (t : Tok), Q (.done (.ret (.bytes b t))) s → wpAny M A (K self seq (some #[.bytes b t])) Q E s) ∧
    (∀ {M : Model} {A : Around} {E : Er} {s : Shared} {Q : PySem.Fin → Shared → Prop} (seq : Value) (t : Tok), (∀ t' s', s' = { s with toks := s.toks + 1 } → t' = s.toks → Q (.done (.ret (.bytes #[] t'))) s') → wpAny M A (K (.bytes #[] t) seq (some #[])) Q E s) ∧
    (∀ (t : Tok) (seq v v2 : Value) (vr : List Value), ∃ F G, K (.bytes #[] t) seq (some ⟨v :: v2 :: vr⟩) = (forIn [0:(v :: v2 :: vr).length] ((#[], []) : Array (Array UInt8) × List (Value × Option Value)) F >>= G) ∧
      (∀ {M : Model} {A : Around} {E : Er} {s : Shared} {Q : ForInStep (Array (Array UInt8) × List (Value × Option Value)) → Shared → Prop} (i : Nat) (p : Array (Array UInt8)) (l : List (Value × Option Value)) (vl : List Value) (b : Array UInt8) (t : Tok), vl.length = (v :: v2 :: vr).length →
        (∀ Q', Q' (some ⟨vl⟩) s → wpAny M A (seqItems? seq) Q' E s) → vl[i]? = some (.bytes b t) → l.any (fun x => x.1.onHeap) = false → Q (.yield (p.push b, l ++ [(.bytes b t, none)])) s → wpAny M A (F i (p, l)) Q E s) ∧
      (∀ {M : Model} {A : Around} {E : Er} {s : Shared} {Q : PySem.Fin → Shared → Prop} (ls : List (List UInt8)) (vl : List Value), ls.flatten.length ≤ 16777216 → Q (.done (.ret (.bytes ls.flatten.toArray s.toks))) { s with toks := s.toks + 1 } →
        wpAny M A (G ((ls.map (·.toArray)).toArray, vl.map fun y => (y, none))) Q E s)) := by
  apply Exists.intro
  refine ⟨?_, ?_, ?_, ?_⟩
  · intro M A E s Q args self it he h
    unfold Builtin.«bytes.join» Builtin.Bytes.joinM
    refine wpAny_bind (wpAny_of_eq he ?_)
    dsimp only
    rw [if_pos (by rfl)]
    exact wpAny_bind h
  · intro M A E s Q self seq b t h
    refine wpAny_bind (wpAny_of_eq (a := Value.type "bytes") rfl ?_)
    rw [if_pos (by rfl)]
    exact wpAny_bind (wpAny_rule (wpAny_pure h))
  · intro M A E s Q seq t h
    refine wpAny_bind ?_
    rw [Std.Legacy.Range.forIn_eq_forIn_range']
    refine wpAny_pure ?_
    refine wpAny_bind (wpAny_of_eq (a := #[]) rfl ?_)
    dsimp only
    rw [if_neg (by decide)]
    refine wpAny_bind (m := mkBytes _) (wpAny_mkBytes ?_ (by simp [Builtin.Bytes.joined]))
    exact wpAny_bind (wpAny_holding (wpAny_point (wpAny_bind (wpAny_pure (wpAny_pure (h _ _ rfl rfl))))))
  · intro t seq v v2 vr
    apply Exists.intro
    apply Exists.intro
    refine ⟨rfl, ?_, ?_⟩
    · intro M A E s Q i p l vl b t hl hs hv ho h
      have hx : (⟨vl⟩ : Array Value).getD i .none = .bytes b t := by
        obtain ⟨h1, h2⟩ := List.getElem?_eq_some_iff.mp hv
        simp [Array.getD, h1, h2]
      refine wpAny_bind (hs _ ?_)
      dsimp only
      rw [hx, ho, if_neg (by decide)]
      refine wpAny_bind (wpAny_holding (wpAny_of_eq takeQ ?_))
      refine wpAny_bind (hs _ ?_)
      dsimp only
      rw [if_neg (by simp; simpa using hl)]
      exact wpAny_pure h
    · intro M A E s Q ls vl hz h
      refine wpAny_bind (wpAny_of_eq (a := #[]) rfl ?_)
      dsimp only
      rw [show Array.foldl (fun x1 (x2 : Array UInt8) => x1 + x2.size) ((#[] : Array UInt8).size * ((ls.map (·.toArray)).toArray.size - 1)) (ls.map (·.toArray)).toArray = ls.flatten.length from join_size ls, KBy.tooLong_not hz, if_neg Bool.false_ne_true, joined_empty]
      refine wpAny_bind (m := mkBytes _) (wpAny_mkBytes ?_ (by rw [sizeLine_eq]; simpa using hz))
      exact wpAny_bind (wpAny_holding (wpAny_point (wpAny_bind (joinLet (wpAny_pure h) _))))
theorem call_joinB {ls : List (List UInt8)} (hz : ls.flatten.length ≤ 16777216) (h : Qn (.byt ls.flatten) q) : CallR x cs (.builtin "bytes.join") [.byt [], .lst (ls.map .byt)] q Qn E := fun hid g s vs R il => by
  with_reducible refine isL2_k il fun v u iv iu => ?_
  obtain ⟨t, rfl⟩ := is_byt.mp iv
  obtain ⟨a, vs, o, n, rfl, ga, oc, od, il'⟩ := is_lst.mp iu
  have ha := R.sub _ _ ga
  have hT : s.TypeIs (.ref a) "list" := ⟨o, ha, oc⟩
  have hlen : vs.size = ls.length := by simpa using il'.length
  have hat := bytesAre_of il'
  obtain ⟨K, hK, h1, h0, h2⟩ := join_is
  refine wpAny_call_entry slot_join (typeIs_bytes _ _ _) entry_join ?_ (args_join _ _)
  refine hK _ (Value.bytes [].toArray t) (Value.ref a) (by kernel_rfl) ?_
  unfold Builtin.Bytes.joinItems
  refine wpAny_bind (wpAny_typeOf hT ?_)
  rw [if_pos (by rfl)]
  refine wpAny_pure ?_
  refine wpAny_bind (wpAny_seqItems ha od ?_)
  obtain ⟨vl⟩ := vs
  have hlen' : vl.length = ls.length := by simpa using hlen
  rcases vl with _ | ⟨v, _ | ⟨v2, vr⟩⟩
  · have hl0 : ls = [] := List.length_eq_zero_iff.mp (by simpa using hlen'.symm)
    subst hl0
    exact h0 _ _ fun t' s' e1 e2 => ⟨_, rfl, e1 ▸ e2 ▸ R.dn (is_byt.mpr ⟨_, rfl⟩) h⟩
  · have h3 : ls.length = 1 := by simpa using hlen'.symm
    obtain ⟨l, rfl⟩ := List.length_eq_one_iff.mp h3
    obtain ⟨t', ht'⟩ := hat 0 l rfl
    have ev : v = .bytes l.toArray t' := by simpa using ht'
    subst ev
    refine h1 _ _ _ _ ⟨_, rfl, R.dn' (is_byt.mpr ⟨t', ?_⟩) h⟩
    show (Value.bytes l.toArray t') = _
    simp
  · obtain ⟨F, G, e, hF, hG⟩ := h2 t (.ref a) v v2 vr
    rw [show [].toArray = (#[] : Array UInt8) from rfl, e]
    clear e h1 h0 h2 hK
    generalize hvl : v :: v2 :: vr = vl at *
    refine wpAny_bind ?_
    rw [Std.Legacy.Range.forIn_eq_forIn_range']
    refine loop_abs (JoinAt ls vl) ?turn _ _ ⟨0, Nat.zero_le _, by simp [Std.Legacy.Range.size, hlen'], by simp⟩ ?fin
    case fin =>
      rintro b ⟨k, hk, hr, rfl⟩
      have hk' : ls.length ≤ k := by
        have := congrArg List.length hr
        simp at this; lia
      rw [List.take_of_length_le hk', List.take_of_length_le (by lia)]
      exact hG _ _ hz ⟨_, rfl, R.dn (is_byt.mpr ⟨_, rfl⟩) h⟩
    case turn =>
      rintro i rest b ⟨k, hk, hr, rfl⟩ Q' hQ'
      have hlt : k < ls.length := by
        rcases Nat.lt_or_ge k ls.length with h1 | h1
        · exact h1
        · rw [show ls.length - k = 0 by lia] at hr; cases hr
      rw [show ls.length - k = (ls.length - (k + 1)) + 1 by lia, List.range'_succ] at hr
      simp only [List.cons.injEq] at hr
      obtain ⟨rfl, hr⟩ := hr
      obtain ⟨t', ht'⟩ := hat i ls[i] (by simp [hlt])
      refine hF i _ _ vl _ t' (by simp) (fun Q' h => wpAny_seqItems ha od h) ht' (join_quiet hat hlen' i) (hQ' _ ⟨i + 1, hlt, hr, ?_⟩)
      have e1 : ls.take (i + 1) = ls.take i ++ [ls[i]] := by rw [List.take_add_one, List.getElem?_eq_getElem hlt]; rfl
      have e2 : vl.take (i + 1) = vl.take i ++ [.bytes ls[i].toArray t'] := by rw [List.take_add_one, show vl[i]? = _ from ht']; rfl
      rw [e1, e2, List.map_append, List.map_append, List.push_toArray]
      rfl
end
end Wk
end
/- L8e -/
section
open PySem PySem.W PySem.Calls PyProof.Rows
namespace Wk
open Mine
section
variable {x : Act} {cs : Scope} {E : Er} {q : Q} {Qn : PV → Q → Prop} {Qb : Bool → Q → Prop} {Qf : Out → Q → Prop} {Qu : Q → Prop} {hid : List (Addr × MK)} {g : G}

theorem intsAre_of : ∀ {ns : List Int} {vs : List Value}, IsL g (ns.map .int) vs → IntsAre vs ns
  | [], vs, h => by rw [isL_nil.mp h]; exact .nil
  | n :: ns, vs, h => by
    obtain ⟨v, r, rfl, i, h'⟩ := isL_cons.mp h
    with_reducible refine int_k i fun t => ?_
    exact .cons _ _ (intsAre_of h')

/- in tuples and lists -/
theorem op_inTS {l : List Nat} {ls : List (List Nat)} (h : Qn (.val (.bool (ls.any (· == l)))) q) : Op2 x cs (compareOp .In) (.str l) (.tup (ls.map .str)) q Qn E := fun hid g s u v R i j => by
  with_reducible refine str_k i fun t => ?_
  obtain ⟨a, vs, o, n, rfl, ga, oc, od, il⟩ := is_tup.mp j
  refine in_tuple_strs ⟨_, R.sub _ _ ga, oc, _, od⟩ (strsAre_of il) (R.dn' (is_val.mpr ?_) h)
  congr 1
  have : ∀ ls : List (List Nat), (ls.map fun l => (⟨l.toArray⟩ : Str)).any (· == ⟨l.toArray⟩) = ls.any (· == l) := by
    intro ls
    induction ls with
    | nil => rfl
    | cons y r ih =>
      rw [List.map_cons, List.any_cons, List.any_cons, ih]
      congr 1
      rw [Bool.eq_iff_iff, beq_iff_eq, beq_iff_eq]
      constructor
      · intro h; injection h with h; simpa using h
      · rintro rfl; rfl
  exact this ls
theorem op_ninLI {k : Int} {ns : List Int} (h : Qn (.val (.bool (!(ns.any (· == k))))) q) : Op2 x cs (compareOp .NotIn) (.int k) (.lst (ns.map .int)) q Qn E := fun hid g s u v R i j => by
  with_reducible refine int_k i fun t => ?_
  obtain ⟨a, vs, o, n, rfl, ga, oc, od, il⟩ := is_lst.mp j
  refine notin_list_ints (vs := vs.toList) ⟨_, R.sub _ _ ga, oc, _, by simpa using od⟩ (intsAre_of il) (R.dn' (is_val.mpr rfl) h)
theorem op_ninMI {k : Int} {d : Addr} {ns : List Int} (hm : (d, MK.lst (ns.map .int)) ∈ q.led) (h : Qn (.val (.bool (!(ns.any (· == k))))) q) : Op2 x cs (compareOp .NotIn) (.int k) (.val (.ref d)) q Qn E := fun hid g s u v R i j => by
  with_reducible refine int_k i fun t => ?_
  rw [is_val.mp j]
  obtain ⟨_, _, _, vs, o, n, ho, oc, od, odn, il⟩ := R.led _ (List.mem_append_left _ hm)
  refine notin_list_ints (vs := vs.toList) ⟨_, ho, oc, _, by simpa using od⟩ (intsAre_of il) (R.dn' (is_val.mpr rfl) h)
theorem eqBool_byt {M : Model} {a b : List UInt8} {t u : Tok} {prog : Program} {w : World} {A : Around} {s : Shared} {Q : Bool → Shared → Prop} (h : Q (a == b) s) : wpAny (model prog w) A (eqBool (.bytes a.toArray t) (.bytes b.toArray u)) Q E s := by
  unfold eqBool
  show wpAny _ _ (if (Value.bytes a.toArray t == Value.bytes b.toArray u) = true then _ else _) Q E s
  by_cases hab : (Value.bytes a.toArray t == Value.bytes b.toArray u) = true
  · rw [if_pos hab]
    have e : a = b := by have := eq_of_beq hab; injection this with e _; simpa using e
    subst e
    exact wpAny_bind (wpAny_rule (wpAny_pure (by simpa using h)))
  · rw [if_neg hab]
    exact wpAny_bind (eq_bytes (wpAny_truthy_bool h))
theorem op_inTB {l : List UInt8} {ls : List (List UInt8)} (h : Qn (.val (.bool (ls.any (· == l)))) q) : Op2 x cs (compareOp .In) (.byt l) (.tup (ls.map .byt)) q Qn E := fun hid g s u v R i j => by
  with_reducible refine byt_k i fun t => ?_
  obtain ⟨a, vs, o, n, rfl, ga, oc, od, il⟩ := is_tup.mp j
  have ht : IsTup s.heap a vs := ⟨_, R.sub _ _ ga, oc, _, od⟩
  have tree : wpAny x.M x.A.in1 (Builtin.«tuple.__contains__» ⟨[.ref a, .bytes l.toArray t], []⟩) (fun fin s' => fin = .done (.ret (.bool (ls.any (· == l)))) ∧ s' = s) E s := by
    show wpAny _ _ (Builtin.Tuple.tupleItemsOf (.ref a) >>= _) _ _ s
    refine wpAny_bind (tupleItemsOf_ ht ?_)
    refine wpAny_bind (forIn_array_ _ (fun (rest : List Value) b s' => b.1 = none ∧ s' = s ∧ ∃ ms : List (List UInt8), IsL g (ms.map .byt) rest ∧ ms.any (· == l) = ls.any (· == l)) _ ?_ ?_ vs _ ⟨rfl, rfl, ls, il, rfl⟩)
    · rintro y rest b s' ⟨hb, rfl, ms, hm, hP⟩
      cases ms with
      | nil => cases isL_nil.mp hm
      | cons m ms =>
        obtain ⟨v, r, e, iv, hm'⟩ := isL_cons.mp hm
        obtain ⟨rfl, rfl⟩ := List.cons.inj e
        with_reducible refine byt_k iv fun tk => ?_
        refine wpAny_bind (eqBool_byt (M := x.M) ?_)
        rw [List.any_cons] at hP
        cases hnx : (m == l) with
        | true =>
          rw [hnx] at hP
          exact wpAny_bind (wpAny_pure (wpAny_pure (wpAny_pure ⟨by rw [← hP]; rfl, rfl⟩)))
        | false =>
          rw [hnx] at hP
          exact wpAny_pure ⟨rfl, rfl, _, hm', by simpa using hP⟩
    · rintro ⟨b1, b2⟩ s' ⟨hb, rfl, ms, hm, hP⟩
      cases ms with
      | nil =>
        simp only at hb
        subst hb
        exact wpAny_pure ⟨by rw [← hP]; rfl, rfl⟩
      | cons m ms => obtain ⟨v, r, e, _⟩ := isL_cons.mp hm; cases e
  show wpAny x.M x.A (do return Value.bool (← contains (.ref a) (.bytes l.toArray t)) : Sem Value) (Dn x cs hid g Qn) E s
  refine wpAny_bind ?_
  unfold contains
  refine wpAny_holding ?_
  refine wpAny_bind (wpAny_specialOf ht.typeIs slot_tuple_contains.lookup ?_)
  rw [if_neg (by decide)]
  refine wpAny_bind (wpAny_callSpecialUnlessNone?_slot (name := Str.ofString "__contains__") ht.typeIs slot_tuple_contains
    (wpAny_call_entry slot_tuple_contains ht.typeIs entry_tuple_contains (wpAny_mono tree (fun fin s' ⟨e1, e2⟩ => ⟨_, e1, ?_⟩) fun _ _ e => e) (args_tuple_contains _ _)))
  subst e2
  exact wpAny_truthy_bool (wpAny_pure (R.dn' (is_val.mpr rfl) h))

/- lists -/
theorem op_addL {xs ys : List PV} (hz : xs.length + ys.length ≤ 16777216) (h : Qn (.lst (xs ++ ys)) q) : Op2 x cs (binaryOp .Add) (.lst xs) (.lst ys) q Qn E := fun hid g s u v R i j => by
  obtain ⟨a, vs, ⟨cls, dd, data, sl⟩, n, rfl, ga, oc, od, il⟩ := is_lst.mp i
  obtain ⟨b, ws, ⟨cls2, dd2, data2, sl2⟩, n2, rfl, gb, oc2, od2, il2⟩ := is_lst.mp j
  dsimp only at oc od oc2 od2
  subst oc od oc2 od2
  have ha := R.sub _ _ ga
  have hb := R.sub _ _ gb
  have l1 : vs.size = xs.length := by simpa using il.length
  have l2 : ws.size = ys.length := by simpa using il2.length
  refine concat_meets ⟨_, ha, rfl⟩ ⟨_, hb, rfl⟩ noFill_list_add seq_list_add PySem.F.slot_list_add PySem.F.entry_list_add (PySem.F.args_list_add_2 _ _) (list_addW a b vs ws n n2 dd dd2 sl sl2 (by rw [l1, l2, sizeLine_eq]; exact hz)) ⟨ha, hb, ?_⟩
  have le := G.le_put (o := { cls := .type "list", data := .seq (vs ++ ws) }) R.none_g
  exact ⟨_, _, _, le, is_lst.mpr ⟨_, _, _, _, rfl, G.put_at, rfl, rfl, by rw [Array.toList_append]; exact (IsL.up le _ il).append (IsL.up le _ il2)⟩, R.frozen rfl, h⟩
theorem call_list {xs : List PV} (hz : xs.length ≤ 16777216) (h : Qn (.lst xs) q) : CallR x cs (.type "list") [.lst xs] q Qn E := fun hid g s vs R il => by
  with_reducible refine isL1_k il fun v iv => ?_
  obtain ⟨a, vs, o, n, rfl, ga, oc, od, il'⟩ := is_lst.mp iv
  have l1 : vs.size = xs.length := by simpa using il'.length
  refine call_list_seq (hsz := by rw [l1, sizeLine_eq]; exact hz) a (.inl rfl) (R.sub _ _ ga) oc od fun h' c' hk hD => ?_
  have R' : Rep x cs hid g q { s with heap := h', toks := s.toks } := R.grow hk
  have le := G.le_put (o := { cls := .type "list", dict := none, data := .seq vs c', slots := #[] }) R.none_g
  refine ⟨_, _, _, le, is_lst.mpr ⟨_, _, _, _, rfl, G.put_at, rfl, rfl, IsL.up le _ il'⟩, ⟨?_, fun b ob e => ?_, R'.base.trans le, fun b ob e => ?_, ?_, fun e he => ?_, R'.nod, R'.os, R'.gens, R'.sl⟩, h⟩
  · obtain ⟨mr, F, l⟩ := R'.fr; exact ⟨mr, F, l.up le⟩
  · unfold G.put at e
    by_cases hb : b = s.heap.objs.size
    · subst hb; rw [if_pos rfl] at e; cases e; exact hD
    · rw [if_neg hb] at e; exact R'.sub _ _ e
  · unfold G.put at e
    by_cases hb : b = s.heap.objs.size
    · subst hb; exact .inr R.none_h
    · rw [if_neg hb] at e; exact R.own _ _ e
  · exact (if_neg (Ne.symm R.new_L)).trans R.off
  · obtain ⟨a, b, c, d⟩ := R'.led e he
    exact ⟨a, (if_neg (Nat.ne_of_lt (R.led_lt e he))).trans b, c, d.up le rfl⟩
theorem sl_lst {xs : List PV} {l u : Option Int} (hz : xs.length ≤ 16777216) (h : Qn (.lst (cut xs l u)) q) : Slc x cs "list" (.lst xs) l u q Qn E := fun hid g s b sl vl vu R i hs pl pu => by
  obtain ⟨a, vs, o, n, rfl, ga, oc, od, il⟩ := is_lst.mp i
  have hl : s.heap.IsList a vs := ⟨_, R.sub _ _ ga, oc, _, od⟩
  have l1 : vs.size = xs.length := by simpa using il.length
  refine ⟨hl.typeIs, wpAny_getItem_list_slice hl hs pl pu .none (by simp) ?_ (by rw [l1, sizeLine_eq]; exact hz)⟩
  have le := G.le_put (o := { cls := .type "list", data := .seq (slicePick vs l u none) }) R.none_g
  refine ⟨_, _, _, le, is_lst.mpr ⟨_, _, _, _, rfl, G.put_at, rfl, rfl, ?_⟩, R.frozen rfl, h⟩
  have e : (slicePick vs l u none).toList = cut vs.toList l u := by
    rw [slicePick_plain]
    simp [cut]
  rw [e]
  unfold cut
  have ll : vs.toList.length = xs.length := by simpa using l1
  rw [ll]
  exact (IsL.drop _ (IsL.up le _ il)).take _

/- ints and bools -/
theorem call_intB {b : Bool} (h : Qn (.int (if b then 1 else 0)) q) : CallR x cs (.type "int") [.val (.bool b)] q Qn E := fun hid g s vs R il => by
  obtain ⟨v, r, rfl, iv, il2⟩ := isL_cons.mp il
  rw [is_val.mp iv, isL_nil.mp il2]
  with_reducible refine call_int_bool ?_
  exact R.dn (is_int.mpr ⟨_, rfl⟩) h
theorem call_boolB {b : Bool} (h : Qn (.val (.bool b)) q) : CallR x cs (.type "bool") [.val (.bool b)] q Qn E := fun hid g s vs R il => by
  obtain ⟨v, r, rfl, iv, il2⟩ := isL_cons.mp il
  rw [is_val.mp iv, isL_nil.mp il2]
  with_reducible refine call_bool_bool ?_
  exact R.dn' (is_val.mpr rfl) h
theorem call_abs {a : Int} (h : Qn (.int (if a < 0 then -a else a)) q) : CallR x cs (.builtin "abs") [.int a] q Qn E := fun hid g s vs R il => by
  with_reducible refine isL1_k il fun v iv => ?_
  with_reducible refine int_k iv fun t => ?_
  with_reducible refine call_abs_int ?_
  exact fun u tk => R.dn (is_int.mpr ⟨_, rfl⟩) h
theorem call_max {a b : Int} (hh : x.A.handled = none) (h : Qn (.int (if b > a then b else a)) q) : CallR x cs (.builtin "max") [.int a, .int b] q Qn E := fun hid g s vs R il => by
  with_reducible refine isL2_k il fun v u iv iu => ?_
  with_reducible refine int_k iv fun t => ?_
  with_reducible refine int_k iu fun t' => ?_
  with_reducible refine max_two_ints hh fun h' tk hk => ?_
  refine R.dnG hk (p := .int (if b > a then b else a)) ?_ h
  split <;> exact is_int.mpr ⟨_, rfl⟩
theorem call_min {a b : Int} (hh : x.A.handled = none) (h : Qn (.int (if b < a then b else a)) q) : CallR x cs (.builtin "min") [.int a, .int b] q Qn E := fun hid g s vs R il => by
  with_reducible refine isL2_k il fun v u iv iu => ?_
  with_reducible refine int_k iv fun t => ?_
  with_reducible refine int_k iu fun t' => ?_
  with_reducible refine min_two_ints hh fun h' tk hk => ?_
  refine R.dnG hk (p := .int (if b < a then b else a)) ?_ h
  split <;> exact is_int.mpr ⟨_, rfl⟩
end
end Wk
end
/- L8f -/
section
open PySem PySem.W PySem.Calls PyProof.Rows
namespace Wk
open Mine
section
variable {x : Act} {cs : Scope} {E : Er} {q : Q} {Qn : PV → Q → Prop} {Qb : Bool → Q → Prop} {Qf : Out → Q → Prop} {Qu : Q → Prop} {hid : List (Addr × MK)} {g : G}

theorem intItems_of : ∀ {ns : List Int} {vs : List Value}, IsL g (ns.map .int) vs → ∃ l : List (Int × Tok), vs = l.map (fun p => .int p.1 p.2) ∧ l.map (·.1) = ns
  | [], vs, h => ⟨[], isL_nil.mp h, rfl⟩
  | n :: ns, vs, h => by
    obtain ⟨v, r, rfl, i, h'⟩ := isL_cons.mp h
    with_reducible refine int_k i fun t => ?_
    obtain ⟨l, rfl, e⟩ := intItems_of h'
    exact ⟨(n, t) :: l, rfl, by rw [List.map_cons, e]⟩
theorem call_sum {ns : List Int} (hh : x.A.handled = none) (h : Qn (.int ns.sum) q) : CallR x cs (.builtin "sum") [.lst (ns.map .int)] q Qn E := fun hid g s vs R il => by
  with_reducible refine isL1_k il fun v iv => ?_
  obtain ⟨a, vs, o, n, rfl, ga, oc, od, il'⟩ := is_lst.mp iv
  obtain ⟨l, e, el⟩ := intItems_of il'
  have ev : vs = intItems l.toArray := by
    unfold intItems
    apply Array.toList_inj.mp
    rw [e]; simp
  refine sum_intListG (xs := l.toArray) hh ⟨o, R.sub _ _ ga, oc, n, by rw [od, ev]⟩ fun h' tk t' hk => R.dnG hk (is_int.mpr ⟨t', ?_⟩) h
  congr 1
  rw [preSum_eq]
  show ((l.map (·.1)).take l.toArray.size).sum = ns.sum
  rw [el, List.size_toArray, List.take_of_length_le (by rw [← el, List.length_map]; exact Nat.le_refl _)]

/- an item put into a list -/
noncomputable def SetI (x : Act) (cs : Scope) (a k p : PV) (q : Q) (Qu : Q → Prop) (E : Er) : Prop :=
  ∀ hid g s u i v, Rep x cs hid g q s → Is g a u → Is g k i → Is g p v → wpAny x.M x.A (setItem u i v) (Du x cs hid g Qu) E s
theorem ex_asgSub {o i pos' value pos} (h : Ev x cs value q (fun p q1 => Ev x cs o q1 (fun a q2 => Ev x cs i q2 (fun k q3 => SetI x cs a k p q3 (Qf .nxt) E) E) E) E)
    (hs : swapsWith value (some (.Subscript o i pos')) pos.line (x.env cs) = pure false) : Ex x cs (.Assign [.Subscript o i pos'] value pos) q Qf E := fun hid g s R => by
  refine wpAny_Assign_Subscript (hs := hs) (dn_k (h hid g s R) fun v s₁ g₁ p q₁ k₁ iv R₁ h₁ => ?_)
  refine dn_k (h₁ hid g₁ s₁ R₁) fun u s₂ g₂ a q₂ k₂ iu R₂ h₂ => ?_
  refine dn_k (h₂ hid g₂ s₂ R₂) fun w s₃ g₃ k q₃ k₃ iw R₃ h₃ => ?_
  exact du_k (h₃ hid g₃ s₃ u w v R₃ (iu.up k₃) iw (iv.up (k₂.trans k₃))) fun _ s₄ g₄ q₄ k₄ R₄ h₄ => ⟨g₄, .nxt, q₄, (k₁.trans (k₂.trans k₃)).trans k₄, rfl, R₄, h₄⟩
theorem isL_set {ps : List PV} {vs : List Value} (h : IsL g ps vs) : ∀ {j : Nat} {p v}, Is g p v → IsL g (ps.set j p) (vs.set j v) := by
  induction ps generalizing vs with
  | nil => intro j p v _; rw [isL_nil.mp h]; exact isL_nil.mpr rfl
  | cons a ps ih =>
    intro j p v i
    obtain ⟨u, r, rfl, ia, hr⟩ := isL_cons.mp h
    cases j with
    | zero => exact isL_cons.mpr ⟨v, r, rfl, i, hr⟩
    | succ j => exact isL_cons.mpr ⟨u, r.set j v, rfl, ia, ih hr i⟩
theorem setI_at {d : Addr} {xs : List PV} {k : Int} {p : PV} (n : Nat) (hi : q.led[n]? = some (d, .lst xs)) (hz : xs.length ≤ 16777216) (j : Nat) (hj : j < xs.length) (hk : seqIndex? k xs.length = some j)
    (hlo : -(2 ^ 62 : Int) ≤ k) (hhi : k < 2 ^ 62) (h : Qu ⟨q.m, q.led.set n (d, .lst (xs.set j p))⟩) : SetI x cs (.val (.ref d)) (.int k) p q Qu E := fun hid g s u i v R iu ik iv => by
  rw [is_val.mp iu]
  with_reducible refine int_k ik fun t => ?_
  obtain ⟨_, _, _, vs, o, m, ho, oc, od, odn, il⟩ := R.led _ (List.mem_append_left _ (List.mem_of_getElem? hi))
  have l1 : vs.size = xs.length := by simpa using il.length
  have hl : s.heap.IsList d vs := ⟨_, ho, oc, _, od⟩
  unfold setItem
  refine wpAny_holding ?_
  refine wpAny_bind (wpAny_sequenceKey hl.typeIs (by decide) ?_)
  refine wpAny_bind (wpAny_callSpecial?_slot (name := Str.ofString "__setitem__") hl.typeIs slot_list_setitem
    (wpAny_call_entry slot_list_setitem hl.typeIs entry_list_setitem ?_ (args_list_setitem _ _ _)))
  show wpAny _ _ (Builtin.List.listSubscript? (.int k t) >>= _) _ _ s
  refine wpAny_bind (wpAny_listSubscript_int (by unfold Builtin.List.listFitsIndex; simp; lia) ?_)
  have hx : vs[j]? = some (vs[j]'(by lia)) := by simp [l1, hj]
  have fin : wpAny x.M x.A.in1 (setSeqItemAt d j v >>= fun _ => (ret .none : Sem Fin)) (fun fin s' => ∃ v', fin = .done (.ret v') ∧ wpAny x.M x.A (pure (some v')) (fun _ s'' => Du x cs hid g Qu () s'') E s') E s := by
    refine wpAny_bind (wpAny_setSeqItemAt ho od (wpAny_pure ⟨.none, rfl, wpAny_pure ?_⟩))
    obtain ⟨c, dd, dt, sl⟩ := o
    dsimp only at oc od odn
    subst oc od odn
    have hs : Heap.SameBut d s.heap (s.heap.update d (Obj.mapSeq (·.setIfInBounds j v))) := Heap.SameBut.update ..
    have hg : (s.heap.update d (Obj.mapSeq (·.setIfInBounds j v))).get? d = some (Obj.mapSeq (·.setIfInBounds j v) ⟨.type "list", none, .seq vs m, sl⟩) := Heap.get?_update_self _ ho rfl
    refine ⟨g, _, .refl g, R.setLed (t := s.toks) hi hs (k' := .lst (xs.set j p)) ⟨vs.setIfInBounds j v, _, _, hg, rfl, rfl, rfl, ?_⟩, h⟩
    rw [Array.toList_setIfInBounds]
    exact isL_set il iv
  cases k with
  | ofNat n' =>
    have hn : n' = j := by
      have : seqIndex? (n' : Int) xs.length = some n' := by
        rcases Nat.lt_or_ge n' xs.length with hlt | hge
        · exact StrLaws.seqIndex_nonneg (by lia) (by lia)
        · exfalso
          simp only [seqIndex?, Int.ofNat_eq_natCast] at hk
          rw [if_neg (show ¬ ((n' : Int) < 0) by lia), if_neg (by simp; lia)] at hk
          cases hk
      have hk' : seqIndex? (n' : Int) xs.length = some j := hk
      rw [this] at hk'; exact Option.some.inj hk'
    subst hn
    show wpAny _ _ ((seqItemAt d n' >>= fun r => pure (r.map (n', ·))) >>= _) _ _ s
    refine wpAny_bind (wpAny_bind (wpAny_seqItemAt ho od (wpAny_pure ?_)))
    rw [hx]
    exact fin
  | negSucc n' =>
    show wpAny _ _ ((Builtin.List.listItems (.ref d) >>= fun xs => pure ((seqIndex? (.negSucc n') xs.size).bind fun j => xs[j]?.map (j, ·))) >>= _) _ _ s
    refine wpAny_bind (wpAny_bind (wpAny_listItems ho od (wpAny_pure ?_)))
    rw [l1, hk, Option.bind_some, hx]
    exact fin
end
end Wk
end
/- L9 -/
section
open PySem PySem.W PySem.Calls PyProof.Rows
namespace Wk
open Mine
section
variable {x : Act} {cs : Scope} {E : Er} {q : Q} {Qn : PV → Q → Prop} {Qb : Bool → Q → Prop} {Qf : Out → Q → Prop} {Qu : Q → Prop} {hid : List (Addr × MK)} {g : G}

theorem look_some {o : Obj} {es : Array DictEntry} {n : Nat} {name : Str} {v : Value} (ho : o.data = .dict es n) (h : nsFind es name = some v) : lookIn name o = some (some v) := by
  unfold nsFind findBy at h
  obtain ⟨e, he, rfl⟩ := Option.map_eq_some_iff.mp h
  unfold lookIn
  rw [ho]
  dsimp only
  rw [← Array.find?_toList] at he
  rw [he]
theorem look_none {o : Obj} {es : Array DictEntry} {n : Nat} {name : Str} (ho : o.data = .dict es n) (hk : StrKeys es) (h : nsFind es name = none) : lookIn name o = some none := by
  unfold nsFind findBy at h
  have he := Option.map_eq_none_iff.mp h
  unfold lookIn
  rw [ho]
  dsimp only
  rw [← Array.find?_toList] at he
  rw [he]
  dsimp only
  rw [if_neg]
  rw [Array.any_toList, Bool.not_eq_true, Array.any_eq_false']
  intro e he
  obtain ⟨n, t, h⟩ := hk e he
  simp [DictEntry.refKey, h]

/- a class whose objects hold their attributes in a plain dict -/
structure PlainCls (K : Frag) (C : Addr) : Prop where
  cls : ∃ cd, clsIn K C = some cd ∧ cd.hasDict = true
  ga : findIn K (.ref C) "__getattribute__" = some (some (.builtin "object.__getattribute__"))
  gt : findIn K (.ref C) "__getattr__" = some none
  sa : findIn K (.ref C) "__setattr__" = some (some (.builtin "object.__setattr__"))
  over : plainOver K C = true
theorem instAt {s : Shared} {a d C : Addr} {o : Obj} (h1 : s.heap.get? a = some (instObj C d)) (h2 : s.heap.get? d = some o) : PySem.W.InstAt s.heap a (instObj C d) C (some o) := ⟨h1, rfl, rfl, h2⟩
theorem find_val {K : Frag} {C : Addr} {o : Obj} {es : Array DictEntry} {n : Nat} {name : Str} {v : Value} (P : PlainCls K C) (hf : findIn K (.ref C) name = some none) (ho : o.data = .dict es n) (h : nsFind es name = some v) : findObj K C (some o) name = some (.value v) := by
  obtain ⟨cd, hc, hd⟩ := P.cls
  unfold findObj PySem.W.ownOf
  rw [hc, Option.bind_some, hf, Option.bind_some]
  simp only [Option.bind_some, hd, if_true, look_some ho h]
theorem getAttr_at {s : Shared} {a d C : Addr} {o : Obj} {es : Array DictEntry} {n : Nat} {name : Str} {v : Value} {expr : Bool} {Qv : Value → Shared → Prop} (X : (KP x.w.params).In s.heap) (P : PlainCls (KP x.w.params) C)
    (h1 : s.heap.get? a = some (instObj C d)) (h2 : s.heap.get? d = some o) (ho : o.data = .dict es n) (hf : findIn (KP x.w.params) (.ref C) name = some none) (hv : nsFind es name = some v) (hh : handedIn v = true)
    (h : Qv v { s with toks := s.toks + 1 }) : wpAny x.M x.A (getAttr (.ref a) name expr) Qv E s :=
  get_value X (instAt h1 h2) P.ga (find_val P hf ho hv) hh h
theorem isF_at : ∀ {fs : List (Str × PV)} {m : Str → Option Value} {name : Str} {p : PV}, IsF g fs m → (name, p) ∈ fs → ∃ v, m name = some v ∧ Is g p v
  | y :: fs, m, name, p, h, hm => by
    obtain ⟨h1, h2⟩ := isF_cons.mp h
    rcases List.mem_cons.mp hm with rfl | hm
    · exact h1
    · exact isF_at h2 hm
noncomputable def PV.handed : PV → Bool
  | .val v => handedIn v
  | _ => true
theorem handed_of {p : PV} {v : Value} (i : Is g p v) (h : p.handed = true) : handedIn v = true := by
  cases p with
  | val u => rw [is_val.mp i]; exact h
  | int => obtain ⟨t, rfl⟩ := is_int.mp i; rfl
  | str => obtain ⟨t, rfl⟩ := is_str.mp i; rfl
  | byt => obtain ⟨t, rfl⟩ := is_byt.mp i; rfl
  | tup => obtain ⟨a, vs, o, n, rfl, _⟩ := is_tup.mp i; rfl
  | lst => obtain ⟨a, vs, o, n, rfl, _⟩ := is_lst.mp i; rfl
  | obj => obtain ⟨a, d, o, es, n, rfl, _⟩ := is_obj.mp i; rfl

/- an attribute read -/
noncomputable def Get (x : Act) (cs : Scope) (a : PV) (name : Str) (q : Q) (Qn : PV → Q → Prop) (E : Er) : Prop := ∀ hid g s u, Rep x cs hid g q s → Is g a u → wpAny x.M x.A (getAttr u name true) (Dn x cs hid g Qn) E s
theorem ev_attr {n attr np pos} (h : Ev x cs (.Name n np) q (fun a q1 => Get x cs a attr q1 Qn E) E) : Ev x cs (.Attribute (.Name n np) attr pos) q Qn E := fun hid g s R => by
  refine Attribute_name (dn_k (h hid g s R) fun u s₁ g₁ a q₁ k₁ i R₁ h₁ => ?_)
  exact wpAny_mono (h₁ hid g₁ s₁ u R₁ i) (fun _ _ d => d.le k₁) fun _ _ e => e
theorem get_inst {a d C : Addr} {fs : List (Str × PV)} {name : Str} {p : PV} (O : x.Ok cs) (P : PlainCls (KP x.w.params) C) (hf : findIn (KP x.w.params) (.ref C) name = some none) (h1 : (a, MK.inst C d) ∈ q.led) (h2 : (d, MK.ns fs) ∈ q.led) (hm : (name, p) ∈ fs)
    (hp : p.handed = true) (h : Qn p q) : Get x cs (.val (.ref a)) name q Qn E := fun hid g s u R i => by
  rw [is_val.mp i]
  obtain ⟨_, _, _, ha⟩ := R.led _ (List.mem_append_left _ h1)
  obtain ⟨_, _, _, o, es, n, hd, ho, hsz, hk, hn, f⟩ := R.led _ (List.mem_append_left _ h2)
  obtain ⟨v, hv, iv⟩ := isF_at f hm
  exact getAttr_at (R.inK O) P ha hd ho hf hv (handed_of iv hp) (R.dn iv h)

/- a method -/
theorem mth_fn {s : Shared} {a d C f : Addr} {o : Obj} {es : Array DictEntry} {n : Nat} {name : Str} {pl : Sem Bool} {Qv : Value × List Value → Shared → Prop} (X : (KP x.w.params).In s.heap) (P : PlainCls (KP x.w.params) C)
    (h1 : s.heap.get? a = some (instObj C d)) (h2 : s.heap.get? d = some o) (ho : o.data = .dict es n) (hf : findIn (KP x.w.params) (.ref C) name = some (some (.ref f))) (ht : typeIn (KP x.w.params) (.ref f) = some (.type "function"))
    (hk : StrKeys es) (hn : nsFind es name = none) (h : Qv (.ref f, [.ref a]) s) : wpAny x.M x.A (getMethod (.ref a) name pl) Qv E s :=
  method_fn X (instAt h1 h2) P.ga P.gt hf ht (by unfold shadowIn; dsimp only; rw [look_none ho hk hn]; rfl) h
theorem mth_inst {a d C f : Addr} {fs : List (Str × PV)} {name : Str} {k : Value → List PV → Q → Prop} (O : x.Ok cs) (P : PlainCls (KP x.w.params) C) (hf : findIn (KP x.w.params) (.ref C) name = some (some (.ref f)))
    (ht : typeIn (KP x.w.params) (.ref f) = some (.type "function")) (h1 : (a, MK.inst C d) ∈ q.led) (h2 : (d, MK.ns fs) ∈ q.led) (hn : name ∉ fs.map (·.1)) (h : k (.ref f) [.val (.ref a)] q) : Mth x cs (.val (.ref a)) name q k E := fun hid g s u R i pl => by
  rw [is_val.mp i]
  obtain ⟨_, _, _, ha⟩ := R.led _ (List.mem_append_left _ h1)
  obtain ⟨_, _, _, o, es, n, hd, ho, hsz, hk, hnn, ff⟩ := R.led _ (List.mem_append_left _ h2)
  exact mth_fn (R.inK O) P ha hd ho hf ht hk (hnn _ hn) ⟨g, q, _, .refl g, R, isL_cons.mpr ⟨_, _, rfl, is_val.mpr rfl, isL_nil.mpr rfl⟩, h⟩

/- an attribute put -/
noncomputable def SetA (x : Act) (cs : Scope) (a : PV) (name : Str) (p : PV) (q : Q) (Qu : Q → Prop) (E : Er) : Prop :=
  ∀ hid g s u v, Rep x cs hid g q s → Is g a u → Is g p v → wpAny x.M x.A (setAttr u name v) (Du x cs hid g Qu) E s
theorem ex_asgAttr {o attr pos' value pos} (h : Ev x cs value q (fun p q1 => Ev x cs o q1 (fun a q2 => SetA x cs a attr p q2 (Qf .nxt) E) E) E)
    (hs : swapsWith value (some (.Attribute o attr pos')) pos.line (x.env cs) = pure false) : Ex x cs (.Assign [.Attribute o attr pos'] value pos) q Qf E := fun hid g s R => by
  refine plainObj_wpAny_Assign_Attribute (hs := hs) (dn_k (h hid g s R) fun v s₁ g₁ p q₁ k₁ iv R₁ h₁ => ?_)
  refine dn_k (h₁ hid g₁ s₁ R₁) fun u s₂ g₂ a q₂ k₂ iu R₂ h₂ => ?_
  exact du_k (h₂ hid g₂ s₂ u v R₂ iu (iv.up k₂)) fun _ s₄ g₄ q₄ k₄ R₄ h₄ => ⟨g₄, .nxt, q₄, (k₁.trans k₂).trans k₄, rfl, R₄, h₄⟩
theorem as_attr {o attr pos p} (h : Ev x cs o q (fun a q2 => SetA x cs a attr p q2 Qu E) E) : Asg x cs (.Attribute o attr pos) p q Qu E := fun hid g s v R iv => by
  show wpAny x.M x.A (do
    let ov ← holding [v] (eval o (x.env cs))
    standAt pos.atName
    holding [v, ov] (setAttr ov attr v)
    release [v, ov] []) (Du x cs hid g Qu) E s
  refine wpAny_bind (wpAny_holding (dn_k (h hid g s R) fun u s₁ g₁ a q₁ k₁ iu R₁ h₁ => ?_))
  refine wpAny_bind (wpAny_standAt (wpAny_bind (wpAny_holding (wpAny_mono (h₁ hid g₁ s₁ u v R₁ iu (iv.up k₁)) (fun _ s₄ d => ?_) fun _ _ e => e))))
  intro Γ p hΓ
  rw [Sem.wp_release]
  exact d.le k₁
theorem isF_other {fs : List (Str × PV)} {m m' : Str → Option Value} (h : IsF g fs m) (e : ∀ y ∈ fs, m' y.1 = m y.1) : IsF g fs m' := by
  induction fs with
  | nil => unfold IsF; trivial
  | cons y fs ih =>
    obtain ⟨⟨v, a, b⟩, h2⟩ := isF_cons.mp h
    exact isF_cons.mpr ⟨⟨v, (e y (.head _)).trans a, b⟩, ih h2 fun z hz => e z (.tail _ hz)⟩
theorem putName_facts {o : Obj} {es : Array DictEntry} {n : Nat} {name : Str} {v : Value} {hash : Int} {t : Tok} (ho : o.data = .dict es n) (hk : StrKeys es) :
    ∃ es' n', (Obj.putName name hash (.str name t) v o).data = .dict es' n' ∧ StrKeys es' ∧ es'.size ≤ es.size + 1 ∧ ∀ y, nsFind es' y = if y = name then some v else nsFind es y := by
  obtain ⟨c, d, dt, sl⟩ := o
  dsimp only at ho
  subst ho
  cases hi : es.findIdx? (·.key.isStr name) with
  | some i =>
    refine ⟨es.modify i fun e => { e with val := v }, n, by simp only [Obj.putName_eq, Obj.putNameByArray, hi], hk.modify _ _, by simp, fun y => ?_⟩
    exact findBy_modify (fun n v => v.isStr n) Value.isStr_inj es name y v i hi
  | none =>
    refine ⟨es.push ⟨hash, .str name t, v⟩, n + 1, by simp only [Obj.putName_eq, Obj.putNameByArray, hi], hk.push _ _ _ _, by simp, fun y => ?_⟩
    exact findBy_push (fun n v => v.isStr n) es name y _ _ v (fun z => by
      show (name == z) = decide (z = name)
      by_cases h : z = name
      · subst h; simp
      · have : ¬ name = z := fun e => h e.symm
        simp [h, this]) hi
theorem osa_ns {A : Around} {s : Shared} {a d C : Addr} {o : Obj} {es : Array DictEntry} {n : Nat} {name : Str} {tk : Tok} {v : Value} {w : World} {R' : Result → Shared → Prop} (X : (KP w.params).In s.heap) (P : PlainCls (KP w.params) C) (ht : takerIn (KP w.params) C name = some none)
    (ha : s.heap.get? a = some (instObj C d)) (hd : s.heap.get? d = some o) (ho : o.data = .dict es n) (hk : StrKeys es) (hsz : es.size ≤ 100000)
    (h : ∀ h' o' es' n', h'.get? d = some o' → o'.data = .dict es' n' → StrKeys es' → es'.size ≤ es.size + 1 → (∀ y, nsFind es' y = if y = name then some v else nsFind es y) → Heap.SameBut d s.heap h' → R' (.ok (.ret .none)) { s with heap := h', toks := s.toks + 1 }) :
    codeAny (model PW w) A (.call (.builtin "object.__setattr__") ⟨[.ref a, .str name tk, v], []⟩) R' s := by
  obtain ⟨cd, hc, hcd⟩ := P.cls
  obtain ⟨es', n', e1, e2, e3, e4⟩ := putName_facts (name := name) (v := v) (hash := PyData.keyHash w.params name) (t := s.toks) ho hk
  have D' : (s.heap.update d (Obj.putName name (PyData.keyHash w.params name) (.str name s.toks) v)).get? d = some (Obj.putName name (PyData.keyHash w.params name) (.str name s.toks) v o) :=
    Heap.get?_update_self _ hd (Obj.isFreed_of_dict e1)
  refine osa_open X (instAt ha hd) P.over ht fun b => ?_
  refine wpAny_bind (wpAny_pure (wpAny_bind (wpAny_bind (wpAny_loadPart ha (wpAny_bind ((looks_clsIn X hc).here ?_))))))
  rw [hcd]
  refine wpAny_pure (a := some d) (wpAny_bind (wpAny_pure (wpAny_bind ?_)))
  unfold nsSet
  refine wpAny_bind (wpAny_bind (wpAny_askSetting (wpAny_pure (wpAny_bind (wpAny_mkText (wpAny_bind (wpAny_loadPart hd ?_)))))))
  rw [ho]
  dsimp only
  have c : (!es.any (·.key.isStr name) && es.any (·.refKey)) = false := by
    have : es.any (·.refKey) = false := by
      rw [Array.any_eq_false']; intro e he; obtain ⟨n, t, h⟩ := hk e he; simp [DictEntry.refKey, h]
    rw [this, Bool.and_false]
  rw [aRefKeyMayBeTheName_at, c]
  refine wpAny_updatePart hd ?_
  refine wpAny_bind (wpAny_lookBehind D' (by rw [e1]; exact pastItsLine_dict (by rw [sizeLine_eq]; lia)) ?_)
  exact wpAny_pure (h _ _ es' n' D' e1 e2 e3 e4 (Heap.SameBut.update ..))
theorem setA_new {a d C : Addr} {fs : List (Str × PV)} {name : Str} {p : PV} (O : x.Ok cs) (P : PlainCls (KP x.w.params) C) (ht : takerIn (KP x.w.params) C name = some none) (h1 : (a, MK.inst C d) ∈ q.led) (i : Nat) (h2 : q.led[i]? = some (d, MK.ns fs))
    (hn : name ∉ fs.map (·.1)) (hfl : fs.length ≤ 100) (h : Qu ⟨q.m, q.led.set i (d, .ns ((name, p) :: fs))⟩) : SetA x cs (.val (.ref a)) name p q Qu E := fun hid g s u v R iu iv => by
  rw [is_val.mp iu]
  obtain ⟨_, _, _, ha⟩ := R.led _ (List.mem_append_left _ h1)
  obtain ⟨_, _, _, o, es, n, hd, ho, hsz, hk, hnn, ff⟩ := R.led _ (List.mem_append_left _ (List.mem_of_getElem? h2))
  have X := R.inK O
  refine set_plain X (instAt ha hd) P.sa ?_
  have R' : Rep x cs hid g q { s with toks := s.toks + 1 } := R.tok _
  refine osa_ns (s := { s with toks := s.toks + 1 }) X P ht ha hd ho hk (by lia) fun h' o' es' n' ho' hd' hk' hs' hf' hsb => ?_
  refine ⟨g, _, .refl g, Rep.setLed (s := { s with toks := s.toks + 1 }) R' h2 hsb (k' := .ns ((name, p) :: fs)) ⟨o', es', n', ho', hd', by rw [List.length_cons]; lia, hk', fun k hk => ?_, ?_⟩, h⟩
  · rw [hf']
    simp only [List.map_cons, List.mem_cons, not_or] at hk
    rw [if_neg hk.1]; exact hnn k hk.2
  · refine isF_cons.mpr ⟨⟨v, by rw [hf']; exact if_pos rfl, iv⟩, isF_other ff fun y hy => ?_⟩
    rw [hf', if_neg]
    intro e
    exact hn (List.mem_map.mpr ⟨y, hy, e⟩)
end
end Wk
end
/- L10 -/
section
open PySem PySem.W PySem.Calls PyProof.Rows
namespace Wk
open Mine
section
variable {x : Act} {cs : Scope} {E : Er} {q : Q} {Qn : PV → Q → Prop} {Qb : Bool → Q → Prop} {Qf : Out → Q → Prop} {Qu : Q → Prop} {hid : List (Addr × MK)} {g : G}

noncomputable def Act.at (x : Act) (A : Around) (k : Nat) : Act := { x with A := A, r := x.r - k }
theorem Rep.at {q s} (R : Rep x cs hid g q s) (A : Around) (k : Nat) : Rep (x.at A k) cs hid g q s := ⟨R.fr, R.sub, R.base, R.own, R.off, R.led, R.nod, R.os, R.gens, R.sl⟩
theorem Rep.back {q s} {A : Around} {k : Nat} (R : Rep (x.at A k) cs hid g q s) : Rep x cs hid g q s := ⟨R.fr, R.sub, R.base, R.own, R.off, R.led, R.nod, R.os, R.gens, R.sl⟩
theorem Act.Ok.at (O : x.Ok cs) {A : Around} {k : Nat} (hf : A.frames = x.A.frames) (hg : A.guards = x.A.guards) (hh : A.handled = x.A.handled) (hd : A.depth ≤ x.A.depth + k) (hu : A.units ≤ x.A.units + 10 * k) (hk : k ≤ x.r) : (x.at A k).Ok cs where
  frs := hf.trans O.frs
  bel h mr F sl fps hp := let B := O.bel h mr F sl fps hp; ⟨hf.trans B.stack, B.stays, B.frames⟩
  lim := O.lim
  kin := O.kin
  top := O.top
  kg := O.kg
  depth := by have := O.depth; show A.depth + (x.r - k) ≤ 900; lia
  units := by have := O.units; show A.units + 10 * (x.r - k) ≤ 9800; lia
  guards := hg.trans O.guards
  kind := O.kind
  nod := O.nod
  bare := O.bare
  hand h := hh.trans (O.hand h)
  foff := O.foff

theorem typeCall_under (A : Around) (args : Args) (C : Addr) (rest : List Value) : A.under (.builtin "type.__call__" ⟨.ref C :: rest, []⟩) = { A with depth := A.depth + 1, units := A.units + 1 } := by
  have e1 : (Code.builtin "type.__call__" ⟨.ref C :: rest, []⟩).weight = 1 := by
    unfold Code.weight
    have h1 : (Code.builtin "type.__call__" ⟨.ref C :: rest, []⟩).frames = 0 := rfl
    have h2 : (Code.builtin "type.__call__" ⟨.ref C :: rest, []⟩).isCreation = true := rfl
    have h3 : (Code.builtin "type.__call__" ⟨.ref C :: rest, []⟩).isGuard = false := by show guardIds.contains "type.__call__" = false; decide +kernel
    have h4 : (Code.builtin "type.__call__" ⟨.ref C :: rest, []⟩).isCaller = false := rfl
    rw [h1, h2, h3, h4]; rfl
  have e2 : (Code.builtin "type.__call__" ⟨.ref C :: rest, []⟩).envs = [] := rfl
  have e3 : (Code.builtin "type.__call__" ⟨.ref C :: rest, []⟩).guards = [] := by
    unfold Code.guards
    rw [if_neg]
    show ¬ guardIds.contains "type.__call__" = true
    decide +kernel
  have e4 : (Code.builtin "type.__call__" ⟨.ref C :: rest, []⟩).cUnits = 1 := rfl
  obtain ⟨h, d, f, gd, u⟩ := A
  simp only [Around.under, e1, e2, e3, e4, pushEnvs, pushGuards]

/- an object of a class of the text made and set up -/
theorem cl_new {b : Bool} {w : World} {C fI : Addr} {args : List PV} {fp : List (Addr × MK)} {need : Nat} {Qc : Addr → Addr → List (Addr × MK) → Prop}
    (hm : makesIn (KP w.params) C = true) (hi : findIn (KP w.params) (.ref C) "__init__" = some (some (.ref fI))) (hf : typeIn (KP w.params) (.ref fI) = some (.type "function"))
    (hC : ∀ a d, Cl b (.ref fI) (.val (.ref a) :: args) ((a, .inst C d) :: (d, .ns []) :: fp) need (fun p l => p = .val .none ∧ Qc a d l) w) :
    Cl b (.ref C) args fp (need + 1) (fun p l => ∃ a d, p = .val (.ref a) ∧ Qc a d l) w := by
  rintro x cs hid g m rest s vals E rfl O hb hr R ia
  have X := R.inK O
  obtain ⟨h, gs, dr, tk, os⟩ := s
  refine make_core (makes_of X hm) (looks_findIn X hi) (fun self => bind_fn X self hf) (.inl rfl) ?_
  rw [typeCall_under x.A ⟨[], []⟩]
  have R1 := R.made (o := emptyDict) (k := .ns []) rfl (fun h' e => ⟨_, _, _, e, rfl, by simp, fun _ he => by simp at he, fun k _ => rfl, by unfold IsF; trivial⟩)
  have R2 := R1.made (o := instObj C h.objs.size) (k := .inst C h.objs.size) rfl (fun h' e => e)
  have O' : (x.at { x.A with depth := x.A.depth + 1, units := x.A.units + 1 } 1).Ok cs := O.at rfl rfl rfl (by simp) (by simp) (by lia)
  have hsz : (h.push emptyDict).objs.size = h.objs.size + 1 := Heap.size_push ..
  have R3 := R2.at { x.A with depth := x.A.depth + 1, units := x.A.units + 1 } 1
  simp only [hsz] at R3
  have key := hC (h.objs.size + 1) h.objs.size (x.at { x.A with depth := x.A.depth + 1, units := x.A.units + 1 } 1) cs hid g m rest _ (.ref (h.objs.size + 1) :: vals) E rfl O' hb (by show need ≤ x.r - 1; lia) R3 (isL_cons.mpr ⟨_, _, rfl, is_val.mpr rfl, ia⟩)
  refine codeAny_mono key fun r s' z => ?_
  rcases r with e | (v | _ | _ | _)
  · exact z
  all_goals try exact z
  obtain ⟨g', p, q', a1, b1, c1, fp', e1, hp, hq⟩ := z
  subst hp e1
  refine ⟨is_val.mp b1, g', _, _, a1, is_val.mpr rfl, c1.back, fp', rfl, _, _, rfl, hq⟩
end
end Wk
end
/- L11 -/
section
open PySem PySem.W PySem.Calls PyProof.Rows
namespace Wk
open Mine
/- the class of the text's own exception -/
noncomputable abbrev mpC : Addr := 107
/- an exception of that class has left a block that was entered with the heap h; the frames of the callers may bear marks -/
structure Thrown (l : List Env) (h : Heap) (s s' : Shared) (a : Addr) : Prop where
  fly : ∃ B t, Heap.FlyingW B l a (.ref mpC) (.ref t) s'.heap ∧ ∀ b o, h.get? b = some o → b ∉ fadrs l → B.get? b = some o
  slots : h.UpToSlots s'.heap
  os : s'.os = s.os
  gens : s'.gens = s.gens
noncomputable def OutR (l : List Env) (h : Heap) (s : Shared) (r : Result) (s' : Shared) : Prop := ∃ a, r = .error (.ref a) ∧ Thrown l h s s' a
/- a callable that gives back or raises: it raises only where X holds -/
noncomputable def ClO (b : Bool) (f : Value) (args : List PV) (fp : List (Addr × MK)) (need : Nat) (Qc : PV → List (Addr × MK) → Prop) (X : Prop) (w : World) : Prop :=
  ∀ (x : Act) cs hid g m rest s vals, x.w = w → x.Ok cs → (b = true → x.hn = true) → need ≤ x.r → Rep x cs hid g ⟨m, fp ++ rest⟩ s → IsL g args vals →
    codeAny x.M x.A (.call f ⟨vals, []⟩) (fun r s' => match r with | .ok (.ret v) => Dn x cs hid g (fun p q' => ∃ fp', q' = ⟨m, fp' ++ rest⟩ ∧ Qc p fp') v s' | .ok _ => False | .error e => X ∧ OutR x.frames (hideAll s.heap (fp.map (·.1))) s (.error e) s') s

/- what a body says of an exception: it leaves the function -/
noncomputable def EY (y : Act) (cs : Scope) : Er := fun e s' => wpAny y.M y.A (leaving (y.env cs) e) (fun _ s'' => OutR y.frames.tail y.h₀ y.s₀ (.error e) s'') (fun e' s'' => OutR y.frames.tail y.h₀ y.s₀ (.error e') s'') s'
section
variable {y : Act} {cs : Scope} {q : Q} {Qn : PV → Q → Prop} {Qf : Out → Q → Prop} {hid : List (Addr × MK)} {g : G}
theorem EY_pass : Pass y cs (EY y cs) (EY y cs) := PassesOwn.leaving

/- the block is a whole function's -/
structure IsFn (y : Act) (cs : Scope) : Prop where
  fr : y.fr = some y.L
  hd : ∃ outer, y.frames = y.env cs :: outer

theorem k₀_of {b : Addr} {o : Obj} (e : y.h₀.get? b = some o) (hb : b ∉ fadrs y.frames) : y.k₀.get? b = some o := hideAll_get _ e hb

theorem ey_thrown {fps : List Addr} {s s' : Shared} {a : Addr} {q : Q} (W : IsFn y cs) (R : Rep y cs hid g q s) (hf : ∀ b ∈ fps, y.h₀.get? b = none) (O : y.Ok cs) (T : Thrown y.frames (hideAll s.heap fps) s s' a) : EY y cs (.ref a) s' := by
  obtain ⟨outer, hfr⟩ := W.hd
  obtain ⟨⟨B, t, fl, hB⟩, sl, ho, hgn⟩ := T
  have hA := O.frs
  rw [hfr] at hA
  rw [hfr] at fl
  obtain ⟨mr, F, _⟩ := R.fr
  have hL : ∀ b o, y.h₀.get? b = some o → b ∉ fadrs outer → b ∉ fadrs y.frames := fun b o e hb hm => by
    rw [hfr] at hm
    rw [fadrs_cons (env := y.env cs) (a := y.L) W.fr] at hm
    rcases List.mem_cons.mp hm with rfl | hm
    · exact absurd (Heap.lt_size e) (Nat.not_lt.mpr R.above)
    · exact hb hm
  have hid : y.h₀.UpToSlots (hideAll s.heap fps) := utsTo R.sl fun b o e => by
    have hb : b ∉ fps := fun z => by rw [hf b z] at e; cases e
    cases z : s.heap.get? b with
    | some o' => exact hideAll_get _ z hb
    | none =>
      cases z' : (hideAll s.heap fps).get? b with
      | none => rfl
      | some o' => have := of_hideAll _ z'; rw [z] at this; cases this
  unfold EY
  rw [hfr]
  refine wpAny_leaves_onW hA W.fr fl fun h' fl' sl' => ⟨a, rfl, ⟨B, t, fl', fun b o e hb => ?_⟩, ?_, ?_, ?_⟩
  · have hn := hL b o e hb
    exact hB b o (hideAll_get _ (F.keep b o (k₀_of e hn)) fun z => by rw [hf b z] at e; cases e) hn
  · exact hid.trans (sl.trans sl')
  · exact ho.trans R.os
  · exact hgn.trans R.gens

/- a body's exception, where one may come -/
noncomputable def EX (X : Prop) (y : Act) (cs : Scope) : Er := fun e s' => X ∧ EY y cs e s'
theorem EX_pass {X : Prop} : Pass y cs (EX X y cs) (EX X y cs) := by
  by_cases h : X
  · have : EX X y cs = EY y cs := by funext e s; simp [EX, h]
    rw [this]; exact EY_pass
  · have : EX X y cs = noE := by funext e s; simp [EX, h, noE]
    rw [this]; exact noE_pass

theorem call_O {b : Bool} {f : Value} {args : List PV} {fp rest : List (Addr × MK)} {need : Nat} {Qc : PV → List (Addr × MK) → Prop} {X X' : Prop} (C : ClO b f args fp need Qc X y.w) (O : y.Ok cs) (W : IsFn y cs) (hb : b = true → y.hn = true) (hr : need ≤ y.r) (hp : q.led.Perm (fp ++ rest))
    (hX : X → X') (h : ∀ p fp', Qc p fp' → Qn p ⟨q.m, fp' ++ rest⟩) : CallR y cs f args q Qn (EX X' y cs) := fun hid g s vs R il => by
  have R' : Rep y cs hid g ⟨q.m, fp ++ rest⟩ s := Rep.perm (l := q.led) R hp
  refine wpAny_call (codeAny_mono (C y cs hid g q.m rest s vs rfl O hb hr R' il) fun r s' z => ?_)
  rcases r with e | (v | _ | _ | _)
  · obtain ⟨hx, a, e', T⟩ := z
    cases e'
    refine ⟨hX hx, ey_thrown W R' (fun b hb => ?_) O T⟩
    obtain ⟨p, hp, rfl⟩ := List.mem_map.mp hb
    exact (R'.led p (by simp [hp])).2.2.1
  all_goals try exact z
  obtain ⟨g', p, q', a, b, c, fp', e, d⟩ := z
  subst e
  exact ⟨g', p, _, a, b, c, h p fp' d⟩
end
end Wk
end
/- L12 -/
section
open PySem PySem.W PySem.Calls PyProof.Rows
namespace Wk
open Mine
section
variable {y : Act} {cs : Scope} {q : Q} {Qn : PV → Q → Prop} {Qf : Out → Q → Prop} {hid : List (Addr × MK)} {g : G}

theorem ey_made {s : Shared} {h' : Heap} {a : Addr} {vs : List Value} (W : IsFn y cs) (R : Rep y cs hid g q s) (O : y.Ok cs) (X : Heap.MadeExcOf s.heap h' a (.ref mpC) vs) : EY y cs (.ref a) { s with heap := h' } := by
  obtain ⟨outer, hfr⟩ := W.hd
  obtain ⟨mr, F, _⟩ := id R.fr
  have K : Below y.A y.base y.frames s.heap := O.bel _ _ F R.sl [] (fun _ hb => by cases hb)
  have hA := O.frs
  rw [hfr] at hA
  have KF := K.frames
  rw [hfr] at KF
  have hin : ∀ env ∈ (y.env cs :: outer), ∀ b, env.frame = some b → b ∈ fadrs (y.env cs :: outer) := fun env he b hb => List.mem_filterMap.mpr ⟨env, he, hb⟩
  have hB : ∀ b o, y.h₀.get? b = some o → b ∉ fadrs outer → (hideAll s.heap (fadrs (y.env cs :: outer))).get? b = some o := fun b o e hb => by
    have hn : b ∉ fadrs (y.env cs :: outer) := fun hm => by
      rw [fadrs_cons (env := y.env cs) (a := y.L) W.fr] at hm
      rcases List.mem_cons.mp hm with rfl | hm
      · exact absurd (Heap.lt_size e) (Nat.not_lt.mpr R.above)
      · exact hb hm
    exact hideAll_get _ (F.keep b o (k₀_of e (by rw [hfr]; exact hn))) hn
  unfold EY
  rw [hfr]
  exact wpAny_leaves_madeW (base := hideAll s.heap (fadrs (y.env cs :: outer))) hA W.fr (fun b o q => of_hideAll _ q) (funFrames_hide KF hin) X fun h'' t x1 x2 x3 x4 =>
    ⟨a, rfl, ⟨⟨hideAll s.heap (fadrs (y.env cs :: outer)), t, x1, hB⟩, (R.sl.trans (Heap.UpToSlots.of_keeps X.keeps)).trans x4, R.os, R.gens⟩⟩

theorem ex_raise {X : Prop} {e : Expr} {np cpos pos : Pos} (i : Nat) {nk} (O : y.Ok cs) (W : IsFn y cs) (hh : y.hn = true) (hi' : cs.names[i]? = some nk) (hn' : nk = (("MalformedPattern" : Str), NameKind.globalImplicit))
    (hX : X) (h : Ev y cs e q (fun _ _ => True) (EX X y cs))
    (hs : ∀ env, starEach [e] env = (false, eval e env) :: starEach [] env) (hpl : ∀ pos env, (backTo pos (starEach [e] env)).any (·.1) = false) :
    Ex y cs (.Raise (some (.Call (.Name "MalformedPattern" np) [e] [] cpos)) none pos) q Qf (EX X y cs) := fun hid g s R => by
  have hi : cs.names[i]? = some (("MalformedPattern" : Str), NameKind.globalImplicit) := hi'.trans (congrArg some hn')
  have OC : OwnCls "MalformedPattern" mpC [.type "Exception", .type "BaseException", .type "object"] "Exception.__new__" y.mg y.k₀ := own_of_in O.kin O.top (by kernel_rfl) (by kernel_rfl)
  obtain ⟨bm, N, nm, qn, bs, hdct, sn, sub, ab, col, dd, k0, k1, k2, k3, k5, mN, hC, hN, hni, T⟩ := OC.obj
  obtain ⟨mr, F, l⟩ := id R.fr
  refine wpAny_Raise_call_subT (C := mpC) (nm := nm) (q := qn) (N := N) (bs := bs) (bm := bm) (hdct := hdct) (sn := sn) (sub := sub) (ab := ab) (col := col) (dd := dd) (k0 := k0) (k1 := k1) (k2 := k2) (k3 := k3) (k5 := k5)
    PySem.F.excBase_Exception (mN := mN) (T.hasType PySem.F.excBase_Exception.hasBase) (O.hand hh) (hpl _ _) hni ?_
  refine Name_function_global O.kind (names_get O.nod hi) (loadGlobal_global (env := y.env cs) (O.top.g.keeps F.keep) (mg_of O.kin O.top.g (by kernel_rfl)) ⟨rfl, ?_⟩) (by decide +kernel)
  have key := evs_run (pos := cpos) (Ql := fun ps _ => ps.length = 1) (es := [e]) ⟨hs, h.imp fun p q' _ => evs_nil rfl⟩ R
  rw [hs] at key ⊢
  refine evalArgs_plain (wpAny_mono key (fun vs s₂ ⟨g₂, ps, q₂, k₂, il, R₂, hl⟩ => ?_) fun _ _ z => z)
  obtain ⟨mr₂, F₂, _⟩ := id R₂.fr
  refine ⟨rfl, ?_, F₂.keep _ _ hC, hN.keeps F₂.keep, T.keeps F₂.keep, fun h' a Y => ⟨hX, ey_made W R₂ O Y⟩⟩
  rw [il.length, hl]
  decide
end

theorem cl_defO {b : Bool} {w : World} {fa : Addr} {name qual : Str} {params : Arguments} {body₀ body : List Stmt} {sc₀ sc : Scope} {dV kV doc pm cdv ct oc : Value} {an od : Option Addr} {osl : Array (Option Value)}
    {ps : List Str} {args dargs : List PV} {dvals : List Value} {fp : List (Addr × MK)} {need : Nat} {Qc : PV → List (Addr × MK) → Prop} {X : Prop} {m₀ : List (Option PV)}
    (hK : (KP w.params).lookup fa = some ⟨oc, od, .func (fnX name qual params body₀ sc₀ [] dV kV doc pm an cdv ct), osl⟩) (hB : body₀ = body) (hS : sc₀ = sc) (hcd : codeIn (KP w.params) cdv qual = true)
    (hb : ∀ (s : Shared) (vals : List Value), (KP w.params).In s.heap → vals.length = args.length → BindsTo s (fnX name qual params body₀ sc₀ [] dV kV doc pm an cdv ct) ⟨vals, []⟩ (ps.zip (vals ++ dvals)))
    (hd : ∀ g, IsL g dargs dvals) (hpl : ps.length = (args ++ dargs).length) (hps : ps.Nodup) (hloc : ∀ n ∈ ps, sc.names.lookup n = some .local) (hn : (sc.names.map (·.1)).Nodup) (hcell : ∀ y ∈ sc.names, y.2 ≠ .cell)
    (hco : sc.isCoroutine = false) (hgen : sc.isGenerator = false) (hk : sc.kind = .function)
    (hm : sc.names.map (fun nk => (ps.zip (args ++ dargs)).lookup nk.1) = m₀)
    (hbody : ∀ y : Act, y.w = w → y.Ok sc → IsFn y sc → (b = true → y.hn = true) → need - 1 ≤ y.r → y.cl = [] → ∀ K : Out → Q → Prop, (∀ p q', Qc p q'.led → K (.ret p) q') → (∀ q', Qc (.val .none) q'.led → K .nxt q') → Exs y sc body ⟨m₀, fp⟩ K (EX X y sc))
    (hneed : 1 ≤ need) : ClO b (.ref fa) args fp need Qc X w := by
  have hB := hB.symm; have hS := hS.symm; subst hB hS
  rintro x cs hid g m rest s vals rfl O hb' hr R ia
  obtain ⟨mr, F, l⟩ := id R.fr
  have XK : (KP x.w.params).In s.heap := O.kin.keeps F.keep
  have hlen := ia.length
  refine codeAny_call_def (fd := fnX name qual params body sc [] dV kV doc pm an cdv ct) (body := body) (binds := ps.zip (vals ++ dvals)) ?_ (XK _ _ hK) rfl (O.lim.keeps F.keep) (codeRec_of XK hcd) rfl (hb s vals XK hlen) hcell ?_ ?_ hco hgen hk
  · have := O.depth; show x.A.depth < recursionLimit; unfold recursionLimit; lia
  · intro y hy
    exact hloc _ (List.of_mem_zip hy).1
  · intro h₁ hns hk₁
    have ia' := isL_append ia (hd g)
    have hl : Locs g sc.names m₀ (fun y => (ps.zip (vals ++ dvals)).reverse.lookup y) := by
      intro i n k p e e'
      rw [← hm, List.getElem?_map, e] at e'
      simp only [Option.map_some, Option.some.injEq] at e'
      exact locs_binds ia' hpl hps n p e'
    have Oy := callee_ok (sc := sc) (L := s.heap.objs.size) (fa := fa) (qual := qual) (cd := cdv) (cl := []) O R (by lia) hk hn rfl
    have Ry := callee_rep (sc := sc) (fa := fa) (qual := qual) (cd := cdv) (cl := []) (t := s.toks + (ps.zip (vals ++ dvals)).length) R rfl hns hk₁ hl
    have W : IsFn (x.callee g (hideAll s.heap (fp.map (·.1))) s.heap.objs.size qual fa cdv [] sc) sc := ⟨rfl, _, rfl⟩
    have hy := hbody (x.callee g (hideAll s.heap (fp.map (·.1))) s.heap.objs.size qual fa cdv [] sc) rfl Oy W hb' (by show need - 1 ≤ x.r - 1; lia) rfl (Ret Qc) (fun _ _ h => h) (fun _ h => h) [] g _ Ry
    have out : ∀ {r : Result} {s' : Shared}, OutR x.frames (hideAll s.heap (fp.map (·.1))) x.s₀ r s' → OutR x.frames (hideAll s.heap (fp.map (·.1))) s r s' := fun ⟨a, e, T⟩ => ⟨a, e, T.fly, T.slots, T.os.trans R.os.symm, T.gens.trans R.gens.symm⟩
    refine wpAny_mono hy (fun f s' ⟨g', o, q', k, io, R', hq⟩ => ?_) fun e s' ⟨hx, z⟩ => wpAny_mono z (fun _ _ z => ⟨hx, out z⟩) fun _ _ z => ⟨hx, out z⟩
    have Rb := callee_back O rfl R R'
    cases o with
    | nxt => cases io; exact ⟨g', .val .none, _, k, is_val.mpr rfl, Rb, q'.led, rfl, hq⟩
    | brk => exact hq.elim
    | cnt => exact hq.elim
    | ret p => obtain ⟨v, rfl, i⟩ := io; exact ⟨g', p, _, k, i, Rb, q'.led, rfl, hq⟩

theorem cl_newO {b : Bool} {w : World} {C fI : Addr} {args : List PV} {fp : List (Addr × MK)} {need : Nat} {Qc : Addr → Addr → List (Addr × MK) → Prop} {X : Prop}
    (hm : makesIn (KP w.params) C = true) (hi : findIn (KP w.params) (.ref C) "__init__" = some (some (.ref fI))) (hf : typeIn (KP w.params) (.ref fI) = some (.type "function"))
    (hC : ∀ a d, ClO b (.ref fI) (.val (.ref a) :: args) ((a, .inst C d) :: (d, .ns []) :: fp) need (fun p l => p = .val .none ∧ Qc a d l) X w) :
    ClO b (.ref C) args fp (need + 1) (fun p l => ∃ a d, p = .val (.ref a) ∧ Qc a d l) X w := by
  rintro x cs hid g m rest s vals rfl O hb hr R ia
  have XK := R.inK O
  obtain ⟨h, gs, dr, tk, os⟩ := s
  refine make_core (makes_of XK hm) (looks_findIn XK hi) (fun self => bind_fn XK self hf) (.inl rfl) ?_
  rw [typeCall_under x.A ⟨[], []⟩]
  have R1 := R.made (o := emptyDict) (k := .ns []) rfl (fun h' e => ⟨_, _, _, e, rfl, by simp, fun _ he => by simp at he, fun k _ => rfl, by unfold IsF; trivial⟩)
  have R2 := R1.made (o := instObj C h.objs.size) (k := .inst C h.objs.size) rfl (fun h' e => e)
  have O' : (x.at { x.A with depth := x.A.depth + 1, units := x.A.units + 1 } 1).Ok cs := O.at rfl rfl rfl (by simp) (by simp) (by lia)
  have hsz : (h.push emptyDict).objs.size = h.objs.size + 1 := Heap.size_push ..
  have R3 := R2.at { x.A with depth := x.A.depth + 1, units := x.A.units + 1 } 1
  simp only [hsz] at R3
  have key := hC (h.objs.size + 1) h.objs.size (x.at { x.A with depth := x.A.depth + 1, units := x.A.units + 1 } 1) cs hid g m rest _ (.ref (h.objs.size + 1) :: vals) rfl O' hb (by show need ≤ x.r - 1; lia) R3 (isL_cons.mpr ⟨_, _, rfl, is_val.mpr rfl, ia⟩)
  refine codeAny_mono key fun r s' z => ?_
  rcases r with e | (v | _ | _ | _)
  · obtain ⟨hx, a, e', ⟨B, t, fl, hB⟩, sl, ho, hgn⟩ := z
    have kp : ∀ b o, (hideAll h (fp.map (·.1))).get? b = some o → (hideAll ((h.push emptyDict).push (instObj C h.objs.size)) (((h.objs.size + 1, MK.inst C h.objs.size) :: (h.objs.size, MK.ns []) :: fp).map (·.1))).get? b = some o := fun b o e => by
      have e1 := of_hideAll _ e
      refine hideAll_get _ (Heap.get?_push_of_some _ (Heap.get?_push_of_some _ e1)) fun hm => ?_
      have hlt := Heap.lt_size e1
      rcases List.mem_cons.mp hm with q | hm
      · have q' : b = h.objs.size + 1 := q
        rw [q'] at hlt
        exact absurd hlt (Nat.not_lt.mpr (Nat.le_succ _))
      rcases List.mem_cons.mp hm with q | hm
      · have q' : b = h.objs.size := q
        rw [q'] at hlt
        exact absurd hlt (Nat.lt_irrefl _)
      · rw [hideAll_none _ hm] at e; cases e
    exact ⟨hx, a, e', ⟨B, t, fl, fun b o e hb => hB b o (kp b o e) hb⟩, (Heap.UpToSlots.of_keeps kp).trans sl, ho, hgn⟩
  all_goals try exact z
  obtain ⟨g', p, q', a1, b1, c1, fp', e1, hp, hq⟩ := z
  subst hp e1
  refine ⟨is_val.mp b1, g', _, _, a1, is_val.mpr rfl, c1.back, fp', rfl, _, _, rfl, hq⟩
end Wk
end
/- L13 -/
section
open PySem PySem.W PySem.Calls PyProof.Rows
namespace Wk
open Mine
section
variable {y : Act} {cs : Scope} {E : Er} {q : Q} {Qn : PV → Q → Prop} {Qf : Out → Q → Prop} {hid : List (Addr × MK)} {g : G}

/- the state when an exception has been caught -/
theorem Rep.caught {m : List (Option PV)} {fp rest : List (Addr × MK)} {s s' : Shared} {h' B : Heap} (O : y.Ok cs) (R : Rep y cs hid g ⟨m, fp ++ rest⟩ s)
    (hB : ∀ b o, (hideAll s.heap (fp.map (·.1))).get? b = some o → b ∉ fadrs y.frames → B.get? b = some o) (st : B.StaysIn h') (sl : (hideAll s.heap (fp.map (·.1))).UpToSlots h') (ho : s'.os = s.os) (hgn : s'.gens = s.gens) :
    Rep y cs hid g ⟨m, rest⟩ { s' with heap := h' } := by
  have keep : ∀ b o, s.heap.get? b = some o → b ∉ fp.map (·.1) → b ∉ fadrs y.frames → h'.get? b = some o := fun b o e h1 h2 => st b o (hB b o (hideAll_get _ e h1) h2)
  have nL : y.L ∉ fp.map (·.1) := fun hm => (fp_h R _ hm).1 rfl
  obtain ⟨mr, F, l⟩ := id R.fr
  obtain ⟨oL, es, ep, hL, r⟩ := F.ns
  have hn := R.nod
  rw [List.append_assoc, List.map_append] at hn
  obtain ⟨n1, n2, n3⟩ := List.nodup_append.mp hn
  refine ⟨⟨mr, ⟨sl.ns ⟨oL, es, ep, hideAll_get _ hL nL, r⟩, fun b o e => ?_, F.above⟩, l⟩, fun b o e => ?_, R.base, R.own, R.off, fun e he => ?_, n2, ho.trans R.os, hgn.trans R.gens, (callee_slots R).trans sl⟩
  · have hf : b ∉ fadrs y.frames := fun q => by rw [show y.k₀.get? b = none from hideAll_none _ q] at e; cases e
    exact keep b o (F.keep b o e) (fun q => by rw [show y.k₀.get? b = y.h₀.get? b from by rw [e, of_hideAll _ e], (fp_h R b q).2] at e; cases e) hf
  · exact keep b o (R.sub b o e) (fun q => by
      obtain ⟨p, hp, rfl⟩ := List.mem_map.mp q
      rw [(R.led p (by simp [hp])).2.1] at e; cases e) (g_off O R e)
  · obtain ⟨a, b, c, d⟩ := R.led e (by show e ∈ fp ++ rest ++ hid; rw [List.append_assoc]; exact List.mem_append_right _ he)
    obtain ⟨o, z⟩ := d.there
    exact ⟨a, b, c, d.up (.refl g) ((keep _ _ z (fun q => n3 _ q _ (List.mem_map_of_mem he) rfl) (led_off O R a c)).trans z.symm)⟩

noncomputable def Act.caught (y : Act) (a : Addr) : Act := { y with A := y.A.mark (some (.ref a)), hn := false }
theorem Act.Ok.caught (O : y.Ok cs) (a : Addr) : (y.caught a).Ok cs where
  frs := O.frs
  bel h mr F sl fps hp := let B := O.bel h mr F sl fps hp; ⟨B.stack, B.stays, B.frames⟩
  lim := O.lim
  kin := O.kin
  top := O.top
  kg := O.kg
  depth := O.depth
  units := O.units
  guards := O.guards
  kind := O.kind
  nod := O.nod
  bare := O.bare
  hand h := by cases h
  foff := O.foff
theorem Rep.mark {q s} {a : Addr} (R : Rep y cs hid g q s) : Rep (y.caught a) cs hid g q s := ⟨R.fr, R.sub, R.base, R.own, R.off, R.led, R.nod, R.os, R.gens, R.sl⟩
theorem Rep.unmark {q s} {a : Addr} (R : Rep (y.caught a) cs hid g q s) : Rep y cs hid g q s := ⟨R.fr, R.sub, R.base, R.own, R.off, R.led, R.nod, R.os, R.gens, R.sl⟩

/- what is said of the call in a try's suite -/
inductive TryR (y : Act) (cs : Scope) (f : Value) (ps : List PV) (q : Q) (Qs : PV → Q → Prop) (Qe : Q → Prop) : Prop where
  | mk (fp rest need Qc X) (h1_0 : q.led.Perm (fp ++ rest)) (h2_1 : ClO true f ps fp need Qc X y.w) (h3_2 : need ≤ y.r) (h4_3 : (∀ p fp', Qc p fp' → Qs p ⟨q.m, fp' ++ rest⟩)) (h5_4 : (X → Qe ⟨q.m, rest⟩)) : TryR y cs f ps q Qs Qe

theorem ex_tryCall {n c nk mk : _} {np cp cpos apos mp hpos pos : Pos} {es : List Expr} {b₀ : Stmt} {suite : List Stmt} (O : y.Ok cs) (W : IsFn y cs) (hh : y.hn = true)
    (i : Nat) (hi' : cs.names[i]? = some nk) (hn' : nk = (n, .local)) (j : Nat) (hj' : cs.names[j]? = some mk) (hj'' : mk = (("MalformedPattern" : Str), NameKind.globalImplicit))
    (h : Ev y cs (.Name c cp) q (fun p q1 => ∃ f, p = .val f ∧ keepOk (KP y.w.params) f = true ∧ Evs y cs es q1 (fun ps q2 => TryR y cs f ps q2 (fun p q3 => Qf .nxt ⟨q3.m.set i (some p), q3.led⟩) (fun q3 => ∀ a, Exs (y.caught a) cs (b₀ :: suite) q3 Qf noE)) noE) noE)
    (hpl : ∀ pos env, (backTo pos (starEach es env)).any (·.1) = false) (hs : swapsWith (.Call (.Name c cp) es [] cpos) (some (.Name n np)) apos.line (y.env cs) = pure false) :
    Ex y cs (.Try [.Assign [.Name n np] (.Call (.Name c cp) es [] cpos) apos] [.ExceptHandler (some (.Name "MalformedPattern" mp)) none (b₀ :: suite) hpos] [] [] pos) q Qf E := fun hid g s R => by
  have hi : cs.names[i]? = some (n, .local) := hi'.trans (congrArg some hn')
  have hj : cs.names[j]? = some (("MalformedPattern" : Str), NameKind.globalImplicit) := hj'.trans (congrArg some hj'')
  refine wpAny_Try_except (wpAny_execs_cons (wpAny_Assign_Name (hs := hs) (wpAny_Call_Name_kw (dn_kn (h hid g s R) fun f s₁ g₁ pf q₁ k₁ i₁ R₁ hx => ?_))))
  obtain ⟨f', e, hk, h₁⟩ := hx
  subst e
  rw [is_val.mp i₁]
  refine callWith_W hk (evs_hes h₁) hpl (dl_kn (evs_run h₁ R₁) fun vs s₂ g₂ ps q₂ k₂ il R₂ hx => ⟨R₂.inK O, ?_⟩)
  obtain ⟨fp, rest, need, Qc, X, hp, C, hr, hs1, hx1⟩ := hx
  have R₂' : Rep y cs hid g₂ ⟨q₂.m, fp ++ rest⟩ s₂ := Rep.perm (l := q₂.led) R₂ hp
  refine wpAny_call (codeAny_mono (C y cs hid g₂ q₂.m rest s₂ vs rfl O (fun _ => hh) hr R₂' il) fun r s' z => ?_)
  have k := k₁.trans k₂
  rcases r with e | (v | _ | _ | _)
  · obtain ⟨hx, a, e', ⟨B, t, fl, hB⟩, sl, ho, hgn⟩ := z
    cases e'
    obtain ⟨outer, hfr⟩ := W.hd
    have hA := O.frs
    rw [hfr] at hA
    have fl' := fl
    rw [hfr] at fl'
    refine wpAny_looks_onW hA W.fr fl' fun h₄ hheld₄ hsm₄ => ?_
    refine wpAny_landsW hheld₄ fun h₅ hheld hsm₅ => ?_
    obtain ⟨ob, hob, hobc⟩ := hheld.there
    have sl5 := (sl.trans hsm₄).trans hsm₅
    have R₅ : Rep y cs hid g₂ ⟨q₂.m, rest⟩ { s' with heap := h₅ } := R₂'.caught O hB hheld.1 sl5 ho hgn
    obtain ⟨mr, F₅, _⟩ := id R₅.fr
    have OC : OwnCls "MalformedPattern" mpC [.type "Exception", .type "BaseException", .type "object"] "Exception.__new__" y.mg y.k₀ := own_of_in O.kin O.top (by kernel_rfl) (by kernel_rfl)
    obtain ⟨bm, N, nm, qn, bs, hdct, sn, sub, ab, col, dd, c0, c1, c2, c3, c5, mN, hC, hN, hni, TL⟩ := (OC.keeps F₅.keep).obj
    refine wpAny_handleBy_cons (codeAny_handlers_test (Name_function_global O.kind (names_get O.nod hj) (loadGlobal_global (env := y.env cs) (v := .ref mpC) (O.top.g.keeps F₅.keep) (mg_of O.kin O.top.g (by kernel_rfl)) ?_) (by decide +kernel))) (by intro q; cases q)
    refine wpAny_excMatches_sub_self hC hob hobc (TL.hasType PySem.F.excBase_Exception.hasBase) (codeAny_handlers_suite ?_)
    refine lands_againW hheld fun h₆ hfl₆ hsm₆ => ?_
    have R₆ : Rep y cs hid g₂ ⟨q₂.m, rest⟩ { s' with heap := h₆ } := R₂'.caught O hB hfl₆.1 (sl5.trans hsm₆) ho hgn
    refine wpAny_mono (hx1 hx a hid g₂ _ R₆.mark) (fun fl s₃ ⟨g₃, o, q₃, k₃, io, R₃, h₃⟩ => ⟨g₃, o, q₃, k.trans k₃, io, R₃.unmark, h₃⟩) fun _ _ z => z.elim
  all_goals try exact z.elim
  obtain ⟨g', p, q', a, b, c', fp', e, d⟩ := z
  subst e
  refine wpAny_mono (store_L (Qn := fun q' => Qf .nxt q') (E := fun _ _ => False) O c' b hi (hs1 p fp' d)) (fun _ s₃ ⟨g₃, q₃, k₃, R₃, h₃⟩ => ?_) fun _ _ z => z.elim
  exact wpAny_execs_nil (wpAny_execs_nil ⟨g₃, .nxt, q₃, (k.trans a).trans k₃, rfl, R₃, h₃⟩)
end
end Wk
end
/- L14 -/
section
open PySem PySem.W PySem.Calls PyProof.Rows
namespace Wk
open Mine
section
variable {x : Act} {cs : Scope} {E : Er} {q : Q} {Qn : PV → Q → Prop} {Qb : Bool → Q → Prop} {Qf : Out → Q → Prop} {Qu : Q → Prop} {hid : List (Addr × MK)} {g : G}

theorem ts_chain {l op op' r r' pos} (h : Ev x cs l q (fun a q1 => Ev x cs r q1 (fun b q2 => Op2 x cs (compareOp op) a b q2 (fun c q3 => Tru x cs c q3 (fun t q4 =>
      if t then Ev x cs r' q4 (fun d q5 => Op2 x cs (compareOp op') b d q5 (fun c' q6 => Tru x cs c' q6 Qb E) E) E else Qb false q4) E) E) E) E)
    (hm : lastMarks [op, op'] [r, r'] = false) : Tst x cs (.Compare l [op, op'] [r, r'] pos) q Qb E := fun hid g s R => by
  refine isTrue_chain (hm := hm) (dn_k (h hid g s R) fun a s₁ g₁ pa q₁ k₁ ia R₁ h₁ => ?_)
  refine test_link (dn_k (h₁ hid g₁ s₁ R₁) fun b s₂ g₂ pb q₂ k₂ ib R₂ h₂ => ?_)
  refine dn_k (h₂ hid g₂ s₂ a b R₂ (ia.up k₂) ib) fun c s₃ g₃ pc q₃ k₃ ic R₃ h₃ => ?_
  refine db_k (h₃ hid g₃ s₃ c R₃ ic) fun t s₄ g₄ q₄ k₄ R₄ h₄ => ?_
  have k := (k₁.trans k₂).trans (k₃.trans k₄)
  cases t with
  | false => exact ⟨g₄, q₄, k, R₄, h₄⟩
  | true =>
    refine test_last (dn_k (h₄ hid g₄ s₄ R₄) fun d s₅ g₅ pd q₅ k₅ id' R₅ h₅ => ?_)
    refine dn_k (h₅ hid g₅ s₅ b d R₅ (ib.up ((k₃.trans k₄).trans k₅)) id') fun c s₆ g₆ pc q₆ k₆ ic R₆ h₆ => ?_
    exact wpAny_mono (h₆ hid g₆ s₆ c R₆ ic) (fun _ _ d => d.le ((k.trans k₅).trans k₆)) fun _ _ e => e

/- a global name whose value is written out -/
theorem ev_GP (O : x.Ok cs) (i : Nat) {n : Str} {nk} {v : Value} {p : PV} {pos} (hi' : cs.names[i]? = some nk) (hn' : nk = (n, .globalImplicit)) (e : nsIn (KP x.w.params) mainGlobals n = some (some v))
    (hv : ∀ g : G, (∀ a o, (KP x.w.params).lookup a = some o → g a = some o) → Is g p v) (h : Qn p q) (hd : (n == ("__debug__" : Str)) = false) :
    Ev x cs (.Name n pos) q Qn E := fun hid g s R => by
  refine dn_k (ev_G (Qn := fun p' q' => p' = .val v ∧ q' = q) O i hi' hn' e ⟨rfl, rfl⟩ hd hid g s R) fun u s₁ g₁ pu q₁ k₁ iu R₁ ⟨e1, e2⟩ => ?_
  subst e1; subst e2
  rw [is_val.mp iu]
  exact ⟨g₁, p, _, k₁, hv g₁ fun a o z => R₁.base _ _ (O.kg a o z), R₁, h⟩

/- less said of the objects -/
theorem Rep.drop {m : List (Option PV)} {l l' r : List (Addr × MK)} {s} (R : Rep x cs hid g ⟨m, l⟩ s) (p : l.Perm (l' ++ r)) : Rep x cs hid g ⟨m, l'⟩ s := by
  have R' := R.perm p
  have hn := R'.nod
  rw [List.append_assoc, List.map_append, List.map_append] at hn
  obtain ⟨n1, n2, n3⟩ := List.nodup_append.mp hn
  refine ⟨R.fr, R.sub, R.base, R.own, R.off, fun e he => R'.led e ?_, ?_, R.os, R.gens, R.sl⟩
  · rcases List.mem_append.mp he with h | h
    · exact List.mem_append_left _ (List.mem_append_left _ h)
    · exact List.mem_append_right _ h
  · rw [List.map_append]
    exact List.nodup_append.mpr ⟨n1, (List.nodup_append.mp n2).2.1, fun a ha b hb => n3 a ha b (List.mem_append_right _ hb)⟩
theorem xs_drop {ss} (l' r : List (Addr × MK)) (p : q.led.Perm (l' ++ r)) (h : Exs x cs ss ⟨q.m, l'⟩ Qf E) : Exs x cs ss q Qf E := fun hid g s R => h hid g s (Rep.drop (l := q.led) R p)
theorem xs_perm {ss} (l' : List (Addr × MK)) (p : q.led.Perm l') (h : Exs x cs ss ⟨q.m, l'⟩ Qf E) : Exs x cs ss q Qf E := fun hid g s R => h hid g s (Rep.perm (l := q.led) R p)

/- `a, b = (u, v)`: the names are bound from the right -/
theorem ex_swap {n n' : Str} {elts : List Expr} {value : Expr} {k : _} {tpos pos : Pos} (O : x.Ok cs) (hh : x.A.handled = none) (i j : Nat) {nk mk} (hi' : cs.names[i]? = some nk) (hi'' : nk = (n, .local)) (hj' : cs.names[j]? = some mk) (hj'' : mk = (n', .local))
    (h : Ev x cs value q (fun a q1 => ∃ u v, a = .tup [u, v] ∧ Qf .nxt ⟨(q1.m.set j (some v)).set i (some u), q1.led⟩) E)
    (hs : swapsWithSole [.Tuple elts k tpos] value pos.line (x.env cs) = pure false) (hw : swappedStores [.Tuple elts k tpos] value (x.env cs) = pure (some [n, n'])) :
    Ex x cs (.Assign [.Tuple elts k tpos] value pos) q Qf E := fun hid g s R => by
  have hi : cs.names[i]? = some (n, .local) := hi'.trans (congrArg some hi'')
  have hj : cs.names[j]? = some (n', .local) := hj'.trans (congrArg some hj'')
  refine Assign_Tuple_swapped (hs := hs) (names := [n, n']) (hw := hw) (dn_k (h hid g s R) fun a s₁ g₁ pa q₁ k₁ ia R₁ ⟨u, v, ea, h₁⟩ => ?_)
  subst ea
  obtain ⟨ad, vs, o, nn, rfl, ga, oc, od, il⟩ := is_tup.mp ia
  obtain ⟨vu, r, e1, iu, il2⟩ := isL_cons.mp il
  obtain ⟨vv, r', e2, iv, il3⟩ := isL_cons.mp il2
  have e3 := isL_nil.mp il3
  subst e3 e2
  have e4 : vs = #[vu, vv] := by rw [← Array.toArray_toList (xs := vs), e1]
  subst e4
  have st : ∀ h', Heap.ExtBut s₁.heap.objs.size s₁.heap h' → wpAny x.M x.A (assignInOrder [fun v => bindName (x.env cs) n' v, fun v => bindName (x.env cs) n v] [vv, vu]) (fun _ => Df x cs hid g Qf .next) E { s₁ with heap := h' } := fun h' hx => by
    have R₂ : Rep x cs hid g₁ q₁ { s₁ with heap := h', toks := s₁.toks } := R₁.grow fun b o e => hx b o (Nat.ne_of_lt (Heap.lt_size e)) e
    refine assignInOrder_cons (bindName_ (du_k (store_L (Qn := fun q' => q' = ⟨q₁.m.set j (some v), q₁.led⟩) O R₂ iv hj rfl) fun _ s₂ g₂ q₂ k₂ R₃ h₂ => ?_))
    subst h₂
    refine assignInOrder_cons (bindName_ (du_k (store_L (Qn := fun q' => Qf .nxt q') O R₃ (iu.up k₂) hi h₁) fun _ s₃ g₃ q₃ k₃ R₄ h₃ => ?_))
    exact assignInOrder_nil ⟨g₃, .nxt, q₃, (k₁.trans k₂).trans k₃, rfl, R₄, h₃⟩
  exact unpackItems_tuple (items := #[vu, vv]) hh ⟨_, R₁.sub _ _ ga, oc, _, od⟩ st
end
end Wk
end
/- L15 -/
section
open PySem PySem.W PySem.Calls PyProof.Rows
namespace Wk
open Mine
section
variable {x : Act} {cs : Scope} {E : Er} {q : Q} {Qn : PV → Q → Prop} {Qb : Bool → Q → Prop} {Qf : Out → Q → Prop} {Qu : Q → Prop} {hid : List (Addr × MK)} {g : G}

noncomputable def rangeObj (n : Int) (t u v : Tok) : Obj := { cls := .type "range", dict := none, data := .fields #[.int 0 t, .int n u, .int 1 v], slots := #[] }
theorem call_range {n : Int} (h : ∀ a t u v, Qn (.val (.ref a)) ⟨q.m, (a, .raw (rangeObj n t u v)) :: q.led⟩) : CallR x cs (.type "range") [.int n] q Qn E := fun hid g s vs R il => by
  with_reducible refine isL1_k il fun u iu => ?_
  obtain ⟨t, rfl⟩ := is_int.mp iu
  refine call_range_1 ?_
  have R' := (R.made (o := rangeObj n s.toks t (s.toks + 1)) (k := .raw (rangeObj n s.toks t (s.toks + 1))) rfl (fun h' e => e)).tok (s.toks + 1 + 1)
  exact ⟨g, _, _, .refl g, is_val.mpr rfl, R', h _ _ _ _⟩

theorem walks_bound {prog : Program} {w : World} {A : Around} {I : Addr} {fp wr : List Addr} {n : Nat} {P : Nat → Value → Prop} {St : Nat → Heap → Prop} (W : Walks prog w A I fp wr n P St) : Walks prog w A I fp wr n (fun i v => i < n ∧ P i v) St where
  sub := W.sub
  frame := W.frame
  item := fun i s Q E hi st hQ => W.item i s Q E hi st fun v h' tk hp => hQ v h' tk ⟨hi, hp⟩
  done := W.done
  self := W.self
noncomputable def rangeEls (n : Nat) : List PV := (List.range n).map fun (i : Nat) => PV.int i
theorem iter_range (hh : x.A.handled = none) {n : Nat} (hn : n < 2 ^ 32) {a : Addr} {t u v : Tok} (hm : (a, MK.raw (rangeObj n t u v)) ∈ q.led) : Iter x cs q (.val (.ref a)) (rangeEls n) := fun hid g s w Qv E R i k => by
  rw [is_val.mp i]
  obtain ⟨_, _, _, ho⟩ := R.led _ (List.mem_append_left _ hm)
  have hr : IsRange s.heap a 0 n 1 t u v := ho
  have hsz : Builtin.Range.rangeSize 0 n 1 = n := by
    rw [rangeSize_one]; split <;> lia
  refine wpAny_pyIter_range hr (small_one (by decide) (by decide) (by lia) (by lia)) ?_
  rw [hsz]
  have W := Walks.range (prog := PW) (w := x.w) hh s.heap.objs.size 0 1 n
  have hlen : (rangeEls n).length = n := by simp [rangeEls]
  refine k _ rfl ⟨_, _, _, by rw [hlen]; exact walks_bound W, ?_, fun b hb => .inl (by simpa using hb), ?_, ?_⟩
  · have : IsRangeIter (s.heap.push { cls := .type "range_iterator", data := .fields #[rawInt 0, rawInt (n : Int), rawInt 1] }) s.heap.objs.size 0 n 1 := Heap.get?_push_size _ rfl
    simpa using this
  · intro j h' hj
    exact ⟨_, hj, quiet_cls rfl (by decide +kernel)⟩
  · rintro j w ⟨hj, t', rfl⟩
    refine ⟨.int j, ?_, is_int.mpr ⟨t', by simp⟩⟩
    simp [rangeEls, hj]
end
end Wk
end
/- L16 -/
section
open PySem PySem.W PySem.Calls PyProof.Rows
namespace Wk
open Mine

/- the block of a comprehension -/
noncomputable def Act.comp (x : Act) (g : G) (h₀ : Heap) (C : Addr) (cl : List (Str × Addr)) : Act := { x with h₀ := h₀, g₀ := g, L := C, fn := none, cl := cl }

section
variable {x : Act} {cs : Scope} {E : Er} {g : G} {hid : List (Addr × MK)} {m : List (Option PV)} {fp rest : List (Addr × MK)} {s : Shared}

theorem comp_keeps (R : Rep x cs hid g ⟨m, fp ++ rest⟩ s) : ∀ b o, x.k₀.get? b = some o → (hideAll (hideAll s.heap (fp.map (·.1))) (fadrs x.frames)).get? b = some o := fun b o e => by
  obtain ⟨mr, F, _⟩ := id R.fr
  have e0 : x.h₀.get? b = some o := of_hideAll _ e
  have hs := F.keep b o e
  refine hideAll_get _ (hideAll_get _ hs fun q => by rw [(fp_h R b q).2] at e0; cases e0) fun q => ?_
  rw [show x.k₀.get? b = none from hideAll_none _ q] at e; cases e

theorem comp_xh (O : x.Ok cs) (R : Rep x cs hid g ⟨m, fp ++ rest⟩ s) : ∀ b, (hideAll s.heap (fp.map (·.1))).get? b = none → x.h₀.get? b = none := fun b e => by
  cases q : x.h₀.get? b with
  | none => rfl
  | some o =>
    obtain ⟨mr0, F0, _⟩ := id R.fr
    exfalso
    by_cases hm : b ∈ fadrs x.frames
    · obtain ⟨env, he, hf⟩ := List.mem_filterMap.mp hm
      have B : Below x.A x.base x.frames (hideAll s.heap (fp.map (·.1))) := O.bel _ _ F0 R.sl _ (fp_h R)
      obtain ⟨L₁, o₁, hf₁, ho₁⟩ := funFrames_in B.frames env he
      rw [hf₁] at hf
      rw [(Option.some.inj hf : L₁ = b), e] at ho₁; cases ho₁
    · have hs := F0.keep b o (hideAll_get _ q hm)
      rw [hideAll_get _ hs fun z => by rw [(fp_h R b z).2] at q; cases q] at e; cases e

theorem comp_ok {sc : Scope} {C : Addr} {cl : List (Str × Addr)} (O : x.Ok cs) (R : Rep x cs hid g ⟨m, fp ++ rest⟩ s) (hk : sc.kind = .function) (hn : (sc.names.map (·.1)).Nodup) (hC : s.heap.objs.size ≤ C) :
    (x.comp g (hideAll s.heap (fp.map (·.1))) C cl).Ok sc := by
  obtain ⟨mr, F, _⟩ := id R.fr
  have ck : ∀ b o, x.k₀.get? b = some o → (x.comp g (hideAll s.heap (fp.map (·.1))) C cl).k₀.get? b = some o := comp_keeps R
  have nL : x.L ∉ fp.map (·.1) := fun hm => (fp_h R _ hm).1 rfl
  obtain ⟨oL, es, ep, hL, r⟩ := F.ns
  refine ⟨O.frs, fun h mr' F' sl' fps hf => ?_, O.lim.keeps ck, O.kin.keeps ck, O.top.keeps ck, fun a o e => R.base _ _ (O.kg a o e), O.depth, O.units, O.guards, hk, hn, O.bare, O.hand, fun env he a hf => ?_⟩
  · have sl'' : (hideAll s.heap (fp.map (·.1))).UpToSlots h := sl'
    refine O.bel h mr ⟨sl''.ns ⟨oL, es, ep, hideAll_get _ hL nL, r⟩, fun b o e => F'.keep b o (ck b o e), F.above⟩ ((callee_slots R).trans sl'') fps fun b hb => ⟨fun z => ?_, comp_xh O R b (hf b hb).2⟩
    have h2 : (hideAll s.heap (fp.map (·.1))).get? b = none := (hf b hb).2
    rw [z, hideAll_get _ hL nL] at h2; cases h2
  · cases z : g a with
    | none => exact z
    | some o => exact absurd (List.mem_filterMap.mpr ⟨env, he, hf⟩) (g_off O R z)

theorem comp_back {sc : Scope} {C : Addr} {cl : List (Str × Addr)} {g' : G} {q' : Q} {s' : Shared} {hd : List (Addr × MK)} (O : x.Ok cs) (R : Rep x cs hid g ⟨m, fp ++ rest⟩ s)
    (R' : Rep (x.comp g (hideAll s.heap (fp.map (·.1))) C cl) sc hd g' q' s') {h'' : Heap} (hs : Heap.SameBut C s'.heap h'') (hCn : s.heap.objs.size ≤ C) : Rep x cs hid g' ⟨m, q'.led ++ rest⟩ { s' with heap := h'' } := by
  obtain ⟨mr, F, l⟩ := R.fr
  obtain ⟨mr', F', l'⟩ := R'.fr
  have nodf : ∀ e ∈ rest ++ hid, e.1 ∉ fp.map (·.1) := fun e he hm => by
    have := R.nod
    rw [List.append_assoc, List.map_append] at this
    exact (List.nodup_append.mp this).2.2 _ hm _ (List.mem_map_of_mem he) rfl
  have old : ∀ b o, s.heap.get? b = some o → b ≠ C := fun b o e z => by
    have := Heap.lt_size e; rw [z] at this; exact absurd this (Nat.not_lt.mpr hCn)
  have kept : ∀ b o, s.heap.get? b = some o → b ∉ fp.map (·.1) → b ∉ fadrs x.frames → h''.get? b = some o := fun b o e hb hf =>
    (hs.2 b (old b o e)).trans (F'.keep b o (hideAll_get _ (hideAll_get _ e hb) hf))
  have inh : ∀ b o, s.heap.get? b = some o → b ∉ fp.map (·.1) → (hideAll s.heap (fp.map (·.1))).get? b ≠ none := fun b o e hb z => by
    rw [hideAll_get _ e hb] at z; cases z
  have nL : x.L ∉ fp.map (·.1) := fun hm => (fp_h R _ hm).1 rfl
  obtain ⟨oL, es, ep, hL, r⟩ := F.ns
  have goff : ∀ b, g b = none → (∃ o, s.heap.get? b = some o) → b ∉ fp.map (·.1) → g' b = none := fun b e ⟨o, z⟩ hb => by
    cases q : g' b with
    | none => rfl
    | some o' =>
      rcases R'.own b o' q with h1 | h1
      · have h2 : g b = some o' := h1
        rw [e] at h2; cases h2
      · exact absurd h1 (inh b o z hb)
  have cs' := callee_slots R
  have xh := comp_xh O R
  have sl' : (hideAll s.heap (fp.map (·.1))).UpToSlots h'' := utsTo R'.sl fun b o e => hs.2 b (old b o (of_hideAll _ e))
  refine ⟨⟨mr, ⟨sl'.ns ⟨oL, es, ep, hideAll_get _ hL nL, r⟩, fun b o e => ?_, F.above⟩, l.up R'.base⟩, fun b o e => ?_, R.base.trans R'.base, fun b o e => ?_, goff _ R.off ⟨_, hL⟩ nL, fun e he => ?_, ?_, R'.os, R'.gens, cs'.trans sl'⟩
  · have hf : b ∉ fadrs x.frames := fun q => by rw [show x.k₀.get? b = none from hideAll_none _ q] at e; cases e
    exact kept b o (F.keep b o e) (fun q => by rw [show x.k₀.get? b = x.h₀.get? b from by rw [e, of_hideAll _ e], (fp_h R b q).2] at e; cases e) hf
  · exact (hs.2 b fun z => by rw [z, show g' C = none from R'.off] at e; cases e).trans (R'.sub b o e)
  · rcases R'.own b o e with h1 | h1
    · exact R.own b o h1
    · exact .inr (xh b h1)
  · rcases List.mem_append.mp (show e ∈ q'.led ++ (rest ++ hid) by rw [← List.append_assoc]; exact he) with h1 | h1
    · obtain ⟨a, b, c, d⟩ := R'.led e (by simp [h1])
      exact ⟨fun z => inh x.L _ hL nL (z ▸ c), b, xh _ c, d.up (.refl _) (hs.2 _ a)⟩
    · obtain ⟨a, b, c, d⟩ := R.led e (by rw [List.append_assoc]; exact List.mem_append_right _ h1)
      obtain ⟨o, z⟩ := d.there
      exact ⟨a, goff _ b ⟨o, z⟩ (nodf e h1), c, d.up R'.base ((kept _ _ z (nodf e h1) (led_off O R a c)).trans z.symm)⟩
  · show ((q'.led ++ rest ++ hid).map (·.1)).Nodup
    rw [List.append_assoc, List.map_append]
    have hn' := R'.nod
    rw [List.map_append] at hn'
    refine List.nodup_append.mpr ⟨(List.nodup_append.mp hn').1, ?_, fun a ha b hb e => ?_⟩
    · have := R.nod
      rw [List.append_assoc, List.map_append] at this
      exact (List.nodup_append.mp this).2.1
    · subst e
      obtain ⟨p, hp, rfl⟩ := List.mem_map.mp ha
      obtain ⟨p', hp', e⟩ := List.mem_map.mp hb
      obtain ⟨_, _, c, _⟩ := R'.led p (by simp [hp])
      obtain ⟨_, _, _, d⟩ := R.led p' (by rw [List.append_assoc]; exact List.mem_append_right _ hp')
      obtain ⟨o, z⟩ := d.there
      exact inh _ _ z (nodf p' hp') (e ▸ c)
end
end Wk
end
/- L17 -/
section
open PySem PySem.W PySem.Calls PyProof.Rows
namespace Wk
open Mine
section
variable {x : Act} {cs : Scope} {E : Er} {q : Q} {Qn : PV → Q → Prop} {g : G} {hid : List (Addr × MK)} {m : List (Option PV)} {fp rest : List (Addr × MK)} {s : Shared}

theorem Rep.ended {o : Obj} {h' : Heap} {tk : Nat} {Ia : Addr} (R : Rep x cs ((Ia, .raw o) :: hid) g q s) (hk : ∀ b o, b ∉ [Ia] → s.heap.get? b = some o → h'.get? b = some o) : Rep x cs hid g q { s with heap := h', toks := tk } := by
  have hIa := R.led (Ia, .raw o) (by simp)
  have R1 := R.unhide
  obtain ⟨mr, F, l⟩ := R.fr
  obtain ⟨oL, es, ep, hL, r⟩ := F.ns
  have kk : ∀ b o, b ≠ Ia → s.heap.get? b = some o → h'.get? b = some o := fun b o hb e => hk b o (by simpa using hb) e
  have hn := R.nod
  rw [List.map_append, List.map_cons] at hn
  have hn' := List.nodup_append.mp hn
  refine ⟨⟨mr, ⟨⟨oL, es, ep, kk _ _ (Ne.symm hIa.1) hL, r⟩, fun b o e => kk b o (fun z => ?_) (F.keep b o e), F.above⟩, l⟩, fun b o e => kk b o (fun z => ?_) (R.sub b o e), R.base, R.own, R.off, fun e he => ?_, R1.nod, R.os, R.gens,
    fun b o e hn => let ⟨sl, z⟩ := R.sl b o e hn; ⟨sl, kk _ _ (fun w => by rw [w, hIa.2.2.1] at e; cases e) z⟩⟩
  · subst z; have := hIa.2.2.1; rw [of_hideAll _ e] at this; cases this
  · subst z; have := hIa.2.1; rw [e] at this; cases this
  · obtain ⟨a, b, c, d⟩ := R1.led e he
    have hne : e.1 ≠ Ia := fun z => by
      rcases List.mem_append.mp he with h1 | h1
      · exact hn'.2.2 e.1 (List.mem_map_of_mem h1) Ia (.head _) z
      · exact (List.nodup_cons.mp hn'.2.1).1 (List.mem_map.mpr ⟨e, h1, z⟩)
    obtain ⟨ob, z⟩ := d.there
    exact ⟨a, b, c, d.up (.refl _) ((kk _ _ hne z).trans z.symm)⟩

theorem comp_rep {sc : Scope} {cl : List (Str × Addr)} {h₁ : Heap} {mr₁ : Str → Option Value} {n tk : Nat} {o : Obj} (R : Rep x cs hid g ⟨m, fp ++ rest⟩ s)
    (hns : h₁.Ns (s.heap.objs.size + 2) mr₁) (hk : ∀ b o, s.heap.get? b = some o → h₁.get? b = some o) (hI : h₁.get? s.heap.objs.size = some o) (hD : h₁.get? (s.heap.objs.size + 1) = some { cls := .type "list", data := .seq #[] }) :
    Rep (x.comp g (hideAll s.heap (fp.map (·.1))) (s.heap.objs.size + 2) cl) sc [(s.heap.objs.size, .raw o)] g ⟨List.replicate n none, (s.heap.objs.size + 1, .lst []) :: fp⟩ { s with heap := h₁, toks := tk } := by
  have off : ∀ k, s.heap.objs.size ≤ k → g k = none := fun k hk => by
    cases e : g k with
    | none => rfl
    | some o => exact absurd (Heap.lt_size (R.sub _ _ e)) (Nat.not_lt.mpr hk)
  have offh : ∀ k, s.heap.objs.size ≤ k → (hideAll s.heap (fp.map (·.1))).get? k = none := fun k hk => by
    cases e : (hideAll s.heap (fp.map (·.1))).get? k with
    | none => rfl
    | some o => exact absurd (Heap.lt_size (of_hideAll _ e)) (Nat.not_lt.mpr hk)
  have lt : ∀ e ∈ fp, e.1 < s.heap.objs.size := fun e he => R.led_lt e (by simp [he])
  refine ⟨⟨mr₁, ⟨hns, fun b o e => hk b o (of_hideAll _ (of_hideAll _ e)), ?_⟩, fun i n' k p e e' => ?_⟩, fun b o e => hk _ _ (R.sub b o e), .refl g, fun b o e => .inl e, off _ (Nat.le_add_right _ _), fun e he => ?_, ?_, R.os, R.gens, .of_keeps fun b o e => hk b o (of_hideAll _ e)⟩
  · exact Nat.le_trans (Nat.le_of_eq ((hideAll_size _ _).trans (hideAll_size _ _))) (Nat.le_add_right _ _)
  · rw [List.getElem?_replicate] at e'; split at e' <;> cases e'
  · rcases List.mem_append.mp he with h | h
    · rcases List.mem_cons.mp h with rfl | h
      · exact ⟨Nat.ne_of_lt (Nat.lt_succ_self _), off _ (Nat.le_add_right _ _), offh _ (Nat.le_add_right _ _), #[], _, _, hD, rfl, rfl, rfl, isL_nil.mpr rfl⟩
      · obtain ⟨a, b, c, d⟩ := R.led e (by simp [h])
        obtain ⟨ob, z⟩ := d.there
        exact ⟨Nat.ne_of_lt (Nat.lt_of_lt_of_le (lt e h) (Nat.le_add_right _ _)), b, hideAll_none _ (List.mem_map_of_mem h), d.up (.refl g) ((hk _ _ z).trans z.symm)⟩
    · rw [List.mem_singleton.mp h]
      exact ⟨Nat.ne_of_lt (Nat.lt_add_of_pos_right (by decide)), off _ (Nat.le_refl _), offh _ (Nat.le_refl _), hI⟩
  · have hn := R.nod
    show (((s.heap.objs.size + 1, MK.lst []) :: fp ++ [(s.heap.objs.size, MK.raw o)]).map (·.1)).Nodup
    rw [List.append_assoc, List.map_append] at hn
    rw [List.cons_append, List.map_cons, List.map_append]
    refine List.nodup_cons.mpr ⟨fun hm => ?_, List.nodup_append.mpr ⟨(List.nodup_append.mp hn).1, by simp, fun a ha b hb e => ?_⟩⟩
    · rcases List.mem_append.mp hm with h | h
      · obtain ⟨e, he, ee⟩ := List.mem_map.mp h
        have := lt e he
        rw [ee] at this
        exact absurd this (Nat.not_lt.mpr (Nat.le_succ _))
      · simp at h
    · obtain ⟨e1, he, rfl⟩ := List.mem_map.mp ha
      have := lt e1 he
      simp at hb
      subst hb
      exact absurd e (Nat.ne_of_lt this)
end
end Wk
end
/- L18 -/
section
open PySem PySem.W PySem.Calls PyProof.Rows
namespace Wk
open Mine
section
variable {x : Act} {cs : Scope} {E : Er} {q : Q} {Qn : PV → Q → Prop}

noncomputable def Tests (y : Act) (cs : Scope) : List Expr → Q → (Bool → Q → Prop) → Er → Prop
  | [], q, Qb, _ => Qb true q
  | [c], q, Qb, E => Tst y cs c q Qb E
  | _ :: _ :: _, _, _, _ => False
theorem tests_run {y : Act} {sc : Scope} {ifs : List Expr} {Qb : Bool → Q → Prop} {hid g s} (h : Tests y sc ifs q Qb E) (R : Rep y sc hid g q s) :
    wpAny y.M y.A (forIn ifs true fun c r => if r = true then do let ok ← isTrue c (y.env sc) (eval c (y.env sc)); pure (ForInStep.yield ok) else pure (ForInStep.yield r)) (Db y sc hid g Qb) E s := by
  match ifs, h with
  | [], h => simp only [List.forIn_nil]; exact wpAny_pure ⟨g, q, .refl g, R, h⟩
  | [c], h => exact wpAny_tests_one (h hid g s R)

theorem relabel_fst (scope : Scope) (env : Env) : (relabel scope env).names.map (·.1) = scope.names.map (·.1) := by
  unfold relabel
  rw [List.map_map]
  refine List.map_congr_left fun a _ => ?_
  obtain ⟨n, k⟩ := a
  show (if _ then _ else _ : Str × NameKind).1 = n
  split <;> rfl

inductive CStep (D : Addr) (ys : List PV) (n0 : Nat) (J : List (Addr × MK) → Prop) (q4 : Q) : Prop where
  | mk (m' : List (Option PV)) (led' : List (Addr × MK)) (e : q4 = ⟨m', (D, .lst ys) :: led'⟩) (hm : m'.length = n0) (hJ : J led') : CStep D ys n0 J q4
/- what a comprehension's walk is to show -/
inductive CompOk (x : Act) (cs sc' : Scope) (cl : List (Str × Addr)) (scope : Scope) (target elt : Expr) (ifs : List Expr) (Qn : PV → Q → Prop) (p : PV) (q1 : Q) : Prop
  | mk (els : List PV) (fp rest : List (Addr × MK)) (I : Nat → List PV → List (Addr × MK) → Prop) (hit : Iter x cs q1 p els) (hp : q1.led.Perm (fp ++ rest)) (hlen : els.length ≤ 100000) (h0 : I 0 [] fp)
    (turn : ∀ y : Act, y.w = x.w → y.Ok sc' → y.r = x.r → y.hn = x.hn → y.A.handled = x.A.handled → y.cl = cl → ∀ D i el ys m led, els[i]? = some el → I i ys led → m.length = scope.names.length →
        Asg y sc' target el ⟨m, (D, .lst ys) :: led⟩ (fun q2 => Tests y sc' ifs q2 (fun b q3 =>
          if b then Ev y sc' elt q3 (fun a q4 => CStep D ys scope.names.length (I (i + 1) (ys ++ [a])) q4) noE
          else CStep D ys scope.names.length (I (i + 1) ys) q3) noE) noE)
    (fin : ∀ ys led, I els.length ys led → Qn (.lst ys) ⟨q1.m, led ++ rest⟩) : CompOk x cs sc' cl scope target elt ifs Qn p q1
/- how far the walk has come -/
inductive CompAt (x : Act) (sc' : Scope) (n0 ln : Nat) (a : Addr) (g₁ : G) (St : Nat → Heap → Prop) (I : Nat → List PV → List (Addr × MK) → Prop) (n : Nat) (s : Shared) : Prop
  | mk (i : Nat) (g' : G) (o : Obj) (ys : List PV) (m : List (Option PV)) (led : List (Addr × MK)) (hn : n = ln + 1 - i) (hi : i ≤ ln) (k : g₁.Le g') (R : Rep x sc' [(a, .raw o)] g' ⟨m, (a + 1, .lst ys) :: led⟩ s) (st : St i s.heap) (hI : I i ys led) (hy : ys.length ≤ i) (hm : m.length = n0) : CompAt x sc' n0 ln a g₁ St I n s
theorem ev_compR {elt target iter : Expr} {ifs : List Expr} {scope : Scope} {pos : Pos} (sc' : Scope) (cl : List (Str × Addr)) (O : x.Ok cs) (hrel : relabel scope (x.env cs) = sc')
    (h : Ev x cs iter q (CompOk x cs sc' cl scope target elt ifs Qn) E)
    (hclos : closureFor scope (x.env cs) = pure cl) (hcell : ∀ y ∈ scope.names, y.2 ≠ .cell) (hkind : scope.kind = .function)
    (hnames : ∀ y ∈ scope.names, y.2 = .local → scope.names.lookup y.1 = some .local) (hnod : (scope.names.map (·.1)).Nodup)
    (hs : ∀ v, foldedSetIterable iter (x.env cs) v = pure v) (ht : ∀ it v, letOwnedTupleGo target it v = pure ()) :
    Ev x cs (.ListComp elt [⟨target, iter, ifs, 0⟩] scope pos) q Qn E := fun hid g s R => by
  rw [eval_ListComp]
  refine wpAny_comprehension_free (use := none) rfl hs hclos hkind hnames (dn_k (h hid g s R) fun v s₁ g₁ p q₁ k₁ iv R₁ hx => ?_)
  obtain ⟨els, fp, rest, I, hit, hp, hlen, h0, turn, fin⟩ := hx
  refine hit hid g₁ s₁ v _ _ R₁ iv fun o hfo W => ?_
  obtain ⟨fpW, P, St, W, hst, hfp, hob, hP⟩ := W.ex
  refine wpAny_newObj_type (hd := by size_fits) (wpAny_newFunctionEnv hcell (by intro y hy; simp at hy) (fun h₁ hns₁ hsb₁ => ?_) hkind)
  have R₁' : Rep x cs hid g₁ ⟨q₁.m, fp ++ rest⟩ s₁ := Rep.perm (l := q₁.led) R₁ hp
  have e1 : ((s₁.heap.push o).push { cls := .type "list", dict := none, data := .seq ([] : List Value).toArray }).objs.size = s₁.heap.objs.size + 2 := by rw [Heap.size_push, Heap.size_push]
  dsimp only at hns₁ hsb₁ ⊢
  rw [e1] at hns₁ hsb₁
  simp only [e1, Heap.size_push]
  have hk₁ : ∀ b o', (s₁.heap.push o).get? b = some o' → h₁.get? b = some o' := fun b o' e => hsb₁.extBut b o' (by
    have := Heap.lt_size e; rw [Heap.size_push] at this; exact Nat.ne_of_lt (Nat.lt_succ_of_lt this)) (Heap.get?_push_of_some _ (Heap.get?_push_of_some _ e))
  have hD : h₁.get? (s₁.heap.objs.size + 1) = some { cls := .type "list", data := .seq #[] } := hsb₁.extBut _ _ (Nat.ne_of_lt (Nat.lt_succ_self _)) (Heap.get?_push_of_some _ (by
    have := Heap.get?_push_size (h := s₁.heap.push o) (o := { cls := .type "list", dict := none, data := .seq ([] : List Value).toArray }) rfl
    rwa [Heap.size_push] at this))
  have hkr : sc'.kind = .function := by rw [← hrel]; exact hkind
  have Rc := comp_rep (cl := cl) (sc := sc') (n := scope.names.length) (tk := s₁.toks + ([] : List (Str × Value)).length) R₁' hns₁ (fun b o' e => hk₁ b o' (Heap.get?_push_of_some _ e)) (hk₁ _ _ (Heap.get?_push_size _ hfo)) hD
  have Oc := comp_ok (sc := sc') (C := s₁.heap.objs.size + 2) (cl := cl) O R₁' hkr (by rw [← hrel, relabel_fst]; exact hnod) (Nat.le_add_right _ _)
  have hst₁ : St 0 h₁ := W.frame _ _ _ hst fun b _ o' e => hk₁ b o' e
  have tr := turn (x.comp g₁ (hideAll s₁.heap (fp.map (·.1))) (s₁.heap.objs.size + 2) cl) rfl Oc rfl rfl rfl rfl (s₁.heap.objs.size + 1)
  have loop : codeAny x.M x.A (.compLoop (.ListComp elt [⟨target, iter, ifs, 0⟩] scope pos) 0 (.ref s₁.heap.objs.size) (.ref (s₁.heap.objs.size + 1)) ((x.comp g₁ (hideAll s₁.heap (fp.map (·.1))) (s₁.heap.objs.size + 2) cl).env (sc')))
      (compPost x.M x.A E none (Dn x cs hid g Qn) (.ref (s₁.heap.objs.size + 1)) (s₁.heap.objs.size + 2)) { s₁ with heap := h₁, toks := s₁.toks + ([] : List (Str × Value)).length } := by
    refine codeAny_compLoop_tests (ht := ht _) (CompAt (x.comp g₁ (hideAll s₁.heap (fp.map (·.1))) (s₁.heap.objs.size + 2) cl) sc' scope.names.length els.length s₁.heap.objs.size g₁ St I)
      ?_ _ ⟨0, g₁, o, [], _, fp, rfl, Nat.zero_le _, .refl _, Rc, hst₁, h0, Nat.le_refl _, List.length_replicate ..⟩
    rintro n s₂ ⟨i, g₂, o₂, ys, m, led, rfl, hi, k₂, R₂, hst₂, hI, hys, hm⟩
    by_cases hlt : i < els.length
    · refine W.item i s₂ _ _ hlt hst₂ fun v' h' tk hv hst' hk => ?_
      obtain ⟨el, hel, ie⟩ := hP i v' hv
      obtain ⟨o', ho', hq'⟩ := hob _ _ hst'
      have R₃ := R₂.moved (t := tk) hk ho'
      have st : ∀ {g₄ q₄ s₄}, g₁.Le g₄ → Rep (x.comp g₁ (hideAll s₁.heap (fp.map (·.1))) (s₁.heap.objs.size + 2) cl) (sc') [(s₁.heap.objs.size, .raw o')] g₄ q₄ s₄ → St (i + 1) s₄.heap := fun kk R₅ => W.frame _ _ _ hst' fun b hb ob eb => by
        rcases hfp b hb with rfl | ⟨og, hg⟩
        · have e1 := (R₅.led (s₁.heap.objs.size, .raw o') (by simp)).2.2.2
          have e2 : some o' = some ob := ho'.symm.trans eb
          cases e2
          exact e1
        · have e1 := R₃.sub _ _ (k₂ _ _ hg)
          have e2 : some og = some ob := e1.symm.trans eb
          cases e2
          exact R₅.sub _ _ (kk _ _ hg)
      refine du_kn (x := x.comp g₁ (hideAll s₁.heap (fp.map (·.1))) (s₁.heap.objs.size + 2) cl) (tr i el ys m led hel hI hm _ g₂ _ v' R₃ (ie.up k₂)) fun _ s₃ g₃ q₃ k₃ R₄ h₃ => ?_
      refine db_kn (x := x.comp g₁ (hideAll s₁.heap (fp.map (·.1))) (s₁.heap.objs.size + 2) cl) (tests_run h₃ R₄) fun b s₄ g₄ q₄ k₄ R₅ h₄ => ?_
      have k := (k₂.trans k₃).trans k₄
      cases b with
      | false =>
        obtain ⟨m', led', e, hm', hI'⟩ := h₄
        subst e
        exact ⟨els.length + 1 - (i + 1), by lia, i + 1, g₄, o', ys, m', led', rfl, hlt, k, R₅, st k R₅, hI', by lia, hm'⟩
      | true =>
        refine dn_kn (x := x.comp g₁ (hideAll s₁.heap (fp.map (·.1))) (s₁.heap.objs.size + 2) cl) (h₄ _ g₄ s₄ R₅) fun a s₅ g₅ pa q₅ k₅ ia R₆ z => ?_
        obtain ⟨m', led', e, hm', hI'⟩ := z
        subst e
        refine wpAny_mono (call_append (x := x.comp g₁ (hideAll s₁.heap (fp.map (·.1))) (s₁.heap.objs.size + 2) cl) (cs := sc') (q := ⟨m', (s₁.heap.objs.size + 1, .lst ys) :: led'⟩) (E := noE) (Qn := fun _ q' => q' = ⟨m', (s₁.heap.objs.size + 1, .lst (ys ++ [pa])) :: led'⟩) (p := pa) 0 rfl (by lia) rfl _ g₅ s₅ [.ref (s₁.heap.objs.size + 1), a] R₆ (isL_cons.mpr ⟨_, _, rfl, is_val.mpr rfl, isL_cons.mpr ⟨_, _, rfl, ia, isL_nil.mpr rfl⟩⟩))
          (fun _ s₆ ⟨g₆, _, q₆, k₆, _, R₇, e⟩ => ?_) fun _ _ e => e.elim
        subst e
        have k' := (k.trans k₅).trans k₆
        exact ⟨els.length + 1 - (i + 1), by lia, i + 1, g₆, o', ys ++ [pa], m', led', rfl, hlt, k', R₇, st k' R₇, hI', by rw [List.length_append]; simp; lia, hm'⟩
    · have hi' : i = els.length := by lia
      subst hi'
      refine W.done s₂ _ _ hst₂ fun h' tk hk => ?_
      have R₃ := R₂.ended (tk := tk) hk
      obtain ⟨mr, F, _⟩ := id R₃.fr
      refine ⟨mr, F.ns, fun h'' hs'' => ?_⟩
      have Rb := comp_back O R₁' R₃ hs'' (Nat.le_add_right _ _)
      obtain ⟨g₃, le, i', R₄⟩ := Rb.freeze (d := s₁.heap.objs.size + 1) (xs := ys) (m' := q₁.m) (led' := led ++ rest) (.refl _) (fun i p' e => .inl e)
      exact ⟨g₃, .lst ys, _, k₁.trans (k₂.trans le), i', R₄, fin ys led hI⟩
  rw [← hrel] at loop
  exact codeAny_compStart_list loop (W.self 0 _ _ _ hst₁ loop)
end
end Wk
end
/- L19 -/
section
open PySem PySem.W PySem.Calls PyProof.Rows
namespace Wk
open Mine
section
variable {x : Act} {cs : Scope} {E : Er} {q : Q} {Qf : Out → Q → Prop} {hid : List (Addr × MK)} {g : G}

theorem store_C {n : Str} {p : PV} {v : Value} {s} {i k : Nat} {c : Addr} {mk : MK} {Qn : Q → Prop} (O : x.Ok cs) (R : Rep x cs hid g q s) (is : Is g p v) (hi : cs.names[i]? = some (n, .cell)) (hc : x.cl.lookup n = some c)
    (hm : q.led[k]? = some (c, mk)) (hmk : mk = .ecell ∨ ∃ p0, mk = .cell p0) (h : Qn ⟨q.m, q.led.set k (c, .cell p)⟩) : wpAny x.M x.A (storeName (x.env cs) n v) (Du x cs hid g Qn) E s := by
  obtain ⟨a, b, d, e⟩ := R.led _ (List.mem_append_left _ (List.mem_of_getElem? hm))
  have hv : ∃ v₀, s.heap.IsCell c v₀ := by
    rcases hmk with rfl | ⟨p0, rfl⟩
    · obtain ⟨o, h1, h2⟩ := e; exact ⟨_, o, h1, h2⟩
    · obtain ⟨o, v, h1, h2, _⟩ := e; exact ⟨_, o, h1, h2⟩
  obtain ⟨v₀, hv⟩ := hv
  refine wpAny_storeName_cell O.kind (names_get O.nod hi) hc hv fun h' hv' hs => ?_
  obtain ⟨o', h1, h2⟩ := hv'
  have R' : Rep x cs hid g ⟨q.m, q.led.set k (c, .cell p)⟩ { s with heap := h', toks := s.toks } := R.setLed hm hs ⟨o', v, h1, h2, is⟩
  exact ⟨g, _, .refl g, R', h⟩
theorem ex_asgC {n nk pos' value pos} (O : x.Ok cs) (i k : Nat) {c : Addr} {mk : MK} (hi' : cs.names[i]? = some nk) (hn' : nk = (n, .cell)) (hc : x.cl.lookup n = some c)
    (h : Ev x cs value q (fun a q1 => (q1.led[k]? = some (c, mk) ∧ (mk = .ecell ∨ ∃ p0, mk = .cell p0)) ∧ Qf .nxt ⟨q1.m, q1.led.set k (c, .cell a)⟩) E)
    (hs : swapsWith value (some (.Name n pos')) pos.line (x.env cs) = pure false) : Ex x cs (.Assign [.Name n pos'] value pos) q Qf E := fun hid g s R => by
  have hi : cs.names[i]? = some (n, .cell) := hi'.trans (congrArg some hn')
  refine wpAny_Assign_Name (hs := hs) (wpAny_mono (h hid g s R) (fun a s₁ ⟨g₁, pa, q₁, k₁, ia, R₁, ⟨hm, hmk⟩, h₁⟩ => ?_) fun _ _ e => e)
  exact du_k (store_C O R₁ ia hi hc hm hmk h₁) fun _ s₂ g₂ q₂ k₂ R₂ h₂ => ⟨g₂, .nxt, q₂, k₁.trans k₂, rfl, R₂, h₂⟩
end
end Wk
end
/- L20 -/
section
open PySem PySem.W PySem.Calls PyProof.Rows
namespace Wk
open Mine

theorem bindL_get {kindOf : Str → Option NameKind} {n : Str} (h : kindOf n = some .local) : ∀ (binds : List (Str × Value)) (m : Str → Option Value), bindL kindOf binds m n = (binds.reverse.lookup n).or (m n)
  | [], m => by simp [bindL]
  | (k, v) :: r, m => by
    unfold bindL
    rw [bindL_get h r, List.reverse_cons, List.lookup_append]
    by_cases hk : n = k
    · subst hk
      rw [if_pos h]
      cases r.reverse.lookup n <;> simp
    · have hb : (n == k) = false := beq_eq_false_iff_ne.mpr hk
      cases hr : r.reverse.lookup n with
      | some u => simp
      | none =>
        simp only [Option.none_or, List.lookup, hb]
        split
        · exact if_neg hk
        · rfl
theorem bindC_get {kindOf : Str → Option NameKind} {n : Str} (h : ¬ kindOf n = some .local) : ∀ (binds : List (Str × Value)) (m : Str → Option Value), bindC kindOf binds m n = (binds.reverse.lookup n).or (m n)
  | [], m => by simp [bindC]
  | (k, v) :: r, m => by
    unfold bindC
    rw [bindC_get h r, List.reverse_cons, List.lookup_append]
    by_cases hk : n = k
    · subst hk
      rw [if_neg h]
      cases r.reverse.lookup n <;> simp
    · have hb : (n == k) = false := beq_eq_false_iff_ne.mpr hk
      cases hr : r.reverse.lookup n with
      | some u => simp
      | none =>
        simp only [Option.none_or, List.lookup, hb]
        split
        · rfl
        · exact if_neg hk

noncomputable def cellLed (cl : List (Str × Addr)) (args : List (Str × PV)) : List (Addr × MK) := cl.map fun nc => (nc.2, match args.lookup nc.1 with | some p => .cell p | none => .ecell)

section
variable {x : Act} {cs : Scope} {g : G} {hid : List (Addr × MK)} {m : List (Option PV)} {fp rest : List (Addr × MK)} {s : Shared}

theorem callee_repC {sc : Scope} {L fa : Addr} {qual : Str} {cd : Value} {cl : List (Str × Addr)} {h₁ : Heap} {mr₁ cm : Str → Option Value} {m₀ : List (Option PV)} {t : Nat} {ar : List (Str × PV)} (R : Rep x cs hid g ⟨m, fp ++ rest⟩ s)
    (hL : L = s.heap.objs.size) (hns : h₁.Ns L mr₁) (hk : ∀ b o, s.heap.get? b = some o → h₁.get? b = some o) (hl : Locs g sc.names m₀ mr₁)
    (hc : ∀ n c, (n, c) ∈ cl → h₁.IsCell c (cm n)) (hap : cl.Pairwise fun x y => x.2 ≠ y.2) (hab : ∀ n c, (n, c) ∈ cl → L < c)
    (hcm : ∀ n c, (n, c) ∈ cl → match ar.lookup n with | some p => ∃ v, cm n = some v ∧ Is g p v | none => cm n = none) :
    Rep (x.callee g (hideAll s.heap (fp.map (·.1))) L qual fa cd cl sc) sc [] g ⟨m₀, cellLed cl ar ++ fp⟩ { s with heap := h₁, toks := t } := by
  have R0 := callee_rep (sc := sc) (fa := fa) (qual := qual) (cd := cd) (cl := cl) (t := t) R hL hns hk hl
  have lt : ∀ e ∈ fp, e.1 < L := fun e he => by
    rw [hL]; exact R.led_lt e (by simp [he])
  refine ⟨R0.fr, R0.sub, R0.base, R0.own, R0.off, fun e he => ?_, ?_, R0.os, R0.gens, R0.sl⟩
  · rw [List.append_nil] at he
    rcases List.mem_append.mp he with h | h
    · obtain ⟨⟨n, c⟩, hm, rfl⟩ := List.mem_map.mp h
      have hLc := hab n c hm
      have hge : s.heap.objs.size ≤ c := by rw [← hL]; exact Nat.le_of_lt hLc
      refine ⟨Nat.ne_of_gt hLc, ?_, ?_, ?_⟩
      · show g c = none
        cases z : g c with
        | none => rfl
        | some o => exact absurd (Heap.lt_size (R.sub _ _ z)) (Nat.not_lt.mpr hge)
      · show (hideAll s.heap (fp.map (·.1))).get? c = none
        cases z : (hideAll s.heap (fp.map (·.1))).get? c with
        | none => rfl
        | some o => exact absurd (Heap.lt_size (of_hideAll _ z)) (Nat.not_lt.mpr hge)
      · obtain ⟨o, h1, h2⟩ := hc n c hm
        have := hcm n c hm
        show MIs g h₁ c (match ar.lookup n with | some p => .cell p | none => .ecell)
        cases z : ar.lookup n with
        | some p => rw [z] at this; obtain ⟨v, e1, i⟩ := this; exact ⟨o, v, h1, by rw [h2, e1], i⟩
        | none => rw [z] at this; exact ⟨o, h1, by rw [h2, this]⟩
    · exact R0.led e (by simp [h])
  · have hn := R0.nod
    simp only [List.append_nil] at hn ⊢
    rw [List.map_append]
    refine List.nodup_append.mpr ⟨?_, hn, fun a ha b hb e => ?_⟩
    · unfold cellLed
      rw [List.map_map]
      exact List.pairwise_map.mpr hap
    · obtain ⟨e1, he, rfl⟩ := List.mem_map.mp ha
      obtain ⟨⟨n, c⟩, hm, rfl⟩ := List.mem_map.mp he
      obtain ⟨e2, he2, rfl⟩ := List.mem_map.mp hb
      have h1 := lt e2 he2
      have h2 := hab n c hm
      have e' : c = e2.1 := e
      rw [← e'] at h1
      exact absurd h1 (Nat.lt_asymm h2)
end
end Wk
end
/- L21 -/
section
open PySem PySem.W PySem.Calls PyProof.Rows
namespace Wk
open Mine

theorem cell_keys {ns : List (Str × NameKind)} (n : Nat) {a : Str} : a ∈ (cellsFrom n ns []).map (·.1) ↔ a ∈ (cellsFrom 0 ns []).map (·.1) := by
  rw [cellsFrom_names ns n 0 [] [] rfl]
theorem lookup_isSome_of_mem {l : List (Str × Addr)} {a : Str} (h : a ∈ l.map (·.1)) : (l.lookup a).isSome = true := by
  cases e : l.lookup a with
  | some _ => rfl
  | none =>
    obtain ⟨p, hp, rfl⟩ := List.mem_map.mp h
    have := List.lookup_eq_none_iff.mp e p hp
    simp at this

theorem zip_none {α : Type} {n : Str} : ∀ {ps : List Str} {as : List α}, ps.length = as.length → (ps.zip as).lookup n = none → n ∉ ps
  | [], _, _, _ => List.not_mem_nil
  | _ :: _, [], h, _ => by simp at h
  | a :: ps, b :: as, h, e => by
    simp only [List.zip_cons_cons, List.lookup] at e
    split at e
    · cases e
    · rename_i hb
      intro hm
      rcases List.mem_cons.mp hm with rfl | hm
      · simp at hb
      · exact zip_none (by simpa using h) e hm
theorem zip_rev_none {α : Type} {n : Str} {ps : List Str} {as : List α} (h : n ∉ ps) : (ps.zip as).reverse.lookup n = none := by
  rw [List.lookup_eq_none_iff]
  intro p hp
  exact bne_iff_ne.mpr fun e => h (by rw [e]; exact (List.of_mem_zip (List.mem_reverse.mp hp)).1)

noncomputable def RetC (Qc : PV → List (Addr × MK) → Prop) (o : Out) (q' : Q) : Prop := match o with | .ret p => ∃ fp' dead, q'.led.Perm (fp' ++ dead) ∧ Qc p fp' | .nxt => ∃ fp' dead, q'.led.Perm (fp' ++ dead) ∧ Qc (.val .none) fp' | _ => False
/- a def whose parameters a block within it reads -/
theorem cl_defC {b : Bool} {w : World} {fa : Addr} {name qual : Str} {params : Arguments} {body₀ body : List Stmt} {sc₀ sc : Scope} {dV kV doc pm cdv ct oc : Value} {an od : Option Addr} {osl : Array (Option Value)}
    {ps : List Str} {args : List PV} {fp : List (Addr × MK)} {need : Nat} {Qc : PV → List (Addr × MK) → Prop} {m₀ : List (Option PV)}
    (hK : (KP w.params).lookup fa = some ⟨oc, od, .func (fnX name qual params body₀ sc₀ [] dV kV doc pm an cdv ct), osl⟩) (hB : body₀ = body) (hS : sc₀ = sc) (hcd : codeIn (KP w.params) cdv qual = true)
    (hb : ∀ (s : Shared) (vals : List Value), (KP w.params).In s.heap → vals.length = args.length → BindsTo s (fnX name qual params body₀ sc₀ [] dV kV doc pm an cdv ct) ⟨vals, []⟩ (ps.zip vals))
    (hpl : ps.length = args.length) (hps : ps.Nodup) (hloc : ∀ n ∈ ps, sc.names.lookup n = some .local ∨ (sc.names.lookup n = some .cell ∧ n ∈ (cellsFrom 0 sc.names []).map (·.1))) (hn : (sc.names.map (·.1)).Nodup)
    (hcn : ∀ n ∈ (cellsFrom 0 sc.names []).map (·.1), sc.names.lookup n = some .cell) (hnd : ((cellsFrom 0 sc.names []).map (·.1)).Nodup)
    (hco : sc.isCoroutine = false) (hgen : sc.isGenerator = false) (hk : sc.kind = .function)
    (hm : sc.names.map (fun nk => if nk.2 = .cell then none else (ps.zip args).lookup nk.1) = m₀)
    (hbody : ∀ (y : Act) (L : Addr), y.w = w → y.Ok sc → IsFn y sc → (b = true → y.hn = true) → need - 1 ≤ y.r → y.cl = cellsFrom (L + 1) sc.names [] → ∀ K : Out → Q → Prop, (∀ p q', (∃ fp' dead, q'.led.Perm (fp' ++ dead) ∧ Qc p fp') → K (.ret p) q') → (∀ q', (∃ fp' dead, q'.led.Perm (fp' ++ dead) ∧ Qc (.val .none) fp') → K .nxt q') → Exs y sc body ⟨m₀, cellLed (cellsFrom (L + 1) sc.names []) (ps.zip args) ++ fp⟩
      K noE)
    (hneed : 1 ≤ need) : Cl b (.ref fa) args fp need Qc w := by
  have hB := hB.symm; have hS := hS.symm; subst hB hS
  rintro x cs hid g m rest s vals E rfl O hb' hr R ia
  obtain ⟨mr, F, l⟩ := id R.fr
  have X : (KP x.w.params).In s.heap := O.kin.keeps F.keep
  have hlen := ia.length
  refine codeAny_call_function ?_ (X _ _ hK) rfl hco hgen rfl (codeRec_of X hcd) (hb s vals X hlen _ _ _ _ ?_)
  · have := O.depth; show x.A.depth < recursionLimit; unfold recursionLimit; lia
  refine wpAny_newFunctionEnv_cells hk ?_ fun env' he s' xC => ?_
  · intro y hy
    rcases hloc _ (List.of_mem_zip hy).1 with h | ⟨h1, h2⟩
    · exact .inl h
    · exact .inr ⟨h1, lookup_isSome_of_mem ((cell_keys _).mpr h2)⟩
  subst he
  refine ⟨(O.lim.keeps F.keep).keeps xC.toInCall.keep, codeAny_func ?_⟩
  obtain ⟨h₁, tk, rfl, _⟩ := xC.done
  have hk₁ := xC.toInCall.keep
  have hl : Locs g sc.names m₀ (bindL (fun n => sc.names.lookup n) (ps.zip vals) fun _ => none) := by
    intro i n k p e e'
    rw [← hm, List.getElem?_map, e] at e'
    simp only [Option.map_some, Option.some.injEq] at e'
    split at e'
    · cases e'
    · rename_i hkc
      obtain ⟨v, hv, iv⟩ := locs_binds ia hpl hps n p e'
      have hin : n ∈ ps := by
        have := List.mem_of_getElem? e
        by_cases h : n ∈ ps
        · exact h
        · rw [zip_rev_none h] at hv; cases hv
      have hkn : sc.names.lookup n = some .local := by
        rcases hloc n hin with h | ⟨h, _⟩
        · exact h
        · rw [names_get hn e] at h; cases h; exact absurd rfl hkc
      exact ⟨v, by rw [bindL_get hkn, hv]; rfl, iv⟩
  have hcm : ∀ n c, (n, c) ∈ cellsFrom (s.heap.objs.size + 1) sc.names [] → match (ps.zip args).lookup n with | some p => ∃ v, bindC (fun n => sc.names.lookup n) (ps.zip vals) (fun _ => none) n = some v ∧ Is g p v | none => bindC (fun n => sc.names.lookup n) (ps.zip vals) (fun _ => none) n = none := by
    intro n c hmem
    have hkn : ¬ sc.names.lookup n = some .local := by
      rw [hcn n ((cell_keys _).mp (List.mem_map_of_mem (f := (·.1)) hmem))]; decide
    rw [bindC_get hkn]
    cases e : (ps.zip args).lookup n with
    | some p => obtain ⟨v, hv, iv⟩ := locs_binds ia hpl hps n p e; exact ⟨v, by rw [hv]; rfl, iv⟩
    | none => rw [zip_rev_none (zip_none hpl e)]; rfl
  have hnd' : ((cellsFrom (s.heap.objs.size + 1) sc.names []).map (·.1)).Nodup := cellsFrom_names sc.names 0 (s.heap.objs.size + 1) [] [] rfl ▸ hnd
  have Oy := callee_ok (sc := sc) (L := s.heap.objs.size) (fa := fa) (qual := qual) (cd := cdv) (cl := cellsFrom (s.heap.objs.size + 1) sc.names []) O R (by lia) hk hn rfl
  have Ry := callee_repC (sc := sc) (fa := fa) (qual := qual) (cd := cdv) (cl := cellsFrom (s.heap.objs.size + 1) sc.names []) (t := tk) (ar := ps.zip args) R rfl xC.toInCall.ns hk₁ hl
    (fun n c hmem => xC.cell n c (lookup_of_mem_nodup hnd' hmem)) xC.apart xC.above hcm
  have hy := hbody (x.callee g (hideAll s.heap (fp.map (·.1))) s.heap.objs.size qual fa cdv (cellsFrom (s.heap.objs.size + 1) sc.names []) sc) s.heap.objs.size rfl Oy ⟨rfl, _, rfl⟩ hb' (by show need - 1 ≤ x.r - 1; lia) rfl (RetC Qc) (fun _ _ h => h) (fun _ h => h) [] g _ Ry
  refine wpAny_mono hy (fun f s' ⟨g', o, q', k, io, R', hq⟩ => ?_) fun _ _ e => e.elim
  have Rb := callee_back O rfl R R'
  cases o with
  | nxt =>
    cases io
    obtain ⟨fp', dead, hpm, hq⟩ := hq
    exact ⟨g', .val .none, _, k, is_val.mpr rfl, Rep.drop Rb (l' := fp' ++ rest) (r := dead) (by
      rw [List.append_assoc]
      exact (hpm.append_right rest).trans (by rw [List.append_assoc]; exact List.Perm.append_left _ List.perm_append_comm)), fp', rfl, hq⟩
  | brk => exact hq.elim
  | cnt => exact hq.elim
  | ret p =>
    obtain ⟨v, rfl, i⟩ := io
    obtain ⟨fp', dead, hpm, hq⟩ := hq
    exact ⟨g', p, _, k, i, Rep.drop Rb (l' := fp' ++ rest) (r := dead) (by
      rw [List.append_assoc]
      exact (hpm.append_right rest).trans (by rw [List.append_assoc]; exact List.Perm.append_left _ List.perm_append_comm)), fp', rfl, hq⟩
end Wk
end
/- L22 -/
section
open PySem PySem.W PySem.Calls PyProof.Rows
namespace Wk
open Mine
section
variable {x : Act} {cs : Scope} {E : Er} {q : Q} {Qn : PV → Q → Prop} {hid : List (Addr × MK)} {g : G}

/- a property of an object of the ledger: its function is called -/
theorem get_propL {b : Bool} {a d C p fget : Addr} {od : List Value} {fs : List (Str × PV)} {fp rest : List (Addr × MK)} {need : Nat} {name : Str} {Qc : PV → List (Addr × MK) → Prop} (O : x.Ok cs) (P : PlainCls (KP x.w.params) C)
    (ha : findIn (KP x.w.params) (.ref C) name = some (some (.ref p))) (hn : specialIn (KP x.w.params) (.ref p) "__get__" = some (some (.builtin "property.__get__"))) (ht : takesIn (KP x.w.params) (.ref p) = some true) (hp : recIn (KP x.w.params) p "property" = some (.ref fget :: od))
    (h1 : (a, MK.inst C d) ∈ q.led) (h2 : (d, MK.ns fs) ∈ q.led) (hl : q.led.Perm (fp ++ rest)) (hr : need + 1 ≤ x.r) (hb : b = true → x.hn = true)
    (Ct : Cl b (.ref fget) [.val (.ref a)] fp need Qc x.w) (h : ∀ r fp', Qc r fp' → (∃ a', r = .val (.ref a')) ∧ Qn r ⟨q.m, fp' ++ rest⟩) : Get x cs (.val (.ref a)) name q Qn E := fun hid g s u R i => by
  rw [is_val.mp i]
  obtain ⟨_, _, _, hA⟩ := R.led _ (List.mem_append_left _ h1)
  obtain ⟨_, _, _, o, es, n, hd, ho, hsz, hk, hnn, f⟩ := R.led _ (List.mem_append_left _ h2)
  have X := R.inK O
  obtain ⟨cd, hc, hdct⟩ := P.cls
  refine get_bind X (instAt hA hd) P.ga (findObj_data (by rw [hc]; rfl) ha hn ht) P.gt (wpAny_call (prop_get (s := { s with toks := s.toks + 1 }) X hp ?_))
  have R' : Rep x cs hid g ⟨q.m, fp ++ rest⟩ { s with toks := s.toks + 1 } := Rep.perm (l := q.led) (R.tok _) hl
  have O' : (x.at x.A.in1 1).Ok cs := O.at rfl rfl rfl (by simp) (by show x.A.units + 1 ≤ _; lia) (by lia)
  have key := Ct (x.at x.A.in1 1) cs hid g q.m rest _ [.ref a] (fun _ _ => False) rfl O' hb (by show need ≤ x.r - 1; lia) (R'.at x.A.in1 1) (isL_cons.mpr ⟨_, _, rfl, is_val.mpr rfl, isL_nil.mpr rfl⟩)
  refine codeAny_mono key fun r s' z => ?_
  rcases r with e | (v | _ | _ | _)
  · exact z.elim
  all_goals try exact z
  obtain ⟨g', pv, q', a1, b1, c1, fp', e1, hq⟩ := z
  subst e1
  obtain ⟨⟨a', rfl⟩, hq'⟩ := h pv fp' hq
  rw [is_val.mp b1]
  exact wpAny_pure ⟨g', _, _, a1, is_val.mpr rfl, c1.back, hq'⟩
end
end Wk
end
/- L23 -/
section
open PySem PySem.W PySem.Calls PyProof.Rows
namespace Wk
open Mine
section
variable {x : Act} {cs : Scope} {E : Er} {q : Q} {Qn : PV → Q → Prop} {Qb : Bool → Q → Prop} {Qf : Out → Q → Prop} {Qu : Q → Prop} {hid : List (Addr × MK)} {g : G}

theorem xs_st {st rest} (h : Ex x cs st q (Cont x cs rest Qf E) E) : Exs x cs (st :: rest) q Qf E := xs_cons h
/- a statement with a word about the state behind it -/
noncomputable def Mid (S : Q → Prop) (Qf : Out → Q → Prop) (o : Out) (q : Q) : Prop := match o with
  | .nxt => S q
  | o => Qf o q
theorem mid_nxt {S : Q → Prop} (h : S q) : Mid S Qf .nxt q := h
theorem mid_ret {S : Q → Prop} {p} (h : Qf (.ret p) q) : Mid S Qf (.ret p) q := h
theorem xs_mid {st rest} (S : Q → Prop) (h : Ex x cs st q (Mid S Qf) E) (hr : ∀ q', S q' → Exs x cs rest q' Qf E) : Exs x cs (st :: rest) q Qf E := xs_cons fun hid g s R =>
  df_k (h hid g s R) fun f s' g' o q' a b c d => ⟨g', o, q', a, b, c, by cases o <;> first | exact hr _ d | exact d⟩
theorem br_ite {b : Bool} {A B : Prop} (h : b = true → A) (h' : b = false → B) : if b = true then A else B := by
  cases b with
  | true => exact h rfl
  | false => exact h' rfl
theorem ite_t {b : Bool} {A B : Prop} (hb : b = true) (h : A) : if b = true then A else B := by rw [if_pos hb]; exact h
theorem ite_f {b : Bool} {A B : Prop} (hb : b = false) (h : B) : if b = true then A else B := by rw [if_neg (by rw [hb]; decide)]; exact h
theorem ev_callG {n : Str} {np : Pos} {es pos} (O : x.Ok cs) (i : Nat) {nk} {v : Value} (hi' : cs.names[i]? = some nk) (hn' : nk = (n, .globalImplicit)) (e : nsIn (KP x.w.params) mainGlobals n = some (some v)) (hk : keepOk (KP x.w.params) v = true)
    (h : Evs x cs es q (fun ps q2 => CallR x cs v ps q2 Qn E) E) (hd : (n == ("__debug__" : Str)) = false)
    (hpl : ∀ pos env, (backTo pos (starEach es env)).any (·.1) = false) : Ev x cs (.Call (.Name n np) es [] pos) q Qn E :=
  ev_call O (ev_G O i hi' hn' e ⟨v, rfl, hk, h⟩ hd) hpl
theorem ev_callB {n : Str} {np : Pos} {es pos} (O : x.Ok cs) (i : Nat) {nk} {v : Value} (hi' : cs.names[i]? = some nk) (hn' : nk = (n, .globalImplicit)) (e : nsIn (KP x.w.params) mainGlobals n = some none) (hv : bootBuiltins n = some v) (hn : n ≠ "__name__") (hk : keepOk (KP x.w.params) v = true)
    (h : Evs x cs es q (fun ps q2 => CallR x cs v ps q2 Qn E) E) (hd : (n == ("__debug__" : Str)) = false)
    (hpl : ∀ pos env, (backTo pos (starEach es env)).any (·.1) = false) : Ev x cs (.Call (.Name n np) es [] pos) q Qn E :=
  ev_call O (ev_B O i hi' hn' e hv hn ⟨v, rfl, hk, h⟩ hd) hpl
theorem asgs_cons {e es p ps} (h : Asg x cs e p q (fun q1 => Asgs x cs es ps q1 Qu E) E) : Asgs x cs (e :: es) (p :: ps) q Qu E := h
theorem asgs_nil (h : Qu q) : Asgs x cs [] [] q Qu E := h
theorem ev_append {o : Expr} {apos : Pos} {e : Expr} {pos} (O : x.Ok cs) (h : Ev x cs o q (fun a q1 => ∃ d xs, a = .val (.ref d) ∧ (d, MK.lst xs) ∈ q1.led ∧
      Ev x cs e q1 (fun p q2 => ∃ (k : Nat) (ys : List PV), q2.led[k]? = some (d, MK.lst ys) ∧ ys.length ≤ 100000 ∧ Qn (.val .none) ⟨q2.m, q2.led.set k (d, .lst (ys ++ [p]))⟩) E) E)
    (pl : Env → Sem Bool)
    (he : ∀ env, eval (.Call (.Attribute o "append" apos) [e] [] pos) env = (do
      let ov ← eval o env
      standAt apos.atName
      let (f, first) ← holding [ov] (getMethod ov "append" (pl env))
      callWith pos f first (backTo pos (starEach [e] env)) (backToKw pos (keywordEach [] env))))
    (he2 : ∀ env, starEach (e :: []) env = (false, eval e env) :: starEach [] env)
    (hpl : ∀ pos env, (backTo pos (starEach [e] env)).any (·.1) = false) : Ev x cs (.Call (.Attribute o "append" apos) [e] [] pos) q Qn E := by
  refine ev_meth O (h.imp fun a q1 ⟨d, xs, ea, hm, he⟩ => ?_) pl he hpl
  subst ea
  refine mth_append hm ⟨rfl, evs_cons (he.imp fun p q2 ⟨k, ys, h1, h2, h3⟩ => evs_nil ?_) he2⟩
  exact call_append k h1 h2 h3
theorem ev_S {s : String} {k pos} (h : Qn (.str (Pl.cc s)) q) : Ev x cs (.Constant (.str (Str.ofString s)) k pos) q Qn E := ev_str (Str.ofString_eq_toList s) h
theorem part_some {e : Expr} {k : Option Int → Q → Prop} (h : Ev x cs e q (fun p q' => ∃ i, p = .int i ∧ k (some i) q') E) : Part x cs (some e) q k E := h
theorem part_none {k : Option Int → Q → Prop} (h : k none q) : Part x cs none q k E := h
theorem int_ex {P : Int → Prop} {a : Int} (h : P a) : ∃ i, PV.int a = .int i ∧ P i := ⟨a, rfl, h⟩
theorem len_ok {n : Nat} {P : Prop} (hn : n ≤ 1000) (h : P) : n ≤ 1000 ∧ P := ⟨hn, h⟩
theorem none_ok {P : Prop} (h : P) : PV.val Value.none = .val .none ∧ P := ⟨rfl, h⟩
theorem exs_led {ss} (l : List (Addr × MK)) (h : q.led = l) (k : Exs x cs ss ⟨q.m, l⟩ Qf E) : Exs x cs ss q Qf E := by subst h; exact k
theorem clos_of {l cl : List (Str × Addr)} {scope : Scope} (h : x.cl = l) (hc : closureFor scope { (x.env cs) with cells := l } = pure cl) : closureFor scope (x.env cs) = pure cl := by subst h; exact hc
theorem tests_nil {Qb : Bool → Q → Prop} (h : Qb true q) : Tests x cs [] q Qb E := h
theorem tests_one {c} {Qb : Bool → Q → Prop} (h : Tst x cs c q Qb E) : Tests x cs [c] q Qb E := h
/- expressions that come to a value and change nothing -/
noncomputable def Val (x : Act) (cs : Scope) (e : Expr) (q : Q) (p : PV) : Prop := ∀ (Qn : PV → Q → Prop) (E : Er), Qn p q → Ev x cs e q Qn E
noncomputable def Bol (x : Act) (cs : Scope) (e : Expr) (q : Q) (b : Bool) : Prop := ∀ (Qb : Bool → Q → Prop) (E : Er), Qb b q → Tst x cs e q Qb E
noncomputable def OpV (x : Act) (cs : Scope) (t : Value → Value → Sem Value) (a b : PV) (q : Q) (p : PV) : Prop := ∀ (Qn : PV → Q → Prop) (E : Er), Qn p q → Op2 x cs t a b q Qn E
noncomputable def PartV (x : Act) (cs : Scope) (o : Option Expr) (q : Q) (l : Option Int) : Prop := ∀ (k : Option Int → Q → Prop) (E : Er), k l q → Part x cs o q k E
noncomputable def SlcV (x : Act) (cs : Scope) (T : String) (a : PV) (l u : Option Int) (q : Q) (p : PV) : Prop := ∀ (Qn : PV → Q → Prop) (E : Er), Qn p q → Slc x cs T a l u q Qn E
noncomputable def CallV (x : Act) (cs : Scope) (f : Value) (ps : List PV) (q : Q) (p : PV) : Prop := ∀ (Qn : PV → Q → Prop) (E : Er), Qn p q → CallR x cs f ps q Qn E
theorem va_L (O : x.Ok cs) (i : Nat) {n : Str} {nk} {p : PV} {pos} (hi' : cs.names[i]? = some nk) (hn' : nk = (n, .local)) (hm : q.m[i]? = some (some p)) (hd : (n == ("__debug__" : Str)) = false) :
    Val x cs (.Name n pos) q p := fun _ _ h => ev_L O i hi' hn' hm h hd
theorem va_int {i k pos} : Val x cs (.Constant (.int i) k pos) q (.int i) := fun _ _ h => ev_int h
theorem va_byt {b k pos} : Val x cs (.Constant (.bytes b) k pos) q (.byt b) := fun _ _ h => ev_byt h
theorem va_none {k pos} : Val x cs (.Constant .none k pos) q (.val .none) := fun _ _ h => ev_none h
theorem va_bool {b k pos} : Val x cs (.Constant (.bool b) k pos) q (.val (.bool b)) := fun _ _ h => ev_bool h
theorem va_S {s : String} {k pos} : Val x cs (.Constant (.str (Str.ofString s)) k pos) q (.str (Pl.cc s)) := fun _ _ h => ev_S h
theorem va_bin {l op r pos a b p} (hl : Val x cs l q a) (hr : Val x cs r q b) (ho : OpV x cs (binaryOp op) a b q p) : Val x cs (.BinOp l op r pos) q p := fun _ _ h => ev_bin (hl _ _ (hr _ _ (ho _ _ h)))
theorem va_cmp {l op r pos a b p} (hl : Val x cs l q a) (hr : Val x cs r q b) (ho : OpV x cs (compareOp op) a b q p) (hm : behindInMarks op r = false) : Val x cs (.Compare l [op] [r] pos) q p := fun _ _ h => ev_cmp (hl _ _ (hr _ _ (ho _ _ h))) hm
theorem va_sub {l r pos a b p} (hl : Val x cs l q a) (hr : Val x cs r q b) (ho : OpV x cs (subscriptTail l r) a b q p) : Val x cs (.Subscript l r pos) q p := fun _ _ h => ev_sub (hl _ _ (hr _ _ (ho _ _ h)))
theorem pv_none : PartV x cs none q none := fun _ _ h => h
theorem pv_some {e i} (hv : Val x cs e q (.int i)) : PartV x cs (some e) q (some i) := fun _ _ h => part_some (hv _ _ ⟨i, rfl, h⟩)
theorem va_slc (T : String) {id value lo hi p' pos a l u p} (hT : typeLookup (.type T) "__getitem__" = pure (some (.builtin id))) (hv : Val x cs value q a) (h1 : PartV x cs lo q l) (h2 : PartV x cs hi q u) (h3 : SlcV x cs T a l u q p)
    (ht : ∀ o r, letTemporaryGo value o r = pure ()) : Val x cs (.Subscript value (.Slice lo hi none p') pos) q p := fun _ _ h => ev_slc T hT (hv _ _ (h1 _ _ (h2 _ _ (h3 _ _ h)))) ht
theorem slv_byt {a : List UInt8} {l u : Option Int} (hz : a.length ≤ 16777216) : SlcV x cs "bytes" (.byt a) l u q (.byt (cut a l u)) := fun _ _ h => sl_byt hz h
theorem va_callB {n : Str} {np : Pos} {e pos} (O : x.Ok cs) (i : Nat) {nk} {v : Value} {a p : PV} (hi' : cs.names[i]? = some nk) (hn' : nk = (n, .globalImplicit)) (e' : nsIn (KP x.w.params) mainGlobals n = some none) (hv : bootBuiltins n = some v) (hn : n ≠ "__name__") (hk : keepOk (KP x.w.params) v = true)
    (ha : Val x cs e q a) (hc : CallV x cs v [a] q p) (he : ∀ env, starEach [e] env = (false, eval e env) :: starEach [] env) (hd : (n == ("__debug__" : Str)) = false)
    (hpl : ∀ pos env, (backTo pos (starEach [e] env)).any (·.1) = false) : Val x cs (.Call (.Name n np) [e] [] pos) q p := fun Qn E h => ev_callB O i hi' hn' e' hv hn hk (evs_cons (ha _ _ (evs_nil (hc _ _ h))) he) hd hpl
theorem bl_cmp {l op r pos a b c} (hl : Val x cs l q a) (hr : Val x cs r q b) (ho : OpV x cs (compareOp op) a b q (.val (.bool c))) (hm : behindInMarks op r = false) : Bol x cs (.Compare l [op] [r] pos) q c := fun _ _ h => ts_cmp (hl _ _ (hr _ _ (ho _ _ (tr_bool h)))) hm
theorem bl_not {e pos b} (h : Bol x cs e q b) : Bol x cs (.UnaryOp .Not e pos) q (!b) := fun _ _ k => ts_not (h _ _ k)
theorem bl_bool {e b} (h : Val x cs e q (.val (.bool b))) (he : ∀ env whole, isTrue e env whole = (do let v ← whole; standAt e.pos; holding [v] (truthy v))) : Bol x cs e q b := fun _ _ k => ts_plain (h _ _ (tr_bool k)) he
theorem ev_of {e p} (hv : Val x cs e q p) (h : Qn p q) : Ev x cs e q Qn E := hv _ _ h
theorem ts_of {e b} (hv : Bol x cs e q b) (h : Qb b q) : Tst x cs e q Qb E := hv _ _ h
theorem ts_cmpV {l op r pos a b} (hl : Val x cs l q a) (hr : Val x cs r q b) (h : Op2 x cs (compareOp op) a b q (fun c q3 => Tru x cs c q3 Qb E) E) (hm : behindInMarks op r = false) : Tst x cs (.Compare l [op] [r] pos) q Qb E := ts_cmp (hl _ _ (hr _ _ h)) hm
theorem ev_binV {l op r pos a b} (hl : Val x cs l q a) (hr : Val x cs r q b) (h : Op2 x cs (binaryOp op) a b q Qn E) : Ev x cs (.BinOp l op r pos) q Qn E := ev_bin (hl _ _ (hr _ _ h))
theorem ev_subV {l r pos a b} (hl : Val x cs l q a) (hr : Val x cs r q b) (h : Op2 x cs (subscriptTail l r) a b q Qn E) : Ev x cs (.Subscript l r pos) q Qn E := ev_sub (hl _ _ (hr _ _ h))
theorem ev_attrV {n attr np pos a} (hv : Val x cs (.Name n np) q a) (h : Get x cs a attr q Qn E) : Ev x cs (.Attribute (.Name n np) attr pos) q Qn E := ev_attr (hv _ _ h)
theorem evs_consV {e rest p} {Ql : List PV → Q → Prop} (hv : Val x cs e q p) (h : Evs x cs rest q (fun ps q2 => Ql (p :: ps) q2) E) (he : ∀ env, starEach (e :: rest) env = (false, eval e env) :: starEach rest env) : Evs x cs (e :: rest) q Ql E := evs_cons (hv _ _ h) he
theorem part_someV {e i} {k : Option Int → Q → Prop} (hv : Val x cs e q (.int i)) (h : k (some i) q) : Part x cs (some e) q k E := part_some (hv _ _ ⟨i, rfl, h⟩)
theorem ts_andB {e rest pos b} (hb : Bol x cs e q b) (h : if b then Tst x cs (.BoolOp .And rest pos) q Qb E else Qb false q) : Tst x cs (.BoolOp .And (e :: rest) pos) q Qb E := ts_and (hb _ _ h)
theorem ts_orB {e rest pos b} (hb : Bol x cs e q b) (h : if b then Qb true q else Tst x cs (.BoolOp .Or rest pos) q Qb E) : Tst x cs (.BoolOp .Or (e :: rest) pos) q Qb E := ts_or (hb _ _ h)
theorem ex_ifB {test body orelse pos b} (hb : Bol x cs test q b) (h : if b then Exs x cs body q Qf E else Exs x cs orelse q Qf E) : Ex x cs (.If test body orelse pos) q Qf E := ex_if (hb _ _ h)
theorem ex_retV {e pos p} (hv : Val x cs e q p) (h : Qf (.ret p) q) : Ex x cs (.Return (some e) pos) q Qf E := ex_ret (hv _ _ h)
theorem ex_asgV {n nk pos' value pos a} (O : x.Ok cs) (i : Nat) (hi' : cs.names[i]? = some nk) (hn' : nk = (n, .local)) (hv : Val x cs value q a) (h : Qf .nxt ⟨q.m.set i (some a), q.led⟩)
    (hs : swapsWith value (some (.Name n pos')) pos.line (x.env cs) = pure false) : Ex x cs (.Assign [.Name n pos'] value pos) q Qf E := ex_asg O i hi' hn' (hv _ _ h) hs
theorem ex_augV {n nk pos' op value pos p a r} (O : x.Ok cs) (i : Nat) (hi' : cs.names[i]? = some nk) (hn' : nk = (n, .local)) (hm : q.m[i]? = some (some p)) (hv : Val x cs value q a) (ho : OpV x cs (inplaceOp op) p a q r)
    (h : Qf .nxt ⟨q.m.set i (some r), q.led⟩) : Ex x cs (.AugAssign (.Name n pos') op value pos) q Qf E := ex_aug O i hi' hn' hm (hv _ _ (ho _ _ h))
theorem ex_asgAttrV {o attr pos' value pos p a} (hv : Val x cs value q p) (ho : Val x cs o q a) (h : SetA x cs a attr p q (Qf .nxt) E)
    (hs : swapsWith value (some (.Attribute o attr pos')) pos.line (x.env cs) = pure false) : Ex x cs (.Assign [.Attribute o attr pos'] value pos) q Qf E := ex_asgAttr (hv _ _ (ho _ _ h)) hs
section
variable {a b : Int}
theorem ov_add : OpV x cs (binaryOp .Add) (.int a) (.int b) q (.int (a + b)) := fun _ _ h => op_add h
theorem ov_sub : OpV x cs (binaryOp .Sub) (.int a) (.int b) q (.int (a - b)) := fun _ _ h => op_sub h
theorem ov_iadd : OpV x cs (inplaceOp .Add) (.int a) (.int b) q (.int (a + b)) := fun _ _ h => op_iadd h
theorem ov_eq : OpV x cs (compareOp .Eq) (.int a) (.int b) q (.val (.bool (a == b))) := fun _ _ h => op_eq h
theorem ov_ne : OpV x cs (compareOp .NotEq) (.int a) (.int b) q (.val (.bool (a != b))) := fun _ _ h => op_ne h
theorem ov_lt : OpV x cs (compareOp .Lt) (.int a) (.int b) q (.val (.bool (decide (a < b)))) := fun _ _ h => op_lt h
theorem ov_le : OpV x cs (compareOp .LtE) (.int a) (.int b) q (.val (.bool (decide (a ≤ b)))) := fun _ _ h => op_le h
theorem ov_gt : OpV x cs (compareOp .Gt) (.int a) (.int b) q (.val (.bool (decide (a > b)))) := fun _ _ h => op_gt h
theorem ov_ge : OpV x cs (compareOp .GtE) (.int a) (.int b) q (.val (.bool (decide (a ≥ b)))) := fun _ _ h => op_ge h
end
section
variable {a b : List UInt8}
theorem ov_eqB : OpV x cs (compareOp .Eq) (.byt a) (.byt b) q (.val (.bool (a == b))) := fun _ _ h => op_eqB h
theorem ov_neB : OpV x cs (compareOp .NotEq) (.byt a) (.byt b) q (.val (.bool (a != b))) := fun _ _ h => op_neB h
theorem ov_addB (hz : a.length + b.length ≤ 16777216) : OpV x cs (binaryOp .Add) (.byt a) (.byt b) q (.byt (a ++ b)) := fun _ _ h => op_addB hz h
theorem ov_iaddB (hz : a.length + b.length ≤ 16777216) : OpV x cs (inplaceOp .Add) (.byt a) (.byt b) q (.byt (a ++ b)) := fun _ _ h => op_iaddB hz h
theorem ov_itemB {value slice : Expr} {k : Int} (hz : a.length ≤ 16777216) (h0 : 0 ≤ k) (h1 : k < a.length)
    (hs : ∀ t u, subscripted slice false (.bytes a.toArray t) (.int k u) = operate [.bytes a.toArray t, .int k u] (getItem (.bytes a.toArray t) (.int k u)))
    (ht : ∀ t r, letTemporaryGo value (.bytes a.toArray t) r = pure ()) : OpV x cs (subscriptTail value slice) (.byt a) (.int k) q (.int ((a.getD k.toNat 0).toNat : Nat)) := fun _ _ h => op_itemB hz h0 h1 h hs ht
theorem ov_inIB {i : Int} (h0 : 0 ≤ i) (h1 : i < 256) : OpV x cs (compareOp .In) (.int i) (.byt b) q (.val (.bool (b.contains i.toNat.toUInt8))) := fun _ _ h => op_inIB h0 h1 h
theorem cv_lenB (hz : b.length ≤ 16777216) : CallV x cs (.builtin "len") [.byt b] q (.int (b.length : Nat)) := fun _ _ h => call_lenB hz h
theorem cv_lenL {xs : List PV} (hz : xs.length ≤ 16777216) : CallV x cs (.builtin "len") [.lst xs] q (.int (xs.length : Nat)) := fun _ _ h => call_lenL hz h
end
section
variable {a b : List Nat}
theorem ov_eqS : OpV x cs (compareOp .Eq) (.str a) (.str b) q (.val (.bool (a == b))) := fun _ _ h => op_eqS h
theorem ov_neS : OpV x cs (compareOp .NotEq) (.str a) (.str b) q (.val (.bool (a != b))) := fun _ _ h => op_neS h
theorem ov_addS (hz : a.length + b.length ≤ 16777216) : OpV x cs (binaryOp .Add) (.str a) (.str b) q (.str (a ++ b)) := fun _ _ h => op_addS hz h
theorem cv_lenS (hz : a.length ≤ 16777216) : CallV x cs (.builtin "len") [.str a] q (.int (a.length : Nat)) := fun _ _ h => call_lenS hz h
theorem slv_str {l u : Option Int} (hz : a.length ≤ 16777216) : SlcV x cs "str" (.str a) l u q (.str (cut a l u)) := fun _ _ h => sl_str hz h
end
theorem ov_isN {a} : OpV x cs (compareOp .Is) a (.val .none) q (.val (.bool a.isNone)) := fun _ _ h => op_isN h
theorem ov_isnotN {a} : OpV x cs (compareOp .IsNot) a (.val .none) q (.val (.bool (!a.isNone))) := fun _ _ h => op_isnotN h
theorem ev_slcB {value lo hi p pos} {a : List UInt8} (hv : Val x cs value q (.byt a)) (h : Part x cs lo q (fun l q2 => Part x cs hi q2 (fun u q3 => Slc x cs "bytes" (.byt a) l u q3 Qn E) E) E)
    (ht : ∀ o r, letTemporaryGo value o r = pure ()) : Ev x cs (.Subscript value (.Slice lo hi none p) pos) q Qn E := ev_slc "bytes" FB.slot_bytes_getitem.lookup (hv _ _ h) ht
theorem va_slcB {value lo hi p' pos l u} {a : List UInt8} (hv : Val x cs value q (.byt a)) (h1 : PartV x cs lo q l) (h2 : PartV x cs hi q u) (hz : a.length ≤ 16777216)
    (ht : ∀ o r, letTemporaryGo value o r = pure ()) : Val x cs (.Subscript value (.Slice lo hi none p') pos) q (.byt (cut a l u)) := va_slc "bytes" FB.slot_bytes_getitem.lookup hv h1 h2 (slv_byt hz) ht
theorem va_slcS {value lo hi p' pos l u} {a : List Nat} (hv : Val x cs value q (.str a)) (h1 : PartV x cs lo q l) (h2 : PartV x cs hi q u) (hz : a.length ≤ 16777216)
    (ht : ∀ o r, letTemporaryGo value o r = pure ()) : Val x cs (.Subscript value (.Slice lo hi none p') pos) q (.str (cut a l u)) := va_slc "str" F.slot_str_getitem.lookup hv h1 h2 (slv_str hz) ht
/- loops whose body is shown for every post that holds where it should -/
theorem ex_whileK {test body pos} (E' : Er) (hE : Pass x cs E' E) (I : Nat → Q → Prop)
    (turn : ∀ n q', I n q' → ∀ K : Out → Q → Prop, (∀ q, (∃ m, m < n ∧ I m q) → K .nxt q) → (∀ q, (∃ m, m < n ∧ I m q) → K .cnt q) → (∀ q, Qf .nxt q → K .brk q) → (∀ p q, Qf (.ret p) q → K (.ret p) q) →
      Tst x cs test q' (fun b q2 => if b then Exs x cs body q2 K E' else Qf .nxt q2) E')
    (n : Nat) (h : I n q) : Ex x cs (.While test body [] pos) q Qf E := ex_while E' hE I (fun n q' h => turn n q' h (WPost I Qf n) (fun _ h => h) (fun _ h => h) (fun _ h => h) (fun _ _ h => h)) n h
theorem ex_forK {target iter body pos} (hh : x.A.handled = none) (E' : Er) (hE : Pass x cs E' E) (els : PV → Q → List PV) (I : PV → Q → Nat → Q → Prop)
    (h : Ev x cs iter q (fun p q1 => Iter x cs q1 p (els p q1) ∧ I p q1 0 q1 ∧
      (∀ i el q2, (els p q1)[i]? = some el → I p q1 i q2 → ∀ K : Out → Q → Prop, (∀ q, I p q1 (i + 1) q → K .nxt q) → (∀ q, I p q1 (i + 1) q → K .cnt q) → (∀ q, Qf .nxt q → K .brk q) → (∀ v q, Qf (.ret v) q → K (.ret v) q) →
        Asg x cs target el q2 (fun q3 => Exs x cs body q3 K E') E') ∧
      (∀ q2, I p q1 (els p q1).length q2 → Qf .nxt q2)) E)
    (hs : ∀ v, foldedSetIterable iter (x.env cs) v = pure v) : Ex x cs (.For target iter body [] pos) q Qf E :=
  ex_for hh E' hE els I (h.imp fun p q1 z => ⟨z.1, z.2.1, fun i el q2 a b => z.2.2.1 i el q2 a b (FPost (I p q1 (i + 1)) Qf) (fun _ h => h) (fun _ h => h) (fun _ h => h) (fun _ _ h => h), z.2.2.2⟩) hs
/- a name's place, found by trying -/
theorem ix2 {α : Type} {l : List α} {a : α} (k : Nat) {b : α} (h : l[k]? = some b) (h' : b = a) : l[k]? = some a := h.trans (congrArg some h')
theorem va_Li (O : x.Ok cs) {i : Nat} {n : Str} {p : PV} {pos} (hi : cs.names[i]? = some (n, .local)) (hm : q.m[i]? = some (some p)) (hd : (n == ("__debug__" : Str)) = false) : Val x cs (.Name n pos) q p := va_L O i hi rfl hm hd
theorem ev_Ci (O : x.Ok cs) {i : Nat} {n : Str} {c : Addr} {p : PV} {pos} (hi : cs.names[i]? = some (n, .cell)) (hc : x.cl.lookup n = some c) (hm : (c, MK.cell p) ∈ q.led) (h : Qn p q) (hd : (n == ("__debug__" : Str)) = false) : Ev x cs (.Name n pos) q Qn E := ev_C O i hi rfl hc hm h hd
theorem ex_asgi {n pos' value pos} (O : x.Ok cs) {i : Nat} (hi : cs.names[i]? = some (n, .local)) (h : Ev x cs value q (fun a q1 => Qf .nxt ⟨q1.m.set i (some a), q1.led⟩) E)
    (hs : swapsWith value (some (.Name n pos')) pos.line (x.env cs) = pure false) : Ex x cs (.Assign [.Name n pos'] value pos) q Qf E := ex_asg O i hi rfl h hs
theorem ex_asgVi {n pos' value pos a} (O : x.Ok cs) {i : Nat} (hi : cs.names[i]? = some (n, .local)) (hv : Val x cs value q a) (h : Qf .nxt ⟨q.m.set i (some a), q.led⟩)
    (hs : swapsWith value (some (.Name n pos')) pos.line (x.env cs) = pure false) : Ex x cs (.Assign [.Name n pos'] value pos) q Qf E := ex_asgV O i hi rfl hv h hs
theorem ex_augi {n pos' op value pos p} (O : x.Ok cs) {i : Nat} (hi : cs.names[i]? = some (n, .local)) (hm : q.m[i]? = some (some p))
    (h : Ev x cs value q (fun a q1 => Op2 x cs (inplaceOp op) p a q1 (fun r q2 => Qf .nxt ⟨q2.m.set i (some r), q2.led⟩) E) E) : Ex x cs (.AugAssign (.Name n pos') op value pos) q Qf E := ex_aug O i hi rfl hm h
theorem ex_augVi {n pos' op value pos p a r} (O : x.Ok cs) {i : Nat} (hi : cs.names[i]? = some (n, .local)) (hm : q.m[i]? = some (some p)) (hv : Val x cs value q a) (ho : OpV x cs (inplaceOp op) p a q r)
    (h : Qf .nxt ⟨q.m.set i (some r), q.led⟩) : Ex x cs (.AugAssign (.Name n pos') op value pos) q Qf E := ex_augV O i hi rfl hm hv ho h
theorem as_Li {n pos p} (O : x.Ok cs) {i : Nat} (hi : cs.names[i]? = some (n, .local)) (h : Qu ⟨q.m.set i (some p), q.led⟩) : Asg x cs (.Name n pos) p q Qu E := as_L O i hi rfl h
theorem ev_callBi {n : Str} {np : Pos} {es pos} (O : x.Ok cs) {i : Nat} {v : Value} (hi : cs.names[i]? = some (n, .globalImplicit)) (e : nsIn (KP x.w.params) mainGlobals n = some none) (hv : bootBuiltins n = some v) (hn : n ≠ "__name__") (hk : keepOk (KP x.w.params) v = true)
    (h : Evs x cs es q (fun ps q2 => CallR x cs v ps q2 Qn E) E) (hd : (n == ("__debug__" : Str)) = false)
    (hpl : ∀ pos env, (backTo pos (starEach es env)).any (·.1) = false) : Ev x cs (.Call (.Name n np) es [] pos) q Qn E := ev_callB O i hi rfl e hv hn hk h hd hpl
theorem va_callBi {n : Str} {np : Pos} {e pos} (O : x.Ok cs) {i : Nat} {v : Value} {a p : PV} (hi : cs.names[i]? = some (n, .globalImplicit)) (e' : nsIn (KP x.w.params) mainGlobals n = some none) (hv : bootBuiltins n = some v) (hn : n ≠ "__name__") (hk : keepOk (KP x.w.params) v = true)
    (ha : Val x cs e q a) (hc : CallV x cs v [a] q p) (he : ∀ env, starEach [e] env = (false, eval e env) :: starEach [] env) (hd : (n == ("__debug__" : Str)) = false)
    (hpl : ∀ pos env, (backTo pos (starEach [e] env)).any (·.1) = false) : Val x cs (.Call (.Name n np) [e] [] pos) q p := va_callB O i hi rfl e' hv hn hk ha hc he hd hpl
theorem op_of {t : Value → Value → Sem Value} {a b p : PV} (ho : OpV x cs t a b q p) (h : Qn p q) : Op2 x cs t a b q Qn E := ho _ _ h
theorem call_of {f : Value} {ps : List PV} {p : PV} (hc : CallV x cs f ps q p) (h : Qn p q) : CallR x cs f ps q Qn E := hc _ _ h
theorem ex_asgVm {n pos' value pos a m led} (O : x.Ok cs) {i : Nat} (hi : cs.names[i]? = some (n, .local)) (hv : Val x cs value ⟨m, led⟩ a) (h : Qf .nxt ⟨m.set i (some a), led⟩)
    (hs : swapsWith value (some (.Name n pos')) pos.line (x.env cs) = pure false) : Ex x cs (.Assign [.Name n pos'] value pos) ⟨m, led⟩ Qf E := ex_asgVi O hi hv h hs
theorem ex_augVm {n pos' op value pos p a r m led} (O : x.Ok cs) {i : Nat} (hi : cs.names[i]? = some (n, .local)) (hm : m[i]? = some (some p)) (hv : Val x cs value ⟨m, led⟩ a) (ho : OpV x cs (inplaceOp op) p a ⟨m, led⟩ r)
    (h : Qf .nxt ⟨m.set i (some r), led⟩) : Ex x cs (.AugAssign (.Name n pos') op value pos) ⟨m, led⟩ Qf E := ex_augVi O hi hm hv ho h
theorem as_Lm {n pos p m led} (O : x.Ok cs) {i : Nat} (hi : cs.names[i]? = some (n, .local)) (h : Qu ⟨m.set i (some p), led⟩) : Asg x cs (.Name n pos) p ⟨m, led⟩ Qu E := as_Li O hi h
theorem va_Lm {m led} (O : x.Ok cs) {i : Nat} {n : Str} {p : PV} {pos} (hi : cs.names[i]? = some (n, .local)) (hm : m[i]? = some (some p)) (hd : (n == ("__debug__" : Str)) = false) : Val x cs (.Name n pos) ⟨m, led⟩ p := va_Li O hi hm hd
theorem drop_nil_le {t : List Nat} {j : Nat} (e : t.drop j = []) : t.length ≤ j := List.drop_eq_nil_iff.mp e
end
end Wk
end
/- L24 -/
section
open Lean
namespace Mine.Wd
def nd (k : Name) (xs : List Syntax) : Syntax := .node .none k xs.toArray
def sq (xs : List Syntax) : Syntax := nd `Lean.Parser.Tactic.tacticSeq [nd `Lean.Parser.Tactic.tacticSeq1Indented [nd `null xs]]
def word (s : String) : Syntax := nd `PySem.W.tacticWtm_at_ [mkAtom "wtm_at", Syntax.mkStrLit s]
def red (x : List Syntax) : Syntax := nd `Lean.Parser.Tactic.withReducible [mkAtom "with_reducible", sq x]
def tok (s : String) : Syntax :=
  match s.toList with
  | ['_'] => nd `Lean.Parser.Term.hole [mkAtom "_"]
  | ['?'] => nd `Lean.Parser.Term.syntheticHole [mkAtom "?", mkAtom "_"]
  | '#' :: r => nd `Lean.Parser.Term.byTactic [mkAtom "by", sq [word (String.ofList r)]]
  | '@' :: r => word (String.ofList r)
  | '.' :: r => nd `Lean.Parser.Term.dotIdent [mkAtom ".", mkIdent (String.ofList r).toName]
  | '\'' :: r => mkAtom (String.ofList r)
  | '%' :: r => mkAtom s
  | '"' :: r => Syntax.mkStrLit (String.ofList r.dropLast)
  | c :: _ => if s = "null" then nd `null [] else if c.isDigit then Syntax.mkNumLit s else mkIdent s.toName
  | [] => .missing
def app : List Syntax → Syntax
  | [x] => x
  | f :: xs => match f.getAtomVal.toList with
    | '%' :: r => nd (if r = ['n', 'u', 'l', 'l'] then `null else match r with
      | '.' :: r => .str .anonymous (String.ofList r)
      | r => .str `Lean.Parser.Tactic (String.ofList r)) xs
    | _ => nd `Lean.Parser.Term.app [f, nd `null xs]
  | [] => .missing
/- a word read into a stack of open applications, the innermost first, each from its end -/
def rd : List (List Syntax) → String → List (List Syntax)
  | st, "(" => [] :: st
  | a :: b :: st, ")" => (app a.reverse :: b) :: st
  | a :: st, t => (match t.splitOn "=" with
    | [n, v] => nd `Lean.Parser.Term.namedArgument [mkAtom "(", mkIdent n.toName, mkAtom ":=", tok v, mkAtom ")"] :: a
    | _ => tok t :: a) :: st
  | [], _ => []
def tm (ts : List String) : Syntax := match ts.foldl rd [[]] with
  | a :: _ => app a.reverse
  | [] => .missing
def sh (s : String) : Syntax := nd `Lean.Parser.Tactic.show [mkAtom "show", tm (s.splitOn " ")]
def act : List String → Syntax
  | "r" :: ts => nd `Lean.Parser.Tactic.refine [mkAtom "refine", tm ts]
  | "x" :: ts => nd `Lean.Parser.Tactic.exact [mkAtom "exact", tm ts]
  | "U" :: ts => nd `Lean.Parser.Tactic.withUnfoldingAll [mkAtom "with_unfolding_all", sq [tm ts]]
  | ts => tm ts
def alt (s : String) : Syntax := match s.splitOn " : " with
  | [g, a] => red [sh g, mkAtom ";", act (a.splitOn " ")]
  | _ => match s.splitOn " " with
    | "!" :: ts => act ts
    | ts => red [act ts]
def fst (xs : List Syntax) : Syntax := nd `Lean.Parser.Tactic.first [mkAtom "first", nd `null (xs.map fun x => nd `group [mkAtom "|", sq [x]])]
def tab : List (String × String × String) := [
  ("ix", "", "x ix2 0 #u #rr | x ix2 1 #u #rr | x ix2 2 #u #rr | x ix2 3 #u #rr | x ix2 4 #u #rr | x ix2 5 #u #rr | x ix2 6 #u #rr | x ix2 7 #u #rr | x ix2 8 #u #rr | x ix2 9 #u #rr | x ix2 10 #u #rr | x ix2 11 #u #rr | x ix2 12 #u #rr | x ix2 13 #u #rr | x ix2 14 #u #rr | x ix2 15 #u #rr | x ix2 16 #u #rr"),
  ("C", "", "Ev _ _ ( .Name _ _ ) _ _ _ : r ev_Ci O #ix #as #me ? hd=#dk"),
  ("bt", "", "x Boot.len | x Boot.bytes | x Boot.list | x Boot.min | x Boot.max | x Boot.int | x Boot.bool | x Boot.abs | x Boot.sum | x Boot.range"),
  ("cv", "CallV _ _ _ _ _ _", "CallV _ _ _ ( .cons ( .byt _ ) .nil ) _ _ : x cv_lenB #side | CallV _ _ _ ( .cons ( .lst _ ) .nil ) _ _ : x cv_lenL #side | CallV _ _ _ ( .cons ( .str _ ) .nil ) _ _ : x cv_lenS #side"),
  ("ov", "OpV _ _ _ _ _ _ _", "x ov_add | x ov_sub | x ov_iadd | x ov_eq | x ov_ne | x ov_lt | x ov_le | x ov_gt | x ov_ge | x ov_eqB | x ov_neB | x ov_isN | x ov_isnotN | x ov_eqS | x ov_neS | OpV _ _ ( subscriptTail _ _ ) ( .byt _ ) _ _ _ : x ov_itemB #side #side #side #uu #uu | OpV _ _ ( binaryOp .Add ) ( .byt _ ) _ _ _ : x ov_addB #side | OpV _ _ ( inplaceOp .Add ) ( .byt _ ) _ _ _ : x ov_iaddB #side | OpV _ _ ( compareOp .In ) ( .int _ ) ( .byt _ ) _ _ : x ov_inIB #side #side | OpV _ _ ( binaryOp .Add ) ( .str _ ) _ _ _ : x ov_addS #side"),
  ("pv", "PartV _ _ _ _ _", "x pv_none | PartV _ _ ( .some _ ) _ _ : x pv_some #vl"),
  ("vl", "Val _ _ _ _ _", "Val _ _ ( .Name _ _ ) _ _ : x va_Lm O #ix #u hd=#dk | x va_int | x va_byt | x va_S | x va_none | x va_bool | Val _ _ ( .BinOp _ _ _ _ ) _ _ : x va_bin #vl #vl #ov | Val _ _ ( .Subscript _ ( .Slice _ _ _ _ ) _ ) _ _ : x va_slcB #vl #pv #pv #side #uu | Val _ _ ( .Subscript _ ( .Slice _ _ _ _ ) _ ) _ _ : x va_slcS #vl #pv #pv #side #uu | Val _ _ ( .Subscript _ ( .Name _ _ ) _ ) _ _ : x va_sub #vl #vl #ov | Val _ _ ( .Subscript _ ( .Constant _ _ _ ) _ ) _ _ : x va_sub #vl #vl #ov | Val _ _ ( .Subscript _ ( .BinOp _ _ _ _ ) _ ) _ _ : x va_sub #vl #vl #ov | Val _ _ ( .Compare _ ( .cons _ .nil ) _ _ ) _ _ : x va_cmp #vl #vl #ov hm=#u | Val _ _ ( .Call ( .Name ( Str.ofString \"len\" ) _ ) ( .cons _ .nil ) .nil _ ) _ _ : x va_callBi O #ix #kr Boot.len #dk #u #vl #cv he=#uu hpl=#uu hd=#dk"),
  ("bl", "Bol _ _ _ _ _", "Bol _ _ ( .Compare _ ( .cons _ .nil ) _ _ ) _ _ : x bl_cmp #vl #vl #ov hm=#u | Bol _ _ ( .UnaryOp .Not _ _ ) _ _ : x bl_not #bl | Bol _ _ ( .Name _ _ ) _ _ : x bl_bool #vl #uu"),
  ("ev", "Ev _ _ _ _ _ _", "r ev_of #vl ? | Ev _ _ ( .Call ( .Name _ _ ) _ .nil _ ) _ _ _ : r ev_callBi O #ix #kr #bt #dk #u ? hpl=#uu hd=#dk | Ev _ _ ( .Subscript _ ( .Slice _ _ _ _ ) _ ) _ _ _ : r ev_slcB #vl ? #uu | Ev _ _ ( .Subscript _ ( .Slice _ _ _ _ ) _ ) _ _ _ : r ev_slc \"bytes\" FB.slot_bytes_getitem.lookup ? #uu | Ev _ _ ( .Subscript _ _ _ ) _ _ _ : r ev_subV #vl #vl ? | r ev_sub ? | Ev _ _ ( .BinOp _ _ _ _ ) _ _ _ : r ev_binV #vl #vl ? | r ev_bin ? | Ev _ _ ( .Compare _ ( .cons _ .nil ) _ _ ) _ _ _ : r ev_cmp ? hm=#u | r ev_tup ? | Ev _ _ ( .Attribute ( .Name _ _ ) _ _ ) _ _ _ : r ev_attrV #vl ? | r ev_or ? | r ev_and ? | r ev_one ? | r ev_if ? | r ev_un ?"),
  ("ts", "Tst _ _ _ _ _ _", "r ts_of #bl ? | Tst _ _ ( .Compare _ ( .cons _ .nil ) _ _ ) _ _ _ : r ts_cmpV #vl #vl ? hm=#u | Tst _ _ ( .Compare _ ( .cons _ .nil ) _ _ ) _ _ _ : r ts_cmp ? hm=#u | r ts_not ? | Tst _ _ ( .BoolOp .And ( .cons _ _ ) _ ) _ _ _ : r ts_andB #bl ? | Tst _ _ ( .BoolOp .Or ( .cons _ _ ) _ ) _ _ _ : r ts_orB #bl ? | r ts_and ? | r ts_or ? | r ts_and0 ? | r ts_or0 ? | Tst _ _ ( .Compare _ ( .cons _ ( .cons _ .nil ) ) _ _ ) _ _ _ : r ts_chain ? hm=#u | r ts_plain ? #uu"),
  ("ex", "Ex _ _ _ _ _ _", "Ex _ _ ( .If _ _ _ _ ) _ _ _ : r ex_ifB #bl ? | r ex_if ? | Ex _ _ ( .Return ( .some _ ) _ ) _ _ _ : r ex_retV #vl ? | r ex_ret ? | Ex _ _ ( .Assign ( .cons ( .Name _ _ ) .nil ) _ _ ) _ _ _ : r ex_asgVm O #ix #vl ? hs=#u | Ex _ _ ( .Assign ( .cons ( .Name _ _ ) .nil ) _ _ ) _ _ _ : r ex_asgi O #ix ? hs=#u | Ex _ _ ( .AugAssign ( .Name _ _ ) _ _ _ ) _ _ _ : r ex_augVm O #ix #u #vl #ov ? | Ex _ _ ( .AugAssign ( .Name _ _ ) _ _ _ ) _ _ _ : r ex_augi O #ix #u ? | Ex _ _ ( .Assign ( .cons ( .Tuple _ _ _ ) .nil ) _ _ ) _ _ _ : r ex_asgT ? #u #u | Ex _ _ ( .Expr _ _ ) _ _ _ : r ex_expr ? #u #u | Ex _ _ ( .Assign ( .cons ( .Attribute _ _ _ ) .nil ) _ _ ) _ _ _ : r ex_asgAttrV #vl #vl ? #u | Ex _ _ ( .Assign ( .cons ( .Attribute _ _ _ ) .nil ) _ _ ) _ _ _ : r ex_asgAttr ? #u | r ex_brk ? | r ex_cnt ? | r ex_ret0 ?"),
  ("e", "", "! @ev | Op2 _ _ _ _ _ _ _ _ : r op_of #ov ? | r tr_bool ? | Tru _ _ ( .byt _ ) _ _ _ : r tr_byt #side ? | Tru _ _ ( .lst _ ) _ _ _ : r tr_lst #side ? | ! @ex | ! @ts | r xs_nil ? | CallR _ _ ( .builtin \"len\" ) _ _ _ _ : r call_of #cv ? | Evs _ _ ( .cons _ _ ) _ _ _ : r evs_consV #vl ? #uu | Evs _ _ ( .cons _ _ ) _ _ _ : r evs_cons ? #uu | r evs_nil ? | Asg _ _ ( .Name _ _ ) _ _ _ _ : r as_Lm O #ix ? | Asg _ _ ( .Tuple _ _ _ ) ( .tup _ ) _ _ _ : r as_T hh #u ? #u #u | r asgs_cons ? | r asgs_nil ? | Slc _ _ _ ( .byt _ ) _ _ _ _ _ : r sl_byt #side ? | r op_not ? | r tests_one ? | r tests_nil ? | Part _ _ ( .some _ ) _ _ _ : r part_someV #vl ? | r part_some ? | r part_none ? | r int_ex ? | And ( LE.le _ 1000 ) _ : r len_ok #sd ? | r none_ok ? | r ite_t rfl ? | r ite_f rfl ? | r co_ret ? | r co_brk ? | r co_cnt ? | r mid_ret ? | r mid_nxt ? | ! @k"),
  ("k", "", "r hKr _ _ ? | r hKn _ ? | r hN1 _ ? | r hC1 _ ? | r hB1 _ ? | r hR1 _ _ ? | r hN2 _ ? | r hC2 _ ? | r hB2 _ ? | r hR2 _ _ ? | r hN3 _ ? | r hC3 _ ? | r hB3 _ ? | r hR3 _ _ ?"),
  ("w", "", "r xs_st ? | r co_nxt ? | ! @e"),
  ("wF", "", "! @w | r ev_lstF ?"),
  ("u", "", "! U ( %tacticRfl 'rfl )"),
  ("rr", "", "( %tacticRfl 'rfl )"),
  ("kr", "", "! ( %.tacticKernel_rfl 'kernel_rfl )"),
  ("d", "", "! ( %decide 'decide ( %optConfig null ) )"),
  ("dk", "", "! ( %decide 'decide ( %optConfig ( %null ( %configItem ( %posConfigItem '+ kernel ) ) ) ) )"),
  ("as", "", "! ( %assumption 'assumption )"),
  ("uu", "", "! ( %tactic_<;>_ ( %intros 'intros null ) '<;> @u )"),
  ("sd", "", "! ( %simp 'simp ( %optConfig null ) null null null null )"),
  ("me", "", "! U @mem"),
  ("mem", "", "! x List.Mem.head _ | ! x List.Mem.tail _ #mem"),
  ("qk", "", "! ( %assumption 'assumption ) | ! x Nat.le_trans #d hr | ! x Eq.refl _ | ! x Nat.le_trans hz #d | ! x Nat.le_trans ( Nat.le_of_eq hB ) ( Nat.le_trans hz #d ) | ! x Nat.le_of_lt #as"),
  ("li", "", "! @qk | ! ( %lia 'lia ( %optConfig null ) )"),
  ("side", "", "! @qk | ! ( %lia 'lia ( %optConfig null ) ) | ! ( %tactic_<;>_ ( %simp 'simp ( %optConfig null ) null null null null ) '<;> ( %lia 'lia ( %optConfig null ) ) ) | ! @d"),
  ("tt", "", "! x decide_eq_true ( Int.ofNat_lt.mpr #as ) | ! x decide_eq_false ( Int.not_lt.mpr ( Int.ofNat_le.mpr #as ) ) | ! ( %tactic_<;>_ ( %simp 'simp ( %optConfig null ) null null null null ) '<;> ( %lia 'lia ( %optConfig null ) ) )")]
def fam (s : String) : Option (TSyntax `tactic) := do
  let (g, t) ← tab.lookup s
  let f := fst ((t.splitOn " | ").map alt)
  return ⟨if g = "" then f else nd `Lean.Parser.Tactic.paren [mkAtom "(", sq [red [sh g], mkAtom ";", f], mkAtom ")"]⟩
end Mine.Wd
end
/- C26 -/
section
set_option maxHeartbeats 8000000
open PySem PySem.W PySem.Calls PyProof.Rows
namespace Wk
open Mine
noncomputable def entryAct (w : World) (s : Shared) (mg mb : Str → Option Value) (qual : Str) (fa : Addr) (cd : Value) (cl : List (Str × Addr)) (sc : Scope) : Act :=
  { w := w, A := callerA.deeper (envX qual sc s.heap.objs.size fa cd cl), base := s.heap, frames := [envX qual sc s.heap.objs.size fa cd cl], h₀ := s.heap, g₀ := fun b => s.heap.get? b, L := s.heap.objs.size, qual := qual ++ ".<locals>.", fn := some fa, ccd := cd, fr := some s.heap.objs.size, cl := cl, mg := mg, mb := mb, s₀ := s, r := 200, hn := true }
theorem get_size (h : Heap) : h.get? h.objs.size = none := by
  cases e : h.get? h.objs.size with
  | none => rfl
  | some o => exact absurd (Heap.lt_size e) (Nat.lt_irrefl _)
section
variable {w : World} {s : Shared} {mg mb : Str → Option Value} {qual : Str} {fa : Addr} {cd : Value} {cl : List (Str × Addr)} {sc : Scope}
theorem entry_k {b : Addr} {o : Obj} (e : s.heap.get? b = some o) : (entryAct w s mg mb qual fa cd cl sc).k₀.get? b = some o := by
  refine hideAll_get _ e fun hm => ?_
  have : b = s.heap.objs.size := by
    have hm' : b ∈ [s.heap.objs.size] := hm
    exact List.mem_singleton.mp hm'
  rw [this, get_size] at e; cases e
theorem entry_ok (hkin : (KP w.params).In s.heap) (htop : TopRead hd.view_39 (looseW hd.view_39 looseS) mg mb s.heap) (hg : AllBare s.gens) (hk : sc.kind = .function) (hn : (sc.names.map (·.1)).Nodup) : (entryAct w s mg mb qual fa cd cl sc).Ok sc := by
  have ck : ∀ b o, s.heap.get? b = some o → (entryAct w s mg mb qual fa cd cl sc).k₀.get? b = some o := fun b o e => entry_k e
  have B : Below callerA s.heap [] s.heap := below_caller _
  refine ⟨rfl, fun h mr' F' sl' fps hf => ?_, htop.nolimit.keeps ck, hkin.keeps ck, htop.keeps ck, fun a o e => hkin _ _ e, (show 1 + claimMargin + 1 + 200 ≤ 900 by decide), (show 4 + 3 + 10 * 200 ≤ 9800 by decide), rfl, hk, hn, hg, fun _ => rfl, fun env he a hf => ?_⟩
  · have hnb : s.heap.get? s.heap.objs.size = none := get_size _
    have B₁ : h.FunFrames s.heap (envX qual sc s.heap.objs.size fa cd cl :: []) := .cons (by show sc.kind ≠ .module; rw [hk]; decide) rfl F'.ns hnb trivial
    have st : ∀ b o, s.heap.get? b = some o → h.get? b = some o := fun b o e => F'.keep b o (ck b o e)
    refine ⟨rfl, fun b o e => hideAll_get _ (st b o e) fun q => ?_, funFrames_hideAll B₁ fun env' he b hb hf' => ?_⟩
    · have h2 : s.heap.get? b = none := (hf b q).2
      have e' : s.heap.get? b = some o := e
      rw [h2] at e'; cases e'
    · cases he with
      | head => exact (hf b hb).1 (Option.some.inj hf').symm
      | tail _ he => cases he
  · cases he with
    | head => cases hf; exact get_size _
    | tail _ he => cases he
theorem entry_rep {h₁ : Heap} {mr₁ cm : Str → Option Value} {m₀ : List (Option PV)} {t : Nat} {ar : List (Str × PV)} (hns : h₁.Ns s.heap.objs.size mr₁) (hk : ∀ b o, s.heap.get? b = some o → h₁.get? b = some o) (hl : Locs (fun b => s.heap.get? b) sc.names m₀ mr₁)
    (hc : ∀ n c, (n, c) ∈ cl → h₁.IsCell c (cm n)) (hap : cl.Pairwise fun x y => x.2 ≠ y.2) (hab : ∀ n c, (n, c) ∈ cl → s.heap.objs.size < c)
    (hcm : ∀ n c, (n, c) ∈ cl → match ar.lookup n with | some p => ∃ v, cm n = some v ∧ Is (fun b => s.heap.get? b) p v | none => cm n = none) :
    Rep (entryAct w s mg mb qual fa cd cl sc) sc [] (fun b => s.heap.get? b) ⟨m₀, cellLed cl ar⟩ { s with heap := h₁, toks := t } where
  fr := ⟨mr₁, ⟨hns, fun b o e => hk b o (of_hideAll _ e), Nat.le_of_eq (hideAll_size _ _)⟩, hl⟩
  sub b o e := hk _ _ e
  base := .refl _
  own b o e := .inl e
  off := get_size _
  led e he := by
    rw [List.append_nil] at he
    obtain ⟨⟨n, c⟩, hm, rfl⟩ := List.mem_map.mp he
    have hLc := hab n c hm
    have hcn : s.heap.get? c = none := by
      cases z : s.heap.get? c with
      | none => rfl
      | some o => exact absurd (Heap.lt_size z) (Nat.not_lt.mpr (Nat.le_of_lt hLc))
    refine ⟨Nat.ne_of_gt hLc, hcn, hcn, ?_⟩
    obtain ⟨o, h1, h2⟩ := hc n c hm
    have := hcm n c hm
    show MIs _ h₁ c (match ar.lookup n with | some p => .cell p | none => .ecell)
    cases z : ar.lookup n with
    | some p => rw [z] at this; obtain ⟨v, e1, i⟩ := this; exact ⟨o, v, h1, by rw [h2, e1], i⟩
    | none => rw [z] at this; exact ⟨o, h1, by rw [h2, this]⟩
  nod := by
    rw [List.append_nil]
    unfold cellLed
    rw [List.map_map]
    exact List.pairwise_map.mpr hap
  os := rfl
  gens := rfl
  sl := .of_keeps fun b o e => hk b o e
end
/- the call from outside -/
noncomputable def RetE (Qc : PV → Prop) (o : Out) (q' : Q) : Prop := match o with | .ret p => ∃ fp' dead, q'.led.Perm (fp' ++ dead) ∧ (Qc p ∧ fp' = []) | .nxt => ∃ fp' dead, q'.led.Perm (fp' ++ dead) ∧ (Qc (.val .none) ∧ fp' = []) | _ => False
theorem cl_entry {w : World} {fa : Addr} {name qual : Str} {params : Arguments} {body₀ body : List Stmt} {sc₀ sc : Scope} {dV kV doc pm cdv ct oc : Value} {an od : Option Addr} {osl : Array (Option Value)}
    {ps : List Str} {args : List PV} {need : Nat} {Qc : PV → Prop} {m₀ : List (Option PV)}
    (hK : (KP w.params).lookup fa = some ⟨oc, od, .func (fnX name qual params body₀ sc₀ [] dV kV doc pm an cdv ct), osl⟩) (hB : body₀ = body) (hS : sc₀ = sc) (hcd : codeIn (KP w.params) cdv qual = true)
    (hb : ∀ (s : Shared) (vals : List Value), (KP w.params).In s.heap → vals.length = args.length → BindsTo s (fnX name qual params body₀ sc₀ [] dV kV doc pm an cdv ct) ⟨vals, []⟩ (ps.zip vals))
    (hpl : ps.length = args.length) (hps : ps.Nodup) (hloc : ∀ n ∈ ps, sc.names.lookup n = some .local ∨ (sc.names.lookup n = some .cell ∧ n ∈ (cellsFrom 0 sc.names []).map (·.1))) (hn : (sc.names.map (·.1)).Nodup)
    (hcn : ∀ n ∈ (cellsFrom 0 sc.names []).map (·.1), sc.names.lookup n = some .cell) (hnd : ((cellsFrom 0 sc.names []).map (·.1)).Nodup)
    (hco : sc.isCoroutine = false) (hgen : sc.isGenerator = false) (hk : sc.kind = .function)
    (hm : sc.names.map (fun nk => if nk.2 = .cell then none else (ps.zip args).lookup nk.1) = m₀)
    (hbody : ∀ (y : Act) (L : Addr), y.w = w → y.Ok sc → IsFn y sc → (true = true → y.hn = true) → need - 1 ≤ y.r → y.cl = cellsFrom (L + 1) sc.names [] → ∀ K : Out → Q → Prop, (∀ p q', (∃ fp' dead, q'.led.Perm (fp' ++ dead) ∧ (Qc p ∧ fp' = [])) → K (.ret p) q') → (∀ q', (∃ fp' dead, q'.led.Perm (fp' ++ dead) ∧ (Qc (.val .none) ∧ fp' = [])) → K .nxt q') → Exs y sc body ⟨m₀, cellLed (cellsFrom (L + 1) sc.names []) (ps.zip args) ++ []⟩
      K noE)
    (hneed : need ≤ 200) {s : Shared} {mg mb : Str → Option Value} {vals : List Value} (hkin : (KP w.params).In s.heap) (htop : TopRead hd.view_39 (looseW hd.view_39 looseS) mg mb s.heap) (hg : AllBare s.gens) (ia : IsL (fun b => s.heap.get? b) args vals) :
    codeAny (model PW w) callerA (.call (.ref fa) ⟨vals, []⟩) (fun r s' => match r with | .ok (.ret v) => ∃ g' p, Is g' p v ∧ Qc p ∧ (∀ b o, s.heap.get? b = some o → s'.heap.get? b = some o) ∧ s'.os = s.os ∧ s'.gens = s.gens | _ => False) s := by
  have hB := hB.symm; have hS := hS.symm; subst hB hS
  have hlen := ia.length
  refine codeAny_call_function ?_ (hkin _ _ hK) rfl hco hgen rfl (codeRec_of hkin hcd) (hb s vals hkin hlen _ _ _ _ ?_)
  · decide
  refine wpAny_newFunctionEnv_cells hk ?_ fun env' he s' xC => ?_
  · intro y hy
    rcases hloc _ (List.of_mem_zip hy).1 with h | ⟨h1, h2⟩
    · exact .inl h
    · exact .inr ⟨h1, lookup_isSome_of_mem ((cell_keys _).mpr h2)⟩
  subst he
  refine ⟨htop.nolimit.keeps xC.toInCall.keep, codeAny_func ?_⟩
  obtain ⟨h₁, tk, rfl, _⟩ := xC.done
  have hk₁ := xC.toInCall.keep
  have hl : Locs (fun b => s.heap.get? b) sc.names m₀ (bindL (fun n => sc.names.lookup n) (ps.zip vals) fun _ => none) := by
    intro i n k p e e'
    rw [← hm, List.getElem?_map, e] at e'
    simp only [Option.map_some, Option.some.injEq] at e'
    split at e'
    · cases e'
    · rename_i hkc
      obtain ⟨v, hv, iv⟩ := locs_binds ia hpl hps n p e'
      have hin : n ∈ ps := by
        by_cases h : n ∈ ps
        · exact h
        · rw [zip_rev_none h] at hv; cases hv
      have hkn : sc.names.lookup n = some .local := by
        rcases hloc n hin with h | ⟨h, _⟩
        · exact h
        · rw [names_get hn e] at h; cases h; exact absurd rfl hkc
      exact ⟨v, by rw [bindL_get hkn, hv]; rfl, iv⟩
  have hcm : ∀ n c, (n, c) ∈ cellsFrom (s.heap.objs.size + 1) sc.names [] → match (ps.zip args).lookup n with | some p => ∃ v, bindC (fun n => sc.names.lookup n) (ps.zip vals) (fun _ => none) n = some v ∧ Is (fun b => s.heap.get? b) p v | none => bindC (fun n => sc.names.lookup n) (ps.zip vals) (fun _ => none) n = none := by
    intro n c hmem
    have hkn : ¬ sc.names.lookup n = some .local := by
      rw [hcn n ((cell_keys _).mp (List.mem_map_of_mem (f := (·.1)) hmem))]; decide
    rw [bindC_get hkn]
    cases e : (ps.zip args).lookup n with
    | some p => obtain ⟨v, hv, iv⟩ := locs_binds ia hpl hps n p e; exact ⟨v, by rw [hv]; rfl, iv⟩
    | none => rw [zip_rev_none (zip_none hpl e)]; rfl
  have hnd' : ((cellsFrom (s.heap.objs.size + 1) sc.names []).map (·.1)).Nodup := cellsFrom_names sc.names 0 (s.heap.objs.size + 1) [] [] rfl ▸ hnd
  have Oy := entry_ok (w := w) (s := s) (mg := mg) (mb := mb) (qual := qual) (fa := fa) (cd := cdv) (cl := cellsFrom (s.heap.objs.size + 1) sc.names []) (sc := sc) hkin htop hg hk hn
  have Ry := entry_rep (w := w) (s := s) (mg := mg) (mb := mb) (qual := qual) (fa := fa) (cd := cdv) (cl := cellsFrom (s.heap.objs.size + 1) sc.names []) (sc := sc) (t := tk) (ar := ps.zip args) xC.toInCall.ns hk₁ hl
    (fun n c hmem => xC.cell n c (lookup_of_mem_nodup hnd' hmem)) xC.apart xC.above hcm
  have hy := hbody _ s.heap.objs.size rfl Oy ⟨rfl, _, rfl⟩ (fun _ => rfl) (by show need - 1 ≤ 200; lia) rfl (RetE Qc) (fun _ _ h => h) (fun _ h => h) [] _ _ (by rw [List.append_nil]; exact Ry)
  refine wpAny_mono hy (fun f s' ⟨g', o, q', k, io, R', hq⟩ => ?_) fun _ _ e => e.elim
  obtain ⟨mr', F', _⟩ := R'.fr
  have keep : ∀ b o, s.heap.get? b = some o → s'.heap.get? b = some o := fun b o e => F'.keep b o (entry_k e)
  cases o with
  | nxt => cases io; obtain ⟨fp', dead, hpm, hq, _⟩ := hq; exact ⟨g', _, is_val.mpr rfl, hq, keep, R'.os, R'.gens⟩
  | brk => exact hq.elim
  | cnt => exact hq.elim
  | ret p => obtain ⟨v, rfl, i⟩ := io; obtain ⟨fp', dead, hpm, hq, _⟩ := hq; exact ⟨g', p, i, hq, keep, R'.os, R'.gens⟩
end Wk
end
section
namespace Wk
open PySem PySem.W PySem.Calls PyProof.Rows
open Mine
local macro_rules
  | `(tactic| wtm_at $s:str) => match Mine.Wd.fam s.getString with
    | some x => pure x
    | none => Lean.Macro.throwUnsupported
/- C2 -/
section
open PySem PySem.W PySem.Calls PyProof.Rows Mine
set_option maxHeartbeats 4000000
noncomputable abbrev B (t : List Nat) : List UInt8 := t.map (·.toUInt8)
theorem B_get (t : List Nat) (ht : ∀ c ∈ t, c < 256) (i : Nat) : ((B t).getD i 0).toNat = t.getD i 0 := by
  simp only [B, List.getD_eq_getElem?_getD, List.getElem?_map]
  cases h : t[i]? with
  | none => rfl
  | some c => simp; exact ht c (List.mem_of_getElem? h)
theorem B_at {t : List Nat} (ht : ∀ c ∈ t, c < 256) {i : Nat} {c : Nat} {r : List Nat} (h : t.drop i = c :: r) {k : Int} (hk : k.toNat = i) : ((B t).getD k.toNat 0).toNat = c := by
  rw [B_get t ht, hk, List.getD_eq_getElem?_getD]
  have : (t.drop i)[0]? = some c := by rw [h]; rfl
  rw [List.getElem?_drop] at this
  simp at this; rw [this]; rfl
theorem drop_lt {t : List Nat} {i : Nat} {c : Nat} {r : List Nat} (h : t.drop i = c :: r) : i < t.length ∧ t.drop (i + 1) = r := by
  refine ⟨?_, ?_⟩
  · have := congrArg List.length h; simp at this; lia
  · rw [← List.drop_drop, h]; rfl

theorem B_beq {x : List Nat} (hx : ∀ c ∈ x, c < 256) (b : List UInt8) : (B x == b) = (x == b.map (·.toNat)) := by
  rw [Bool.eq_iff_iff, beq_iff_eq, beq_iff_eq]
  constructor
  · rintro rfl
    rw [B, List.map_map]
    conv => lhs; rw [← List.map_id x]
    refine List.map_congr_left fun c hc => ?_
    simp; exact (Nat.mod_eq_of_lt (hx c hc)).symm
  · rintro rfl
    rw [B, List.map_map]
    conv => rhs; rw [← List.map_id b]
    refine List.map_congr_left fun c hc => ?_
    simp
theorem u8_contains (b : List UInt8) {c : Nat} (hc : c < 256) : b.contains c.toUInt8 = (b.map (·.toNat)).contains c := by
  rw [Bool.eq_iff_iff, List.contains_iff_mem, List.contains_iff_mem, List.mem_map]
  constructor
  · intro h; exact ⟨_, h, by simp; exact hc⟩
  · rintro ⟨u, hu, rfl⟩; simpa using hu
theorem clip_nat (n i : Nat) : clipAt n (i : Int) = min i n := by
  unfold clipAt
  rw [if_neg (by wtm_at "li")]
  lia
theorem cut_nn {α : Type} (l : List α) {i j : Nat} {a b : Int} (ha : a = i) (hb : b = j) : cut l (some a) (some b) = (l.drop i).take (j - i) := by
  subst ha hb
  simp only [cut, Option.elim, clip_nat]
  by_cases h : i ≤ l.length
  · rw [Nat.min_eq_left h]
    by_cases h' : j ≤ l.length
    · rw [Nat.min_eq_left h']
    · have h2 : min j l.length = l.length := Nat.min_eq_right (by wtm_at "li")
      rw [h2, List.take_of_length_le (by simp), List.take_of_length_le (by simp; lia)]
  · have h2 : min i l.length = l.length := Nat.min_eq_right (by wtm_at "li")
    rw [h2, List.drop_eq_nil_of_le (by lia : l.length ≤ i), List.drop_eq_nil_of_le (Nat.le_refl l.length)]; simp
theorem cut_n {α : Type} (l : List α) {i : Nat} {a : Int} (ha : a = i) : cut l (some a) none = l.drop i := by
  subst ha
  simp only [cut, Option.elim, clip_nat]
  by_cases h : i ≤ l.length
  · rw [Nat.min_eq_left h, List.take_of_length_le (by simp)]
  · have h2 : min i l.length = l.length := Nat.min_eq_right (by wtm_at "li")
    rw [h2, List.drop_eq_nil_of_le (by lia : l.length ≤ i), List.drop_eq_nil_of_le (Nat.le_refl l.length)]; simp
theorem cut_0n {α : Type} (l : List α) {j : Nat} {b : Int} (hb : b = j) : cut l none (some b) = l.take j := by
  subst hb
  simp only [cut, Option.elim, clip_nat]
  rw [List.drop_zero, Nat.sub_zero]
  by_cases h' : j ≤ l.length
  · rw [Nat.min_eq_left h']
  · have h2 : min j l.length = l.length := Nat.min_eq_right (by wtm_at "li")
    rw [h2, List.take_of_length_le (by wtm_at "li"), List.take_of_length_le (by wtm_at "li")]
/- the piece of k signs behind the place i -/
theorem cutB {t : List Nat} {i k : Nat} {a b : Int} (ha : a = i) (hb : b = ((i + k : Nat) : Int)) : cut (B t) (some a) (some b) = B ((t.drop i).take k) := by
  rw [cut_nn _ ha hb, B, B, List.map_take, List.map_drop, Nat.add_sub_cancel_left]
theorem cutB1 (t : List Nat) (i : Nat) : cut (B t) (some (i : Int)) (some ((i : Int) + 1)) = B ((t.drop i).take 1) := cutB rfl rfl
theorem cutB2 (t : List Nat) (i : Nat) : cut (B t) (some (i : Int)) (some ((i : Int) + 2)) = B ((t.drop i).take 2) := cutB rfl rfl
theorem cutB4 (t : List Nat) (i : Nat) : cut (B t) (some (i : Int)) (some ((i : Int) + 4)) = B ((t.drop i).take 4) := cutB rfl rfl
theorem lt_part {t : List Nat} (ht : ∀ c ∈ t, c < 256) (j k : Nat) : ∀ x ∈ (t.drop j).take k, x < 256 := fun x hx => ht x (List.mem_of_mem_drop (List.mem_of_mem_take hx))

noncomputable def roct : List Nat → Option (Nat × List Nat)
  | [] => none
  | c :: r => if c ≠ 92 then some (c, r) else match r with
    | [] => none
    | d :: r' => if d = 120 ∨ d = 116 ∨ d = 110 ∨ d = 114 then none else some (d, r')
theorem cl_read_octet (w : World) (t : List Nat) (ht : ∀ c ∈ t, c < 256) (hz : t.length ≤ 10000) (i v : Nat) (r : List Nat) (h : roct (t.drop i) = some (v, r)) :
    Cl true (.ref 35) [.byt (B t), .int i] [] 1 (fun p l => l = [] ∧ ∃ i' : Nat, p = .tup [.int v, .int i'] ∧ t.drop i' = r ∧ i < i' ∧ i' ≤ t.length) w := by
  refine cl_def (dargs := []) (dvals := []) (ps := ["text", "i"]) (by rfl) (by conv => lhs; whnf) (by conv => lhs; whnf) (by kernel_rfl) ?hb (fun _ => isL_nil.mpr rfl) rfl (by decide +kernel) ?hloc (by decide +kernel) (by decide +kernel) rfl rfl rfl (m₀ := [some (.byt (B t)), some (.int i), none]) (by kernel_rfl) ?body (by decide)
  case hb =>
    intro s vals X hl
    obtain ⟨a, b, rfl⟩ := vlist2 hl
    exact .of_eq (by kernel_rfl)
  case hloc => decide +kernel
  case body =>
    intro y hw O hn hr hcl K0 hKr hKn
    cases e : t.drop i with
    | nil => rw [e] at h; simp [roct] at h
    | cons c r0 =>
      rw [e] at h
      obtain ⟨hi, e1⟩ := drop_lt e
      have hB : (B t).length = t.length := by simp
      repeat wtm_at "w"
      rw [B_at ht e (by wtm_at "li")]
      with_reducible refine br_ite (fun h1 => ?_) (fun h1 => ?_)
      · have h2 : c ≠ 92 := by simp at h1; lia
        simp only [roct, if_pos h2, Option.some.injEq, Prod.mk.injEq] at h
        obtain ⟨rfl, rfl⟩ := h
        repeat wtm_at "w"
        refine ⟨rfl, i + 1, ?_, e1, by lia, by lia⟩
        rw [B_at ht e (by wtm_at "li")]; rfl
      · have h2 : c = 92 := by simp at h1; lia
        subst h2
        cases e2 : r0 with
        | nil => subst e2; simp [roct] at h
        | cons d r1 =>
          subst e2
          obtain ⟨hi2, e3⟩ := drop_lt e1
          simp only [roct, ne_eq, not_true_eq_false, if_false] at h
          split at h
          · cases h
          rename_i hd
          simp only [Option.some.injEq, Prod.mk.injEq] at h
          obtain ⟨rfl, rfl⟩ := h
          repeat wtm_at "w"
          rw [B_at ht e1 (by wtm_at "li")]
          with_reducible refine ite_f (by wtm_at "tt") ?_
          repeat wtm_at "w"
          rw [B_at ht e1 (by wtm_at "li")]
          with_reducible refine ite_f (by wtm_at "tt") ?_
          repeat wtm_at "w"
          rw [B_at ht e1 (by wtm_at "li")]
          with_reducible refine ite_f (by wtm_at "tt") ?_
          repeat wtm_at "w"
          rw [B_at ht e1 (by wtm_at "li")]
          with_reducible refine ite_f (by wtm_at "tt") ?_
          repeat wtm_at "w"
          refine ⟨rfl, i + 2, ?_, e3, by lia, by lia⟩
          rw [B_at ht e1 (by wtm_at "li")]; rfl
end
/- C3 -/
section
open PySem PySem.W PySem.Calls PyProof.Rows Mine
set_option maxHeartbeats 4000000
inductive RC : List Nat → List (Nat × Nat) → List Nat → Prop
  | done {r} : RC (93 :: r) [] r
  | one {c s v s1 rs r} : c ≠ 93 → roct (c :: s) = some (v, s1) → s1.head? ≠ some 45 → RC s1 rs r → RC (c :: s) ((v, v) :: rs) r
  | two {c s v s1 u s2 rs r} : c ≠ 93 → roct (c :: s) = some (v, 45 :: s1) → roct s1 = some (u, s2) → RC s2 rs r → RC (c :: s) ((v, u) :: rs) r
noncomputable def rng (m : Nat × Nat) : PV := .tup [.int m.1, .int m.2]
theorem RC.ne {s rs r} (h : RC s rs r) : ∃ c s', s = c :: s' := by cases h <;> exact ⟨_, _, rfl⟩
theorem g_read_octet (w : World) : nsIn (KP w.params) mainGlobals "_read_octet" = some (some (.ref 35)) := by kernel_rfl
@[reducible] noncomputable def rcA (t : List Nat) (c : Nat) (i : Nat) (q' : Q) : Prop := q' = ⟨[some (.byt (B t)), some (.int (if c = 94 then i + 1 else i : Nat)), some (.val (.bool (c == 94))), none, none, none, none], []⟩
inductive rcE (t : List Nat) (c : Nat) (d : Addr) (rs : List (Nat × Nat)) (r : List Nat) (i : Nat) (q' : Q) : Prop where
  | mk (i' : Nat) (lo hi') (h2_0 : q' = ⟨[some (.byt (B t)), some (.int i'), some (.val (.bool (c == 94))), some (.val (.ref d)), lo, hi', none], [(d, .lst (rs.map rng))]⟩) (h3_1 : t.drop i' = 93 :: r) (h4_2 : i ≤ i') : rcE t c d rs r i q'
inductive rcI (t : List Nat) (c : Nat) (d : Addr) (r : List Nat) (rs : List (Nat × Nat)) (i : Nat) (n : Nat) (q' : Q) : Prop where
  | mk (i' : Nat) (lo hi' ys rs') (h2_0 : q' = ⟨[some (.byt (B t)), some (.int i'), some (.val (.bool (c == 94))), some (.val (.ref d)), lo, hi', none], [(d, .lst (ys.map rng))]⟩) (h3_1 : RC (t.drop i') rs' r) (h4_2 : ys ++ rs' = rs) (h5_3 : n = t.length - i') (h6_4 : i ≤ i') (h7_5 : ys.length ≤ i') : rcI t c d r rs i n q'
theorem cl_read_class (w : World) (t : List Nat) (ht : ∀ c ∈ t, c < 256) (hz : t.length ≤ 10000) (i : Nat) (c : Nat) (s : List Nat) (h0 : t.drop i = c :: s) (rs : List (Nat × Nat)) (r : List Nat) (h : RC (if c = 94 then s else c :: s) rs r) :
    Cl true (.ref 42) [.byt (B t), .int i] [] 2 (fun p l => l = [] ∧ ∃ i' : Nat, p = .tup [.tup [.val (.bool (c == 94)), .lst (rs.map rng)], .int i'] ∧ t.drop i' = r ∧ i < i' ∧ i' ≤ t.length) w := by
  refine cl_def (dargs := []) (dvals := []) (ps := ["text", "i"]) (by rfl) (by conv => lhs; whnf) (by conv => lhs; whnf) (by kernel_rfl) ?hb (fun _ => isL_nil.mpr rfl) rfl (by decide +kernel) ?hloc (by decide +kernel) (by decide +kernel) rfl rfl rfl (m₀ := [some (.byt (B t)), some (.int i), none, none, none, none, none]) (by kernel_rfl) ?body (by decide)
  case hb =>
    intro s vals X hl
    obtain ⟨a, b, rfl⟩ := vlist2 hl
    exact .of_eq (by kernel_rfl)
  case hloc => decide +kernel
  case body =>
    intro y hw O hn hr hcl K0 hKr hKn
    subst hw
    have hh := O.hand (hn rfl)
    obtain ⟨hi, e1⟩ := drop_lt h0
    have hB : (B t).length = t.length := by simp
    have hc : ((c : Int) == 94) = (c == 94) := by
      rw [Bool.eq_iff_iff]; simp; lia
    refine xs_st ?_
    repeat wtm_at "e"
    rw [B_at ht h0 (by wtm_at "li"), hc]
    refine co_nxt ?_
    refine xs_mid (rcA t c i) ?_ ?_
    · repeat wtm_at "w"
      with_reducible refine br_ite (fun h1 => ?_) (fun h1 => ?_)
      · have h2 : c = 94 := by simp at h1; lia
        subst h2
        repeat wtm_at "w"
        rfl
      · have h2 : c ≠ 94 := by simp at h1; lia
        repeat wtm_at "w"
        have h3 : (c == 94) = false := by simp [h2]
        unfold rcA; rw [if_neg h2]; rfl
    rintro q' rfl
    have h5 : t.drop (if c = 94 then i + 1 else i) = (if c = 94 then s else c :: s) := by split <;> assumption
    have hi2 : (if c = 94 then i + 1 else i) ≥ i := by split <;> lia
    generalize (if c = 94 then i + 1 else i) = i2 at *
    generalize (if c = 94 then s else c :: s) = s2 at *
    refine xs_st (ex_asg (hs := by rfl) O 3 rfl (by with_reducible rfl) (ev_lstM (evs_nil ⟨by simp, fun d => co_nxt ?_⟩)))
    refine xs_mid (rcE t c d rs r i) ?_ ?_
    · refine ex_whileK noE noE_pass (rcI t c d r rs i) ?_ _ ⟨i2, none, none, [], rs, rfl, by rw [h5]; exact h, rfl, rfl, by lia, by simp⟩
      rintro n q' ⟨i', lo, hi', ys, rs', rfl, hR, hys, rfl, hii, hyl⟩ K1 hN1 hC1 hB1 hR1
      obtain ⟨c', s', e⟩ := hR.ne
      obtain ⟨hi3, e3⟩ := drop_lt e
      rw [e] at hR
      repeat wtm_at "w"
      rw [B_at ht e (by wtm_at "li")]
      with_reducible refine br_ite (fun h1 => ?_) (fun h1 => ?_)
      · have h2 : c' ≠ 93 := by simp at h1; lia
        have call : ∀ (k v : Nat) (r' : List Nat), roct (t.drop k) = some (v, r') → ∀ {m : List (Option PV)} {l : List (Addr × MK)} {Qn : PV → Q → Prop} {cs : Scope}, y.Ok cs → (∀ i' : Nat, t.drop i' = r' → k < i' → i' ≤ t.length → Qn (.tup [.int v, .int i']) ⟨m, l⟩) → CallR y cs (.ref 35) [.byt (B t), .int k] ⟨m, l⟩ Qn noE := by
          intro k v r' hk m l Qn cs O' hq
          refine call_pure (cl_read_octet y.w t ht hz k v r' hk) O' hn (by wtm_at "li") ?_
          rintro p fp ⟨rfl, i', rfl, h1, h2, h3⟩
          exact hq i' h1 h2 h3
        have key : ∃ v s1, roct (c' :: s') = some (v, s1) ∧ ((s1.head? ≠ some 45 ∧ ∃ rs1, rs' = (v, v) :: rs1 ∧ RC s1 rs1 r) ∨ ∃ s2 u s3 rs1, s1 = 45 :: s2 ∧ roct s2 = some (u, s3) ∧ rs' = (v, u) :: rs1 ∧ RC s3 rs1 r) := by
          cases hR with
          | done => exact absurd rfl h2
          | one a1 a2 a3 a4 => exact ⟨_, _, a2, .inl ⟨a3, _, rfl, a4⟩⟩
          | two a1 a2 a3 a4 => exact ⟨_, _, a2, .inr ⟨_, _, _, _, rfl, a3, rfl, a4⟩⟩
        obtain ⟨v, s1, hro, key⟩ := key
        repeat wtm_at "w"
        with_reducible refine ev_callG O 6 (by with_unfolding_all rfl) (by with_reducible rfl) (g_read_octet _) (by with_unfolding_all rfl) ?_ (hd := by decide +kernel) (hpl := by intro _ _; with_unfolding_all rfl)
        repeat wtm_at "w"
        refine call i' v s1 (by rw [e]; exact hro) O fun i3 f1 f2 f3 => ?_
        obtain ⟨x1, s1', hs1⟩ : ∃ x1 s1', s1 = x1 :: s1' := by
          rcases key with ⟨_, rs1, _, hk⟩ | ⟨s2, u, s3, rs1, rfl, _⟩
          · exact hk.ne
          · exact ⟨_, _, rfl⟩
        subst hs1
        obtain ⟨g1, g2⟩ := drop_lt f1
        repeat wtm_at "w"
        rw [B_at ht f1 (by wtm_at "li")]
        have hl : (ys.map rng).length ≤ 100000 := by simp; lia
        have fin : ∀ (k : Nat) (u : Nat) rs1, RC (t.drop k) rs1 r → rs' = (v, u) :: rs1 → i' < k → k ≤ t.length → ∃ m, m < t.length - i' ∧ rcI t c d r rs i m ⟨[some (.byt (B t)), some (.int k), some (.val (.bool (c == 94))), some (.val (.ref d)), some (.int v), some (.int u), none], [(d, .lst (ys.map rng ++ [.tup [.int v, .int u]]))]⟩ := by
          intro k u rs1 h1 h2 h3 h4
          refine ⟨t.length - k, by lia, k, some (.int v), some (.int u), ys ++ [(v, u)], rs1, by simp [rng], h1, by rw [← hys, h2]; simp, rfl, by lia, by simp; lia⟩
        with_reducible refine br_ite (fun h3 => ?_) (fun h3 => ?_)
        · have h4 : x1 = 45 := by simp at h3; lia
          subst h4
          obtain ⟨u, s3, rs1, k1, k2, k3⟩ : ∃ u s3 rs1, roct s1' = some (u, s3) ∧ rs' = (v, u) :: rs1 ∧ RC s3 rs1 r := by
            rcases key with ⟨k0, _⟩ | ⟨s2, u, s3, rs1, k0, k1, k2, k3⟩
            · exact absurd rfl k0
            · cases k0; exact ⟨u, s3, rs1, k1, k2, k3⟩
          repeat wtm_at "w"
          with_reducible refine ev_callG O 6 (by with_unfolding_all rfl) (by with_reducible rfl) (g_read_octet _) (by with_unfolding_all rfl) ?_ (hd := by decide +kernel) (hpl := by intro _ _; with_unfolding_all rfl)
          repeat wtm_at "w"
          refine call (i3 + 1) u s3 (by rw [g2]; exact k1) O fun i5 f4 f5 f6 => ?_
          repeat wtm_at "w"
          with_reducible refine ev_append O ?_ _ (by intro _; with_unfolding_all rfl) (by intro _; with_unfolding_all rfl) (by intro _ _; with_unfolding_all rfl)
          repeat wtm_at "w"
          refine ⟨d, _, rfl, .head _, ?_⟩
          repeat wtm_at "w"
          refine ⟨0, _, rfl, hl, rfl, ?_⟩
          repeat wtm_at "w"
          exact fin i5 u rs1 (by rw [f4]; exact k3) k2 (by wtm_at "li") f6
        · have h4 : x1 ≠ 45 := by simp at h3; lia
          obtain ⟨rs1, k2, k3⟩ : ∃ rs1, rs' = (v, v) :: rs1 ∧ RC (x1 :: s1') rs1 r := by
            rcases key with ⟨k0, rs1, k1, k2⟩ | ⟨s2, u, s3, rs1, k0, k1, k2, k3⟩
            · exact ⟨rs1, k1, k2⟩
            · cases k0; exact absurd rfl h4
          repeat wtm_at "w"
          with_reducible refine ev_append O ?_ _ (by intro _; with_unfolding_all rfl) (by intro _; with_unfolding_all rfl) (by intro _ _; with_unfolding_all rfl)
          repeat wtm_at "w"
          refine ⟨d, _, rfl, .head _, ?_⟩
          repeat wtm_at "w"
          refine ⟨0, _, rfl, hl, rfl, ?_⟩
          repeat wtm_at "w"
          exact fin i3 v rs1 (by rw [f1]; exact k3) k2 (by wtm_at "li") f3
      · have h2 : c' = 93 := by simp at h1; lia
        subst h2
        cases hR with
        | done => exact ⟨i', lo, hi', by rw [← hys]; simp, e, hii⟩
        | one h => exact absurd rfl h
        | two h => exact absurd rfl h
    rintro q' ⟨i', lo, hi', rfl, e3, hii⟩
    obtain ⟨hi4, e4⟩ := drop_lt e3
    refine xs_freeze d (rs.map rng) (m' := [some (.byt (B t)), some (.int i'), some (.val (.bool (c == 94))), some (.lst (rs.map rng)), lo, hi', none]) (led' := []) (.refl _) ?_ ?_
    · intro k p e
      match k with
      | 3 => right; cases e; exact ⟨rfl, rfl⟩
      | 0 | 1 | 2 | 4 | 5 | 6 => left; exact e
      | k + 7 => cases e
    repeat wtm_at "w"
    exact ⟨rfl, i' + 1, rfl, e4, by lia, by lia⟩
end
/- C4 -/
section
open PySem PySem.W PySem.Calls PyProof.Rows Mine Pl
set_option maxHeartbeats 4000000
inductive QT : List Nat → Nat → Option Nat → List Nat → Prop
  | no {s} : s.head? ≠ some 42 → s.head? ≠ some 43 → s.head? ≠ some 63 → QT s 1 (some 1) s
  | star {s} : s.head? ≠ some 63 → QT (42 :: s) 0 none s
  | opt {s} : s.head? ≠ some 63 → QT (63 :: s) 0 (some 1) s
inductive OcR : List Nat → Oc → List Nat → Prop
  | cls {c s rs r} : RC (if c = 94 then s else c :: s) rs r → OcR (91 :: c :: s) ⟨c == 94, rs⟩ r
  | dot {s} : OcR (46 :: s) ⟨true, []⟩ s
  | esc {c s} : c ≠ 90 → OcR (92 :: c :: s) ⟨false, [(c, c)]⟩ s
  | raw {c s} : c ≠ 40 → c ≠ 41 → c ≠ 46 → c ≠ 91 → c ≠ 92 → OcR (c :: s) ⟨false, [(c, c)]⟩ s
inductive RP : List Nat → List Pt → List Nat → Prop
  | stop {s} : (s = [] ∨ s.head? = some 41) → RP s [] s
  | oct {s o s1 l m s2 ps r} : OcR s o s1 → QT s1 l m s2 → RP s2 ps r → RP s (.oct o l m :: ps) r
  | fin {s ps r} : s.head? ≠ some 42 → s.head? ≠ some 43 → s.head? ≠ some 63 → RP s ps r → RP (92 :: 90 :: s) (.fin :: ps) r
  | grp {s qs s2 l m s3 ps r} : s.head? ≠ some 63 → s ≠ [] → RP s (qs.map fun q => .oct q.1 q.2.1 q.2.2) (41 :: s2) → QT s2 l m s3 → RP s3 ps r → RP (40 :: s) (.grp qs l m :: ps) r
noncomputable def ocPV (o : Oc) : PV := .tup [.val (.bool o.neg), .lst (o.rs.map rng)]
noncomputable def mostPV : Option Nat → PV
  | none => .val .none
  | some n => .int n
noncomputable def qPV (q : Oc × Nat × Option Nat) : PV := .tup [.str (cc "octet"), ocPV q.1, .int q.2.1, mostPV q.2.2]
noncomputable def ptPV : Pt → PV
  | .oct o l m => qPV (o, l, m)
  | .grp qs l m => .tup [.str (cc "group"), .lst (qs.map qPV), .int l, mostPV m]
  | .fin => .tup [.str (cc "end"), .tup [.val (.bool true), .lst []], .int 1, .int 1]
noncomputable def Pt.kind : Pt → List Nat
  | .oct .. => cc "octet" | .grp .. => cc "group" | .fin => cc "end"
noncomputable def whatPV : Pt → PV
  | .oct o l m => ocPV o
  | .grp qs l m => .lst (qs.map qPV)
  | .fin => .tup [.val (.bool true), .lst []]
noncomputable def ptL : Pt → Nat | .oct o l m => l | .grp qs l m => l | .fin => 1
noncomputable def ptM : Pt → Option Nat | .oct o l m => m | .grp qs l m => m | .fin => some 1
theorem ptPV_eq (p : Pt) : ptPV p = .tup [.str (Pt.kind p), whatPV p, .int (ptL p), mostPV (ptM p)] := by cases p <;> rfl
inductive RPost (t : List Nat) (i : Nat) (ps : List Pt) (r : List Nat) (p : PV) (l : List (Addr × MK)) : Prop where
  | mk (h0_0 : l = []) (i' : Nat) (h1_0 : p = .tup [.lst (ps.map ptPV), .int i']) (h2_1 : t.drop i' = r) (h3_2 : i ≤ i') (h4_3 : i' ≤ t.length) : RPost t i ps r p l
theorem g_read_class (w : World) : nsIn (KP w.params) mainGlobals "_read_class" = some (some (.ref 42)) := by kernel_rfl
theorem g_read_parts (w : World) : nsIn (KP w.params) mainGlobals "_read_parts" = some (some (.ref 49)) := by kernel_rfl
inductive rpE (t : List Nat) (d : Addr) (ps : List Pt) (r : List Nat) (i : Nat) (q' : Q) : Prop where
  | mk (i' : Nat) (k2 wh le mo) (h2_0 : q' = ⟨[some (.byt (B t)), some (.int i'), some (.val (.ref d)), k2, wh, le, mo, none, none, none], [(d, .lst (ps.map ptPV))]⟩) (h3_1 : t.drop i' = r) (h4_2 : i ≤ i') (h5_3 : i' ≤ t.length) : rpE t d ps r i q'
inductive rpI (t : List Nat) (d : Addr) (r : List Nat) (ps : List Pt) (i : Nat) (n : Nat) (q' : Q) : Prop where
  | mk (i' : Nat) (k2 wh le mo ys rs') (h2_0 : q' = ⟨[some (.byt (B t)), some (.int i'), some (.val (.ref d)), k2, wh, le, mo, none, none, none], [(d, .lst (ys.map ptPV))]⟩) (h3_1 : RP (t.drop i') rs' r) (h4_2 : ys ++ rs' = ps) (h5_3 : n = t.length - i') (h6_4 : i ≤ i') (h7_5 : i' ≤ t.length) : rpI t d r ps i n q'
inductive rpB (t : List Nat) (d : Addr) (le : Option PV) (mo : Option PV) (ys : List Pt) (rs' : List Pt) (r : List Nat) (i' : Nat) (q' : Q) : Prop where
  | mk (i1 : Nat) (p ps' s2) (h2_0 : q' = ⟨[some (.byt (B t)), some (.int i1), some (.val (.ref d)), some (.str (Pt.kind p)), some (whatPV p), le, mo, none, none, none], [(d, .lst (ys.map ptPV))]⟩) (h3_1 : rs' = p :: ps') (h4_2 : QT (t.drop i1) (ptL p) (ptM p) s2) (h5_3 : RP s2 ps' r) (h6_4 : i' < i1) (h7_5 : i1 ≤ t.length) : rpB t d le mo ys rs' r i' q'
inductive rpC (t : List Nat) (p : Pt) (l0 : Nat) (m0 : Option Nat) (d : Addr) (ys : List Pt) (ps' : List Pt) (r : List Nat) (i1 : Nat) (q' : Q) : Prop where
  | mk (i2 : Nat) (h1_0 : q' = ⟨[some (.byt (B t)), some (.int i2), some (.val (.ref d)), some (.str (Pt.kind p)), some (whatPV p), some (.int l0), some (mostPV m0), none, none, none], [(d, .lst (ys.map ptPV))]⟩) (h2_1 : RP (t.drop i2) ps' r) (h3_2 : i1 ≤ i2) (h4_3 : i2 ≤ t.length) : rpC t p l0 m0 d ys ps' r i1 q'
theorem rp_core (w : World) (t : List Nat) (ht : ∀ c ∈ t, c < 256) (hz : t.length ≤ 10000) (i : Nat) (hi0 : i ≤ t.length) (ps : List Pt) (r : List Nat) (h : RP (t.drop i) ps r) (hpl : ps.length ≤ 10000) (K : Nat) (hK : 2 ≤ K)
    (hin : ∀ qs l m, Pt.grp qs l m ∈ ps → ∀ (j : Nat) s2, j ≤ t.length → RP (t.drop j) (qs.map fun q => .oct q.1 q.2.1 q.2.2) (41 :: s2) → Cl true (.ref 49) [.byt (B t), .int j] [] K (RPost t j (qs.map fun q => .oct q.1 q.2.1 q.2.2) (41 :: s2)) w) :
    Cl true (.ref 49) [.byt (B t), .int i] [] (K + 1) (RPost t i ps r) w := by
  refine cl_def (dargs := []) (dvals := []) (ps := ["text", "i"]) (by rfl) (by conv => lhs; whnf) (by conv => lhs; whnf) (by kernel_rfl) ?hb (fun _ => isL_nil.mpr rfl) rfl (by decide +kernel) ?hloc (by decide +kernel) (by decide +kernel) rfl rfl rfl (m₀ := [some (.byt (B t)), some (.int i), none, none, none, none, none, none, none, none]) (by kernel_rfl) ?body (by wtm_at "li")
  case hb =>
    intro s vals X hl
    obtain ⟨a, b, rfl⟩ := vlist2 hl
    exact .of_eq (by kernel_rfl)
  case hloc => decide +kernel
  case body =>
    intro y hw O hn hr hcl K0 hKr hKn
    subst hw
    have hh := O.hand (hn rfl)
    have hB : (B t).length = t.length := by simp
    refine xs_st (ex_asg (hs := by rfl) O 2 rfl (by with_reducible rfl) (ev_lstM (evs_nil ⟨by simp, fun d => co_nxt ?_⟩)))
    refine xs_mid (rpE t d ps r i) ?_ ?_
    · refine ex_whileK noE noE_pass (rpI t d r ps i) ?_ _ ⟨i, none, none, none, none, [], ps, rfl, h, rfl, rfl, by lia, by lia⟩
      rintro n q' ⟨i', k2, wh, le, mo, ys, rs', rfl, hR, hys, rfl, hii, hil⟩ K1 hN1 hC1 hB1 hR1
      repeat wtm_at "e"
      cases e : t.drop i' with
      | nil =>
        have : t.length ≤ i' := drop_nil_le e
        with_reducible refine ite_f (by wtm_at "tt") ?_
        rw [e] at hR
        cases hR with
        | stop _ => exact ⟨i', k2, wh, le, mo, by rw [← hys]; simp, e, hii, hil⟩
        | oct a => cases a
      | cons c s =>
        obtain ⟨hi3, e3⟩ := drop_lt e
        with_reducible refine ite_t (by wtm_at "tt") ?_
        repeat wtm_at "e"
        rw [B_at ht e (by wtm_at "li")]
        rw [e] at hR
        with_reducible refine br_ite (fun h1 => ?_) (fun h1 => ?_)
        · have h2 : c ≠ 41 := by simp at h1; lia
          repeat wtm_at "e"
          refine xs_st ?_
          repeat wtm_at "e"
          refine co_nxt (xs_st ?_)
          repeat wtm_at "e"
          refine ev_lstF (evs_nil ⟨by simp, ?_⟩)
          repeat wtm_at "e"
          refine co_nxt ?_
          have hb4 : ∀ (j k : Nat), ∀ x ∈ (t.drop j).take k, x < 256 := fun j k x hx => ht x (List.mem_of_mem_drop (List.mem_of_mem_take hx))
          refine xs_mid (rpB t d le mo ys rs' r i') ?_ ?_
          · repeat wtm_at "e"
            rw [cutB4, B_beq (lt_part ht _ _), e]
            cases hR with
            | stop hst => simp at hst; exact absurd hst h2
            | oct a q hR =>
              cases a with
              | dot =>
                with_reducible refine ite_f (by simp) ?_
                repeat wtm_at "w"
                rw [B_at ht e (by wtm_at "li")]
                with_reducible refine ite_f (by decide) ?_
                repeat wtm_at "w"
                rw [B_at ht e (by wtm_at "li")]
                with_reducible refine ite_f (by decide) ?_
                repeat wtm_at "w"
                rw [cutB2, B_beq (lt_part ht _ _), e]
                with_reducible refine ite_f (by simp) ?_
                repeat wtm_at "w"
                rw [B_at ht e (by wtm_at "li")]
                with_reducible refine ite_t (by decide) ?_
                repeat wtm_at "w"
                exact ⟨i' + 1, _, _, _, rfl, rfl, by rw [e3]; exact q, hR, by lia, by lia⟩
              | esc h =>
                obtain ⟨hi4, e4⟩ := drop_lt e3
                with_reducible refine ite_f (by simp) ?_
                repeat wtm_at "w"
                rw [B_at ht e (by wtm_at "li")]
                with_reducible refine ite_f (by decide) ?_
                repeat wtm_at "w"
                rw [B_at ht e (by wtm_at "li")]
                with_reducible refine ite_f (by decide) ?_
                repeat wtm_at "w"
                rw [cutB2, B_beq (lt_part ht _ _), e]
                with_reducible refine ite_f (by simp [h]) ?_
                repeat wtm_at "w"
                rw [B_at ht e (by wtm_at "li")]
                with_reducible refine ite_f (by decide) ?_
                repeat wtm_at "w"
                rw [B_at ht e (by wtm_at "li")]
                with_reducible refine ite_t (by decide) ?_
                repeat wtm_at "wF"
                rw [B_at ht e3 (by wtm_at "li")]
                exact ⟨i' + 2, _, _, _, rfl, rfl, by rw [e4]; exact q, hR, by lia, by lia⟩
              | raw h40 h41 h46 h91 h92 =>
                with_reducible refine ite_f (by simp [h40]) ?_
                repeat wtm_at "w"
                rw [B_at ht e (by wtm_at "li")]
                with_reducible refine ite_f (by wtm_at "tt") ?_
                repeat wtm_at "w"
                rw [B_at ht e (by wtm_at "li")]
                with_reducible refine ite_f (by wtm_at "tt") ?_
                repeat wtm_at "w"
                rw [cutB2, B_beq (lt_part ht _ _), e]
                with_reducible refine ite_f (by simp [h92]) ?_
                repeat wtm_at "w"
                rw [B_at ht e (by wtm_at "li")]
                with_reducible refine ite_f (by wtm_at "tt") ?_
                repeat wtm_at "w"
                rw [B_at ht e (by wtm_at "li")]
                with_reducible refine ite_f (by wtm_at "tt") ?_
                repeat wtm_at "wF"
                rw [B_at ht e (by wtm_at "li")]
                exact ⟨i' + 1, _, _, _, rfl, rfl, by rw [e3]; exact q, hR, by lia, by lia⟩
              | cls hc =>
                with_reducible refine ite_f (by simp) ?_
                repeat wtm_at "w"
                rw [B_at ht e (by wtm_at "li")]
                with_reducible refine ite_f (by decide) ?_
                repeat wtm_at "w"
                rw [B_at ht e (by wtm_at "li")]
                with_reducible refine ite_t (by decide) ?_
                repeat wtm_at "w"
                with_reducible refine ev_callG O 9 (by with_unfolding_all rfl) (by with_reducible rfl) (g_read_class _) (by with_unfolding_all rfl) ?_ (hd := by decide +kernel) (hpl := by intro _ _; with_unfolding_all rfl)
                repeat wtm_at "w"
                refine call_pure (cl_read_class y.w t ht hz (i' + 1) _ _ e3 _ _ hc) O hn (by wtm_at "li") ?_
                rintro p fp ⟨rfl, i5, rfl, f1, f2, f3⟩
                repeat wtm_at "w"
                exact ⟨i5, _, _, _, rfl, rfl, by rw [f1]; exact q, hR, by lia, by lia⟩
            | fin q1 q2 q3 hR =>
              obtain ⟨hi4, e4⟩ := drop_lt e3
              with_reducible refine ite_f (by simp) ?_
              repeat wtm_at "w"
              rw [B_at ht e (by wtm_at "li")]
              with_reducible refine ite_f (by decide) ?_
              repeat wtm_at "w"
              rw [B_at ht e (by wtm_at "li")]
              with_reducible refine ite_f (by decide) ?_
              repeat wtm_at "w"
              rw [cutB2, B_beq (lt_part ht _ _), e]
              with_reducible refine ite_t (by simp) ?_
              repeat wtm_at "w"
              exact ⟨i' + 2, .fin, _, _, rfl, rfl, by rw [e4]; exact .no q1 q2 q3, hR, by lia, by lia⟩
            | grp g1 g0 g2 q hR =>
              obtain ⟨x1, s', rfl⟩ : ∃ x1 s', s = x1 :: s' := by
                cases s with
                | nil => exact absurd rfl g0
                | cons x1 s' => exact ⟨x1, s', rfl⟩
              obtain ⟨hi4, e4⟩ := drop_lt e3
              with_reducible refine ite_f (by simp; intro h; exact absurd (by rw [h]; with_unfolding_all rfl) g1) ?_
              repeat wtm_at "w"
              rw [B_at ht e (by wtm_at "li")]
              with_reducible refine ite_t (by decide) ?_
              repeat wtm_at "w"
              with_reducible refine ev_callG O 8 (by with_unfolding_all rfl) (by with_reducible rfl) (g_read_parts _) (by with_unfolding_all rfl) ?_ (hd := by decide +kernel) (hpl := by intro _ _; with_unfolding_all rfl)
              repeat wtm_at "w"
              rw [B_at ht e3 (by wtm_at "li")]
              with_reducible refine ite_f (by simp at g1 ⊢; lia) ?_
              repeat wtm_at "w"
              refine call_pure (hin _ _ _ (by rw [← hys]; simp; exact .inr (.inl ⟨rfl, rfl, rfl⟩)) (i' + 1) _ (by wtm_at "li") (by rw [e3]; exact g2)) O hn (by wtm_at "li") ?_
              rintro p fp ⟨rfl, i5, rfl, f1, f2, f3⟩
              obtain ⟨hi5, e5⟩ := drop_lt f1
              repeat wtm_at "w"
              exact ⟨i5 + 1, .grp _ _ _, _, _, by rw [show (∀ qs : List (Oc × Nat × Option Nat), (qs.map fun q => Pt.oct q.1 q.2.1 q.2.2).map ptPV = qs.map qPV) from fun qs => by simp [List.map_map, Function.comp_def, ptPV]]; rfl, rfl, by rw [e5]; exact q, hR, by lia, by lia⟩
          rintro q' ⟨i1, p, ps', s2, rfl, rfl, hQ, hR', hlt, hle⟩
          refine xs_st ?_
          repeat wtm_at "e"
          refine co_nxt ?_
          refine xs_mid (rpC t p (ptL p) (ptM p) d ys ps' r i1) ?_ ?_
          · generalize hl : ptL p = l0 at *
            generalize hm : ptM p = m0 at *
            cases e5 : t.drop i1 with
            | nil =>
              have : t.length ≤ i1 := drop_nil_le e5
              repeat wtm_at "w"
              with_reducible refine ite_f (by wtm_at "tt") ?_
              repeat wtm_at "w"
              rw [e5] at hQ
              cases hQ with
              | no q1 q2 q3 => exact ⟨i1, rfl, by rw [e5]; exact hR', by lia, by lia⟩
            | cons c1 s1 =>
              obtain ⟨hi6, e6⟩ := drop_lt e5
              have hc1 : c1 < 256 := ht c1 (List.mem_of_mem_drop (by rw [e5]; exact .head _))
              rw [e5] at hQ
              have hin1 : ([42, 43, 63] : List UInt8).contains ((c1 : Int)).toNat.toUInt8 = (decide (c1 = 42) || (decide (c1 = 43) || decide (c1 = 63))) := by
                rw [show ((c1 : Int)).toNat = c1 from rfl, u8_contains _ hc1]; simp
              have last : ∀ (q' : Nat), (q' : Nat) = i1 + 1 → s1.head? ≠ some 63 → (q' < t.length → ∃ c2 s2, t.drop q' = c2 :: s2 ∧ c2 ≠ 63) := by
                intro q' hq h63 hlt'
                subst hq
                cases e7 : t.drop (i1 + 1) with
                | nil => have := congrArg List.length e7; simp at this; lia
                | cons c2 s3 => rw [e7] at e6; subst e6; exact ⟨c2, s3, rfl, by simpa using h63⟩
              repeat wtm_at "w"
              with_reducible refine ite_t (by wtm_at "tt") ?_
              repeat wtm_at "w"
              rw [B_at ht e5 (by wtm_at "li")]
              repeat wtm_at "w"
              rw [hin1]
              cases hQ with
              | no q1 q2 q3 =>
                simp at q1 q2 q3
                with_reducible refine ite_f (by simp [q1, q2, q3]) ?_
                repeat wtm_at "w"
                exact ⟨i1, rfl, by rw [e5]; exact hR', by lia, by lia⟩
              | star h63 =>
                with_reducible refine ite_t (by decide) ?_
                repeat wtm_at "w"
                rw [B_at ht e5 (by wtm_at "li")]
                with_reducible refine ite_f (by decide) ?_
                repeat wtm_at "w"
                rw [B_at ht e5 (by wtm_at "li")]
                with_reducible refine ite_f (by decide) ?_
                repeat wtm_at "w"
                by_cases h7 : i1 + 1 < t.length
                · obtain ⟨c2, s2', e7, h8⟩ := last _ rfl h63 h7
                  with_reducible refine ite_t (by wtm_at "tt") ?_
                  repeat wtm_at "w"
                  rw [B_at ht e7 (by wtm_at "li")]
                  with_reducible refine ite_f (by wtm_at "tt") ?_
                  repeat wtm_at "w"
                  exact ⟨i1 + 1, rfl, by rw [e6]; exact hR', by lia, by lia⟩
                · with_reducible refine ite_f (by wtm_at "tt") ?_
                  repeat wtm_at "w"
                  exact ⟨i1 + 1, rfl, by rw [e6]; exact hR', by lia, by lia⟩
              | opt h63 =>
                with_reducible refine ite_t (by decide) ?_
                repeat wtm_at "w"
                rw [B_at ht e5 (by wtm_at "li")]
                with_reducible refine ite_f (by decide) ?_
                repeat wtm_at "w"
                rw [B_at ht e5 (by wtm_at "li")]
                with_reducible refine ite_t (by decide) ?_
                repeat wtm_at "w"
                by_cases h7 : i1 + 1 < t.length
                · obtain ⟨c2, s2', e7, h8⟩ := last _ rfl h63 h7
                  with_reducible refine ite_t (by wtm_at "tt") ?_
                  repeat wtm_at "w"
                  rw [B_at ht e7 (by wtm_at "li")]
                  with_reducible refine ite_f (by wtm_at "tt") ?_
                  repeat wtm_at "w"
                  exact ⟨i1 + 1, rfl, by rw [e6]; exact hR', by lia, by lia⟩
                · with_reducible refine ite_f (by wtm_at "tt") ?_
                  repeat wtm_at "w"
                  exact ⟨i1 + 1, rfl, by rw [e6]; exact hR', by lia, by lia⟩
          rintro q' ⟨i2, rfl, hR2, hlt2, hle2⟩
          refine xs_st ?_
          repeat wtm_at "e"
          with_reducible refine ev_append O ?_ _ (by intro _; with_unfolding_all rfl) (by intro _; with_unfolding_all rfl) (by intro _ _; with_unfolding_all rfl)
          repeat wtm_at "w"
          refine ⟨d, _, rfl, .head _, ?_⟩
          repeat wtm_at "w"
          refine ⟨0, _, rfl, by simp; have := congrArg List.length hys; simp at this; lia, rfl, ?_⟩
          repeat wtm_at "w"
          exact ⟨t.length - i2, by lia, i2, _, _, _, _, ys ++ [p], ps', by rw [List.map_append, List.map_cons, ptPV_eq]; rfl, hR2, by rw [← hys]; simp, rfl, by lia, hle2⟩
        · have h2 : c = 41 := by simp at h1; lia
          subst h2
          cases hR with
          | stop _ => exact ⟨i', k2, wh, le, mo, by rw [← hys]; simp, e, hii, hil⟩
          | oct a => cases a <;> contradiction
    rintro q' ⟨i', k2, wh, le, mo, rfl, e3, hii, hil⟩
    refine xs_freeze d (ps.map ptPV) (m' := [some (.byt (B t)), some (.int i'), some (.lst (ps.map ptPV)), k2, wh, le, mo, none, none, none]) (led' := []) (.refl _) ?_ ?_
    · intro k p e
      match k with
      | 2 => right; cases e; exact ⟨rfl, rfl⟩
      | 0 | 1 | 3 | 4 | 5 | 6 | 7 | 8 | 9 => left; exact e
      | k + 10 => cases e
    repeat wtm_at "w"
    exact ⟨rfl, i', rfl, e3, hii, hil⟩
theorem cl_read_parts (w : World) (t : List Nat) (ht : ∀ c ∈ t, c < 256) (hz : t.length ≤ 10000) (i : Nat) (hi0 : i ≤ t.length) (ps : List Pt) (r : List Nat) (h : RP (t.drop i) ps r) (hpl : ps.length ≤ 10000) (hgl : ∀ qs l m, Pt.grp qs l m ∈ ps → qs.length ≤ 10000) :
    Cl true (.ref 49) [.byt (B t), .int i] [] 4 (RPost t i ps r) w :=
  rp_core w t ht hz i hi0 ps r h hpl 3 (by wtm_at "li") fun qs l m hm j s2 hj h2 => rp_core w t ht hz j hj _ _ h2 (by simpa using hgl qs l m hm) 2 (by wtm_at "li") fun qs' l' m' hm' => by
    obtain ⟨q, _, e⟩ := List.mem_map.mp hm'
    cases e
end
/- C5 -/
section
open PySem PySem.W PySem.Calls PyProof.Rows Mine Pl
set_option maxHeartbeats 4000000
noncomputable def exFs (P : PV) : List (Str × PV) := [("parts", P), ("ignorecase", .val (.bool false))]
theorem plain92 (w : World) : PlainCls (KP w.params) 92 where
  cls := ⟨_, rfl, rfl⟩
  ga := by kernel_rfl
  gt := by kernel_rfl
  sa := by kernel_rfl
  over := by kernel_rfl
section
variable {x : Act} {cs : Scope} {E : Er} {q : Q} {Qn : PV → Q → Prop}
theorem get_ic {a d : Addr} {P : PV} (O : x.Ok cs) (h1 : (a, MK.inst 92 d) ∈ q.led) (h2 : (d, MK.ns (exFs P)) ∈ q.led) (h : Qn (.val (.bool false)) q) : Get x cs (.val (.ref a)) "ignorecase" q Qn E :=
  get_inst O (plain92 _) (by kernel_rfl) h1 h2 (by simp [exFs]) rfl h
theorem get_parts {a d : Addr} {P : PV} (O : x.Ok cs) (h1 : (a, MK.inst 92 d) ∈ q.led) (h2 : (d, MK.ns (exFs P)) ∈ q.led) (hP : P.handed = true) (h : Qn P q) : Get x cs (.val (.ref a)) "parts" q Qn E :=
  get_inst O (plain92 _) (by kernel_rfl) h1 h2 (by simp [exFs]) hP h
end
noncomputable def ocHolds (o : Oc) (c : Nat) : Bool := if o.rs.any (fun m => decide (m.1 ≤ c) && decide (c ≤ m.2)) then !o.neg else o.neg
inductive hoI (a : Addr) (o : Oc) (c : Nat) (P : PV) (d : Addr) (i : Nat) (q2 : Q) : Prop where
  | mk (lo hi one) (h1_0 : q2 = ⟨[some (.val (.ref a)), some (ocPV o), some (.int c), some (.val (.bool o.neg)), some (.lst (o.rs.map rng)), some (.lst [.int c]), lo, hi, one], [(a, .inst 92 d), (d, .ns (exFs P))]⟩) (h2_1 : (o.rs.take i).any (fun m => decide (m.1 ≤ c) && decide (c ≤ m.2)) = false) : hoI a o c P d i q2
theorem cl_holds (w : World) (o : Oc) (c : Nat) (hrs : o.rs.length ≤ 100000) (a d : Addr) (P : PV) :
    Cl true (.ref 70) [.val (.ref a), ocPV o, .int c] [(a, .inst 92 d), (d, .ns (exFs P))] 1 (fun p l => p = .val (.bool (ocHolds o c)) ∧ l = [(a, .inst 92 d), (d, .ns (exFs P))]) w := by
  refine cl_def (dargs := []) (dvals := []) (ps := ["self", "what", "octet"]) (by rfl) (by conv => lhs; whnf) (by conv => lhs; whnf) (by kernel_rfl) ?hb (fun _ => isL_nil.mpr rfl) rfl (by decide +kernel) ?hloc (by decide +kernel) (by decide +kernel) rfl rfl rfl (m₀ := [some (.val (.ref a)), some (ocPV o), some (.int c), none, none, none, none, none, none]) (by kernel_rfl) ?body (by wtm_at "li")
  case hb =>
    intro s vals X hl
    obtain ⟨a, b, c, rfl⟩ := vlist3 hl
    exact .of_eq (by kernel_rfl)
  case hloc => decide +kernel
  case body =>
    intro y hw O hn hr hcl K0 hKr hKn
    subst hw
    have hh := O.hand (hn rfl)
    refine xs_st ?_
    repeat wtm_at "w"
    unfold ocPV
    repeat wtm_at "wF"
    try refine ev_attr ?_
    repeat wtm_at "wF"
    refine get_ic O (.head _) (.tail _ (.head _)) ?_
    repeat wtm_at "wF"
    try refine ev_attr ?_
    repeat wtm_at "wF"
    refine get_ic O (.head _) (.tail _ (.head _)) ?_
    repeat wtm_at "wF"
    refine ex_forK (hs := by intro _; rfl) hh noE noE_pass (fun _ _ => o.rs.map rng) (fun _ _ => hoI a o c P d) ?_
    repeat wtm_at "w"
    refine ⟨iter_lst hh, ⟨none, none, none, rfl, by simp⟩, ?turn, ?fin⟩
    case fin =>
      rintro q2 ⟨lo, hi, one, rfl, hany⟩
      repeat wtm_at "w"
      rw [List.length_map, List.take_length] at hany
      exact ⟨by rw [ocHolds, hany]; rfl, rfl⟩
    case turn =>
      rintro i el q2 hel ⟨lo, hi, one, rfl, hany⟩ K1 hN1 hC1 hB1 hR1
      rw [List.getElem?_map] at hel
      obtain ⟨m, hm, rfl⟩ := Option.map_eq_some_iff.mp hel
      unfold rng
      repeat wtm_at "w"
      refine ex_forK (hs := by intro _; rfl) hh noE noE_pass (fun _ _ => [.int c]) (fun _ _ k q2 => ∃ one, q2 = ⟨[some (.val (.ref a)), some (ocPV o), some (.int c), some (.val (.bool o.neg)), some (.lst (o.rs.map rng)), some (.lst [.int c]), some (.int m.1), some (.int m.2), one], [(a, .inst 92 d), (d, .ns (exFs P))]⟩ ∧ (k = 1 → (decide (m.1 ≤ c) && decide (c ≤ m.2)) = false)) ?_
      repeat wtm_at "w"
      refine ⟨iter_lst hh, ⟨one, rfl, by simp⟩, ?turn2, ?fin2⟩
      case fin2 =>
        rintro q2 ⟨one, rfl, hk⟩
        repeat wtm_at "w"
        refine ⟨_, _, _, rfl, ?_⟩
        rw [List.take_add_one, hm, List.any_append, hany]
        simpa using hk rfl
      case turn2 =>
        rintro k el q3 hel2 ⟨one, rfl, hk⟩ K2 hN2 hC2 hB2 hR2
        match k, hel2 with
        | 0, hel2 =>
          cases hel2
          repeat wtm_at "w"
          with_reducible refine br_ite (fun h1 => ?_) (fun h1 => ?_)
          · repeat wtm_at "w"
            with_reducible refine br_ite (fun h2 => ?_) (fun h2 => ?_)
            · repeat wtm_at "w"
              have hin : o.rs.any (fun m => decide (m.1 ≤ c) && decide (c ≤ m.2)) = true := List.any_eq_true.mpr ⟨m, List.mem_of_getElem? hm, by simp at h1 h2 ⊢; lia⟩
              exact ⟨by rw [ocHolds, hin]; rfl, rfl⟩
            · repeat wtm_at "w"
              refine ⟨_, rfl, fun _ => ?_⟩
              simp at h1 h2 ⊢; lia
          · repeat wtm_at "w"
            refine ⟨_, rfl, fun _ => ?_⟩
            simp at h1 ⊢; lia
        | k + 1, hel2 => cases hel2
end
/- C6 -/
section
open PySem PySem.W PySem.Calls PyProof.Rows Mine Pl
set_option maxHeartbeats 4000000
noncomputable def natL (l : List Nat) : List PV := l.map fun (n : Nat) => PV.int n
noncomputable abbrev exFp (a d : Addr) (P : PV) : List (Addr × MK) := [(a, .inst 92 d), (d, .ns (exFs P))]
noncomputable def onceO (o : Oc) (name now : List Nat) : List Nat := (now.filter fun x => decide (x < name.length) && ocHolds o (name.getD x 0)).map (· + 1)
theorem meth_holds (w : World) : findIn (KP w.params) (.ref 92) "holds" = some (some (.ref 70)) := by kernel_rfl
theorem meth_ends (w : World) : findIn (KP w.params) (.ref 92) "ends" = some (some (.ref 82)) := by kernel_rfl
theorem meth_once (w : World) : findIn (KP w.params) (.ref 92) "once" = some (some (.ref 75)) := by kernel_rfl
theorem type_70 (w : World) : typeIn (KP w.params) (.ref 70) = some (.type "function") := by kernel_rfl
theorem type_75 (w : World) : typeIn (KP w.params) (.ref 75) = some (.type "function") := by kernel_rfl
theorem type_82 (w : World) : typeIn (KP w.params) (.ref 82) = some (.type "function") := by kernel_rfl
section
variable {x : Act} {cs : Scope} {E : Er} {q : Q} {Qn : PV → Q → Prop}
theorem call_id {b : Bool} {f : Value} {args : List PV} {fp rest : List (Addr × MK)} {need : Nat} {T : PV → Prop} (C : Cl b f args fp need (fun p l => T p ∧ l = fp) x.w) (O : x.Ok cs) (hb : b = true → x.hn = true) (hr : need ≤ x.r) (hp : q.led.Perm (fp ++ rest))
    (h : ∀ p, T p → Qn p q) : CallR x cs f args q Qn E := fun hid g s vs R il => by
  have R' : Rep x cs hid g ⟨q.m, fp ++ rest⟩ s := Rep.perm (l := q.led) R hp
  refine dn_k (wpAny_call (C x cs hid g q.m rest s vs E rfl O hb hr R' il)) fun v s' g' p q' a b c ⟨fp', e, d1, d2⟩ => ?_
  subst e; subst d2
  exact ⟨g', p, q, a, b, c.perm hp.symm, h p d1⟩
theorem ev_inst {o : Expr} {name : Str} {apos : Pos} {es pos} {C f : Addr} (O : x.Ok cs) (Pc : PlainCls (KP x.w.params) C) (hf : findIn (KP x.w.params) (.ref C) name = some (some (.ref f))) (ht : typeIn (KP x.w.params) (.ref f) = some (.type "function")) (hk : keepOk (KP x.w.params) (.ref f) = true)
    (h : Ev x cs o q (fun a q1 => ∃ ad d fs, a = .val (.ref ad) ∧ (ad, MK.inst C d) ∈ q1.led ∧ (d, MK.ns fs) ∈ q1.led ∧ name ∉ fs.map (·.1) ∧ Evs x cs es q1 (fun ps q2 => CallR x cs (.ref f) (.val (.ref ad) :: ps) q2 Qn E) E) E)
    (pl : Env → Sem Bool)
    (he : ∀ env, eval (.Call (.Attribute o name apos) es [] pos) env = (do
      let ov ← eval o env
      standAt apos.atName
      let (f, first) ← holding [ov] (getMethod ov name (pl env))
      callWith pos f first (backTo pos (starEach es env)) (backToKw pos (keywordEach [] env))))
    (hpl : ∀ pos env, (backTo pos (starEach es env)).any (·.1) = false) : Ev x cs (.Call (.Attribute o name apos) es [] pos) q Qn E := by
  refine ev_meth O (h.imp fun a q1 ⟨ad, d, fs, ea, h1, h2, h3, h4⟩ => ?_) pl he hpl
  subst ea
  exact mth_inst O Pc hf ht h1 h2 h3 ⟨hk, h4⟩
end
theorem keep_82 (w : World) : keepOk (KP w.params) (.ref 82) = true := by kernel_rfl
theorem keep_70 (w : World) : keepOk (KP w.params) (.ref 70) = true := by kernel_rfl
theorem keep_75 (w : World) : keepOk (KP w.params) (.ref 75) = true := by kernel_rfl
noncomputable def onceSpec (w : World) (a d : Addr) (P : PV) (name : List Nat) (K : Nat) (now out : List Nat) : Pt → Prop
  | .oct o _ _ => out = onceO o name now ∧ o.rs.length ≤ 100000
  | .fin => out = now.filter (fun x => x == name.length)
  | .grp qs _ _ => Cl true (.ref 82) [.val (.ref a), .lst (qs.map qPV), .byt (B name), .lst (natL now)] (exFp a d P) K (fun p l => p = .lst (natL out) ∧ l = exFp a d P) w
inductive onF (L a d : Addr) (P : PV) (name now : List Nat) (i : Nat) (ys : List PV) (led : List (Addr × MK)) : Prop where
  | mk (h0 : led = ((L + 3, .cell (.byt (B name))) :: (L + 2, .cell (whatPV .fin)) :: (L + 1, .cell (.val (.ref a))) :: exFp a d P)) (h1 : ys = natL ((now.take i).filter (fun x => x == name.length))) : onF L a d P name now i ys led
inductive onO (L a d : Addr) (P : PV) (name now : List Nat) (o : Oc) (i : Nat) (ys : List PV) (led : List (Addr × MK)) : Prop where
  | mk (h0 : led = ((L + 3, .cell (.byt (B name))) :: (L + 2, .cell (ocPV o)) :: (L + 1, .cell (.val (.ref a))) :: exFp a d P)) (h1 : ys = natL (onceO o name (now.take i))) : onO L a d P name now o i ys led
theorem cl_once (w : World) (a d : Addr) (P : PV) (name : List Nat) (hname : ∀ c ∈ name, c < 256) (hz : name.length ≤ 10000) (K : Nat) (hK : 1 ≤ K) (now out : List Nat) (hnow : now.length ≤ 10000) (p : Pt) (hp : onceSpec w a d P name K now out p) :
    Cl true (.ref 75) [.val (.ref a), .str (Pt.kind p), whatPV p, .byt (B name), .lst (natL now)] (exFp a d P) (K + 1) (fun r l => r = .lst (natL out) ∧ l = exFp a d P) w := by
  refine cl_defC (ps := ["self", "kind", "what", "name", "places"]) (by rfl) (by conv => lhs; whnf) (by conv => lhs; whnf) (by kernel_rfl) ?hb rfl (by decide +kernel) ?hloc (by decide +kernel) (by decide +kernel) (by decide +kernel) rfl rfl rfl (m₀ := [none, some (.str (Pt.kind p)), none, none, some (.lst (natL now))]) (by kernel_rfl) ?body (by wtm_at "li")
  case hb =>
    intro s vals X hl
    obtain ⟨a, b, c, d, e, rfl⟩ := vlist5 hl
    exact .of_eq (by kernel_rfl)
  case hloc => decide +kernel
  case body =>
    intro y L hw O W hn hr hcl K0 hKr hKn
    subst hw
    have hh := O.hand (hn rfl)
    have hcl : y.cl = [(Str.ofString "name", L + 3), (Str.ofString "what", L + 2), (Str.ofString "self", L + 1)] := hcl.trans (by kernel_rfl)
    have c1 : y.cl.lookup (Str.ofString "self") = some (L + 1) := by rw [hcl]; kernel_rfl
    have c2 : y.cl.lookup (Str.ofString "what") = some (L + 2) := by rw [hcl]; kernel_rfl
    have c3 : y.cl.lookup (Str.ofString "name") = some (L + 3) := by rw [hcl]; kernel_rfl
    refine exs_led ((L + 3, .cell (.byt (B name))) :: (L + 2, .cell (whatPV p)) :: (L + 1, .cell (.val (.ref a))) :: exFp a d P) (by kernel_rfl) ?_
    cases p with
    | grp qs l m =>
      repeat wtm_at "w"
      with_reducible refine ev_inst O (plain92 _) (meth_ends _) (type_82 _) (keep_82 _) ?_ _ (by intro _; with_unfolding_all rfl) (by intro _ _; with_unfolding_all rfl)
      wtm_at "C"
      refine ⟨a, d, exFs P, rfl, by simp, by simp, (show (Str.ofString "ends") ∉ [Str.ofString "parts", Str.ofString "ignorecase"] by decide +kernel), ?_⟩
      repeat first | wtm_at "C" | wtm_at "w"
      refine call_cl hp O hn (by wtm_at "li") (List.perm_append_comm (l₁ := [_, _, _]) (l₂ := exFp a d P)) ?_
      rintro r l ⟨rfl, rfl⟩
      repeat wtm_at "w"
      exact ⟨exFp a d P, _, .refl _, rfl, rfl⟩
    | fin =>
      repeat wtm_at "w"
      refine ev_compR (hs := by intro _; rfl) (ht := by intro _ _; rfl) { kind := .function, names := [(Str.ofString ".0", .local), (Str.ofString "place", .local), (Str.ofString "len", .globalImplicit), (Str.ofString "name", .cell)], isGenerator := false, isCoroutine := false, more := [] } [(Str.ofString "name", L + 3)] O (by kernel_rfl) ?_ (clos_of hcl (by kernel_rfl)) (by decide +kernel) rfl (by decide +kernel) (by decide +kernel)
      repeat wtm_at "w"
      refine ⟨natL now, _, [], onF L a d P name now, iter_lst hh, by rw [List.append_nil], by simp [natL]; lia, ⟨rfl, rfl⟩, ?tu, ?fi⟩
      case fi =>
        rintro ys led ⟨rfl, rfl⟩
        repeat wtm_at "w"
        refine ⟨exFp a d P, _, List.perm_append_comm (l₁ := [_, _, _]) (l₂ := exFp a d P), ?_, rfl⟩
        rw [hp]; simp [natL, List.take_of_length_le]
      case tu =>
        rintro y2 hw2 O hr2 hn2 hh2 hcl2 D i el ys m led hel ⟨rfl, rfl⟩ hm
        have hh := hh2.trans hh
        have c3 : y2.cl.lookup (Str.ofString "name") = some (L + 3) := by rw [hcl2]; kernel_rfl
        obtain ⟨v, hv, rfl⟩ := Option.map_eq_some_iff.mp ((List.getElem?_map ..).symm.trans hel)
        match m, hm with
        | [m0, m1, m2, m3], _ =>
          repeat first | wtm_at "C" | wtm_at "w"
          have e1 : (now.take (i + 1)).filter (fun x => x == name.length) = (now.take i).filter (fun x => x == name.length) ++ if v == name.length then [v] else [] := by
            rw [List.take_add_one, hv, List.filter_append]; simp [List.filter_cons]
          with_reducible refine br_ite (fun h1 => ?_) (fun h1 => ?_)
          · have h2 : (v == name.length) = true := by simp at h1 ⊢; lia
            repeat first | wtm_at "C" | wtm_at "w"
            exact ⟨_, _, rfl, rfl, rfl, by rw [e1, if_pos h2]; simp [natL]⟩
          · have h2 : (v == name.length) = false := by simp at h1 ⊢; lia
            exact ⟨_, _, rfl, rfl, rfl, by rw [e1, h2]; simp⟩
    | oct o l m =>
      obtain ⟨rfl, hrs⟩ := hp
      repeat wtm_at "w"
      refine ev_compR (hs := by intro _; rfl) (ht := by intro _ _; rfl) { kind := .function, names := [(Str.ofString ".0", .local), (Str.ofString "place", .local), (Str.ofString "len", .globalImplicit), (Str.ofString "name", .cell), (Str.ofString "self", .cell), (Str.ofString "what", .cell)], isGenerator := false, isCoroutine := false, more := [] } [(Str.ofString "what", L + 2), (Str.ofString "self", L + 1), (Str.ofString "name", L + 3)] O (by kernel_rfl) ?_ (clos_of hcl (by kernel_rfl)) (by decide +kernel) rfl (by decide +kernel) (by decide +kernel)
      repeat wtm_at "w"
      refine ⟨natL now, _, [], onO L a d P name now o, iter_lst hh, by rw [List.append_nil]; rfl, by simp [natL]; lia, ⟨rfl, rfl⟩, ?tu, ?fi⟩
      case fi =>
        rintro ys led ⟨rfl, rfl⟩
        repeat wtm_at "w"
        refine ⟨exFp a d P, _, List.perm_append_comm (l₁ := [_, _, _]) (l₂ := exFp a d P), ?_, rfl⟩
        simp [natL, List.take_of_length_le]
      case tu =>
        rintro y2 hw2 O hr2 hn2 hh2 hcl2 D i el ys mm led hel ⟨rfl, rfl⟩ hm
        have hh := hh2.trans hh
        have hn : true = true → y2.hn = true := fun h => hn2.trans (hn h)
        have c1 : y2.cl.lookup (Str.ofString "self") = some (L + 1) := by rw [hcl2]; kernel_rfl
        have c2 : y2.cl.lookup (Str.ofString "what") = some (L + 2) := by rw [hcl2]; kernel_rfl
        have c3 : y2.cl.lookup (Str.ofString "name") = some (L + 3) := by rw [hcl2]; kernel_rfl
        obtain ⟨v, hv, rfl⟩ := Option.map_eq_some_iff.mp ((List.getElem?_map ..).symm.trans hel)
        have e1 : onceO o name (now.take (i + 1)) = onceO o name (now.take i) ++ if decide (v < name.length) && ocHolds o (name.getD v 0) then [v + 1] else [] := by
          unfold onceO
          rw [List.take_add_one, hv, List.filter_append, List.map_append]; simp [List.filter_cons]; split <;> rfl
        match mm, hm with
        | [m0, m1, m2, m3, m4, m5], _ =>
          repeat first | wtm_at "C" | wtm_at "w"
          with_reducible refine br_ite (fun h1 => ?_) (fun h1 => ?_)
          · have h2 : v < name.length := by simp at h1; lia
            repeat first | wtm_at "C" | wtm_at "w"
            with_reducible refine ev_inst O (plain92 _) (meth_holds _) (type_70 _) (keep_70 _) ?_ _ (by intro _; with_unfolding_all rfl) (by intro _ _; with_unfolding_all rfl)
            wtm_at "C"
            refine ⟨a, d, exFs P, rfl, by simp, by simp, (show (Str.ofString "holds") ∉ [Str.ofString "parts", Str.ofString "ignorecase"] by decide +kernel), ?_⟩
            have hB : (B name).length = name.length := by simp
            repeat first | wtm_at "C" | wtm_at "w"
            rw [B_get name hname]
            refine call_id (rest := [_, _, _, _]) (cl_holds y2.w o _ hrs a d P) O hn (by wtm_at "li") (List.perm_append_comm (l₁ := [_, _, _, _]) (l₂ := exFp a d P)) ?_
            rintro r rfl
            repeat first | wtm_at "C" | wtm_at "w"
            with_reducible refine br_ite (fun h3 => ?_) (fun h3 => ?_)
            · repeat first | wtm_at "C" | wtm_at "w"
              exact ⟨_, _, rfl, rfl, rfl, by rw [e1, if_pos (by simp only [h2, decide_true, Bool.true_and]; first | exact h3 | exact (by rw [show ocHolds o (name.getD v 0) = false from h3]; decide))]; simp [natL]⟩
            · exact ⟨_, _, rfl, rfl, rfl, by rw [e1, if_neg (by simp only [h2, decide_true, Bool.true_and]; first | exact h3 | exact (by rw [show ocHolds o (name.getD v 0) = false from h3]; decide))]; simp⟩
          · have h2 : ¬ v < name.length := by simp at h1; lia
            repeat first | wtm_at "C" | wtm_at "w"
            exact ⟨_, _, rfl, rfl, rfl, by rw [e1, if_neg (by simp [h2])]; simp⟩
end
/- C7 -/
section
open PySem PySem.W PySem.Calls PyProof.Rows Mine Pl
set_option maxHeartbeats 4000000
noncomputable def freshL (done l : List Nat) : List Nat := l.foldl (fun f p => if done.contains p || f.contains p then f else f ++ [p]) []
theorem freshL_len (done l : List Nat) : (freshL done l).length ≤ l.length := by
  have h : ∀ (l f : List Nat), (l.foldl (fun f p => if done.contains p || f.contains p then f else f ++ [p]) f).length ≤ f.length + l.length := by
    intro l
    induction l with
    | nil => intro f; simp
    | cons a r ih =>
      intro f
      rw [List.foldl_cons]
      refine Nat.le_trans (ih _) ?_
      split <;> simp <;> lia
  exact Nat.le_trans (h l []) (by simp)
theorem freshL_take (done l : List Nat) {j v : Nat} (h : l[j]? = some v) : freshL done (l.take (j + 1)) = if done.contains v || (freshL done (l.take j)).contains v then freshL done (l.take j) else freshL done (l.take j) ++ [v] := by
  unfold freshL
  rw [List.take_add_one, h, List.foldl_append]; rfl
inductive Lp (F : List Nat → List Nat → Prop) (most : Option Nat) : Nat → Nat → List Nat → List Nat → List Nat → Prop
  | stop {k many done now} : (now = [] ∨ ∃ m, most = some m ∧ m ≤ many) → Lp F most k many done now done
  | step {k many done now out r} : now ≠ [] → (∀ m, most = some m → many < m) → F now out → done.length + out.length ≤ 10000 → Lp F most k (many + 1) (done ++ freshL done out) (freshL done out) r → Lp F most (k + 1) many done now r
inductive EndsG (F : Pt → List Nat → List Nat → Prop) : List Pt → List Nat → List Nat → Prop
  | nil {ps} : EndsG F [] ps ps
  | cons {p qs ps r r' k} : ps.length ≤ 10000 → Lp (F p) (ptM p) k 0 (if ptL p = 0 then ps else []) ps r → EndsG F qs r r' → EndsG F (p :: qs) ps r'
theorem natL_len (l : List Nat) : (natL l).length = l.length := by simp [natL]
theorem natL_append (l l' : List Nat) : natL (l ++ l') = natL l ++ natL l' := by simp [natL]
theorem natL_any (l : List Nat) (k : Nat) : ((l.map fun n : Nat => (n : Int)).any (· == (k : Int))) = l.contains k := by
  rw [Bool.eq_iff_iff, List.any_eq_true, List.contains_iff_mem]
  constructor
  · rintro ⟨x, hx, e⟩
    obtain ⟨n, hn, rfl⟩ := List.mem_map.mp hx
    have : n = k := by simp at e; lia
    exact this ▸ hn
  · intro hk; exact ⟨_, List.mem_map.mpr ⟨k, hk, rfl⟩, by simp⟩
theorem natL_eq (l : List Nat) : natL l = (l.map fun n : Nat => (n : Int)).map PV.int := by simp [natL]
theorem op_ninN {x : Act} {cs : Scope} {E : Er} {q : Q} {Qn : PV → Q → Prop} {k : Nat} {l : List Nat} (h : Qn (.val (.bool (!(l.contains k)))) q) : Op2 x cs (compareOp .NotIn) (.int k) (.lst (natL l)) q Qn E := by
  rw [natL_eq]; exact op_ninLI (by rw [natL_any]; exact h)
theorem op_ninMN {x : Act} {cs : Scope} {E : Er} {q : Q} {Qn : PV → Q → Prop} {k : Nat} {l : List Nat} {d : Addr} (hm : (d, MK.lst (natL l)) ∈ q.led) (h : Qn (.val (.bool (!(l.contains k)))) q) : Op2 x cs (compareOp .NotIn) (.int k) (.val (.ref d)) q Qn E :=
  op_ninMI (ns := l.map fun n : Nat => (n : Int)) (by rw [← natL_eq]; exact hm) (by rw [natL_any]; exact h)
theorem ex_mid {x : Act} {cs : Scope} {E : Er} {q : Q} {Qf : Out → Q → Prop} {st rest} (S : Q → Prop) (h : Ex x cs st q (Mid S Qf) E) (hr : ∀ q', S q' → Exs x cs rest q' Qf E) : Ex x cs st q (Cont x cs rest Qf E) E := fun hid g s R =>
  df_k (h hid g s R) fun f s' g' o q' a b c d => ⟨g', o, q', a, b, c, by cases o <;> first | exact hr _ d | exact d⟩
theorem ts_true {x : Act} {cs : Scope} {E : Er} {q : Q} {Qb : Bool → Q → Prop} {e} (h : Tst x cs e q (fun b q' => b = true ∧ q' = q) E) (h2 : Qb true q) : Tst x cs e q Qb E := fun hid g s R =>
  wpAny_mono (h hid g s R) (fun b s' ⟨g', q', a, c, d1, d2⟩ => ⟨g', q', a, c, by rw [d1, d2]; exact h2⟩) fun _ _ e => e
@[reducible] noncomputable def enA (a : Addr) (parts : List Pt) (name : List Nat) (pl : List Nat) (p : Pt) (mo : Option Nat) (b9 : Option PV) (b10 : Option PV) (b11 : Option PV) (b12 : Option PV) (d : Addr) (P : PV) (q' : Q) : Prop := q' = ⟨[some (.val (.ref a)), some (.lst (parts.map ptPV)), some (.byt (B name)), some (.lst (natL pl)), some (.str (Pt.kind p)), some (whatPV p), some (.int (ptL p)), some (mostPV mo), some (.lst (natL (if ptL p = 0 then pl else []))), b9, b10, b11, b12, none], exFp a d P⟩
@[reducible] noncomputable def enB (a : Addr) (parts : List Pt) (name : List Nat) (pl : List Nat) (p : Pt) (mo : Option Nat) (r1 : List Nat) (d : Addr) (P : PV) (q' : Q) : Prop := ∃ now many fr pp, q' = ⟨[some (.val (.ref a)), some (.lst (parts.map ptPV)), some (.byt (B name)), some (.lst (natL pl)), some (.str (Pt.kind p)), some (whatPV p), some (.int (ptL p)), some (mostPV mo), some (.lst (natL r1)), now, many, fr, pp, none], exFp a d P⟩
inductive enJ (F : Pt → List Nat → List Nat → Prop) (a : Addr) (parts : List Pt) (name : List Nat) (pl : List Nat) (p : Pt) (mo : Option Nat) (r1 : List Nat) (d : Addr) (P : PV) (n : Nat) (q' : Q) : Prop where
  | mk (done now : List Nat) (many : Nat) (fr pp) (h3_0 : q' = ⟨[some (.val (.ref a)), some (.lst (parts.map ptPV)), some (.byt (B name)), some (.lst (natL pl)), some (.str (Pt.kind p)), some (whatPV p), some (.int (ptL p)), some (mostPV mo), some (.lst (natL done)), some (.lst (natL now)), some (.int many), fr, pp, none], exFp a d P⟩) (h4_1 : Lp (F p) mo n many done now r1) (h5_2 : now.length ≤ 10000) : enJ F a parts name pl p mo r1 d P n q'
@[reducible] noncomputable def enC (a : Addr) (parts : List Pt) (name : List Nat) (pl : List Nat) (p : Pt) (mo : Option Nat) (done : List Nat) (now : List Nat) (many : Nat) (df : Addr) (out : List Nat) (d : Addr) (P : PV) (q' : Q) : Prop := ∃ pp, q' = ⟨[some (.val (.ref a)), some (.lst (parts.map ptPV)), some (.byt (B name)), some (.lst (natL pl)), some (.str (Pt.kind p)), some (whatPV p), some (.int (ptL p)), some (mostPV mo), some (.lst (natL done)), some (.lst (natL now)), some (.int ((many : Int) + 1)), some (.val (.ref df)), pp, none], (df, .lst (natL (freshL done out))) :: exFp a d P⟩
inductive enI (F : Pt → List Nat → List Nat → Prop) (a : Addr) (parts : List Pt) (name : List Nat) (d : Addr) (P : PV) (r : List Nat) (i : Nat) (q2 : Q) : Prop where
  | mk (pl b4 b5 b6 b7 b8 b9 b10 b11 b12) (h1_0 : q2 = ⟨[some (.val (.ref a)), some (.lst (parts.map ptPV)), some (.byt (B name)), some (.lst (natL pl)), b4, b5, b6, b7, b8, b9, b10, b11, b12, none], exFp a d P⟩) (h2_1 : EndsG F (parts.drop i) pl r) : enI F a parts name d P r i q2
@[reducible] noncomputable def enK (a : Addr) (parts : List Pt) (name : List Nat) (pl : List Nat) (p : Pt) (mo : Option Nat) (done : List Nat) (now : List Nat) (many : Nat) (df : Addr) (out : List Nat) (d : Addr) (P : PV) (j : Nat) (q' : Q) : Prop := ∃ pp, q' = ⟨[some (.val (.ref a)), some (.lst (parts.map ptPV)), some (.byt (B name)), some (.lst (natL pl)), some (.str (Pt.kind p)), some (whatPV p), some (.int (ptL p)), some (mostPV mo), some (.lst (natL done)), some (.lst (natL now)), some (.int ((many : Int) + 1)), some (.val (.ref df)), pp, none], (df, .lst (natL (freshL done (out.take j)))) :: exFp a d P⟩
theorem cl_ends (w : World) (a d : Addr) (P : PV) (name : List Nat) (hname : ∀ c ∈ name, c < 256) (hz : name.length ≤ 10000) (K : Nat) (hK : 1 ≤ K) (F : Pt → List Nat → List Nat → Prop) (parts : List Pt) (hpl : parts.length ≤ 10000)
    (hF : ∀ p ∈ parts, ∀ now out, now.length ≤ 10000 → F p now out → onceSpec w a d P name K now out p) (places r : List Nat) (h : EndsG F parts places r) :
    Cl true (.ref 82) [.val (.ref a), .lst (parts.map ptPV), .byt (B name), .lst (natL places)] (exFp a d P) (K + 2) (fun p l => p = .lst (natL r) ∧ l = exFp a d P) w := by
  refine cl_def (dargs := []) (dvals := []) (ps := ["self", "parts", "name", "places"]) (by rfl) (by conv => lhs; whnf) (by conv => lhs; whnf) (by kernel_rfl) ?hb (fun _ => isL_nil.mpr rfl) rfl (by decide +kernel) ?hloc (by decide +kernel) (by decide +kernel) rfl rfl rfl (m₀ := [some (.val (.ref a)), some (.lst (parts.map ptPV)), some (.byt (B name)), some (.lst (natL places)), none, none, none, none, none, none, none, none, none, none]) (by kernel_rfl) ?body (by wtm_at "li")
  case hb =>
    intro s vals X hl
    obtain ⟨a, b, c, d, rfl⟩ := vlist4 hl
    exact .of_eq (by kernel_rfl)
  case hloc => decide +kernel
  case body =>
    intro y hw O hn hr hcl K0 hKr hKn
    subst hw
    have hh := O.hand (hn rfl)
    refine xs_st ?_
    refine ex_forK (hs := by intro _; rfl) hh noE noE_pass (fun _ _ => parts.map ptPV) (fun _ _ => enI F a parts name d P r) ?_
    repeat wtm_at "w"
    refine ⟨iter_lst hh, ⟨places, none, none, none, none, none, none, none, none, none, rfl, h⟩, ?tu, ?fi⟩
    case fi =>
      rintro q2 ⟨pl, b4, b5, b6, b7, b8, b9, b10, b11, b12, rfl, hE⟩
      rw [List.length_map, List.drop_length] at hE
      cases hE
      repeat wtm_at "w"
      exact ⟨rfl, rfl⟩
    case tu =>
      rintro i el q2 hel ⟨pl, b4, b5, b6, b7, b8, b9, b10, b11, b12, rfl, hE⟩ K1 hN1 hC1 hB1 hR1
      obtain ⟨p, hp, rfl⟩ := Option.map_eq_some_iff.mp ((List.getElem?_map ..).symm.trans hel)
      have hd : parts.drop i = p :: parts.drop (i + 1) := by
        obtain ⟨hi, e⟩ := List.getElem?_eq_some_iff.mp hp
        rw [List.drop_eq_getElem_cons hi, e]
      rw [hd] at hE
      cases hE with
      | @cons _ _ _ r1 _ k hpz hL hE =>
        have honce := hF p (List.mem_of_getElem? hp)
        rw [ptPV_eq]
        generalize ptM p = mo at *
        have hpz' : (natL pl).length ≤ 16777216 := by rw [natL_len]; lia
        repeat wtm_at "e"
        have hd0 : (if ptL p = 0 then pl else []).length ≤ 10000 := by split <;> first | lia | simp
        refine xs_mid (enA a parts name pl p mo b9 b10 b11 b12 d P) ?_ ?_
        · repeat wtm_at "e"
          with_reducible refine br_ite (fun h1 => ?_) (fun h1 => ?_)
          · have h2 : ptL p = 0 := by simp at h1; lia
            repeat wtm_at "e"
            refine call_list hpz' ?_
            repeat wtm_at "e"
            unfold enA; rw [if_pos h2]; rfl
          · have h2 : ptL p ≠ 0 := by simp at h1; lia
            repeat wtm_at "wF"
            unfold enA; rw [if_neg h2]; rfl
        rintro q' rfl
        generalize (if ptL p = 0 then pl else []) = d0 at *
        repeat wtm_at "w"
        refine call_list hpz' ?_
        repeat wtm_at "w"
        refine ex_mid (enB a parts name pl p mo r1 d P) ?_ ?_
        · refine ex_whileK noE noE_pass (enJ F a parts name pl p mo r1 d P) ?_ _ ⟨d0, pl, 0, b11, b12, rfl, hL, hpz⟩
          rintro n q' ⟨done, now, many, fr, pp, rfl, hL, hnz⟩ K2 hN2 hC2 hB2 hR2
          have hnz' : (natL now).length ≤ 16777216 := by rw [natL_len]; lia
          have hemp : ∀ {A C : Prop}, (now ≠ [] → A) → (now = [] → C) → if (!(natL now).isEmpty) = true then A else C := by
            intro A C h1 h2
            cases now with
            | nil => exact h2 rfl
            | cons _ _ => exact h1 (by simp)
          repeat wtm_at "e"
          refine hemp (fun hne => ?_) (fun he => ?_)
          · cases hL with
            | stop hs =>
              obtain ⟨m, rfl, hm⟩ : ∃ m, mo = some m ∧ m ≤ many := by
                rcases hs with hs | hs
                · exact absurd hs hne
                · exact hs
              unfold mostPV
              repeat wtm_at "e"
              with_reducible refine ite_f (by wtm_at "tt") ?_
              repeat wtm_at "e"
              exact ⟨_, _, _, _, rfl⟩
            | @step k _ _ _ out _ _ hm hFo hb hL =>
              refine ts_true ?_ (ite_t rfl ?_)
              · cases mo with
                | none =>
                  unfold mostPV
                  repeat wtm_at "e"
                  exact ⟨rfl, rfl⟩
                | some m =>
                  have := hm m rfl
                  unfold mostPV
                  repeat wtm_at "e"
                  with_reducible refine ite_t (by wtm_at "tt") ?_
                  repeat wtm_at "e"
                  exact ⟨rfl, rfl⟩
              repeat wtm_at "w"
              refine ev_lstM (evs_nil ⟨by simp, fun df => ?_⟩)
              repeat wtm_at "w"
              refine ex_mid (enC a parts name pl p mo done now many df out d P) ?_ ?_
              · refine ex_forK (hs := by intro _; rfl) hh noE noE_pass (fun _ _ => natL out) (fun _ _ => enK a parts name pl p mo done now many df out d P) ?_
                with_reducible refine ev_inst O (plain92 _) (meth_once _) (type_75 _) (keep_75 _) ?_ _ (by intro _; with_unfolding_all rfl) (by intro _ _; with_unfolding_all rfl)
                wtm_at "w"
                refine ⟨a, d, exFs P, rfl, by simp, by simp, (show (Str.ofString "once") ∉ [Str.ofString "parts", Str.ofString "ignorecase"] by decide +kernel), ?_⟩
                repeat wtm_at "w"
                refine call_id (rest := [_]) (cl_once y.w a d P name hname hz K hK now out hnz p (honce _ _ hnz hFo)) O hn (by wtm_at "li") (List.perm_append_comm (l₁ := [_]) (l₂ := exFp a d P)) ?_
                rintro rr rfl
                refine ⟨iter_lst hh, ⟨_, rfl⟩, ?tu2, ?fi2⟩
                case fi2 =>
                  rintro q' ⟨pp, rfl⟩
                  exact ⟨pp, by rw [natL_len, List.take_length]⟩
                case tu2 =>
                  rintro j el q' hel2 ⟨pp, rfl⟩ K3 hN3 hC3 hB3 hR3
                  obtain ⟨v, hv, rfl⟩ := Option.map_eq_some_iff.mp ((List.getElem?_map ..).symm.trans hel2)
                  have hft := freshL_take done out hv
                  have hlen := freshL_len done (out.take j)
                  have hlen2 : (out.take j).length ≤ out.length := by simp; lia
                  repeat wtm_at "w"
                  refine op_ninN ?_
                  repeat wtm_at "w"
                  with_reducible refine br_ite (fun h1 => ?_) (fun h1 => ?_)
                  · repeat wtm_at "w"
                    refine op_ninMN (List.Mem.head _) ?_
                    repeat wtm_at "w"
                    with_reducible refine br_ite (fun h2 => ?_) (fun h2 => ?_)
                    · repeat wtm_at "w"
                      with_reducible refine ev_append O ?_ _ (by intro _; with_unfolding_all rfl) (by intro _; with_unfolding_all rfl) (by intro _ _; with_unfolding_all rfl)
                      repeat wtm_at "w"
                      refine ⟨df, _, rfl, .head _, ?_⟩
                      repeat wtm_at "w"
                      refine ⟨0, _, rfl, by rw [natL_len]; lia, ?_⟩
                      repeat wtm_at "w"
                      refine ⟨some (.int v), ?_⟩
                      rw [hft, if_neg (by simp at h1 h2 ⊢; exact ⟨h1, h2⟩), natL_append]; rfl
                    · repeat wtm_at "w"
                      refine ⟨some (.int v), ?_⟩
                      rw [hft, if_pos (by simp at h1 h2 ⊢; exact .inr h2)]; rfl
                  · repeat wtm_at "w"
                    refine ⟨some (.int v), ?_⟩
                    rw [hft, if_pos (by simp at h1 ⊢; exact .inl h1)]; rfl
              rintro q' ⟨pp, rfl⟩
              refine xs_freeze df (natL (freshL done out)) (m' := [some (.val (.ref a)), some (.lst (parts.map ptPV)), some (.byt (B name)), some (.lst (natL pl)), some (.str (Pt.kind p)), some (whatPV p), some (.int (ptL p)), some (mostPV mo), some (.lst (natL done)), some (.lst (natL now)), some (.int ((many : Int) + 1)), some (.lst (natL (freshL done out))), pp, none]) (led' := exFp a d P) (.refl _) ?_ ?_
              · intro k p e
                match k with
                | 11 => right; cases e; exact ⟨rfl, rfl⟩
                | 0 | 1 | 2 | 3 | 4 | 5 | 6 | 7 | 8 | 9 | 10 | 12 | 13 => left; exact e
                | k + 14 => cases e
              have hlen := freshL_len done out
              have hd1 : (natL done).length + (natL (freshL done out)).length ≤ 16777216 := by rw [natL_len, natL_len]; lia
              repeat wtm_at "w"
              refine op_addL hd1 ?_
              repeat wtm_at "w"
              exact ⟨k, by lia, done ++ freshL done out, freshL done out, many + 1, _, _, by rw [natL_append]; rfl, hL, by lia⟩
          · have : r1 = done := by
              cases hL with
              | stop _ => rfl
              | step h => exact absurd he h
            subst this
            repeat wtm_at "e"
            exact ⟨_, _, _, _, rfl⟩
        rintro q' ⟨now, many, fr, pp, rfl⟩
        repeat wtm_at "w"
        exact ⟨_, _, _, _, _, _, _, _, _, _, rfl, hE⟩
end
/- C8 -/
section
open PySem PySem.W PySem.Calls PyProof.Rows Mine Pl
set_option maxHeartbeats 4000000
noncomputable def toPt (q : Oc × Nat × Option Nat) : Pt := .oct q.1 q.2.1 q.2.2
noncomputable def F0 (name : List Nat) : Pt → List Nat → List Nat → Prop
  | .oct o _ _, now, out => out = onceO o name now ∧ o.rs.length ≤ 100000
  | .fin, now, out => out = now.filter (fun x => x == name.length)
  | .grp _ _ _, _, _ => False
noncomputable def F1 (name : List Nat) : Pt → List Nat → List Nat → Prop
  | .grp qs _ _, now, out => qs.length ≤ 10000 ∧ EndsG (F0 name) (qs.map toPt) now out
  | p, now, out => F0 name p now out
theorem once_F0 {w a d P name K p now out} (h : F0 name p now out) : onceSpec w a d P name K now out p := by
  cases p with
  | oct => exact h
  | fin => exact h
  | grp => exact h.elim
theorem once_F1 {w a d P name p now out} (hname : ∀ c ∈ name, c < 256) (hz : name.length ≤ 10000) (h : F1 name p now out) : onceSpec w a d P name 3 now out p := by
  cases p with
  | oct => exact h
  | fin => exact h
  | grp qs l m =>
    have := cl_ends w a d P name hname hz 1 (by wtm_at "li") (F0 name) (qs.map toPt) (by simpa using h.1) (fun p _ now out _ => once_F0) now out h.2
    rwa [List.map_map, show ptPV ∘ toPt = qPV from rfl] at this
theorem cl_match (w : World) (a d : Addr) (parts : List Pt) (name : List Nat) (hname : ∀ c ∈ name, c < 256) (hz : name.length ≤ 10000) (hpl : parts.length ≤ 10000) (r : List Nat) (hrl : r.length ≤ 10000) (h : EndsG (F1 name) parts [0] r) :
    Cl true (.ref 89) [.val (.ref a), .byt (B name)] (exFp a d (.lst (parts.map ptPV))) 6 (fun p l => p = .val (.bool (decide (0 < r.length))) ∧ l = exFp a d (.lst (parts.map ptPV))) w := by
  refine cl_def (dargs := []) (dvals := []) (ps := ["self", "name"]) (by rfl) (by conv => lhs; whnf) (by conv => lhs; whnf) (by kernel_rfl) ?hb (fun _ => isL_nil.mpr rfl) rfl (by decide +kernel) ?hloc (by decide +kernel) (by decide +kernel) rfl rfl rfl (m₀ := [some (.val (.ref a)), some (.byt (B name)), none]) (by kernel_rfl) ?body (by wtm_at "li")
  case hb =>
    intro s vals X hl
    obtain ⟨a, b, rfl⟩ := vlist2 hl
    exact .of_eq (by kernel_rfl)
  case hloc => decide +kernel
  case body =>
    intro y hw O hn hr hcl K0 hKr hKn
    subst hw
    have hh := O.hand (hn rfl)
    have hrl' : (natL r).length ≤ 16777216 := by rw [natL_len]; lia
    repeat wtm_at "w"
    with_reducible refine ev_inst O (plain92 _) (meth_ends _) (type_82 _) (keep_82 _) ?_ _ (by intro _; with_unfolding_all rfl) (by intro _ _; with_unfolding_all rfl)
    wtm_at "w"
    refine ⟨a, d, exFs _, rfl, List.Mem.head _, .tail _ (.head _), (show (Str.ofString "ends") ∉ [Str.ofString "parts", Str.ofString "ignorecase"] by decide +kernel), ?_⟩
    repeat wtm_at "w"
    try refine ev_attr ?_
    repeat wtm_at "w"
    refine get_parts O (List.Mem.head _) (.tail _ (.head _)) rfl ?_
    repeat wtm_at "wF"
    refine call_id (rest := []) (cl_ends y.w a d _ name hname hz 3 (by wtm_at "li") (F1 name) parts hpl (fun p _ now out _ => once_F1 hname hz) [0] r h) O hn (by wtm_at "li") (by rw [List.append_nil]) ?_
    rintro rr rfl
    repeat wtm_at "wF"
    exact ⟨by rw [natL_len]; simp, rfl⟩
theorem cl_exinit (w : World) (a d : Addr) (t : List Nat) (ht : ∀ c ∈ t, c < 256) (hz : t.length ≤ 10000) (s : List Nat) (hs : t = [40, 63, 109, 115, 41] ++ s) (ps : List Pt) (r : List Nat) (h : RP s ps r) (hpl : ps.length ≤ 10000) (hgl : ∀ qs l m, Pt.grp qs l m ∈ ps → qs.length ≤ 10000) :
    Cl true (.ref 63) [.val (.ref a), .byt (B t), .val (.bool false)] ((a, .inst 92 d) :: (d, .ns []) :: []) 5 (fun p l => p = .val .none ∧ l = exFp a d (.lst (ps.map ptPV))) w := by
  refine cl_def (dargs := []) (dvals := []) (ps := ["self", "text", "ignorecase"]) (by rfl) (by conv => lhs; whnf) (by conv => lhs; whnf) (by kernel_rfl) ?hb (fun _ => isL_nil.mpr rfl) rfl (by decide +kernel) ?hloc (by decide +kernel) (by decide +kernel) rfl rfl rfl (m₀ := [some (.val (.ref a)), some (.byt (B t)), some (.val (.bool false)), none, none]) (by kernel_rfl) ?body (by wtm_at "li")
  case hb =>
    intro s vals X hl
    obtain ⟨a, b, c, rfl⟩ := vlist3 hl
    exact .of_eq (by kernel_rfl)
  case hloc => decide +kernel
  case body =>
    intro y hw O hn hr hcl K0 hKr hKn
    subst hw
    have hh := O.hand (hn rfl)
    refine xs_st (ex_asgAttr (hs := by rfl) ?_)
    repeat wtm_at "w"
    refine setA_new O (plain92 _) (by kernel_rfl) (List.Mem.head _) 1 rfl (by simp) (by simp) ?_
    repeat wtm_at "w"
    with_reducible refine ev_callG O 4 (by with_unfolding_all rfl) (by with_reducible rfl) (g_read_parts _) (by with_unfolding_all rfl) ?_ (hd := by decide +kernel) (hpl := by intro _ _; with_unfolding_all rfl)
    repeat wtm_at "w"
    have hc : cut (B t) none (some 5) = B (t.take 5) := (cut_0n (B t) (j := 5) (b := 5) rfl).trans (by simp [B, List.map_take])
    rw [hc]
    have ht5 : t.take 5 = [40, 63, 109, 115, 41] := by rw [hs]; rfl
    have hd5 : t.drop 5 = s := by rw [hs]; rfl
    have hl5 : 5 ≤ t.length := by rw [hs]; simp
    rw [ht5]
    with_reducible refine ite_t (by decide) ?_
    repeat wtm_at "w"
    refine call_pure (cl_read_parts y.w t ht hz 5 hl5 ps r (by rw [hd5]; exact h) hpl hgl) O hn (by wtm_at "li") ?_
    rintro p fp ⟨rfl, i5, rfl, f1, f2, f3⟩
    repeat wtm_at "w"
    refine as_attr ?_
    repeat wtm_at "w"
    refine setA_new O (plain92 _) (by kernel_rfl) (List.Mem.head _) 1 rfl (by decide +kernel) (by simp) ?_
    repeat wtm_at "w"
    exact rfl
theorem g_Expression (w : World) : nsIn (KP w.params) mainGlobals "Expression" = some (some (.ref 92)) := by kernel_rfl
theorem cl_Expression (w : World) (t : List Nat) (ht : ∀ c ∈ t, c < 256) (hz : t.length ≤ 10000) (s : List Nat) (hs : t = [40, 63, 109, 115, 41] ++ s) (ps : List Pt) (r : List Nat) (h : RP s ps r) (hpl : ps.length ≤ 10000) (hgl : ∀ qs l m, Pt.grp qs l m ∈ ps → qs.length ≤ 10000) :
    Cl true (.ref 92) [.byt (B t), .val (.bool false)] [] 6 (fun p l => ∃ a d, p = .val (.ref a) ∧ l = exFp a d (.lst (ps.map ptPV))) w :=
  cl_new (Qc := fun a d l => l = exFp a d (.lst (ps.map ptPV))) (by kernel_rfl) (by kernel_rfl) (by kernel_rfl) fun a d => cl_exinit w a d t ht hz s hs ps r h hpl hgl
end
/- C9 -/
section
open PySem PySem.W PySem.Calls PyProof.Rows Mine Pl
set_option maxHeartbeats 4000000
theorem escB_one {c : Nat} (hc : c < 256) : escB [c.toUInt8] = B (esc1 c) := by
  have e : special.contains c.toUInt8 = Pl.special.contains c := by rw [u8_contains _ hc]; rfl
  simp only [escB, List.flatMap_cons, List.flatMap_nil, List.append_nil, e, esc1]
  split <;> rfl
theorem esc1_len (c : Nat) : (esc1 c).length ≤ 2 := by unfold esc1; split <;> simp
theorem piece_len (a b : Nat) : (piece a b).length ≤ 5 := by
  have h1 := esc1_len a
  have h2 := esc1_len b
  unfold piece
  split <;> simp <;> lia
theorem piece_ne {a b : Nat} (h : a ≠ b) : piece a b = esc1 a ++ 45 :: esc1 b := by unfold piece; rw [if_pos h]
theorem piece_eq {a b : Nat} (h : a = b) : piece a b = esc1 a := by unfold piece; rw [if_neg (by simpa using h), List.append_nil]
theorem pieces_len (m : Nat × Nat) : (pieces m).length ≤ 2 := by
  unfold pieces
  exact List.length_filter_le _ _
noncomputable def pcs (l : List (Nat × Nat)) : List PV := l.map fun x => .byt (B (piece x.1 x.2))
theorem pcs_append (l l' : List (Nat × Nat)) : pcs (l ++ l') = pcs l ++ pcs l' := by simp [pcs]
theorem fm_len (ms : List (Nat × Nat)) : (ms.flatMap pieces).length ≤ 2 * ms.length := by
  induction ms with
  | nil => simp
  | cons m r ih =>
    rw [List.flatMap_cons, List.length_append, List.length_cons]
    have := pieces_len m
    lia
theorem fp_len (l : List (Nat × Nat)) : (l.flatMap fun x => piece x.1 x.2).length ≤ 5 * l.length := by
  induction l with
  | nil => simp
  | cons m r ih =>
    rw [List.flatMap_cons, List.length_append, List.length_cons]
    have := piece_len m.1 m.2
    lia
theorem render_len (ms : List (Nat × Nat)) : (render ms).length ≤ 10 * ms.length := by
  have h1 := fp_len (ms.flatMap pieces)
  have h2 := fm_len ms
  unfold render; lia
noncomputable def rng2 (m : Nat × Nat) : PV := .tup [.int m.1, .int m.2]
noncomputable def two (m : Nat × Nat) : List (Nat × Nat) := [(m.1, min m.2 46), (max m.1 48, m.2)]
theorem g_escape (w : World) : nsIn (KP w.params) mainGlobals "_escape" = some (some (.ref 28)) := by kernel_rfl
theorem g_SLASH (w : World) : nsIn (KP w.params) mainGlobals "_SLASH" = some (some (.int 47 318)) := by kernel_rfl
theorem call_esc {x : Act} {cs : Scope} {E : Er} {q : Q} {Qn : PV → Q → Prop} (O : x.Ok cs) (hn : true = true → x.hn = true) (hr : 2 ≤ x.r) {c : Nat} (hc : c < 256) (h : Qn (.byt (B (esc1 c))) q) : CallR x cs (.ref 28) [.byt [((c : Int)).toNat.toUInt8]] q Qn E := by
  refine call_pure (cl_escape x.w _ (by simp)) O hn hr ?_
  rintro p l ⟨rfl, rfl⟩
  rw [show ((c : Int)).toNat.toUInt8 = c.toUInt8 from rfl, escB_one hc]
  exact h
theorem call_bytes1 {x : Act} {cs : Scope} {E : Er} {q : Q} {Qn : PV → Q → Prop} (hh : x.A.handled = none) {c : Nat} (hc : c < 256) (h : Qn (.byt [((c : Int)).toNat.toUInt8]) q) : CallR x cs (.type "bytes") [.lst [.int (c : Int)]] q Qn E :=
  call_bytes hh (by wtm_at "li") (by wtm_at "li") h
@[reducible] noncomputable def rnE (ms : List (Nat × Nat)) (d : Addr) (q' : Q) : Prop := ∃ b2 b3 b4 b5 b6, q' = ⟨[some (.lst (ms.map rng2)), some (.val (.ref d)), b2, b3, b4, b5, b6, none, none, none, none, none], [(d, .lst (pcs (ms.flatMap pieces)))]⟩
@[reducible] noncomputable def rnI (ms : List (Nat × Nat)) (d : Addr) (i : Nat) (q' : Q) : Prop := ∃ b2 b3 b4 b5 b6, q' = ⟨[some (.lst (ms.map rng2)), some (.val (.ref d)), b2, b3, b4, b5, b6, none, none, none, none, none], [(d, .lst (pcs ((ms.take i).flatMap pieces)))]⟩
theorem cl_render (w : World) (ms : List (Nat × Nat)) (hms : ∀ m ∈ ms, m.1 < 256 ∧ m.2 < 256) (hz : ms.length ≤ 1000) :
    Cl true (.ref 117) [.lst (ms.map rng2)] [] 3 (fun p l => p = .byt (B (render ms)) ∧ l = []) w := by
  refine cl_def (dargs := []) (dvals := []) (ps := ["members"]) (by rfl) (by conv => lhs; whnf) (by conv => lhs; whnf) (by kernel_rfl) ?hb (fun _ => isL_nil.mpr rfl) rfl (by decide +kernel) ?hloc (by decide +kernel) (by decide +kernel) rfl rfl rfl (m₀ := [some (.lst (ms.map rng2)), none, none, none, none, none, none, none, none, none, none, none]) (by kernel_rfl) ?body (by wtm_at "li")
  case hb =>
    intro s vals X hl
    obtain ⟨a, rfl⟩ := vlist1 hl
    exact .of_eq (by kernel_rfl)
  case hloc => decide +kernel
  case body =>
    intro y hw O hn hr hcl K0 hKr hKn
    subst hw
    have hh := O.hand (hn rfl)
    refine xs_st (ex_asg (hs := by rfl) O 1 rfl (by with_reducible rfl) (ev_lstM (evs_nil ⟨by simp, fun d => co_nxt ?_⟩)))
    refine xs_mid (rnE ms d) ?_ ?_
    · refine ex_forK (hs := by intro _; rfl) hh noE noE_pass (fun _ _ => ms.map rng2) (fun _ _ => rnI ms d) ?_
      repeat wtm_at "w"
      refine ⟨iter_lst hh, ⟨none, none, none, none, none, rfl⟩, ?tu, ?fi⟩
      case fi =>
        rintro q2 ⟨b2, b3, b4, b5, b6, rfl⟩
        rw [List.length_map, List.take_length]
        exact ⟨_, _, _, _, _, rfl⟩
      case tu =>
        rintro i el q2 hel ⟨b2, b3, b4, b5, b6, rfl⟩ K1 hN1 hC1 hB1 hR1
        obtain ⟨m, hm, rfl⟩ := Option.map_eq_some_iff.mp ((List.getElem?_map ..).symm.trans hel)
        obtain ⟨hm1, hm2⟩ := hms m (List.mem_of_getElem? hm)
        have hfl : (ms.take (i + 1)).flatMap pieces = (ms.take i).flatMap pieces ++ pieces m := by rw [List.take_add_one, hm, List.flatMap_append]; simp
        have hl1 := fm_len (ms.take i)
        have hl2 : (ms.take i).length ≤ 1000 := by simp; lia
        generalize (ms.take i).flatMap pieces = acc at *
        unfold rng2
        repeat wtm_at "w"
        refine ex_forK (hs := by intro _; rfl) hh noE noE_pass (fun _ _ => (two m).map rng2) (fun _ _ k q' => ∃ b4 b5 b6, q' = ⟨[some (.lst (ms.map rng2)), some (.val (.ref d)), some (.int m.1), some (.int m.2), b4, b5, b6, none, none, none, none, none], [(d, .lst (pcs (acc ++ ((two m).take k).filter (fun x => decide (x.1 ≤ x.2)))))]⟩) ?_
        repeat wtm_at "w"
        with_reducible refine ev_GP (hd := by decide +kernel) (p := .int 47) O 8 (by with_unfolding_all rfl) (by with_reducible rfl) (g_SLASH _) (fun g _ => is_int.mpr ⟨_, rfl⟩) ?_
        repeat wtm_at "w"
        refine call_min hh ?_
        repeat wtm_at "w"
        with_reducible refine ev_GP (hd := by decide +kernel) (p := .int 47) O 8 (by with_unfolding_all rfl) (by with_reducible rfl) (g_SLASH _) (fun g _ => is_int.mpr ⟨_, rfl⟩) ?_
        repeat wtm_at "w"
        refine call_max hh ?_
        repeat wtm_at "w"
        have emin : (if (47 : Int) - 1 < (m.2 : Int) then (47 : Int) - 1 else (m.2 : Int)) = ((min m.2 46 : Nat) : Int) := by split <;> lia
        have emax : (if (47 : Int) + 1 > (m.1 : Int) then (47 : Int) + 1 else (m.1 : Int)) = ((max m.1 48 : Nat) : Int) := by split <;> lia
        rw [emin, emax]
        refine ⟨iter_tup hh, ⟨_, _, _, by rw [List.take_zero, List.filter_nil, List.append_nil]; rfl⟩, ?tu2, ?fi2⟩
        case fi2 =>
          rintro q2 ⟨b4, b5, b6, rfl⟩
          repeat wtm_at "w"
          exact ⟨_, _, _, _, _, by rw [hfl]; rfl⟩
        case tu2 =>
          rintro k el q2 hel2 ⟨b4, b5, b6, rfl⟩ K2 hN2 hC2 hB2 hR2
          obtain ⟨x, hx, rfl⟩ := Option.map_eq_some_iff.mp ((List.getElem?_map ..).symm.trans hel2)
          have hx2 : x.1 < 256 ∧ x.2 < 256 := by
            have := List.mem_of_getElem? hx
            simp only [two, List.mem_cons, List.not_mem_nil, or_false] at this
            rcases this with rfl | rfl <;> simp <;> lia
          have hft : ((two m).take (k + 1)).filter (fun x => decide (x.1 ≤ x.2)) = ((two m).take k).filter (fun x => decide (x.1 ≤ x.2)) ++ if x.1 ≤ x.2 then [x] else [] := by
            rw [List.take_add_one, hx, List.filter_append]; simp [List.filter_cons]
          have hfl2 : (((two m).take k).filter (fun x => decide (x.1 ≤ x.2))).length ≤ 2 := Nat.le_trans (List.length_filter_le _ _) (by simp [two]; lia)
          rw [hft] at hN2 hC2
          generalize ((two m).take k).filter (fun x => decide (x.1 ≤ x.2)) = acc2 at *
          have hap : (pcs (acc ++ acc2)).length ≤ 100000 := by simp [pcs]; lia
          have hpa : pcs (acc ++ (acc2 ++ [x])) = pcs (acc ++ acc2) ++ [.byt (B (piece x.1 x.2))] := by rw [← List.append_assoc, pcs_append]; rfl
          unfold rng2
          repeat wtm_at "w"
          with_reducible refine br_ite (fun h1 => ?_) (fun h1 => ?_)
          · have h2 : ¬ x.1 ≤ x.2 := by simp at h1; lia
            repeat wtm_at "w"
            exact ⟨_, _, _, by rw [if_neg h2, List.append_nil]; rfl⟩
          · have h2 : x.1 ≤ x.2 := by simp at h1; lia
            rw [if_pos h2] at hN2 hC2
            have hp1 := esc1_len x.1
            have hp2 := esc1_len x.2
            have hB : ∀ l : List Nat, (B l).length = l.length := by simp
            have hB1 := hB (esc1 x.1)
            have hB2 := hB (esc1 x.2)
            have hs1 : ([45] : List UInt8).length = 1 := rfl
            repeat wtm_at "w"
            with_reducible refine ev_callG O 10 (by with_unfolding_all rfl) (by with_reducible rfl) (g_escape _) (by with_unfolding_all rfl) ?_ (hd := by decide +kernel) (hpl := by intro _ _; with_unfolding_all rfl)
            repeat wtm_at "wF"
            with_reducible refine call_bytes1 hh hx2.1 ?_
            repeat wtm_at "w"
            with_reducible refine call_esc O hn (by wtm_at "li") hx2.1 ?_
            repeat wtm_at "w"
            with_reducible refine br_ite (fun h3 => ?_) (fun h3 => ?_)
            · have h4 : x.1 ≠ x.2 := by simp at h3; lia
              have hne : B (piece x.1 x.2) = B (esc1 x.1) ++ ([45] ++ B (esc1 x.2)) := by rw [piece_ne h4]; simp [B]
              repeat wtm_at "w"
              with_reducible refine ev_callG O 10 (by with_unfolding_all rfl) (by with_reducible rfl) (g_escape _) (by with_unfolding_all rfl) ?_ (hd := by decide +kernel) (hpl := by intro _ _; with_unfolding_all rfl)
              repeat wtm_at "wF"
              with_reducible refine call_bytes1 hh hx2.2 ?_
              repeat wtm_at "w"
              with_reducible refine call_esc O hn (by wtm_at "li") hx2.2 ?_
              repeat wtm_at "w"
              with_reducible refine ev_append O ?_ _ (by intro _; with_unfolding_all rfl) (by intro _; with_unfolding_all rfl) (by intro _ _; with_unfolding_all rfl)
              repeat wtm_at "w"
              refine ⟨d, _, rfl, .head _, ?_⟩
              repeat wtm_at "w"
              refine ⟨0, _, rfl, hap, ?_⟩
              repeat wtm_at "w"
              exact ⟨_, _, _, by rw [hpa, hne]; rfl⟩
            · have h4 : x.1 = x.2 := by simp at h3; lia
              have hne : B (piece x.1 x.2) = B (esc1 x.1) := by rw [piece_eq h4]
              repeat wtm_at "w"
              with_reducible refine ev_append O ?_ _ (by intro _; with_unfolding_all rfl) (by intro _; with_unfolding_all rfl) (by intro _ _; with_unfolding_all rfl)
              repeat wtm_at "w"
              refine ⟨d, _, rfl, .head _, ?_⟩
              repeat wtm_at "w"
              refine ⟨0, _, rfl, hap, ?_⟩
              repeat wtm_at "w"
              exact ⟨_, _, _, by rw [hpa, hne]; rfl⟩
    · rintro q' ⟨b2, b3, b4, b5, b6, rfl⟩
      refine xs_freeze d (pcs (ms.flatMap pieces)) (m' := [some (.lst (ms.map rng2)), some (.lst (pcs (ms.flatMap pieces))), b2, b3, b4, b5, b6, none, none, none, none, none]) (led' := []) (.refl _) ?_ ?_
      · intro k p e
        match k with
        | 1 => right; cases e; exact ⟨rfl, rfl⟩
        | 0 | 2 | 3 | 4 | 5 | 6 | 7 | 8 | 9 | 10 | 11 => left; exact e
        | k + 12 => cases e
      have hpc : pcs (ms.flatMap pieces) = ((ms.flatMap pieces).map fun x => B (piece x.1 x.2)).map PV.byt := by simp [pcs]
      have hfl : ((ms.flatMap pieces).map fun x => B (piece x.1 x.2)).flatten = B (render ms) := by
        unfold render
        generalize ms.flatMap pieces = l
        induction l with
        | nil => rfl
        | cons x l ih => rw [List.map_cons, List.flatten_cons, List.flatMap_cons, ih]; simp [B]
      have hrl := render_len ms
      rw [hpc]
      repeat wtm_at "w"
      with_reducible refine ev_meth O (ev_byt (mth_byt slot_join type_join ⟨by with_unfolding_all rfl, ?_⟩)) _ (by intro _; with_unfolding_all rfl) (by intro _ _; with_unfolding_all rfl)
      repeat wtm_at "w"
      refine call_joinB (by rw [hfl]; simp; lia) ?_
      repeat wtm_at "w"
      exact ⟨by rw [hfl], rfl⟩
end
/- C10 -/
section
open PySem PySem.W PySem.Calls PyProof.Rows Mine
set_option maxHeartbeats 4000000
theorem isB {w : World} {n : List Nat} (hn : ∀ c ∈ n, c < 256) {a : Array UInt8} {t : Tok} : (bytesKind PW w).is (B n) (.bytes a t) = (n == a.toList.map (·.toNat)) := by
  rw [← B_beq hn]
  show (a.toList == B n) = _
  rw [Bool.eq_iff_iff, beq_iff_eq, beq_iff_eq]; exact eq_comm
theorem isB_self {w : World} {n : List UInt8} {t : Tok} : (bytesKind PW w).is n (.bytes n.toArray t) = true := by
  show (n.toArray.toList == n) = true
  simp
noncomputable def rows (P : Params) : Nat → List (List Nat × List Nat) → List DictEntry
  | _, [] => []
  | k, e :: r => ⟨PyData.keyHash P ⟨e.1.toArray⟩, .bytes (B e.1).toArray k, .bytes (B e.2).toArray (k + 1)⟩ :: rows P (k + 2) r
theorem posix_rows (P : Params) : posixL P = rows P 320 Pl.posixT := by kernel_rfl
theorem posix_good : ∀ e ∈ Pl.posixT, (∀ c ∈ e.1, c < 256) ∧ e.2.length ≤ 40 ∧ ∀ x ∈ e.2, x < 256 := by decide +kernel
theorem posix_ok {n tx : List Nat} (h : Pl.posix n = some tx) : tx.length ≤ 40 ∧ ∀ x ∈ tx, x < 256 := by
  obtain ⟨e, he, rfl⟩ := Option.map_eq_some_iff.mp h
  exact (posix_good e (List.mem_of_find?_eq_some he)).2
theorem isB_row {w : World} {n m : List Nat} (hn : ∀ c ∈ n, c < 256) (hm : ∀ c ∈ m, c < 256) {t : Tok} : (bytesKind PW w).is (B n) (.bytes (B m).toArray t) = (n == m) := by
  rw [isB hn]
  exact congrArg (n == ·) (((beq_iff_eq.mp ((B_beq hm (B m)).symm.trans (beq_self_eq_true _)))).symm)
noncomputable def PosAt (v : Option Value) : Option (List Nat) → Prop
  | some x => ∃ t, v = some (.bytes (B x).toArray t)
  | none => v = none
theorem find_rows (w : World) {n : List Nat} (hn : ∀ c ∈ n, c < 256) : ∀ (l : List (List Nat × List Nat)) (k : Nat), (∀ e ∈ l, ∀ c ∈ e.1, c < 256) →
    PosAt (((rows w.params k l).find? fun e => (bytesKind PW w).is (B n) e.key).map (·.val)) ((l.find? fun e => n == e.1).map (·.2))
  | [], _, _ => rfl
  | e :: r, k, h => by
    have hr := isB_row (w := w) hn (h e (.head _)) (t := k)
    rw [show rows w.params k (e :: r) = _ :: rows w.params (k + 2) r from rfl]
    rw [List.find?_cons, List.find?_cons, hr]
    cases n == e.1 with
    | true => exact ⟨_, rfl⟩
    | false => exact find_rows w hn r (k + 2) fun e' he => h e' (.tail _ he)
theorem posix_find (w : World) {n : List Nat} (hn : ∀ c ∈ n, c < 256) : PosAt (findBy (bytesKind PW w).is (posixL w.params).toArray (B n)) (Pl.posix n) := by
  have := find_rows w hn Pl.posixT 320 fun e he => (posix_good e he).1
  rw [← posix_rows] at this
  unfold findBy
  rwa [List.find?_toArray]
theorem reduce_rng (i : Int) : -(9223372036854775808 : Int) ≤ reduceHash i ∧ reduceHash i < 9223372036854775808 ∧ reduceHash i ≠ -1 := by
  have e : (2 : Int) ^ 63 = 9223372036854775808 := by decide
  have e' : (2 : Int) ^ 61 - 1 = 2305843009213693951 := by decide
  unfold reduceHash
  rw [e, e']
  split
  · rename_i h
    simp only [Bool.and_eq_true, decide_eq_true_eq] at h
    split
    · lia
    · rename_i h2; simp at h2; lia
  · have h1 := Int.emod_nonneg (i.natAbs : Int) (show (2305843009213693951 : Int) ≠ 0 by decide)
    have h2 := Int.emod_lt_of_pos (i.natAbs : Int) (show (0 : Int) < 2305843009213693951 by decide)
    generalize (i.natAbs : Int) % 2305843009213693951 = z at *
    dsimp only
    split
    · split
      · lia
      · rename_i h3; simp at h3; lia
    · split
      · lia
      · rename_i h3; simp at h3; lia
theorem reduce_two (i : Int) : reduceHash (reduceHash i) = reduceHash i := by
  obtain ⟨h1, h2, h3⟩ := reduce_rng i
  generalize reduceHash i = j at *
  have e : (2 : Int) ^ 63 = 9223372036854775808 := by decide
  unfold reduceHash
  rw [e, if_pos (by simp; lia), if_neg (by simpa using h3)]
theorem key_fix (P : Params) (x : Str) : reduceHash (PyData.keyHash P x) = PyData.keyHash P x := by
  unfold PyData.keyHash
  split
  · decide
  · exact reduce_two _
theorem mem_rows {P : Params} {d : DictEntry} : ∀ {l : List (List Nat × List Nat)} {k : Nat}, d ∈ rows P k l → ∃ e ∈ l, ∃ t, d = ⟨PyData.keyHash P ⟨e.1.toArray⟩, .bytes (B e.1).toArray t, .bytes (B e.2).toArray (t + 1)⟩
  | e :: r, k, h => by
    rcases List.mem_cons.mp h with h | h
    · exact ⟨e, .head _, k, h⟩
    · obtain ⟨e', he, t, h'⟩ := mem_rows h
      exact ⟨e', .tail _ he, t, h'⟩
theorem posix_map {w : World} {h : Heap} (X : (KP w.params).In h) : h.MapOf (bytesKind PW w) 97 (fun k => findBy (bytesKind PW w).is (posixL w.params).toArray k) := by
  refine ⟨posix w.params, (posixL w.params).toArray, 12, X 97 _ (by rfl), ⟨rfl, rfl, rfl⟩, rfl, fun e he => ?_, fun _ => rfl⟩
  have he' : e ∈ rows w.params 320 Pl.posixT := by rw [← posix_rows]; simpa using he
  obtain ⟨p, hp, t, rfl⟩ := mem_rows he'
  refine ⟨B p.1, isB_self, ?_⟩
  have hb : p.1 = (B p.1).map (·.toNat) := beq_iff_eq.mp ((B_beq (posix_good p hp).1 (B p.1)).symm.trans (beq_self_eq_true _))
  show PyData.keyHash w.params ⟨p.1.toArray⟩ = reduceHash (PyData.keyHash w.params ⟨(B p.1).toArray.map (·.toNat)⟩)
  rw [key_fix, List.map_toArray, ← hb]
section
variable {x : Act} {cs : Scope} {E : Er} {q : Q} {Qn : PV → Q → Prop}
theorem op_ninP {n : List Nat} (O : x.Ok cs) (hn : ∀ c ∈ n, c < 256) (h : Qn (.val (.bool (Pl.posix n).isNone)) q) : Op2 x cs (compareOp .NotIn) (.byt (B n)) (.val (.ref 97)) q Qn E := fun hid g s u v R i j => by
  obtain ⟨t, rfl⟩ := is_byt.mp i
  rw [is_val.mp j]
  have hp := posix_find x.w hn
  refine wpAny_notIn_of (knd := bytesKind PW x.w) (k := B n) isB_self (by decide) (posix_map (R.inK O)) (R.dn (is_val.mpr ?_) h)
  cases e : Pl.posix n with
  | none => rw [e] at hp; rw [hp]; rfl
  | some y => rw [e] at hp; obtain ⟨t, hp⟩ := hp; rw [hp]; rfl
theorem op_itemP {value slice : Expr} {n y : List Nat} (O : x.Ok cs) (hn : ∀ c ∈ n, c < 256) (hy : Pl.posix n = some y) (h : Qn (.byt (B y)) q)
    (hs : ∀ b t, subscripted slice false (.ref 97) (.bytes b t) = operate [.ref 97, .bytes b t] (getItem (.ref 97) (.bytes b t)))
    (ht : ∀ r, letTemporaryGo value (.ref 97) r = pure ()) :
    Op2 x cs (subscriptTail value slice) (.val (.ref 97)) (.byt (B n)) q Qn E := fun hid g s u v R i j => by
  obtain ⟨t, rfl⟩ := is_byt.mp j
  rw [is_val.mp i]
  have hp := posix_find x.w hn
  rw [hy] at hp
  obtain ⟨tk, hp⟩ := hp
  have hm := posix_map (R.inK O)
  exact tail_of_ItemOn ⟨"dict", _, slot_dict_getitem.lookup, hm.typeIs, wpAny_getItem_of (knd := bytesKind PW x.w) (k := B n) isB_self hm hp (R.dn (is_byt.mpr ⟨_, rfl⟩) h)⟩ (hs _ _) ht
end
end
/- C11 -/
section
open PySem PySem.W PySem.Calls PyProof.Rows Mine
set_option maxHeartbeats 4000000
noncomputable def clsPV (l : List (List Nat)) : List PV := l.map fun c => .byt (B c)
noncomputable def nmOf (s : List Nat) : List Nat := s.takeWhile (· ≠ 93)
noncomputable def rsOf (s : List Nat) : List Nat := s.dropWhile (· ≠ 93)
theorem nm_cons {c : Nat} {s : List Nat} (h : c ≠ 93) : nmOf (c :: s) = c :: nmOf s ∧ rsOf (c :: s) = rsOf s := by
  simp [nmOf, rsOf, h]
theorem nm_stop (s : List Nat) : nmOf (93 :: s) = [] ∧ rsOf (93 :: s) = 93 :: s := by
  simp [nmOf, rsOf]
noncomputable def pcX (s : List Nat) : Prop := rsOf s = [] ∨ (nmOf s ≠ [] ∧ (nmOf s).getLast? = some 58 ∧ Pl.posix (nmOf s).dropLast = none)
noncomputable def pcQ (i : Nat) (s : List Nat) (dm dc : Addr) (mem : List (Nat × Nat)) (cls : List (List Nat)) (p : PV) (l : List (Addr × MK)) : Prop :=
  rsOf s ≠ [] ∧ ((¬ (nmOf s ≠ [] ∧ (nmOf s).getLast? = some 58) ∧ p = .tup [.int i, .int (91 : Nat)] ∧ l = [(dm, .lst ((mem ++ [(91, 91)]).map rng2)), (dc, .lst (clsPV cls))]) ∨
    (∃ tx, nmOf s ≠ [] ∧ (nmOf s).getLast? = some 58 ∧ Pl.posix (nmOf s).dropLast = some tx ∧ p = .tup [.int (i + 2 + (nmOf s).length : Nat), .val .none] ∧ l = [(dm, .lst (mem.map rng2)), (dc, .lst (clsPV (cls ++ [tx])))]))
theorem ex_mid2 {x : Act} {cs : Scope} {E : Er} {q : Q} {Qf : Out → Q → Prop} {st rest} (S : Q → Prop) (h : Ex x cs st q (Mid S Qf) E) (hr : ∀ q', S q' → Exs x cs rest q' Qf E) : Ex x cs st q (Cont x cs rest Qf E) E := fun hid g s R =>
  df_k (h hid g s R) fun f s' g' o q' a b c d => ⟨g', o, q', a, b, c, by cases o <;> first | exact hr _ d | exact d⟩
theorem g_POSIX (w : World) : nsIn (KP w.params) mainGlobals "_POSIX_CLASSES" = some (some (.ref 97)) := by kernel_rfl
inductive pxE (t : List Nat) (i : Nat) (dm : Addr) (dc : Addr) (mem : List (Nat × Nat)) (cls : List (List Nat)) (s : List Nat) (q' : Q) : Prop where
  | mk (j : Nat) (h1_0 : q' = ⟨[some (.byt (B t)), some (.int i), some (.val (.ref dm)), some (.val (.ref dc)), some (.int (i + 2 : Nat)), some (.int j), none, none, none], [(dm, .lst (mem.map rng2)), (dc, .lst (clsPV cls))]⟩) (h2_1 : j = i + 2 + (nmOf s).length) (h3_2 : t.drop j = rsOf s) : pxE t i dm dc mem cls s q'
inductive pxI (t : List Nat) (i : Nat) (dm : Addr) (dc : Addr) (mem : List (Nat × Nat)) (cls : List (List Nat)) (s : List Nat) (n : Nat) (q' : Q) : Prop where
  | mk (j : Nat) (h1_0 : q' = ⟨[some (.byt (B t)), some (.int i), some (.val (.ref dm)), some (.val (.ref dc)), some (.int (i + 2 : Nat)), some (.int j), none, none, none], [(dm, .lst (mem.map rng2)), (dc, .lst (clsPV cls))]⟩) (h2_1 : j + (nmOf (t.drop j)).length = i + 2 + (nmOf s).length) (h3_2 : rsOf (t.drop j) = rsOf s) (h4_3 : n = t.length - j) : pxI t i dm dc mem cls s n q'
theorem cl_posix_class (w : World) (t : List Nat) (ht : ∀ c ∈ t, c < 256) (hz : t.length ≤ 10000) (i : Nat) (dm dc : Addr) (mem : List (Nat × Nat)) (cls : List (List Nat)) (hm : mem.length ≤ 10000) (hc : cls.length ≤ 10000) :
    ClO true (.ref 124) [.byt (B t), .int i, .val (.ref dm), .val (.ref dc)] [(dm, .lst (mem.map rng2)), (dc, .lst (clsPV cls))] 1 (pcQ i (t.drop (i + 2)) dm dc mem cls) (pcX (t.drop (i + 2))) w := by
  refine cl_defO (dargs := []) (dvals := []) (ps := ["pattern", "i", "members", "classes"]) (by rfl) (by conv => lhs; whnf) (by conv => lhs; whnf) (by kernel_rfl) ?hb (fun _ => isL_nil.mpr rfl) rfl (by decide +kernel) ?hloc (by decide +kernel) (by decide +kernel) rfl rfl rfl (m₀ := [some (.byt (B t)), some (.int i), some (.val (.ref dm)), some (.val (.ref dc)), none, none, none, none, none]) (by kernel_rfl) ?body (by wtm_at "li")
  case hb =>
    intro s vals X hl
    obtain ⟨a, b, c, d, rfl⟩ := vlist4 hl
    exact .of_eq (by kernel_rfl)
  case hloc => decide +kernel
  case body =>
    intro y hw O W hn hr hcl K0 hKr hKn
    subst hw
    have hh := O.hand (hn rfl)
    have hB : (B t).length = t.length := by simp
    generalize hs : t.drop (i + 2) = s at *
    generalize hX : pcX s = X
    repeat wtm_at "w"
    with_reducible refine ex_mid2 (pxE t i dm dc mem cls s) ?_ ?_
    · refine ex_whileK noE noE_pass (pxI t i dm dc mem cls s) ?_ _ ⟨i + 2, rfl, by rw [hs], by rw [hs], rfl⟩
      rintro n q' ⟨j, rfl, hj1, hj2, rfl⟩ K1 hN1 hC1 hB1 hR1
      repeat wtm_at "w"
      cases e : t.drop j with
      | nil =>
        have : t.length ≤ j := drop_nil_le e
        with_reducible refine ite_f (by wtm_at "tt") ?_
        rw [e] at hj1 hj2
        exact ⟨j, rfl, by simpa [nmOf] using hj1, by rw [e]; simpa [rsOf] using hj2⟩
      | cons c r =>
        obtain ⟨h1, h2⟩ := drop_lt e
        with_reducible refine ite_t (by wtm_at "tt") ?_
        repeat wtm_at "w"
        rw [show cut (B t) (some (j : Int)) (some ((j : Int) + 1)) = B ((t.drop j).take 1) from cutB1 t j, show (B ((t.drop j).take 1) != [93]) = !(B ((t.drop j).take 1) == [93]) from rfl, B_beq (lt_part ht _ _), e]
        with_reducible refine br_ite (fun h3 => ?_) (fun h3 => ?_)
        · have h4 : c ≠ 93 := by simpa using h3
          repeat wtm_at "w"
          rw [e, (nm_cons h4).1] at hj1
          rw [e, (nm_cons h4).2] at hj2
          exact ⟨t.length - (j + 1), by lia, j + 1, rfl, by rw [h2]; simp at hj1; lia, by rw [h2]; exact hj2, rfl⟩
        · have h4 : c = 93 := by simpa using h3
          subst h4
          rw [e, (nm_stop r).1] at hj1
          rw [e, (nm_stop r).2] at hj2
          exact ⟨j, rfl, by simpa using hj1, by rw [e]; exact hj2⟩
    rintro q' ⟨j, rfl, hj, hd⟩
    have happ : nmOf s ++ rsOf s = s := by unfold nmOf rsOf; exact List.takeWhile_append_dropWhile
    repeat wtm_at "w"
    by_cases hr0 : rsOf s = []
    · have : t.length ≤ j := by have := congrArg List.length hd; rw [hr0] at this; simp at this; lia
      with_reducible refine ite_t (by wtm_at "tt") ?_
      have hXt : X := by rw [← hX]; exact .inl hr0
      refine xs_st (ex_raise (hs := by intro _; rfl) (hpl := by intro _ _; rfl) 7 O W (hn rfl) rfl (by with_reducible rfl) hXt ?_)
      repeat wtm_at "w"
      trivial
    · have hjl : j < t.length := by
        have := congrArg List.length hd
        have h2 := List.length_pos_iff.mpr hr0
        simp at this; lia
      with_reducible refine ite_f (by wtm_at "tt") ?_
      repeat wtm_at "w"
      rcases List.eq_nil_or_concat (nmOf s) with hnm | ⟨pre, z, hnm⟩
      · have hj0 : j = i + 2 := by rw [hj, hnm]; rfl
        with_reducible refine ite_t (by wtm_at "tt") ?_
        repeat wtm_at "w"
        with_reducible refine ev_append O ?_ _ (by intro _; with_unfolding_all rfl) (by intro _; with_unfolding_all rfl) (by intro _ _; with_unfolding_all rfl)
        repeat wtm_at "w"
        refine ⟨dm, _, rfl, .head _, ?_⟩
        repeat wtm_at "w"
        refine ⟨0, _, rfl, by simp; lia, ?_⟩
        repeat wtm_at "w"
        rw [← hs]
        refine ⟨by rw [hs]; exact hr0, .inl ⟨by rw [hs]; simp [hnm], ?_, ?_⟩⟩
        · rw [show ((i + 2 : Nat) : Int) - 2 = (i : Int) by lia]; rfl
        · rw [List.map_append]; rfl
      · rw [List.concat_eq_append] at hnm
        have hnl : (nmOf s).length = pre.length + 1 := by rw [hnm]; simp
        have hs2 : t.drop (i + 2) = pre ++ z :: rsOf s := by rw [hs]; conv => lhs; rw [← happ, hnm]
                                                             simp
        obtain ⟨jj, hjj⟩ : ∃ jj, j = jj + 1 := ⟨i + 2 + pre.length, by lia⟩
        have hjj2 : jj = i + 2 + pre.length := by lia
        have hd2 : t.drop jj = z :: rsOf s := by rw [hjj2, ← List.drop_drop, hs2]; simp
        with_reducible refine ite_f (by wtm_at "tt") ?_
        repeat wtm_at "w"
        have hcut : cut (B t) (some ((j : Int) - 1)) (some (j : Int)) = B [z] := by
          rw [cutB (i := jj) (k := 1) (by wtm_at "li") (by wtm_at "li"), hd2]; rfl
        have hz256 : ∀ c ∈ [z], c < 256 := fun c hc => ht c (List.mem_of_mem_drop (i := jj) (by rw [hd2]; exact List.mem_cons.mpr (.inl (by simpa using hc))))
        rw [hcut, show (B [z] != [58]) = !(B [z] == [58]) from rfl, B_beq hz256]
        have hlast : (nmOf s).getLast? = some z := by rw [hnm]; simp
        have hdl : (nmOf s).dropLast = pre := by rw [hnm]; simp
        have hne : nmOf s ≠ [] := by rw [hnm]; simp
        have hpre : ∀ c ∈ pre, c < 256 := fun c hc => ht c (List.mem_of_mem_drop (i := i + 2) (by rw [hs2]; exact List.mem_append_left _ hc))
        have hcut2 : cut (B t) (some ((i + 2 : Nat) : Int)) (some ((j : Int) - 1)) = B pre := by
          rw [cutB (i := i + 2) (k := pre.length) rfl (by wtm_at "li"), hs2]; simp
        with_reducible refine br_ite (fun h3 => ?_) (fun h3 => ?_)
        · have h4 : z ≠ 58 := by simpa using h3
          repeat wtm_at "w"
          with_reducible refine ev_append O ?_ _ (by intro _; with_unfolding_all rfl) (by intro _; with_unfolding_all rfl) (by intro _ _; with_unfolding_all rfl)
          repeat wtm_at "w"
          refine ⟨dm, _, rfl, .head _, ?_⟩
          repeat wtm_at "w"
          refine ⟨0, _, rfl, by simp; lia, ?_⟩
          repeat wtm_at "w"
          rw [← hs]
          refine ⟨by rw [hs]; exact hr0, .inl ⟨by rw [hs, hlast]; simp [h4], ?_, ?_⟩⟩
          · rw [show ((i + 2 : Nat) : Int) - 2 = (i : Int) by lia]; rfl
          · rw [List.map_append]; rfl
        · have h4 : z = 58 := by simpa using h3
          subst h4
          repeat wtm_at "w"
          rw [hcut2]
          refine ev_G (hd := by decide +kernel) O 8 rfl (by with_reducible rfl) (g_POSIX _) ?_
          refine op_ninP O hpre ?_
          repeat wtm_at "w"
          cases hp : Pl.posix pre with
          | none =>
            with_reducible refine ite_t rfl ?_
            have hXt : X := by rw [← hX]; exact .inr ⟨hne, hlast, by rw [hdl]; exact hp⟩
            refine xs_st (ex_raise (hs := by intro _; rfl) (hpl := by intro _ _; rfl) 7 O W (hn rfl) rfl (by with_reducible rfl) hXt ?_)
            repeat wtm_at "w"
            trivial
          | some tx =>
            with_reducible refine ite_f rfl ?_
            repeat wtm_at "w"
            with_reducible refine ev_append O ?_ _ (by intro _; with_unfolding_all rfl) (by intro _; with_unfolding_all rfl) (by intro _ _; with_unfolding_all rfl)
            repeat wtm_at "w"
            refine ⟨dc, _, rfl, .tail _ (.head _), ?_⟩
            repeat wtm_at "w"
            refine ev_G (hd := by decide +kernel) O 8 rfl (by with_reducible rfl) (g_POSIX _) ?_
            repeat wtm_at "w"
            rw [hcut2]
            refine op_itemP (hs := by intro _ _; with_unfolding_all rfl) (ht := by intro _; with_unfolding_all rfl) O hpre hp ?_
            refine ⟨1, _, rfl, by simp [clsPV]; lia, ?_⟩
            repeat wtm_at "w"
            rw [← hs]
            exact ⟨by rw [hs]; exact hr0, .inr ⟨tx, by rw [hs]; exact hne, by rw [hs]; exact hlast, by rw [hs, hdl]; exact hp, by rw [hs, ← hj], by simp [clsPV]⟩⟩
end
/- C12 -/
section
open PySem PySem.W PySem.Calls PyProof.Rows Mine
set_option maxHeartbeats 8000000
theorem ts_is {x : Act} {cs : Scope} {E : Er} {q : Q} {Qb : Bool → Q → Prop} {e} (b0 : Bool) (h : Tst x cs e q (fun b q' => b = b0 ∧ q' = q) E) (h2 : Qb b0 q) : Tst x cs e q Qb E := fun hid g s R =>
  wpAny_mono (h hid g s R) (fun b s' ⟨g', q', a, c, d1, d2⟩ => ⟨g', q', a, c, by rw [d1, d2]; exact h2⟩) fun _ _ e => e
theorem B1_eq {c : Nat} (hc : c < 256) (k : UInt8) : (B [c] == [k]) = decide (c = k.toNat) := by
  rw [B_beq (by simpa using hc), Bool.eq_iff_iff]; simp
theorem neg_eq {t : List Nat} (ht : ∀ c ∈ t, c < 256) (i : Nat) : ([[33], [94]] : List (List UInt8)).any (· == B ((t.drop i).take 1)) = Pl.isNeg (t.drop i) := by
  cases e : t.drop i with
  | nil => rfl
  | cons c r =>
    have hc : c < 256 := ht c (List.mem_of_mem_drop (by rw [e]; exact .head _))
    have h1 : ∀ k : UInt8, ([k] == B [c]) = decide (c = k.toNat) := fun k => by rw [← B1_eq hc k, Bool.eq_iff_iff, beq_iff_eq, beq_iff_eq]; exact eq_comm
    show ([33] == B [c] || ([94] == B [c] || false)) = _
    rw [h1, h1]
    simp only [Pl.isNeg, List.head?_cons]
    rw [Bool.eq_iff_iff]; simp
noncomputable def pvO : Option Nat → PV
  | none => .val .none
  | some c => .int c
structure BInv (i j : Nat) (prev : Option Nat) (mem : List (Nat × Nat)) (cls : List (List Nat)) : Prop where
  fl : mem.length + cls.length + i ≤ j
  fm : ∀ m ∈ mem, m.1 < 256 ∧ m.2 < 256
  fa : ∀ l, prev = some l → ∃ m', mem = m' ++ [(l, l)]
  fc : ∀ c ∈ cls, c.length ≤ 40 ∧ ∀ x ∈ c, x < 256
theorem BInv.push {i j j' : Nat} {prev mem cls} (h : BInv i j prev mem cls) {c : Nat} (hc : c < 256) (hj : j + 1 ≤ j') : BInv i j' (some c) (mem ++ [(c, c)]) cls where
  fl := by have := h.fl; simp; lia
  fm := fun m hm => by
    rcases List.mem_append.mp hm with h1 | h1
    · exact h.fm m h1
    · rw [List.mem_singleton.mp h1]; exact ⟨hc, hc⟩
  fa := fun l e => by cases e; exact ⟨mem, rfl⟩
  fc := h.fc
theorem BInv.set {i j j' : Nat} {l mem cls} (h : BInv i j (some l) mem cls) {e : Nat} (he : e < 256) (hj : j + 1 ≤ j') : BInv i j' none (if l ≤ e then Pl.setLast mem (l, e) else mem) cls := by
  obtain ⟨m', rfl⟩ := h.fa l rfl
  have hl := (h.fm (l, l) (by simp)).1
  have h1 := h.fl
  refine ⟨?_, fun m hm => ?_, fun _ e => (by cases e), h.fc⟩
  · split
    · simp [Pl.setLast] at h1 ⊢; lia
    · simp at h1 ⊢; lia
  · split at hm
    · simp only [Pl.setLast, List.dropLast_concat, List.mem_append, List.mem_singleton] at hm
      rcases hm with h2 | h2
      · exact h.fm m (by simp [h2])
      · rw [h2]; exact ⟨hl, he⟩
    · exact h.fm m hm
theorem BInv.cls1 {i j j' : Nat} {prev mem cls tx} (h : BInv i j prev mem cls) (htx : tx.length ≤ 40 ∧ ∀ x ∈ tx, x < 256) (hj : j + 1 ≤ j') : BInv i j' none mem (cls ++ [tx]) where
  fl := by have := h.fl; simp; lia
  fm := h.fm
  fa := fun l e => by cases e
  fc := fun c hc => by
    rcases List.mem_append.mp hc with h1 | h1
    · exact h.fc c h1
    · rw [List.mem_singleton.mp h1]; exact htx
theorem op_neg {x : Act} {cs : Scope} {E : Er} {q : Q} {Qn : PV → Q → Prop} {a : Int} (h : Qn (.int (-a)) q) : Op1 x cs (unaryOp .USub) (.int a) q Qn E := fun hid g s u R i => by
  obtain ⟨t, rfl⟩ := is_int.mp i
  exact neg_int (R.dn (is_int.mpr ⟨_, rfl⟩) h)
theorem g_posix_class (w : World) : nsIn (KP w.params) mainGlobals "_posix_class" = some (some (.ref 124)) := by kernel_rfl
theorem g_render (w : World) : nsIn (KP w.params) mainGlobals "_render" = some (some (.ref 117)) := by kernel_rfl
inductive brkQ (t : List Nat) (i : Nat) (p : PV) (l : List (Addr × MK)) : Prop where
  | mk (h0_0 : l = []) (out : List Nat) (i' : Nat) (h2_0 : p = .tup [.int i', .byt (B out)]) (h3_1 : Pl.brk (t.drop i) = some (out, t.drop i')) (h4_2 : i < i') (h5_3 : i' ≤ t.length) (h6_4 : out.length ≤ 100 * (i' - i)) : brkQ t i p l
noncomputable def brkM (t : List Nat) (j : Nat) (neg : Bool) (dm dc : Addr) (a b c : Option PV) : List (Option PV) := [some (.byt (B t)), some (.int j), some (.int (t.length : Nat)), some (.val (.bool neg)), some (.val (.ref dm)), some (.val (.ref dc)), a, b, c, none, none, none, none, none]
@[reducible] noncomputable def bkA (t : List Nat) (i : Nat) (q' : Q) : Prop := q' = ⟨[some (.byt (B t)), some (.int (if Pl.isNeg (t.drop i) = true then i + 1 else i : Nat)), some (.int (t.length : Nat)), some (.val (.bool (Pl.isNeg (t.drop i)))), none, none, none, none, none, none, none, none, none, none], []⟩
inductive bkE (t : List Nat) (neg : Bool) (dm : Addr) (dc : Addr) (R : Option (List (Nat × Nat) × List (List Nat) × List Nat)) (i : Nat) (q' : Q) : Prop where
  | mk (j : Nat) (mem cls prev fi co) (h2_0 : q' = ⟨(brkM t j neg dm dc prev fi co), [(dc, .lst (clsPV cls)), (dm, .lst (mem.map rng2))]⟩) (h3_1 : R = some (mem, cls, t.drop (j + 1))) (h4_2 : BInv i j none mem cls) (h5_3 : j < t.length) : bkE t neg dm dc R i q'
inductive bkI (t : List Nat) (neg : Bool) (dm : Addr) (dc : Addr) (R : Option (List (Nat × Nat) × List (List Nat) × List Nat)) (i : Nat) (n : Nat) (q' : Q) : Prop where
  | mk (j : Nat) (mem cls prev first co) (h2_0 : q' = ⟨(brkM t j neg dm dc (some (pvO prev)) (some (.val (.bool first))) co), [(dc, .lst (clsPV cls)), (dm, .lst (mem.map rng2))]⟩) (h3_1 : Pl.br (t.drop j) first prev mem cls = R) (h4_2 : BInv i j prev mem cls) (h5_3 : j ≤ t.length) (h6_4 : n = t.length - j) : bkI t neg dm dc R i n q'
inductive bkB (t : List Nat) (neg : Bool) (dm : Addr) (dc : Addr) (c : Nat) (R : Option (List (Nat × Nat) × List (List Nat) × List Nat)) (i : Nat) (j : Nat) (q' : Q) : Prop where
  | mk (j' : Nat) (mem' cls' prev' led) (h2_0 : q' = ⟨(brkM t j' neg dm dc (some (pvO prev')) (some (.val (.bool false))) (some (.byt (B [c])))), led⟩) (h3_1 : led.Perm [(dc, .lst (clsPV cls')), (dm, .lst (mem'.map rng2))]) (h4_2 : Pl.br (t.drop (j' + 1)) false prev' mem' cls' = R) (h5_3 : BInv i (j' + 1) prev' mem' cls') (h6_4 : j ≤ j') (h7_5 : j' < t.length) : bkB t neg dm dc c R i j q'
inductive bkC (t : List Nat) (l : Nat) (neg : Bool) (dm : Addr) (dc : Addr) (cls : List (List Nat)) (mem : List (Nat × Nat)) (j : Nat) (R : Option (List (Nat × Nat) × List (List Nat) × List Nat)) (q' : Q) : Prop where
  | mk (k e : Nat) (r3) (h2_0 : q' = ⟨(brkM t k neg dm dc (some (.int l)) (some (.val (.bool false))) (some (.byt (B [45])))), [(dc, .lst (clsPV cls)), (dm, .lst (mem.map rng2))]⟩) (h3_1 : t.drop k = e :: r3) (h4_2 : j + 1 ≤ k) (h5_3 : Pl.br r3 false none (if l ≤ e then Pl.setLast mem (l, e) else mem) cls = R) : bkC t l neg dm dc cls mem j R q'
theorem cl_brk (w : World) (t : List Nat) (ht : ∀ c ∈ t, c < 256) (hz : t.length ≤ 900) (i : Nat) (hi0 : i ≤ t.length) :
    ClO true (.ref 131) [.byt (B t), .int i] [] 4 (brkQ t i) (Pl.brk (t.drop i) = none) w := by
  refine cl_defO (dargs := []) (dvals := []) (ps := ["pattern", "i"]) (by rfl) (by conv => lhs; whnf) (by conv => lhs; whnf) (by kernel_rfl) ?hb (fun _ => isL_nil.mpr rfl) rfl (by decide +kernel) ?hloc (by decide +kernel) (by decide +kernel) rfl rfl rfl (m₀ := [some (.byt (B t)), some (.int i), none, none, none, none, none, none, none, none, none, none, none, none]) (by kernel_rfl) ?body (by wtm_at "li")
  case hb =>
    intro s vals X hl
    obtain ⟨a, b, rfl⟩ := vlist2 hl
    exact .of_eq (by kernel_rfl)
  case hloc => decide +kernel
  case body =>
    intro y hw O W hn hr hcl K0 hKr hKn
    subst hw
    have hh := O.hand (hn rfl)
    have hB : (B t).length = t.length := by simp
    generalize hX : (Pl.brk (t.drop i) = none) = X
    repeat wtm_at "w"
    refine op_inTB (ls := [[33], [94]]) ?_
    rw [cutB1, neg_eq ht]
    have hnl : Pl.isNeg (t.drop i) = true → i < t.length ∧ t.drop (i + 1) = (t.drop i).tail := fun h => by
      cases e : t.drop i with
      | nil => rw [e] at h; cases h
      | cons c r => exact ⟨(drop_lt e).1, (drop_lt e).2⟩
    repeat wtm_at "e"
    with_reducible refine co_nxt ?_
    refine xs_mid (bkA t i) ?_ ?_
    · repeat wtm_at "w"
      with_reducible refine br_ite (fun h1 => ?_) (fun h1 => ?_)
      · repeat wtm_at "w"
        unfold bkA; rw [h1, hB]; rfl
      · repeat wtm_at "w"
        unfold bkA; rw [h1, hB]; rfl
    rintro q' rfl
    have hbk : Pl.brk (t.drop i) = (match Pl.br (if Pl.isNeg (t.drop i) = true then (t.drop i).tail else t.drop i) true none [] [] with
      | none => none
      | some (mem, cls, r) => some (if Pl.isNeg (t.drop i) = true then [91, 94, 47] ++ (Pl.render mem ++ cls.flatten) ++ [93] else if Pl.render mem ++ cls.flatten = [] then [40, 63, 33, 41] else [91] ++ (Pl.render mem ++ cls.flatten) ++ [93], r)) := rfl
    have hd2 : t.drop (if Pl.isNeg (t.drop i) = true then i + 1 else i) = (if Pl.isNeg (t.drop i) = true then (t.drop i).tail else t.drop i) := by
      split
      · rename_i h; exact (hnl h).2
      · rfl
    have hi2 : i ≤ (if Pl.isNeg (t.drop i) = true then i + 1 else i) ∧ (if Pl.isNeg (t.drop i) = true then i + 1 else i) ≤ t.length := by
      split
      · rename_i h; have := (hnl h).1; lia
      · exact ⟨Nat.le_refl _, hi0⟩
    generalize (if Pl.isNeg (t.drop i) = true then (t.drop i).tail else t.drop i) = s2 at *
    generalize (if Pl.isNeg (t.drop i) = true then i + 1 else i) = i2 at *
    generalize Pl.isNeg (t.drop i) = neg at *
    generalize hR : Pl.br s2 true none [] [] = R at *
    have hRX : R = none → X := fun h => by rw [← hX, hbk, h]
    refine xs_st (ex_asg (hs := by rfl) O 4 rfl (by with_reducible rfl) (ev_lstM (evs_nil ⟨by simp, fun dm => co_nxt ?_⟩)))
    refine xs_st (ex_asg (hs := by rfl) O 5 rfl (by with_reducible rfl) (ev_lstM (evs_nil ⟨by simp, fun dc => co_nxt ?_⟩)))
    repeat wtm_at "w"
    with_reducible refine ex_mid2 (bkE t neg dm dc R i) ?_ ?_
    · refine ex_whileK (EX X y _) EX_pass (bkI t neg dm dc R i) ?_ _ ⟨i2, [], [], none, true, none, rfl, by rw [hd2]; exact hR, ⟨by simpa using hi2.1, by simp, by simp, by simp⟩, hi2.2, rfl⟩
      rintro n q' ⟨j, mem, cls, prev, first, co, rfl, hbr, hI, hjl, rfl⟩ K1 hN1 hC1 hB1 hR1
      repeat wtm_at "w"
      cases e : t.drop j with
      | nil =>
        have : t.length ≤ j := drop_nil_le e
        with_reducible refine ite_t (by wtm_at "tt") ?_
        rw [e, Pl.br_nil] at hbr
        refine xs_st (ex_raise (hs := by intro _; rfl) (hpl := by intro _ _; rfl) 11 O W (hn rfl) rfl (by with_reducible rfl) (hRX hbr.symm) ?_)
        repeat wtm_at "w"
        trivial
      | cons c r =>
        obtain ⟨h1, h2⟩ := drop_lt e
        have hc : c < 256 := ht c (List.mem_of_mem_drop (by rw [e]; exact .head _))
        have hcc : cut (B t) (some (j : Int)) (some ((j : Int) + 1)) = B [c] := by rw [cutB1, e]; rfl
        with_reducible refine ite_f (by wtm_at "tt") ?_
        repeat wtm_at "e"
        with_reducible refine co_nxt ?_
        refine xs_st ?_
        repeat wtm_at "e"
        rw [hcc]
        with_reducible refine co_nxt ?_
        rw [e] at hbr
        have hIn : ∀ {j' : Nat}, j + 1 ≤ j' → True := fun _ => trivial
        -- the bracket's end
        by_cases hA : c = 93 ∧ first = false
        · obtain ⟨rfl, rfl⟩ := hA
          rw [Pl.br_93] at hbr
          refine xs_st (ex_if (ts_is true ?_ ?_))
          · repeat wtm_at "e"
            exact ⟨rfl, rfl⟩
          repeat wtm_at "w"
          exact ⟨j, mem, cls, _, _, _, rfl, by rw [h2]; exact hbr.symm, ⟨hI.fl, hI.fm, fun _ e => (by cases e), hI.fc⟩, h1⟩
        refine xs_st (ex_if (ts_is false ?_ ?_))
        · repeat wtm_at "e"
          rw [B1_eq hc]
          with_reducible refine br_ite (fun h3 => ?_) (fun h3 => ?_)
          · have h4 : first = true := by
              cases first with
              | true => rfl
              | false => exact absurd ⟨by simpa using h3, rfl⟩ hA
            subst h4
            repeat wtm_at "e"
            exact ⟨rfl, rfl⟩
          · repeat wtm_at "e"
            exact ⟨rfl, rfl⟩
        repeat wtm_at "e"
        with_reducible refine co_nxt ?_
        refine xs_st ?_
        repeat wtm_at "e"
        with_reducible refine co_nxt ?_
        refine xs_mid (bkB t neg dm dc c R i j) ?_ ?_
        · have hlm : (mem.map rng2).length ≤ 100000 := by have := hI.fl; simp; lia
          have hlc : (clsPV cls).length ≤ 100000 := by have := hI.fl; simp [clsPV]; lia
          repeat wtm_at "e"
          rw [B1_eq hc]
          by_cases h92 : c = 92
          · subst h92
            with_reducible refine ite_t (by decide) ?_
            cases e2 : r with
            | nil =>
              subst e2
              have : t.length ≤ j + 1 := drop_nil_le h2
              repeat wtm_at "w"
              with_reducible refine ite_t (by wtm_at "tt") ?_
              rw [Pl.br_92n] at hbr
              refine xs_st (ex_raise (hs := by intro _; rfl) (hpl := by intro _ _; rfl) 11 O W (hn rfl) rfl (by with_reducible rfl) (hRX hbr.symm) ?_)
              repeat wtm_at "w"
              trivial
            | cons d r' =>
              subst e2
              obtain ⟨h5, h6⟩ := drop_lt h2
              have hd : d < 256 := ht d (List.mem_of_mem_drop (by rw [h2]; exact .head _))
              rw [Pl.br_92] at hbr
              repeat wtm_at "w"
              with_reducible refine ite_f (by wtm_at "tt") ?_
              repeat wtm_at "w"
              rw [B_at ht h2 (by wtm_at "li")]
              with_reducible refine ev_append O ?_ _ (by intro _; with_unfolding_all rfl) (by intro _; with_unfolding_all rfl) (by intro _ _; with_unfolding_all rfl)
              repeat wtm_at "w"
              refine ⟨dm, _, rfl, .tail _ (.head _), ?_⟩
              repeat wtm_at "w"
              refine ⟨1, _, rfl, hlm, ?_⟩
              repeat wtm_at "w"
              exact ⟨j + 1, mem ++ [(d, d)], cls, some d, _, rfl, by rw [List.map_append]; rfl, by rw [h6]; exact hbr, hI.push hd (by wtm_at "li"), by lia, h5⟩
          with_reducible refine ite_f (by wtm_at "tt") ?_
          refine xs_st ?_
          have hr256 : ∀ x ∈ r, x < 256 := fun x hx => ht x (List.mem_of_mem_drop (i := j + 1) (by rw [h2]; exact hx))
          have hc2 : cut (B t) (some ((j : Int) + 1)) (some ((j : Int) + 2)) = B (r.take 1) := by rw [cutB (i := j + 1) (k := 1) (by wtm_at "li") (by wtm_at "li"), h2]
          have hrl : r.length = t.length - (j + 1) := by have := congrArg List.length h2; simp at this; lia
          with_reducible refine ex_if (ts_is (decide (c = 45 ∧ prev.isSome = true ∧ r ≠ [] ∧ r.head? ≠ some 93)) ?_ ?_)
          · repeat wtm_at "e"
            rw [B1_eq hc]
            with_reducible refine br_ite (fun h3 => ?_) (fun h3 => ?_)
            · have h45 : c = 45 := by simpa using h3
              subst h45
              cases prev with
              | none =>
                unfold pvO
                repeat wtm_at "e"
                exact ⟨by simp, rfl⟩
              | some l =>
                unfold pvO
                repeat wtm_at "e"
                cases e2 : r with
                | nil =>
                  subst e2
                  with_reducible refine ite_f (by simp; simp at hrl; lia) ?_
                  exact ⟨by simp, rfl⟩
                | cons d r' =>
                  subst e2
                  with_reducible refine ite_t (by simp; simp at hrl; lia) ?_
                  repeat wtm_at "e"
                  rw [hc2, show (B (List.take 1 (d :: r')) != [93]) = !(B [d] == [93]) from rfl, B1_eq (hr256 d (.head _))]
                  with_reducible refine br_ite (fun h4 => ?_) (fun h4 => ?_)
                  · repeat wtm_at "e"
                    exact ⟨by simp at h4 ⊢; exact h4, rfl⟩
                  · exact ⟨by simp at h4 ⊢; exact h4, rfl⟩
            · exact ⟨by simp at h3 ⊢; intro h; exact absurd h h3, rfl⟩
          by_cases h45 : c = 45 ∧ prev.isSome = true ∧ r ≠ [] ∧ r.head? ≠ some 93
          · with_reducible refine ite_t (decide_eq_true h45) ?_
            obtain ⟨rfl, hp, hr0, hr93⟩ := h45
            obtain ⟨l, rfl⟩ : ∃ l, prev = some l := by
              cases prev with
              | none => cases hp
              | some l => exact ⟨l, rfl⟩
            obtain ⟨d, r', rfl⟩ : ∃ d r', r = d :: r' := by
              cases r with
              | nil => exact absurd rfl hr0
              | cons d r' => exact ⟨d, r', rfl⟩
            have hd : d < 256 := hr256 d (.head _)
            obtain ⟨h5, h6⟩ := drop_lt h2
            have hd93 : d ≠ 93 := by simpa using hr93
            have hc3 : cut (B t) (some ((j : Int) + 1)) (some ((j : Int) + 1 + 1)) = B [d] := by rw [cutB (i := j + 1) (k := 1) (by wtm_at "li") (by wtm_at "li"), h2]; rfl
            unfold pvO
            repeat wtm_at "e"
            refine xs_st ?_
            repeat wtm_at "e"
            with_reducible refine co_nxt ?_
            -- where the range's other end stands
            refine xs_mid (bkC t l neg dm dc cls mem j R) ?_ ?_
            · repeat wtm_at "e"
              rw [hc3, B1_eq hd]
              with_reducible refine br_ite (fun h3 => ?_) (fun h3 => ?_)
              · have h92' : d = 92 := by simpa using h3
                subst h92'
                cases e3 : r' with
                | nil =>
                  subst e3
                  have : t.length ≤ j + 2 := drop_nil_le h6
                  repeat wtm_at "w"
                  with_reducible refine ite_t (by wtm_at "tt") ?_
                  rw [Pl.br_45n] at hbr
                  refine xs_st (ex_raise (hs := by intro _; rfl) (hpl := by intro _ _; rfl) 11 O W (hn rfl) rfl (by with_reducible rfl) (hRX hbr.symm) ?_)
                  repeat wtm_at "w"
                  trivial
                | cons u r3 =>
                  subst e3
                  have h6' : t.drop (j + 2) = u :: r3 := h6
                  obtain ⟨h7, h8⟩ := drop_lt h6'
                  repeat wtm_at "w"
                  with_reducible refine ite_f (by wtm_at "tt") ?_
                  repeat wtm_at "w"
                  rw [Pl.br_45e] at hbr
                  exact ⟨j + 2, u, r3, rfl, h6', by lia, hbr⟩
              · have h92' : d ≠ 92 := by simpa using h3
                repeat wtm_at "w"
                rw [Pl.br_45 hd93 h92'] at hbr
                exact ⟨j + 1, d, r', rfl, h2, Nat.le_refl _, hbr⟩
            rintro q' ⟨k, e, r3, rfl, hk1, hk2, hk3⟩
            obtain ⟨hk4, hk5⟩ := drop_lt hk1
            have he : e < 256 := ht e (List.mem_of_mem_drop (by rw [hk1]; exact .head _))
            have hIs := hI.set (j' := k + 1) he (by wtm_at "li")
            have fin : ∀ {mm}, mm = (if l ≤ e then Pl.setLast mem (l, e) else mem) → bkB t neg dm dc 45 R i j ⟨(brkM t k neg dm dc (some (.val .none)) (some (.val (.bool false))) (some (.byt (B [45])))), [(dc, .lst (clsPV cls)), (dm, .lst (mm.map rng2))]⟩ := by
              intro mm hmm
              refine ⟨k, mm, cls, none, _, rfl, .refl _, by rw [hk5, hmm]; exact hk3, by rw [hmm]; exact hIs, by lia, hk4⟩
            repeat wtm_at "e"
            refine xs_st ?_
            repeat wtm_at "e"
            rw [B_at ht hk1 (by wtm_at "li")]
            with_reducible refine br_ite (fun h3 => ?_) (fun h3 => ?_)
            · have hle : l ≤ e := by simp at h3; lia
              obtain ⟨m', rfl⟩ := hI.fa l rfl
              repeat wtm_at "w"
              refine ex_asgSub (hs := by rfl) ?_
              repeat wtm_at "w"
              rw [B_at ht hk1 (by wtm_at "li")]
              repeat wtm_at "w"
              refine op_neg ?_
              refine setI_at 1 rfl (by simp at hlm ⊢; lia) m'.length (by simp) (by simp [seqIndex?]; lia) (by decide) (by decide) ?_
              repeat wtm_at "w"
              have hset : ((m' ++ [(l, l)]).map rng2).set m'.length (.tup [.int l, .int e]) = (m' ++ [(l, e)]).map rng2 := by simp [rng2]
              rw [hset]
              refine (fin (mm := m' ++ [(l, e)]) ?_)
              rw [if_pos hle]; simp [Pl.setLast]
            · have hle : ¬ l ≤ e := by simp at h3; lia
              repeat wtm_at "w"
              exact fin (mm := mem) (by rw [if_neg hle])
          with_reducible refine ite_f (decide_eq_false h45) ?_
          repeat wtm_at "e"
          refine xs_st ?_
          with_reducible refine ex_if (ts_is (decide (c = 91 ∧ r.head? = some 58)) ?_ ?_)
          · repeat wtm_at "e"
            rw [B1_eq hc]
            with_reducible refine br_ite (fun h3 => ?_) (fun h3 => ?_)
            · have h91 : c = 91 := by simpa using h3
              subst h91
              repeat wtm_at "e"
              rw [hc2]
              cases r with
              | nil => with_reducible refine ite_f (by decide) ?_; exact ⟨by simp, rfl⟩
              | cons d r' =>
                rw [show List.take 1 (d :: r') = [d] from rfl, B1_eq (hr256 d (.head _))]
                with_reducible refine br_ite (fun h4 => ?_) (fun h4 => ?_)
                · repeat wtm_at "e"
                  exact ⟨by simp at h4 ⊢; exact h4, rfl⟩
                · exact ⟨by simp at h4 ⊢; exact h4, rfl⟩
            · exact ⟨by simp at h3 ⊢; intro h; exact absurd h h3, rfl⟩
          by_cases h91 : c = 91 ∧ r.head? = some 58
          · with_reducible refine ite_t (decide_eq_true h91) ?_
            obtain ⟨rfl, hh58⟩ := h91
            obtain ⟨r', rfl⟩ : ∃ r', r = 58 :: r' := by
              cases r with
              | nil => cases hh58
              | cons d r' => simp at hh58; exact ⟨r', by rw [hh58]⟩
            rw [Pl.br_91] at hbr
            have hd2' : t.drop (j + 2) = r' := (drop_lt h2).2
            repeat wtm_at "e"
            refine xs_st ?_
            repeat wtm_at "e"
            with_reducible refine ev_callG O 12 (by with_unfolding_all rfl) (by with_reducible rfl) (g_posix_class _) (by with_unfolding_all rfl) ?_ (hd := by decide +kernel) (hpl := by intro _ _; with_unfolding_all rfl)
            repeat wtm_at "w"
            have hpm : mem.length ≤ 10000 := by have := hI.fl; lia
            have hpc : cls.length ≤ 10000 := by have := hI.fl; lia
            refine call_O (fp := [(dm, .lst (mem.map rng2)), (dc, .lst (clsPV cls))]) (rest := []) (cl_posix_class y.w t ht (by wtm_at "li") j dm dc mem cls hpm hpc) O W hn (by wtm_at "li") (List.Perm.swap _ _ _) (fun hx => ?_) ?_
            · rw [hd2'] at hx
              refine hRX (hbr.symm.trans ?_)
              rcases hx with hx | ⟨hx1, hx2, hx3⟩
              · exact if_pos hx
              · split
                · rfl
                · rw [show Pl.nmOf r' = nmOf r' from rfl, hx3]
                  exact if_pos ⟨hx1, hx2⟩
            · rintro p l hq
              rw [hd2'] at hq
              obtain ⟨hq0, hq⟩ := hq
              rw [if_neg (show ¬ Pl.rsOf r' = [] from hq0)] at hbr
              rcases hq with ⟨hq1, rfl, rfl⟩ | ⟨tx, hq1, hq2, hq3, rfl, rfl⟩
              · rw [if_neg (show ¬ (Pl.nmOf r' ≠ [] ∧ (Pl.nmOf r').getLast? = some 58) from hq1)] at hbr
                repeat wtm_at "w"
                exact ⟨j, mem ++ [(91, 91)], cls, some 91, _, rfl, List.Perm.swap _ _ _, by rw [h2]; exact hbr, hI.push (by decide) (by wtm_at "li"), Nat.le_refl _, h1⟩
              · rw [if_pos (show (Pl.nmOf r' ≠ [] ∧ (Pl.nmOf r').getLast? = some 58) from ⟨hq1, hq2⟩), show Pl.posix (Pl.nmOf r').dropLast = some tx from hq3] at hbr
                have happ : nmOf r' ++ rsOf r' = r' := by unfold nmOf rsOf; exact List.takeWhile_append_dropWhile
                have hdl : ∀ (a b c : List Nat), a ++ b = c → c.drop a.length = b := by rintro a b c rfl; simp
                have hdd : t.drop (j + 2 + (nmOf r').length) = rsOf r' := by rw [← List.drop_drop, hd2']; exact hdl _ _ _ happ
                have hlt : j + 2 + (nmOf r').length < t.length := by
                  have h3 := congrArg List.length hdd
                  have h4 := List.length_pos_iff.mpr hq0
                  simp at h3; lia
                repeat wtm_at "w"
                exact ⟨j + 2 + (nmOf r').length, mem, cls ++ [tx], none, _, rfl, List.Perm.swap _ _ _, by rw [← List.drop_drop, hdd, List.drop_one]; exact hbr, hI.cls1 (posix_ok hq3) (by wtm_at "li"), by lia, hlt⟩
          with_reducible refine ite_f (decide_eq_false h91) ?_
          rw [Pl.br_else hA h92 h45 h91] at hbr
          repeat wtm_at "w"
          rw [B_at ht e (by wtm_at "li")]
          with_reducible refine ev_append O ?_ _ (by intro _; with_unfolding_all rfl) (by intro _; with_unfolding_all rfl) (by intro _ _; with_unfolding_all rfl)
          repeat wtm_at "w"
          refine ⟨dm, _, rfl, .tail _ (.head _), ?_⟩
          repeat wtm_at "w"
          refine ⟨1, _, rfl, hlm, ?_⟩
          repeat wtm_at "w"
          exact ⟨j, mem ++ [(c, c)], cls, some c, _, rfl, by rw [List.map_append]; rfl, by rw [h2]; exact hbr, hI.push hc (by wtm_at "li"), Nat.le_refl _, h1⟩
        · rintro q' ⟨j', mem', cls', prev', led, rfl, hperm, hbr', hI', hj', hj''⟩
          refine xs_perm _ hperm ?_
          repeat wtm_at "w"
          exact ⟨t.length - (j' + 1), by lia, j' + 1, mem', cls', prev', false, _, rfl, hbr', hI', hj'', rfl⟩
    rintro q' ⟨j, mem, cls, prev, fi, co, rfl, hRs, hI, hjl⟩
    have hlm : mem.length ≤ 1000 := by have := hI.fl; lia
    have hlc : cls.length ≤ 1000 := by have := hI.fl; lia
    refine xs_freeze dc (clsPV cls) (m' := [some (.byt (B t)), some (.int j), some (.int (t.length : Nat)), some (.val (.bool neg)), some (.val (.ref dm)), some (.lst (clsPV cls)), prev, fi, co, none, none, none, none, none]) (led' := [(dm, .lst (mem.map rng2))]) (.refl _) ?_ ?_
    · intro k p e
      match k with
      | 5 => right; cases e; exact ⟨rfl, rfl⟩
      | 0 | 1 | 2 | 3 | 4 | 6 | 7 | 8 | 9 | 10 | 11 | 12 | 13 => left; exact e
      | k + 14 => cases e
    refine xs_freeze dm (mem.map rng2) (m' := [some (.byt (B t)), some (.int j), some (.int (t.length : Nat)), some (.val (.bool neg)), some (.lst (mem.map rng2)), some (.lst (clsPV cls)), prev, fi, co, none, none, none, none, none]) (led' := []) (.refl _) ?_ ?_
    · intro k p e
      match k with
      | 4 => right; cases e; exact ⟨rfl, rfl⟩
      | 0 | 1 | 2 | 3 | 5 | 6 | 7 | 8 | 9 | 10 | 11 | 12 | 13 => left; exact e
      | k + 14 => cases e
    have hrl := render_len mem
    have hcl40 : ∀ (l : List (List Nat)), (∀ c ∈ l, c.length ≤ 40 ∧ ∀ x ∈ c, x < 256) → l.flatten.length ≤ 40 * l.length := by
      intro l
      induction l with
      | nil => intro _; simp
      | cons a l ih =>
        intro h
        have h1 := (h a (.head _)).1
        have h2 := ih fun c hc => h c (.tail _ hc)
        simp; simp at h2; lia
    have hfl := hcl40 cls hI.fc
    have hbl : ∀ l : List Nat, (B l).length = l.length := by simp
    have hcpv : clsPV cls = (cls.map B).map PV.byt := by simp [clsPV]
    have hcf : (cls.map B).flatten = B cls.flatten := by simp [B, List.map_flatten]
    have hb1 := hbl (Pl.render mem)
    have hb2 := hbl cls.flatten
    have hI1 := hI.fl
    rw [hcpv]
    repeat wtm_at "w"
    with_reducible refine ev_callG O 13 (by with_unfolding_all rfl) (by with_reducible rfl) (g_render _) (by with_unfolding_all rfl) ?_ (hd := by decide +kernel) (hpl := by intro _ _; with_unfolding_all rfl)
    repeat wtm_at "w"
    refine call_pure (cl_render y.w mem hI.fm hlm) O hn (by wtm_at "li") ?_
    rintro p l ⟨rfl, rfl⟩
    repeat wtm_at "w"
    with_reducible refine ev_meth O (ev_byt (mth_byt slot_join type_join ⟨by with_unfolding_all rfl, ?_⟩)) _ (by intro _; with_unfolding_all rfl) (by intro _ _; with_unfolding_all rfl)
    repeat wtm_at "w"
    refine call_joinB (by rw [hcf, hb2]; lia) ?_
    rw [hcf]
    repeat wtm_at "w"
    rw [show B (Pl.render mem) ++ B cls.flatten = B (Pl.render mem ++ cls.flatten) from by simp [B]]
    have hbody : (Pl.render mem ++ cls.flatten).length ≤ 50 * (j - i) := by rw [List.length_append]; lia
    have hij : i ≤ j := by lia
    rw [hRs] at hbk
    dsimp only at hbk
    generalize Pl.render mem ++ cls.flatten = body at *
    have hbb := hbl body
    have fin : ∀ (out : List Nat) (b : List UInt8), (if neg = true then [91, 94, 47] ++ body ++ [93] else if body = [] then [40, 63, 33, 41] else [91] ++ body ++ [93]) = out → B out = b → out.length ≤ body.length + 4 → brkQ t i (.tup [.int ((j : Int) + 1), .byt b]) [] := by
      intro out b ho hb hol
      refine ⟨rfl, out, j + 1, by rw [hb]; rfl, by rw [hbk, ho], by lia, hjl, by lia⟩
    cases neg with
    | true =>
      with_reducible refine ite_t rfl ?_
      repeat wtm_at "w"
      exact fin _ _ rfl (by simp [B]) (by simp)
    | false =>
      with_reducible refine ite_f rfl ?_
      repeat wtm_at "w"
      cases body with
      | nil =>
        with_reducible refine ite_t (by decide) ?_
        repeat wtm_at "w"
        exact fin _ _ rfl (by decide) (by simp)
      | cons b0 body =>
        have hbl2 : body.length + 1 ≤ 50 * (j - i) := by simpa using hbody
        with_reducible refine ite_f (by simp) ?_
        repeat wtm_at "w"
        exact fin ([91] ++ (b0 :: body) ++ [93]) ([91] ++ B (b0 :: body) ++ [93]) rfl (by simp [B]) (by simp)
end
/- C13 -/
section
open PySem PySem.W PySem.Calls PyProof.Rows Mine
set_option maxHeartbeats 8000000
theorem g_brk (w : World) : nsIn (KP w.params) mainGlobals "translate_bracket_expression" = some (some (.ref 131)) := by kernel_rfl
theorem B_app (a b : List Nat) : B (a ++ b) = B a ++ B b := by simp [B]
theorem omap {o : Option (List Nat)} (a b : List Nat) : (o.map (b ++ ·)).map (a ++ ·) = o.map ((a ++ b) ++ ·) := by cases o <;> simp
inductive tsQ (t : List Nat) (p : PV) (l : List (Addr × MK)) : Prop where
  | mk (h0_0 : l = []) (out : List Nat) (h1_0 : p = .byt (B out)) (h2_1 : Pl.ts t = some out) (h3_2 : out.length ≤ 100 * t.length) : tsQ t p l
theorem call_escB {x : Act} {cs : Scope} {E : Er} {q : Q} {Qn : PV → Q → Prop} (O : x.Ok cs) (hn : true = true → x.hn = true) (hr : 2 ≤ x.r) {c : Nat} (hc : c < 256) (h : Qn (.byt (B (Pl.esc1 c))) q) : CallR x cs (.ref 28) [.byt (B [c])] q Qn E := by
  refine call_pure (cl_escape x.w _ (by simp)) O hn hr ?_
  rintro p l ⟨rfl, rfl⟩
  rw [show B [c] = [c.toUInt8] from rfl, escB_one hc]
  exact h
inductive tsE (t : List Nat) (q' : Q) : Prop where
  | mk (res co bo jo) (h1_0 : q' = ⟨[some (.byt (B t)), some (.byt (B res)), jo, some (.int (t.length : Nat)), co, bo, none, none, none], []⟩) (h2_1 : Pl.ts t = some res) (h3_2 : res.length ≤ 100 * t.length) : tsE t q'
inductive tsI (t : List Nat) (n : Nat) (q' : Q) : Prop where
  | mk (j : Nat) (res co bo) (h2_0 : q' = ⟨[some (.byt (B t)), some (.byt (B res)), some (.int j), some (.int (t.length : Nat)), co, bo, none, none, none], []⟩) (h3_1 : (Pl.ts (t.drop j)).map (res ++ ·) = Pl.ts t) (h4_2 : res.length ≤ 100 * j) (h5_3 : j ≤ t.length) (h6_4 : n = t.length - j) : tsI t n q'
inductive tsB (t : List Nat) (res : List Nat) (bo : Option PV) (r : List Nat) (j : Nat) (q' : Q) : Prop where
  | mk (k : Nat) (h1_0 : q' = ⟨[some (.byt (B t)), some (.byt (B res)), some (.int k), some (.int (t.length : Nat)), some (.byt (B [42])), bo, none, none, none], []⟩) (h2_1 : t.drop k = r.dropWhile (· = 42)) (h3_2 : j < k) (h4_3 : k ≤ t.length) : tsB t res bo r j q'
inductive tsJ (t : List Nat) (res : List Nat) (bo : Option PV) (r : List Nat) (j : Nat) (n : Nat) (q' : Q) : Prop where
  | mk (k : Nat) (h1_0 : q' = ⟨[some (.byt (B t)), some (.byt (B res)), some (.int k), some (.int (t.length : Nat)), some (.byt (B [42])), bo, none, none, none], []⟩) (h2_1 : (t.drop k).dropWhile (· = 42) = r.dropWhile (· = 42)) (h3_2 : j < k) (h4_3 : k ≤ t.length) (h5_4 : n = t.length - k) : tsJ t res bo r j n q'
theorem cl_ts (w : World) (t : List Nat) (ht : ∀ c ∈ t, c < 256) (hz : t.length ≤ 900) (hne : t ≠ [42]) :
    ClO true (.ref 138) [.byt (B t)] [] 5 (tsQ t) (Pl.ts t = none) w := by
  refine cl_defO (dargs := []) (dvals := []) (ps := ["segment"]) (by rfl) (by conv => lhs; whnf) (by conv => lhs; whnf) (by kernel_rfl) ?hb (fun _ => isL_nil.mpr rfl) rfl (by decide +kernel) ?hloc (by decide +kernel) (by decide +kernel) rfl rfl rfl (m₀ := [some (.byt (B t)), none, none, none, none, none, none, none, none]) (by kernel_rfl) ?body (by wtm_at "li")
  case hb =>
    intro s vals X hl
    obtain ⟨a, rfl⟩ := vlist1 hl
    exact .of_eq (by kernel_rfl)
  case hloc => decide +kernel
  case body =>
    intro y hw O W hn hr hcl K0 hKr hKn
    subst hw
    have hh := O.hand (hn rfl)
    have hB : (B t).length = t.length := by simp
    have hbl : ∀ l : List Nat, (B l).length = l.length := by simp
    generalize hX : (Pl.ts t = none) = X
    repeat wtm_at "w"
    rw [B_beq ht]
    with_reducible refine ite_f (by simpa using hne) ?_
    repeat wtm_at "w"
    refine ex_swap (hs := by rfl) (hw := by rfl) O hh 2 3 rfl (by with_reducible rfl) rfl (by with_reducible rfl) ?_
    repeat wtm_at "w"
    refine ⟨_, _, rfl, ?_⟩
    with_reducible refine co_nxt ?_
    refine xs_mid (tsE t) ?_ ?_
    · refine ex_whileK (EX X y _) EX_pass (tsI t) ?_ _ ⟨0, [], none, none, by rw [hB]; rfl, by simp, by simp, by lia, rfl⟩
      rintro n q' ⟨j, res, co, bo, rfl, hR, hrl, hjl, rfl⟩ K1 hN1 hC1 hB1 hR1
      repeat wtm_at "w"
      cases e : t.drop j with
      | nil =>
        have : t.length ≤ j := drop_nil_le e
        with_reducible refine ite_f (by wtm_at "tt") ?_
        rw [e, Pl.ts_nil] at hR
        exact ⟨res, _, _, _, rfl, by rw [← hR]; simp, by lia⟩
      | cons c r =>
        obtain ⟨h1, h2⟩ := drop_lt e
        have hc : c < 256 := ht c (List.mem_of_mem_drop (by rw [e]; exact .head _))
        have hcc : cut (B t) (some (j : Int)) (some ((j : Int) + 1)) = B [c] := by rw [cutB1, e]; rfl
        have hbr := hbl res
        have hbc := hbl (Pl.esc1 c)
        have he1 := esc1_len c
        with_reducible refine ite_t (by wtm_at "tt") ?_
        refine xs_st ?_
        repeat wtm_at "e"
        rw [hcc]
        with_reducible refine co_nxt ?_
        refine xs_st ?_
        repeat wtm_at "e"
        with_reducible refine co_nxt ?_
        rw [e] at hR
        have fin : ∀ (k : Nat) (res' : List Nat) bo' (b : List UInt8), B res' = b → (Pl.ts (t.drop k)).map (res' ++ ·) = Pl.ts t → res'.length ≤ 100 * k → j < k → k ≤ t.length → ∃ m, m < t.length - j ∧ tsI t m ⟨[some (.byt (B t)), some (.byt b), some (.int k), some (.int (t.length : Nat)), some (.byt (B [c])), bo', none, none, none], []⟩ :=
          fun k res' bo' b hb h1 h2 h3 h4 => ⟨t.length - k, by lia, k, res', _, _, by rw [hb], h1, h2, h4, rfl⟩
        refine xs_st ?_
        repeat wtm_at "e"
        rw [B1_eq hc]
        by_cases h42 : c = 42
        · subst h42
          with_reducible refine ite_t (by decide) ?_
          refine xs_mid (tsB t res bo r j) ?_ ?_
          · refine ex_whileK noE noE_pass (tsJ t res bo r j) ?_ _ ⟨j + 1, rfl, by rw [h2], by lia, by lia, rfl⟩
            rintro n q' ⟨k, rfl, hk1, hk2, hk3, rfl⟩ K2 hN2 hC2 hB2 hR2
            repeat wtm_at "w"
            cases ek : t.drop k with
            | nil =>
              have : t.length ≤ k := drop_nil_le ek
              with_reducible refine ite_f (by wtm_at "tt") ?_
              repeat wtm_at "w"
              rw [ek] at hk1
              exact ⟨k, rfl, by rw [ek, ← hk1]; rfl, hk2, hk3⟩
            | cons d r' =>
              obtain ⟨h5, h6⟩ := drop_lt ek
              have hd : d < 256 := ht d (List.mem_of_mem_drop (by rw [ek]; exact .head _))
              with_reducible refine ite_t (by wtm_at "tt") ?_
              repeat wtm_at "e"
              rw [show cut (B t) (some (k : Int)) (some ((k : Int) + 1)) = B [d] from by rw [cutB1, ek]; rfl, B1_eq hd]
              rw [ek] at hk1
              with_reducible refine br_ite (fun h3 => ?_) (fun h3 => ?_)
              · have h4 : d = 42 := by simpa using h3
                subst h4
                repeat wtm_at "w"
                exact ⟨t.length - (k + 1), by lia, k + 1, rfl, by rw [h6, ← hk1]; simp, by lia, h5, rfl⟩
              · have h4 : d ≠ 42 := by simpa using h3
                repeat wtm_at "w"
                exact ⟨k, rfl, by rw [ek, ← hk1]; simp [h4], hk2, hk3⟩
          rintro q' ⟨k, rfl, hk1, hk2, hk3⟩
          repeat wtm_at "w"
          rw [Pl.ts_star, omap] at hR
          exact fin k (res ++ [91, 94, 47, 93, 42]) _ _ (B_app _ _) (by rw [hk1]; exact hR) (by simp; lia) hk2 hk3
        with_reducible refine ite_f (by wtm_at "tt") ?_
        refine xs_st ?_
        repeat wtm_at "e"
        rw [B1_eq hc]
        by_cases h63 : c = 63
        · subst h63
          with_reducible refine ite_t (by decide) ?_
          repeat wtm_at "w"
          rw [Pl.ts_one, omap] at hR
          exact fin (j + 1) (res ++ [91, 94, 47, 93]) _ _ (B_app _ _) (by rw [h2]; exact hR) (by simp; lia) (by wtm_at "li") h1
        with_reducible refine ite_f (by wtm_at "tt") ?_
        refine xs_st ?_
        repeat wtm_at "e"
        rw [B1_eq hc]
        by_cases h92 : c = 92
        · subst h92
          with_reducible refine ite_t (by decide) ?_
          cases er : r with
          | nil =>
            subst er
            have : t.length ≤ j + 1 := drop_nil_le h2
            repeat wtm_at "w"
            with_reducible refine ite_f (by wtm_at "tt") ?_
            repeat wtm_at "w"
            with_reducible refine ev_callG O 7 (by with_unfolding_all rfl) (by with_reducible rfl) (g_escape _) (by with_unfolding_all rfl) ?_ (hd := by decide +kernel) (hpl := by intro _ _; with_unfolding_all rfl)
            repeat wtm_at "w"
            refine call_escB O hn (by wtm_at "li") hc ?_
            repeat wtm_at "w"
            rw [Pl.ts_esc1] at hR
            exact fin (j + 1) (res ++ Pl.esc1 92) _ _ (B_app _ _) (by rw [h2, Pl.ts_nil, ← hR]; simp) (by simp; lia) (by wtm_at "li") h1
          | cons d r' =>
            subst er
            obtain ⟨h5, h6⟩ := drop_lt h2
            have hd : d < 256 := ht d (List.mem_of_mem_drop (by rw [h2]; exact .head _))
            have hbd := hbl (Pl.esc1 d)
            have he2 := esc1_len d
            repeat wtm_at "w"
            with_reducible refine ite_t (by wtm_at "tt") ?_
            repeat wtm_at "w"
            with_reducible refine ev_callG O 7 (by with_unfolding_all rfl) (by with_reducible rfl) (g_escape _) (by with_unfolding_all rfl) ?_ (hd := by decide +kernel) (hpl := by intro _ _; with_unfolding_all rfl)
            repeat wtm_at "w"
            rw [show cut (B t) (some ((j : Int) + 1)) (some ((j : Int) + 1 + 1)) = B [d] from by rw [cutB (i := j + 1) (k := 1) (by wtm_at "li") (by wtm_at "li"), h2]; rfl]
            refine call_escB O hn (by wtm_at "li") hd ?_
            repeat wtm_at "w"
            rw [Pl.ts_esc, omap] at hR
            exact fin (j + 2) (res ++ Pl.esc1 d) _ _ (B_app _ _) (by rw [show t.drop (j + 2) = r' from h6]; exact hR) (by simp; lia) (by wtm_at "li") h5
        with_reducible refine ite_f (by wtm_at "tt") ?_
        refine xs_st ?_
        repeat wtm_at "e"
        rw [B1_eq hc]
        by_cases h91 : c = 91
        · subst h91
          with_reducible refine ite_t (by decide) ?_
          refine xs_st ?_
          repeat wtm_at "e"
          with_reducible refine ev_callG O 8 (by with_unfolding_all rfl) (by with_reducible rfl) (g_brk _) (by with_unfolding_all rfl) ?_ (hd := by decide +kernel) (hpl := by intro _ _; with_unfolding_all rfl)
          repeat wtm_at "w"
          refine call_O (fp := []) (rest := []) (cl_brk y.w t ht hz (j + 1) (by wtm_at "li")) O W hn (by wtm_at "li") (.refl _) (fun hx => ?_) ?_
          · rw [h2] at hx
            rw [Pl.ts_brkn hx] at hR
            rw [← hX, ← hR]; rfl
          · rintro p l ⟨rfl, out, i', rfl, hb1, hb2, hb3, hb4⟩
            rw [h2] at hb1
            have hl1 : (t.drop i').length ≤ r.length := by
              have := congrArg List.length h2
              simp at this ⊢; lia
            rw [Pl.ts_brk hb1 hl1, omap] at hR
            have hbo := hbl out
            repeat wtm_at "w"
            exact fin i' (res ++ out) _ _ (B_app _ _) hR (by simp; lia) (by wtm_at "li") hb3
        with_reducible refine ite_f (by wtm_at "tt") ?_
        repeat wtm_at "w"
        with_reducible refine ev_callG O 7 (by with_unfolding_all rfl) (by with_reducible rfl) (g_escape _) (by with_unfolding_all rfl) ?_ (hd := by decide +kernel) (hpl := by intro _ _; with_unfolding_all rfl)
        repeat wtm_at "w"
        refine call_escB O hn (by wtm_at "li") hc ?_
        repeat wtm_at "w"
        rw [Pl.ts_else h42 h63 h92 h91, omap] at hR
        exact fin (j + 1) (res ++ Pl.esc1 c) _ _ (B_app _ _) (by rw [h2]; exact hR) (by simp; lia) (by wtm_at "li") h1
    · rintro q' ⟨res, co, bo, jo, rfl, h1, h2⟩
      repeat wtm_at "w"
      exact ⟨rfl, res, rfl, h1, h2⟩
end
/- C14 -/
section
open PySem PySem.W PySem.Calls PyProof.Rows Mine
set_option maxHeartbeats 8000000
theorem B_contains {t : List Nat} (ht : ∀ c ∈ t, c < 256) {c : Nat} (hc : c < 256) : (B t).contains c.toUInt8 = t.contains c := by
  rw [Bool.eq_iff_iff, List.contains_iff_mem, List.contains_iff_mem, List.mem_map]
  constructor
  · rintro ⟨d, hd, e⟩
    have h1 := congrArg UInt8.toNat e
    have h2 := ht d hd
    simp at h1
    have : d = c := by lia
    exact this ▸ hd
  · intro h; exact ⟨c, h, rfl⟩
@[reducible] noncomputable def spE (t : List Nat) (d : Addr) (q' : Q) : Prop := ∃ jo co bo, q' = ⟨[some (.byt (B t)), some (.val (.ref d)), some (.int 0), jo, co, bo, none, none], [(d, .lst [])]⟩
inductive spI (t : List Nat) (d : Addr) (n : Nat) (q' : Q) : Prop where
  | mk (j : Nat) (co bo) (h2_0 : q' = ⟨[some (.byt (B t)), some (.val (.ref d)), some (.int 0), some (.int j), co, bo, none, none], [(d, .lst [])]⟩) (h3_1 : Pl.sp (t.drop j) = Pl.sp t) (h4_2 : j ≤ t.length) (h5_3 : n = t.length - j) : spI t d n q'
theorem cl_split (w : World) (t : List Nat) (ht : ∀ c ∈ t, c < 256) (hz : t.length ≤ 900) (h47 : t.contains 47 = false) :
    ClO true (.ref 145) [.byt (B t)] [] 5 (fun p l => p = .lst [.byt (B t)] ∧ l = []) (Pl.sp t = false) w := by
  refine cl_defO (dargs := []) (dvals := []) (ps := ["pat"]) (by rfl) (by conv => lhs; whnf) (by conv => lhs; whnf) (by kernel_rfl) ?hb (fun _ => isL_nil.mpr rfl) rfl (by decide +kernel) ?hloc (by decide +kernel) (by decide +kernel) rfl rfl rfl (m₀ := [some (.byt (B t)), none, none, none, none, none, none, none]) (by kernel_rfl) ?body (by wtm_at "li")
  case hb =>
    intro s vals X hl
    obtain ⟨a, rfl⟩ := vlist1 hl
    exact .of_eq (by kernel_rfl)
  case hloc => decide +kernel
  case body =>
    intro y hw O W hn hr hcl K0 hKr hKn
    subst hw
    have hh := O.hand (hn rfl)
    have hB : (B t).length = t.length := by simp
    generalize hX : (Pl.sp t = false) = X
    repeat wtm_at "w"
    refine op_ninBB hh ?_
    rw [show ([91] : List UInt8) = [(91 : Nat).toUInt8] from rfl, isIn_one, B_contains ht (by decide)]
    repeat wtm_at "w"
    with_reducible refine br_ite (fun h1 => ?_) (fun h1 => ?_)
    · repeat wtm_at "w"
      with_reducible refine ev_meth O (ev_L (hd := by decide +kernel) O 0 (by with_unfolding_all rfl) (by with_reducible rfl) (by with_unfolding_all rfl) (mth_byt slot_split type_split ⟨by with_unfolding_all rfl, ?_⟩)) _ (by intro _; with_unfolding_all rfl) (by intro _ _; with_unfolding_all rfl)
      repeat wtm_at "w"
      refine call_split (c := 47) (by have := B_contains ht (c := 47) (by decide); rw [h47] at this; exact this) ?_
      repeat wtm_at "w"
      exact ⟨rfl, rfl⟩
    · repeat wtm_at "w"
      refine ev_lstM (evs_nil ⟨by simp, fun d => ?_⟩)
      repeat wtm_at "w"
      refine ex_asg2 (hw := by rfl) O 2 3 rfl rfl ?_
      repeat wtm_at "w"
      with_reducible refine ex_mid2 (spE t d) ?_ ?_
      · refine ex_whileK (EX X y _) EX_pass (spI t d) ?_ _ ⟨0, none, none, rfl, rfl, by lia, rfl⟩
        rintro n q' ⟨j, co, bo, rfl, hR, hjl, rfl⟩ K1 hN1 hC1 hB1 hR1
        repeat wtm_at "w"
        cases e : t.drop j with
        | nil =>
          have : t.length ≤ j := drop_nil_le e
          with_reducible refine ite_f (by wtm_at "tt") ?_
          exact ⟨_, _, _, rfl⟩
        | cons c r =>
          obtain ⟨h5, h2⟩ := drop_lt e
          have hcm : c ∈ t := List.mem_of_mem_drop (by rw [e]; exact .head _)
          have hc : c < 256 := ht c hcm
          have hc47 : c ≠ 47 := fun h => by rw [h] at hcm; rw [List.contains_iff_mem.mpr hcm] at h47; cases h47
          have hcc : cut (B t) (some (j : Int)) (some ((j : Int) + 1)) = B [c] := by rw [cutB1, e]; rfl
          have hrl : r.length = t.length - (j + 1) := by have := congrArg List.length h2; simp at this; lia
          with_reducible refine ite_t (by wtm_at "tt") ?_
          refine xs_st ?_
          repeat wtm_at "e"
          rw [hcc]
          with_reducible refine co_nxt ?_
          rw [e] at hR
          refine xs_st ?_
          with_reducible refine ex_if (ts_is (decide (c = 92 ∧ r ≠ [])) ?_ ?_)
          · repeat wtm_at "e"
            rw [B1_eq hc]
            with_reducible refine br_ite (fun h3 => ?_) (fun h3 => ?_)
            · have h4 : c = 92 := by simpa using h3
              subst h4
              repeat wtm_at "e"
              cases r with
              | nil => with_reducible refine ite_f (by simp; simp at hrl; lia) ?_; exact ⟨by simp, rfl⟩
              | cons d r' => with_reducible refine ite_t (by simp; simp at hrl; lia) ?_; repeat wtm_at "e"
                             exact ⟨by simp, rfl⟩
            · exact ⟨by simp at h3 ⊢; intro h; exact absurd h h3, rfl⟩
          by_cases h92 : c = 92 ∧ r ≠ []
          · with_reducible refine ite_t (decide_eq_true h92) ?_
            obtain ⟨rfl, hr0⟩ := h92
            cases r with
            | nil => exact absurd rfl hr0
            | cons d r' =>
              obtain ⟨h7, h8⟩ := drop_lt h2
              repeat wtm_at "w"
              rw [Pl.sp_esc] at hR
              exact ⟨t.length - (j + 2), by lia, j + 2, _, _, rfl, by rw [show t.drop (j + 2) = r' from h8]; exact hR, h7, rfl⟩
          with_reducible refine ite_f (decide_eq_false h92) ?_
          refine xs_st ?_
          repeat wtm_at "e"
          rw [B1_eq hc]
          by_cases h91 : c = 91
          · subst h91
            with_reducible refine ite_t (by decide) ?_
            refine xs_st ?_
            repeat wtm_at "e"
            with_reducible refine ev_callG O 7 (by with_unfolding_all rfl) (by with_reducible rfl) (g_brk _) (by with_unfolding_all rfl) ?_ (hd := by decide +kernel) (hpl := by intro _ _; with_unfolding_all rfl)
            repeat wtm_at "w"
            refine call_O (fp := []) (rest := [(d, .lst [])]) (cl_brk y.w t ht hz (j + 1) (by wtm_at "li")) O W hn (by wtm_at "li") (.refl _) (fun hx => ?_) ?_
            · rw [h2] at hx
              rw [Pl.sp_brkn hx] at hR
              rw [← hX, ← hR]
            · rintro p l ⟨rfl, out, i', rfl, hb1, hb2, hb3, hb4⟩
              rw [h2] at hb1
              have hl1 : (t.drop i').length ≤ r.length := by
                have := congrArg List.length h2
                simp at this ⊢; lia
              rw [Pl.sp_brk hb1 hl1] at hR
              repeat wtm_at "w"
              exact ⟨t.length - i', by lia, i', _, _, rfl, hR, hb3, rfl⟩
          with_reducible refine ite_f (by wtm_at "tt") ?_
          refine xs_st ?_
          repeat wtm_at "e"
          rw [B1_eq hc]
          with_reducible refine ite_f (by wtm_at "tt") ?_
          repeat wtm_at "w"
          rw [Pl.sp_else h92 h91] at hR
          exact ⟨t.length - (j + 1), by lia, j + 1, _, _, rfl, by rw [h2]; exact hR, h5, rfl⟩
      rintro q' ⟨jo, co, bo, rfl⟩
      repeat wtm_at "w"
      with_reducible refine ev_append O ?_ _ (by intro _; with_unfolding_all rfl) (by intro _; with_unfolding_all rfl) (by intro _ _; with_unfolding_all rfl)
      repeat wtm_at "w"
      refine ⟨d, _, rfl, .head _, ?_⟩
      repeat wtm_at "w"
      rw [show cut (B t) (some 0) none = B t from (cut_n (B t) (i := 0) (a := 0) rfl).trans (by simp)]
      refine ⟨0, _, rfl, by simp, ?_⟩
      repeat wtm_at "e"
      with_reducible refine co_nxt ?_
      refine xs_freeze d [.byt (B t)] (m' := [some (.byt (B t)), some (.lst [.byt (B t)]), some (.int 0), jo, co, bo, none, none]) (led' := []) (.refl _) ?_ ?_
      · intro k p e
        match k with
        | 1 => right; cases e; exact ⟨rfl, rfl⟩
        | 0 | 2 | 3 | 4 | 5 | 6 | 7 => left; exact e
        | k + 8 => cases e
      repeat wtm_at "w"
      exact ⟨rfl, rfl⟩
end
/- C15 -/
section
open PySem PySem.W PySem.Calls PyProof.Rows Mine
set_option maxHeartbeats 8000000
theorem cl_collapse (w : World) (t : List Nat) (ht : ∀ c ∈ t, c < 256) (hne : t ≠ [42, 42]) :
    Cl true (.ref 159) [.lst [.byt (B t)]] [] 1 (fun p l => p = .lst [.byt (B t)] ∧ l = []) w := by
  refine cl_def (dargs := []) (dvals := []) (ps := ["segments"]) (by rfl) (by conv => lhs; whnf) (by conv => lhs; whnf) (by kernel_rfl) ?hb (fun _ => isL_nil.mpr rfl) rfl (by decide +kernel) ?hloc (by decide +kernel) (by decide +kernel) rfl rfl rfl (m₀ := [some (.lst [.byt (B t)]), none, none]) (by kernel_rfl) ?body (by wtm_at "li")
  case hb =>
    intro s vals X hl
    obtain ⟨a, rfl⟩ := vlist1 hl
    exact .of_eq (by kernel_rfl)
  case hloc => decide +kernel
  case body =>
    intro y hw O hn hr hcl K0 hKr hKn
    subst hw
    have hh := O.hand (hn rfl)
    refine xs_st (ex_asg (hs := by rfl) O 1 rfl (by with_reducible rfl) (ev_lstM (evs_nil ⟨by simp, fun d => co_nxt ?_⟩)))
    refine xs_mid (fun q' => ∃ so, q' = ⟨[some (.lst [.byt (B t)]), some (.val (.ref d)), so], [(d, .lst [.byt (B t)])]⟩) ?_ ?_
    · refine ex_forK (hs := by intro _; rfl) hh noE noE_pass (fun _ _ => [.byt (B t)]) (fun _ _ i q' => ∃ so, q' = ⟨[some (.lst [.byt (B t)]), some (.val (.ref d)), so], [(d, .lst (if i = 0 then [] else [.byt (B t)]))]⟩) ?_
      repeat wtm_at "w"
      refine ⟨iter_lst hh, ⟨_, rfl⟩, ?tu, ?fi⟩
      case fi =>
        rintro q2 ⟨so, rfl⟩
        exact ⟨so, rfl⟩
      case tu =>
        rintro i el q2 hel ⟨so, rfl⟩ K1 hN1 hC1 hB1 hR1
        match i, hel with
        | 0, hel =>
          cases hel
          repeat wtm_at "w"
          rw [B_beq ht]
          with_reducible refine ite_f (by simpa using hne) ?_
          repeat wtm_at "w"
          with_reducible refine ev_append O ?_ _ (by intro _; with_unfolding_all rfl) (by intro _; with_unfolding_all rfl) (by intro _ _; with_unfolding_all rfl)
          repeat wtm_at "w"
          refine ⟨d, _, rfl, .head _, ?_⟩
          repeat wtm_at "w"
          refine ⟨0, _, rfl, by simp, ?_⟩
          repeat wtm_at "w"
          exact ⟨_, rfl⟩
        | k + 1, hel => cases hel
    · rintro q' ⟨so, rfl⟩
      refine xs_freeze d [.byt (B t)] (m' := [some (.lst [.byt (B t)]), some (.lst [.byt (B t)]), so]) (led' := []) (.refl _) ?_ ?_
      · intro k p e
        match k with
        | 1 => right; cases e; exact ⟨rfl, rfl⟩
        | 0 | 2 => left; exact e
        | k + 3 => cases e
      repeat wtm_at "w"
      exact ⟨rfl, rfl⟩
theorem g_collapse (w : World) : nsIn (KP w.params) mainGlobals "_collapse_double_asterisks" = some (some (.ref 159)) := by kernel_rfl
theorem g_split (w : World) : nsIn (KP w.params) mainGlobals "_split_segments" = some (some (.ref 145)) := by kernel_rfl
theorem g_ts (w : World) : nsIn (KP w.params) mainGlobals "_translate_segment" = some (some (.ref 138)) := by kernel_rfl
theorem g_translate0 (w : World) : nsIn (KP w.params) mainGlobals "_translate" = some (some (.ref 166)) := by kernel_rfl
theorem g_wild (w : World) : nsIn (KP w.params) mainGlobals "translate_wildmatch" = some (some (.ref 173)) := by kernel_rfl
theorem g_ignore (w : World) : nsIn (KP w.params) mainGlobals "translate_ignore" = some (some (.ref 187)) := by kernel_rfl
theorem g_lead (w : World) : nsIn (KP w.params) mainGlobals "_handle_leading_patterns" = some (some (.ref 180)) := by kernel_rfl
structure TOk (t : List Nat) : Prop where
  t1 : ∀ c ∈ t, c < 256
  t2 : t.length ≤ 90
  t3 : t.contains 47 = false
  t4 : t ≠ [42]
  t5 : t ≠ [42, 42]
noncomputable def trX (t : List Nat) : Prop := Pl.sp t = false ∨ Pl.ts t = none
inductive trE (t : List Nat) (q' : Q) : Prop where
  | mk (out io so rp) (h1_0 : q' = ⟨[some (.byt (B t)), some (.byt (B out)), some (.lst [.byt (B t)]), io, so, rp, none, none, none, none, none, none], []⟩) (h2_1 : Pl.ts t = some out) (h3_2 : out.length ≤ 100 * t.length) : trE t q'
@[reducible] noncomputable def trI (t : List Nat) (n : Nat) (q' : Q) : Prop := (n = 1 ∧ ∃ so, q' = ⟨[some (.byt (B t)), some (.byt []), some (.lst [.byt (B t)]), some (.int (0 : Nat)), so, none, none, none, none, none, none, none], []⟩) ∨ (n = 0 ∧ ∃ out so, q' = ⟨[some (.byt (B t)), some (.byt (B out)), some (.lst [.byt (B t)]), some (.int (1 : Nat)), so, none, none, none, none, none, none, none], []⟩ ∧ Pl.ts t = some out ∧ out.length ≤ 100 * t.length)
theorem cl_translate0 (w : World) (t : List Nat) (T : TOk t) :
    ClO true (.ref 166) [.byt (B t)] [] 7 (tsQ t) (trX t) w := by
  refine cl_defO (dargs := []) (dvals := []) (ps := ["pat"]) (by rfl) (by conv => lhs; whnf) (by conv => lhs; whnf) (by kernel_rfl) ?hb (fun _ => isL_nil.mpr rfl) rfl (by decide +kernel) ?hloc (by decide +kernel) (by decide +kernel) rfl rfl rfl (m₀ := [some (.byt (B t)), none, none, none, none, none, none, none, none, none, none, none]) (by kernel_rfl) ?body (by wtm_at "li")
  case hb =>
    intro s vals X hl
    obtain ⟨a, rfl⟩ := vlist1 hl
    exact .of_eq (by kernel_rfl)
  case hloc => decide +kernel
  case body =>
    intro y hw O W hn hr hcl K0 hKr hKn
    subst hw
    have hh := O.hand (hn rfl)
    obtain ⟨ht, hz, h47, hne, hne2⟩ := T
    have hbl : ∀ l : List Nat, (B l).length = l.length := by simp
    generalize hX : trX t = X
    repeat wtm_at "w"
    rw [B_beq ht]
    with_reducible refine ite_f (by simpa using hne2) ?_
    repeat wtm_at "w"
    with_reducible refine ev_callG O 6 (by with_unfolding_all rfl) (by with_reducible rfl) (g_collapse _) (by with_unfolding_all rfl) ?_ (hd := by decide +kernel) (hpl := by intro _ _; with_unfolding_all rfl)
    repeat wtm_at "w"
    with_reducible refine ev_callG O 7 (by with_unfolding_all rfl) (by with_reducible rfl) (g_split _) (by with_unfolding_all rfl) ?_ (hd := by decide +kernel) (hpl := by intro _ _; with_unfolding_all rfl)
    repeat wtm_at "w"
    refine call_O (fp := []) (rest := []) (cl_split y.w t ht (by wtm_at "li") h47) O W hn (by wtm_at "li") (.refl _) (fun hx => by rw [← hX]; exact .inl hx) ?_
    rintro p l ⟨rfl, rfl⟩
    repeat wtm_at "w"
    refine call_pure (cl_collapse y.w t ht hne2) O hn (by wtm_at "li") ?_
    rintro p l ⟨rfl, rfl⟩
    repeat wtm_at "w"
    with_reducible refine ex_mid2 (trE t) ?_ ?_
    · refine ex_whileK (EX X y _) EX_pass (trI t) ?_ _ (.inl ⟨rfl, none, rfl⟩)
      rintro n q' (⟨rfl, so, rfl⟩ | ⟨rfl, out, so, rfl, h1, h2⟩) K1 hN1 hC1 hB1 hR1
      · repeat wtm_at "w"
        refine op_itemL (hs := by intro _ _; with_unfolding_all rfl) (ht := by intro _ _; with_unfolding_all rfl) (by simp) (by simp) (p := .byt (B t)) rfl ?_
        repeat wtm_at "w"
        rw [B_beq ht]
        with_reducible refine ite_f (by simpa using hne2) ?_
        repeat wtm_at "w"
        with_reducible refine ev_callG O 11 (by with_unfolding_all rfl) (by with_reducible rfl) (g_ts _) (by with_unfolding_all rfl) ?_ (hd := by decide +kernel) (hpl := by intro _ _; with_unfolding_all rfl)
        repeat wtm_at "w"
        refine call_O (fp := []) (rest := []) (cl_ts y.w t ht (by wtm_at "li") hne) O W hn (by wtm_at "li") (.refl _) (fun hx => by rw [← hX]; exact .inr hx) ?_
        rintro p l ⟨rfl, out, rfl, h1, h2⟩
        have := hbl out
        repeat wtm_at "w"
        exact ⟨0, by lia, .inr ⟨rfl, out, _, rfl, h1, h2⟩⟩
      · repeat wtm_at "w"
        exact ⟨out, _, _, _, rfl, h1, h2⟩
    rintro q' ⟨out, io, so, rp, rfl, h1, h2⟩
    repeat wtm_at "w"
    exact ⟨rfl, out, rfl, h1, h2⟩
theorem cl_wild (w : World) (t : List Nat) (T : TOk t) :
    ClO true (.ref 173) [.byt (B t)] [] 8 (tsQ t) (trX t) w := by
  refine cl_defO (dargs := []) (dvals := []) (ps := ["pattern"]) (by rfl) (by conv => lhs; whnf) (by conv => lhs; whnf) (by kernel_rfl) ?hb (fun _ => isL_nil.mpr rfl) rfl (by decide +kernel) ?hloc (by decide +kernel) (by decide +kernel) rfl rfl rfl (m₀ := [some (.byt (B t)), none]) (by kernel_rfl) ?body (by wtm_at "li")
  case hb =>
    intro s vals X hl
    obtain ⟨a, rfl⟩ := vlist1 hl
    exact .of_eq (by kernel_rfl)
  case hloc => decide +kernel
  case body =>
    intro y hw O W hn hr hcl K0 hKr hKn
    subst hw
    repeat wtm_at "w"
    with_reducible refine ev_callG O 1 (by with_unfolding_all rfl) (by with_reducible rfl) (g_translate0 _) (by with_unfolding_all rfl) ?_ (hd := by decide +kernel) (hpl := by intro _ _; with_unfolding_all rfl)
    repeat wtm_at "w"
    refine call_O (fp := []) (rest := []) (cl_translate0 y.w t T) O W hn (by wtm_at "li") (.refl _) id ?_
    rintro p l hq
    obtain ⟨rfl, out, rfl, h1, h2⟩ := hq
    repeat wtm_at "w"
    exact ⟨rfl, out, rfl, h1, h2⟩
theorem no_prefix {t : List Nat} (T : TOk t) {b : List UInt8} (hb : b.contains 47 = true) : b.isPrefixOf (B t) = false := by
  cases h : b.isPrefixOf (B t) with
  | false => rfl
  | true =>
    have h1 := (List.isPrefixOf_iff_prefix.mp h).subset (List.contains_iff_mem.mp hb)
    have h2 := B_contains T.t1 (c := 47) (by decide)
    rw [T.t3] at h2
    rw [show (47 : Nat).toUInt8 = 47 from rfl, List.contains_iff_mem.mpr h1] at h2
    cases h2
theorem cl_lead (w : World) (t : List Nat) (T : TOk t) (b : List UInt8) :
    Cl true (.ref 180) [.byt (B t), .byt b] [] 1 (fun p l => p = .tup [.byt (B t), .byt []] ∧ l = []) w := by
  refine cl_def (dargs := []) (dvals := []) (ps := ["pat", "res"]) (by rfl) (by conv => lhs; whnf) (by conv => lhs; whnf) (by kernel_rfl) ?hb (fun _ => isL_nil.mpr rfl) rfl (by decide +kernel) ?hloc (by decide +kernel) (by decide +kernel) rfl rfl rfl (m₀ := [some (.byt (B t)), some (.byt b)]) (by kernel_rfl) ?body (by wtm_at "li")
  case hb =>
    intro s vals X hl
    obtain ⟨a, b, rfl⟩ := vlist2 hl
    exact .of_eq (by kernel_rfl)
  case hloc => decide +kernel
  case body =>
    intro y hw O hn hr hcl K0 hKr hKn
    subst hw
    have hh := O.hand (hn rfl)
    repeat wtm_at "w"
    with_reducible refine ev_meth O (ev_L (hd := by decide +kernel) O 0 (by with_unfolding_all rfl) (by with_reducible rfl) (by with_unfolding_all rfl) (mth_starts ⟨by with_unfolding_all rfl, ?_⟩)) _ (by intro _; with_unfolding_all rfl) (by intro _ _; with_unfolding_all rfl)
    repeat wtm_at "w"
    refine call_starts ?_
    repeat wtm_at "w"
    with_reducible refine ite_f (no_prefix T (by decide)) ?_
    repeat wtm_at "w"
    with_reducible refine ev_meth O (ev_L (hd := by decide +kernel) O 0 (by with_unfolding_all rfl) (by with_reducible rfl) (by with_unfolding_all rfl) (mth_starts ⟨by with_unfolding_all rfl, ?_⟩)) _ (by intro _; with_unfolding_all rfl) (by intro _ _; with_unfolding_all rfl)
    repeat wtm_at "w"
    refine call_starts ?_
    repeat wtm_at "w"
    with_reducible refine ite_f (no_prefix T (by decide)) ?_
    repeat wtm_at "w"
    with_reducible refine ev_meth O (ev_L (hd := by decide +kernel) O 0 (by with_unfolding_all rfl) (by with_reducible rfl) (by with_unfolding_all rfl) (mth_starts ⟨by with_unfolding_all rfl, ?_⟩)) _ (by intro _; with_unfolding_all rfl) (by intro _ _; with_unfolding_all rfl)
    repeat wtm_at "w"
    refine call_starts ?_
    repeat wtm_at "w"
    with_reducible refine ite_f (no_prefix T (by decide)) ?_
    repeat wtm_at "w"
    exact ⟨rfl, rfl⟩
noncomputable def regex (out : List Nat) : List Nat := [40, 63, 109, 115, 41] ++ ([40, 46, 42, 47, 41, 63] ++ (out ++ ([47, 63] ++ [92, 90])))
inductive igQ (t : List Nat) (p : PV) (l : List (Addr × MK)) : Prop where
  | mk (h0_0 : l = []) (out : List Nat) (h1_0 : p = .byt (B (regex out))) (h2_1 : Pl.ts t = some out) (h3_2 : out.length ≤ 100 * t.length) : igQ t p l
theorem no_end {t : List Nat} (T : TOk t) : endsB (B t) [47] = false := by
  cases h : endsB (B t) [47] with
  | false => rfl
  | true =>
    unfold endsB at h
    simp only [Bool.and_eq_true, beq_iff_eq] at h
    have h1 : (47 : UInt8) ∈ B t := List.mem_of_mem_drop (by rw [h.2]; exact .head _)
    have h2 := B_contains T.t1 (c := 47) (by decide)
    rw [T.t3] at h2
    rw [show (47 : Nat).toUInt8 = 47 from rfl, List.contains_iff_mem.mpr h1] at h2
    cases h2
theorem cl_ignore (w : World) (t : List Nat) (T : TOk t) :
    ClO true (.ref 187) [.byt (B t)] [] 9 (igQ t) (trX t) w := by
  refine cl_defO (dargs := []) (dvals := []) (ps := ["pat"]) (by rfl) (by conv => lhs; whnf) (by conv => lhs; whnf) (by kernel_rfl) ?hb (fun _ => isL_nil.mpr rfl) rfl (by decide +kernel) ?hloc (by decide +kernel) (by decide +kernel) rfl rfl rfl (m₀ := [some (.byt (B t)), none, none, none, none]) (by kernel_rfl) ?body (by wtm_at "li")
  case hb =>
    intro s vals X hl
    obtain ⟨a, rfl⟩ := vlist1 hl
    exact .of_eq (by kernel_rfl)
  case hloc => decide +kernel
  case body =>
    intro y hw O W hn hr hcl K0 hKr hKn
    subst hw
    have hh := O.hand (hn rfl)
    have hbl : ∀ l : List Nat, (B l).length = l.length := by simp
    have hB := hbl t
    have hz := T.t2
    repeat wtm_at "w"
    refine op_neg ?_
    repeat wtm_at "w"
    refine op_ninBB hh ?_
    have hcut : (cut (B t) none (some (-1))).contains 47 = false := by
      cases h : (cut (B t) none (some (-1))).contains 47 with
      | false => rfl
      | true =>
        have h1 := List.mem_of_mem_drop (List.mem_of_mem_take (List.contains_iff_mem.mp h))
        have h2 := B_contains T.t1 (c := 47) (by decide)
        rw [T.t3] at h2
        rw [show (47 : Nat).toUInt8 = 47 from rfl, List.contains_iff_mem.mpr h1] at h2
        cases h2
    rw [isIn_one, hcut]
    repeat wtm_at "w"
    with_reducible refine ev_callG O 3 (by with_unfolding_all rfl) (by with_reducible rfl) (g_lead _) (by with_unfolding_all rfl) ?_ (hd := by decide +kernel) (hpl := by intro _ _; with_unfolding_all rfl)
    repeat wtm_at "w"
    refine call_pure (cl_lead y.w t T _) O hn (by wtm_at "li") ?_
    rintro p l ⟨rfl, rfl⟩
    repeat wtm_at "w"
    with_reducible refine ev_callG O 4 (by with_unfolding_all rfl) (by with_reducible rfl) (g_wild _) (by with_unfolding_all rfl) ?_ (hd := by decide +kernel) (hpl := by intro _ _; with_unfolding_all rfl)
    repeat wtm_at "w"
    refine call_O (fp := []) (rest := []) (cl_wild y.w t T) O W hn (by wtm_at "li") (.refl _) id ?_
    rintro p l ⟨rfl, out, rfl, h1, h2⟩
    have hbo := hbl out
    repeat wtm_at "w"
    with_reducible refine ev_meth O (ev_L (hd := by decide +kernel) O 0 (by with_unfolding_all rfl) (by with_reducible rfl) (by with_unfolding_all rfl) (mth_ends ⟨by with_unfolding_all rfl, ?_⟩)) _ (by intro _; with_unfolding_all rfl) (by intro _ _; with_unfolding_all rfl)
    repeat wtm_at "w"
    refine call_ends ?_
    rw [no_end T]
    repeat wtm_at "w"
    exact ⟨rfl, out, congrArg PV.byt (by simp [regex, B]), h1, h2⟩
end
/- C16 -/
section
open PySem PySem.W PySem.Calls PyProof.Rows Mine
set_option maxHeartbeats 8000000
theorem plain233 (w : World) : PlainCls (KP w.params) 233 where
  cls := ⟨_, rfl, rfl⟩
  ga := by kernel_rfl
  gt := by kernel_rfl
  sa := by kernel_rfl
  over := by kernel_rfl
noncomputable def pFs (t : List Nat) (a1 a2 : Addr) : List (Str × PV) := [("_describes_contents", .val (.bool false)), ("_name_re", .val (.ref a2)), ("_re", .val (.ref a1)), ("is_empty", .val (.bool false)), ("is_directory_only", .val (.bool false)), ("is_exclude", .val (.bool true)), ("ignorecase", .val (.bool false)), ("pattern", .byt (B t))]
noncomputable abbrev patFp (t : List Nat) (P : PV) (a d a1 d1 a2 d2 : Addr) : List (Addr × MK) := exFp a2 d2 P ++ (exFp a1 d1 P ++ [(a, .inst 233 d), (d, .ns (pFs t a1 a2))])
theorem rstrip_id {t : List Nat} (T : TOk t) : ((B t).reverse.dropWhile ([47] : List UInt8).contains).reverse = B t := by
  have h : ∀ c ∈ (B t).reverse, ([47] : List UInt8).contains c = false := fun c hc => by
    have h2 := B_contains T.t1 (c := 47) (by decide)
    rw [T.t3] at h2
    cases h3 : ([47] : List UInt8).contains c with
    | false => rfl
    | true =>
      have : c = 47 := by simpa using h3
      rw [show (47 : Nat).toUInt8 = 47 from rfl, List.contains_iff_mem.mpr (this ▸ List.mem_reverse.mp hc)] at h2
      cases h2
  have h2 : ∀ l : List UInt8, (∀ c ∈ l, ([47] : List UInt8).contains c = false) → l.dropWhile ([47] : List UInt8).contains = l := by
    intro l hl
    cases l with
    | nil => rfl
    | cons a r => rw [List.dropWhile_cons, hl a (.head _)]; rfl
  rw [h2 _ h, List.reverse_reverse]
theorem no_end2 {t : List Nat} (T : TOk t) {b : List UInt8} (hb : b.contains 47 = true) : endsB (B t) b = false := by
  cases h : endsB (B t) b with
  | false => rfl
  | true =>
    unfold endsB at h
    simp only [Bool.and_eq_true, beq_iff_eq] at h
    have h1 : (47 : UInt8) ∈ B t := List.mem_of_mem_drop (by rw [h.2]; exact List.contains_iff_mem.mp hb)
    have h2 := B_contains T.t1 (c := 47) (by decide)
    rw [T.t3] at h2
    rw [show (47 : Nat).toUInt8 = 47 from rfl, List.contains_iff_mem.mpr h1] at h2
    cases h2
theorem regex_lt {t out : List Nat} (h : ∀ c ∈ out, c < 256) : ∀ c ∈ regex out, c < 256 := fun c hc => by
  simp only [regex, List.mem_append] at hc
  rcases hc with hc | hc | hc | hc | hc
  · simp at hc; lia
  · simp at hc; lia
  · exact h c hc
  · simp at hc; lia
  · simp at hc; lia
structure ReOk (t : List Nat) (parts : List Pl.Pt) (r : List Nat) : Prop where
  r1 : ∀ out, Pl.ts t = some out → RP ([40, 46, 42, 47, 41, 63] ++ (out ++ ([47, 63] ++ [92, 90]))) parts r ∧ ∀ c ∈ out, c < 256
  r2 : parts.length ≤ 10000
  r3 : ∀ qs l m, Pl.Pt.grp qs l m ∈ parts → qs.length ≤ 10000
theorem attr_at {x : Act} {cs : Scope} {E : Er} {q : Q} {Qn : PV → Q → Prop} {a d : Addr} {fs : List (Str × PV)} {name : Str} {p : PV} (O : x.Ok cs) (hf : findIn (KP x.w.params) (.ref 233) name = some none) (h1 : (a, MK.inst 233 d) ∈ q.led) (h2 : (d, MK.ns fs) ∈ q.led) (hm : (name, p) ∈ fs)
    (hp : p.handed = true) (h : Qn p q) : Get x cs (.val (.ref a)) name q Qn E := get_inst O (plain233 _) hf h1 h2 hm hp h
theorem pre_no {c0 : Nat} {t' : List Nat} (hc : c0 < 256) (k : UInt8) (h : c0 ≠ k.toNat) : List.isPrefixOf [k] (B (c0 :: t')) = false := by
  show (k == c0.toUInt8 && true) = false
  rw [Bool.and_true, beq_eq_false_iff_ne]
  intro e
  have := congrArg UInt8.toNat e
  simp at this
  lia
theorem cl_pinit (w : World) (k : Bool) (t : List Nat) (T : TOk t) (c0 : Nat) (t' : List Nat) (ht97 : t = c0 :: t') (h33 : c0 ≠ 33) (h92 : c0 ≠ 92) (parts : List Pl.Pt) (r : List Nat) (H : ReOk t parts r) (a d : Addr) :
    ClO true (.ref 202) (.val (.ref a) :: .byt (B t) :: if k = true then [.val (.bool false)] else []) ((a, .inst 233 d) :: (d, .ns []) :: []) 12
      (fun p l => p = .val .none ∧ (Pl.ts t).isSome = true ∧ ∃ a1 d1 a2 d2, l = patFp t (.lst (parts.map ptPV)) a d a1 d1 a2 d2) (trX t) w := by
  refine cl_defO (dargs := if k = true then [] else [.val (.bool false)]) (dvals := if k = true then [] else [.bool false]) (ps := ["self", "pattern", "ignorecase"]) (by rfl) (by conv => lhs; whnf) (by conv => lhs; whnf) (by kernel_rfl) ?hb ?hd (by cases k <;> rfl) (by decide +kernel) ?hloc (by decide +kernel) (by decide +kernel) rfl rfl rfl (m₀ := [some (.val (.ref a)), some (.byt (B t)), some (.val (.bool false)), none, none, none]) (by cases k <;> kernel_rfl) ?body (by wtm_at "li")
  case hb =>
    intro s vals X hl
    cases k with
    | true =>
      obtain ⟨a, b, c, rfl⟩ := vlist3 hl
      exact kp_binds X (fun S => by kernel_rfl)
    | false =>
      obtain ⟨a, b, rfl⟩ := vlist2 hl
      exact kp_binds X (fun S => by kernel_rfl)
  case hd =>
    intro g
    cases k with
    | true => exact isL_nil.mpr rfl
    | false => exact isL_cons.mpr ⟨_, _, rfl, is_val.mpr rfl, isL_nil.mpr rfl⟩
  case hloc => decide +kernel
  case body =>
    intro y hw O W hn hr hcl K0 hKr hKn
    subst hw
    have hh := O.hand (hn rfl)
    have hbl : ∀ l : List Nat, (B l).length = l.length := by simp
    have hB := hbl t
    have hz := T.t2
    have hc0 : c0 < 256 := T.t1 c0 (by rw [ht97]; exact .head _)
    generalize hX : trX t = X
    refine xs_st (ex_asgAttr (hs := by rfl) ?_)
    repeat wtm_at "w"
    refine setA_new O (plain233 _) (by kernel_rfl) (List.Mem.head _) 1 rfl (by simp) (by simp) ?_
    with_reducible refine co_nxt ?_
    refine xs_st (ex_asgAttr (hs := by rfl) ?_)
    repeat wtm_at "w"
    refine setA_new O (plain233 _) (by kernel_rfl) (List.Mem.head _) 1 rfl (show (Str.ofString "ignorecase") ∉ [Str.ofString "pattern"] by decide +kernel) (by simp) ?_
    repeat wtm_at "w"
    with_reducible refine ev_meth O (ev_L (hd := by decide +kernel) O 1 (by with_unfolding_all rfl) (by with_reducible rfl) (by with_unfolding_all rfl) (mth_starts ⟨by with_unfolding_all rfl, ?_⟩)) _ (by intro _; with_unfolding_all rfl) (by intro _ _; with_unfolding_all rfl)
    repeat wtm_at "w"
    refine call_starts ?_
    repeat wtm_at "w"
    with_reducible refine ite_f (by rw [ht97]; exact pre_no hc0 33 (by with_unfolding_all exact h33)) ?_
    repeat wtm_at "w"
    with_reducible refine ev_meth O (ev_L (hd := by decide +kernel) O 1 (by with_unfolding_all rfl) (by with_reducible rfl) (by with_unfolding_all rfl) (mth_starts ⟨by with_unfolding_all rfl, ?_⟩)) _ (by intro _; with_unfolding_all rfl) (by intro _ _; with_unfolding_all rfl)
    repeat wtm_at "w"
    refine call_starts ?_
    repeat wtm_at "w"
    with_reducible refine ite_f (by rw [ht97]; exact pre_no hc0 92 (by with_unfolding_all exact h92)) ?_
    repeat wtm_at "w"
    refine setA_new O (plain233 _) (by kernel_rfl) (List.Mem.head _) 1 rfl (show (Str.ofString "is_exclude") ∉ [Str.ofString "ignorecase", Str.ofString "pattern"] by decide +kernel) (by simp) ?_
    repeat wtm_at "w"
    with_reducible refine ev_meth O (ev_L (hd := by decide +kernel) O 1 (by with_unfolding_all rfl) (by with_reducible rfl) (by with_unfolding_all rfl) (mth_ends ⟨by with_unfolding_all rfl, ?_⟩)) _ (by intro _; with_unfolding_all rfl) (by intro _ _; with_unfolding_all rfl)
    repeat wtm_at "w"
    refine call_ends ?_
    rw [no_end T]
    repeat wtm_at "w"
    refine setA_new O (plain233 _) (by kernel_rfl) (List.Mem.head _) 1 rfl (show (Str.ofString "is_directory_only") ∉ [Str.ofString "is_exclude", Str.ofString "ignorecase", Str.ofString "pattern"] by decide +kernel) (by simp) ?_
    repeat wtm_at "w"
    with_reducible refine ev_meth O (ev_L (hd := by decide +kernel) O 1 (by with_unfolding_all rfl) (by with_reducible rfl) (by with_unfolding_all rfl) (mth_byt slot_rstrip type_rstrip ⟨by with_unfolding_all rfl, ?_⟩)) _ (by intro _; with_unfolding_all rfl) (by intro _ _; with_unfolding_all rfl)
    repeat wtm_at "w"
    refine call_rstrip (by rw [hB]; lia) ?_
    rw [rstrip_id T]
    repeat wtm_at "w"
    rw [show (!(!(B t).isEmpty)) = false from by rw [ht97]; rfl]
    refine setA_new O (plain233 _) (by kernel_rfl) (List.Mem.head _) 1 rfl (show (Str.ofString "is_empty") ∉ [Str.ofString "is_directory_only", Str.ofString "is_exclude", Str.ofString "ignorecase", Str.ofString "pattern"] by decide +kernel) (by simp) ?_
    repeat wtm_at "w"
    with_reducible refine ev_callG O 4 (by with_unfolding_all rfl) (by with_reducible rfl) (g_Expression _) (by with_unfolding_all rfl) ?_ (hd := by decide +kernel) (hpl := by intro _ _; with_unfolding_all rfl)
    repeat wtm_at "w"
    with_reducible refine ev_callG O 5 (by with_unfolding_all rfl) (by with_reducible rfl) (g_ignore _) (by with_unfolding_all rfl) ?_ (hd := by decide +kernel) (hpl := by intro _ _; with_unfolding_all rfl)
    repeat wtm_at "w"
    refine call_O (fp := []) (rest := _) (cl_ignore y.w t T) O W hn (by wtm_at "li") (.refl _) (fun hx => by rw [← hX]; exact hx) ?_
    rintro p l ⟨rfl, out, rfl, ho1, ho2⟩
    obtain ⟨hrp, hlt⟩ := H.r1 out ho1
    repeat wtm_at "w"
    refine attr_at (p := .val (.bool false)) O (by kernel_rfl) (List.Mem.head _) (.tail _ (.head _)) (List.Mem.tail _ (List.Mem.tail _ (List.Mem.tail _ (List.Mem.head _)))) rfl ?_
    repeat wtm_at "w"
    refine call_pure (cl_Expression y.w (regex out) (regex_lt (t := t) hlt) (by simp [regex]; lia) _ rfl parts r hrp H.r2 H.r3) O hn (by wtm_at "li") ?_
    rintro p l ⟨a1, d1, rfl, rfl⟩
    repeat wtm_at "w"
    refine setA_new O (plain233 _) (by kernel_rfl) (List.Mem.tail _ (List.Mem.tail _ (List.Mem.head _))) 3 rfl (show (Str.ofString "_re") ∉ [Str.ofString "is_empty", Str.ofString "is_directory_only", Str.ofString "is_exclude", Str.ofString "ignorecase", Str.ofString "pattern"] by decide +kernel) (by simp) ?_
    repeat wtm_at "w"
    with_reducible refine ev_callG O 4 (by with_unfolding_all rfl) (by with_reducible rfl) (g_Expression _) (by with_unfolding_all rfl) ?_ (hd := by decide +kernel) (hpl := by intro _ _; with_unfolding_all rfl)
    repeat wtm_at "w"
    with_reducible refine ev_callG O 5 (by with_unfolding_all rfl) (by with_reducible rfl) (g_ignore _) (by with_unfolding_all rfl) ?_ (hd := by decide +kernel) (hpl := by intro _ _; with_unfolding_all rfl)
    repeat wtm_at "w"
    with_reducible refine ev_meth O (ev_L (hd := by decide +kernel) O 1 (by with_unfolding_all rfl) (by with_reducible rfl) (by with_unfolding_all rfl) (mth_byt slot_rstrip type_rstrip ⟨by with_unfolding_all rfl, ?_⟩)) _ (by intro _; with_unfolding_all rfl) (by intro _ _; with_unfolding_all rfl)
    repeat wtm_at "w"
    refine call_rstrip (by rw [hB]; lia) ?_
    rw [rstrip_id T]
    repeat wtm_at "w"
    refine call_O (fp := []) (rest := _) (cl_ignore y.w t T) O W hn (by wtm_at "li") (.refl _) (fun hx => by rw [← hX]; exact hx) ?_
    rintro p l ⟨rfl, out2, rfl, ho3, ho4⟩
    rw [ho1] at ho3
    cases ho3
    repeat wtm_at "w"
    refine attr_at (p := .val (.bool false)) O (by kernel_rfl) (List.Mem.tail _ (List.Mem.tail _ (List.Mem.head _))) (List.Mem.tail _ (List.Mem.tail _ (List.Mem.tail _ (List.Mem.head _)))) (List.Mem.tail _ (List.Mem.tail _ (List.Mem.tail _ (List.Mem.tail _ (List.Mem.head _))))) rfl ?_
    repeat wtm_at "w"
    refine call_pure (cl_Expression y.w (regex out) (regex_lt (t := t) hlt) (by simp [regex]; lia) _ rfl parts r hrp H.r2 H.r3) O hn (by wtm_at "li") ?_
    rintro p l ⟨a2, d2, rfl, rfl⟩
    repeat wtm_at "w"
    refine setA_new O (plain233 _) (by kernel_rfl) (List.Mem.tail _ (List.Mem.tail _ (List.Mem.tail _ (List.Mem.tail _ (List.Mem.head _))))) 5 rfl (show (Str.ofString "_name_re") ∉ [Str.ofString "_re", Str.ofString "is_empty", Str.ofString "is_directory_only", Str.ofString "is_exclude", Str.ofString "ignorecase", Str.ofString "pattern"] by decide +kernel) (by simp) ?_
    repeat wtm_at "w"
    with_reducible refine ev_meth O ?_ _ (by intro _; with_unfolding_all rfl) (by intro _ _; with_unfolding_all rfl)
    with_reducible refine ev_meth O (ev_L (hd := by decide +kernel) O 1 (by with_unfolding_all rfl) (by with_reducible rfl) (by with_unfolding_all rfl) (mth_byt slot_rstrip type_rstrip ⟨by with_unfolding_all rfl, ?_⟩)) _ (by intro _; with_unfolding_all rfl) (by intro _ _; with_unfolding_all rfl)
    repeat wtm_at "w"
    refine call_rstrip (by rw [hB]; lia) ?_
    rw [rstrip_id T]
    repeat wtm_at "w"
    refine mth_ends ⟨by with_unfolding_all rfl, ?_⟩
    repeat wtm_at "w"
    refine call_ends ?_
    rw [no_end2 T (by decide)]
    repeat wtm_at "w"
    with_reducible refine ev_meth O ?_ _ (by intro _; with_unfolding_all rfl) (by intro _ _; with_unfolding_all rfl)
    with_reducible refine ev_meth O (ev_L (hd := by decide +kernel) O 1 (by with_unfolding_all rfl) (by with_reducible rfl) (by with_unfolding_all rfl) (mth_byt slot_rstrip type_rstrip ⟨by with_unfolding_all rfl, ?_⟩)) _ (by intro _; with_unfolding_all rfl) (by intro _ _; with_unfolding_all rfl)
    repeat wtm_at "w"
    refine call_rstrip (by rw [hB]; lia) ?_
    rw [rstrip_id T]
    repeat wtm_at "w"
    refine mth_ends ⟨by with_unfolding_all rfl, ?_⟩
    repeat wtm_at "w"
    refine call_ends ?_
    rw [no_end2 T (by decide)]
    repeat wtm_at "w"
    refine setA_new O (plain233 _) (by kernel_rfl) (List.Mem.tail _ (List.Mem.tail _ (List.Mem.tail _ (List.Mem.tail _ (List.Mem.head _))))) 5 rfl (show (Str.ofString "_describes_contents") ∉ [Str.ofString "_name_re", Str.ofString "_re", Str.ofString "is_empty", Str.ofString "is_directory_only", Str.ofString "is_exclude", Str.ofString "ignorecase", Str.ofString "pattern"] by decide +kernel) (by simp) ?_
    repeat wtm_at "w"
    exact ⟨by rw [ho1]; rfl, a1, d1, a2, d2, rfl⟩
end
/- C17 -/
section
open PySem PySem.W PySem.Calls PyProof.Rows Mine
set_option maxHeartbeats 8000000
theorem g_Pattern (w : World) : nsIn (KP w.params) mainGlobals "Pattern" = some (some (.ref 233)) := by kernel_rfl
theorem cl_Pattern (w : World) (k : Bool) (t : List Nat) (T : TOk t) (c0 : Nat) (t' : List Nat) (ht97 : t = c0 :: t') (h33 : c0 ≠ 33) (h92 : c0 ≠ 92) (parts : List Pl.Pt) (r : List Nat) (H : ReOk t parts r) :
    ClO true (.ref 233) (.byt (B t) :: if k = true then [.val (.bool false)] else []) [] 13
      (fun p l => ∃ a d, p = .val (.ref a) ∧ (Pl.ts t).isSome = true ∧ ∃ a1 d1 a2 d2, l = patFp t (.lst (parts.map ptPV)) a d a1 d1 a2 d2) (trX t) w :=
  cl_newO (Qc := fun a d l => (Pl.ts t).isSome = true ∧ ∃ a1 d1 a2 d2, l = patFp t (.lst (parts.map ptPV)) a d a1 d1 a2 d2) (by kernel_rfl) (by kernel_rfl) (by kernel_rfl) fun a d => cl_pinit w k t T c0 t' ht97 h33 h92 parts r H a d
theorem meth_match (w : World) : findIn (KP w.params) (.ref 92) "match" = some (some (.ref 89)) := by kernel_rfl
theorem type_89 (w : World) : typeIn (KP w.params) (.ref 89) = some (.type "function") := by kernel_rfl
theorem keep_89 (w : World) : keepOk (KP w.params) (.ref 89) = true := by kernel_rfl
theorem cl_matches (w : World) (t : List Nat) (parts : List Pl.Pt) (a d a1 d1 a2 d2 : Addr) (name : List Nat) (hname : ∀ c ∈ name, c < 256) (hz : name.length ≤ 10000) (hpl : parts.length ≤ 10000) (r : List Nat) (hrl : r.length ≤ 10000) (h : EndsG (F1 name) parts [0] r) :
    Cl true (.ref 216) [.val (.ref a), .byt (B name), .val (.bool false)] (patFp t (.lst (parts.map ptPV)) a d a1 d1 a2 d2) 7 (fun p l => p = .val (.bool (decide (0 < r.length))) ∧ l = patFp t (.lst (parts.map ptPV)) a d a1 d1 a2 d2) w := by
  refine cl_def (dargs := []) (dvals := []) (ps := ["self", "name", "is_dir"]) (by rfl) (by conv => lhs; whnf) (by conv => lhs; whnf) (by kernel_rfl) ?hb (fun _ => isL_nil.mpr rfl) rfl (by decide +kernel) ?hloc (by decide +kernel) (by decide +kernel) rfl rfl rfl (m₀ := [some (.val (.ref a)), some (.byt (B name)), some (.val (.bool false)), none]) (by kernel_rfl) ?body (by wtm_at "li")
  case hb =>
    intro s vals X hl
    obtain ⟨a, b, c, rfl⟩ := vlist3 hl
    exact .of_eq (by kernel_rfl)
  case hloc => decide +kernel
  case body =>
    intro y hw O hn hr hcl K0 hKr hKn
    subst hw
    have hh := O.hand (hn rfl)
    repeat wtm_at "w"
    refine attr_at (p := .val (.bool false)) (fs := pFs t a1 a2) (d := d) O (by kernel_rfl) (by simp) (by simp) (by simp [pFs]) rfl ?_
    repeat wtm_at "w"
    refine attr_at (p := .val (.bool false)) (fs := pFs t a1 a2) (d := d) O (by kernel_rfl) (by simp) (by simp) (by simp [pFs]) rfl ?_
    repeat wtm_at "w"
    with_reducible refine ev_inst O (plain92 _) (meth_match _) (type_89 _) (keep_89 _) ?_ _ (by intro _; with_unfolding_all rfl) (by intro _ _; with_unfolding_all rfl)
    repeat wtm_at "w"
    refine attr_at (p := .val (.ref a2)) (fs := pFs t a1 a2) (d := d) O (by kernel_rfl) (by simp) (by simp) (by simp [pFs]) rfl ?_
    refine ⟨a2, d2, exFs _, rfl, List.Mem.head _, .tail _ (.head _), (show (Str.ofString "match") ∉ [Str.ofString "parts", Str.ofString "ignorecase"] by decide +kernel), ?_⟩
    repeat wtm_at "w"
    refine call_id (rest := _) (cl_match y.w a2 d2 parts name hname hz hpl r hrl h) O hn (by wtm_at "li") (.refl _) ?_
    rintro p rfl
    repeat wtm_at "w"
    refine call_boolB ?_
    repeat wtm_at "w"
    exact ⟨rfl, rfl⟩
end
/- C18 -/
section
open PySem PySem.W PySem.Calls PyProof.Rows Mine
set_option maxHeartbeats 8000000
theorem plain319 (w : World) : PlainCls (KP w.params) 319 where
  cls := ⟨_, rfl, rfl⟩
  ga := by kernel_rfl
  gt := by kernel_rfl
  sa := by kernel_rfl
  over := by kernel_rfl
noncomputable def fsI (dl : Addr) : List (Str × PV) := [("_path", .val .none), ("_ignorecase", .val (.bool false)), ("_patterns", .val (.ref dl))]
noncomputable abbrev ifFp (a d dl : Addr) (xs : List PV) : List (Addr × MK) := [(a, .inst 319 d), (d, .ns (fsI dl)), (dl, .lst xs)]
structure PatOk (t : List Nat) (parts : List Pl.Pt) (r : List Nat) : Prop where
  T : TOk t
  H : ReOk t parts r
  c : ∃ c0 t', t = c0 :: t' ∧ c0 ≠ 33 ∧ c0 ≠ 92
theorem cl_append (w : World) (t : List Nat) (parts : List Pl.Pt) (r : List Nat) (PO : PatOk t parts r) (a d dl : Addr) (xs : List PV) (hx : xs.length ≤ 1000) :
    Cl true (.ref 287) [.val (.ref a), .byt (B t)] (ifFp a d dl xs) 14 (fun p l => p = .val .none ∧ (((Pl.ts t).isSome = true ∧ ∃ v, l = ifFp a d dl (xs ++ [v])) ∨ (trX t ∧ l = ifFp a d dl xs))) w := by
  refine cl_defC (ps := ["self", "pattern"]) (by rfl) (by conv => lhs; whnf) (by conv => lhs; whnf) (by kernel_rfl) ?hb rfl (by decide +kernel) ?hloc (by decide +kernel) (by decide +kernel) (by decide +kernel) rfl rfl rfl (m₀ := [some (.val (.ref a)), some (.byt (B t)), none, none, none]) (by kernel_rfl) ?body (by wtm_at "li")
  case hb =>
    intro s vals X hl
    obtain ⟨a, b, rfl⟩ := vlist2 hl
    exact .of_eq (by kernel_rfl)
  case hloc => decide +kernel
  case body =>
    intro y L hw O W hn hr hcl K0 hKr hKn
    subst hw
    have hh := O.hand (hn rfl)
    obtain ⟨T, H, c0, t', ht, h33, h92⟩ := PO
    refine exs_led (ifFp a d dl xs) (by kernel_rfl) ?_
    refine xs_st (ex_tryCall (hpl := by intro _ _; rfl) (hs := by rfl) O W (hn rfl) 2 rfl (by with_reducible rfl) 4 rfl (by with_reducible rfl) ?_)
    refine ev_G (hd := by decide +kernel) O 3 rfl (by with_reducible rfl) (g_Pattern _) ⟨_, rfl, by kernel_rfl, ?_⟩
    repeat wtm_at "w"
    refine get_inst (p := .val (.bool false)) (fs := fsI dl) (d := d) O (plain319 _) (by kernel_rfl) (by simp) (by simp) (by simp [fsI]) rfl ?_
    repeat wtm_at "w"
    refine ⟨[], _, 13, _, trX t, .refl _, cl_Pattern y.w true t T c0 t' ht h33 h92 parts r H, by lia, ?_, ?_⟩
    · rintro p l ⟨pa, pd, rfl, hts, a1, d1, a2, d2, rfl⟩
      repeat wtm_at "w"
      with_reducible refine ev_append O ?_ _ (by intro _; with_unfolding_all rfl) (by intro _; with_unfolding_all rfl) (by intro _ _; with_unfolding_all rfl)
      repeat wtm_at "w"
      refine get_inst (p := .val (.ref dl)) (fs := fsI dl) (d := d) O (plain319 _) (by kernel_rfl) (by simp) (by simp) (by simp [fsI]) rfl ?_
      refine ⟨dl, xs, rfl, by simp, ?_⟩
      repeat wtm_at "w"
      refine ⟨8, xs, rfl, by lia, rfl, ?_⟩
      with_reducible refine co_nxt ?_
      refine exs_led (patFp t (.lst (parts.map ptPV)) pa pd a1 d1 a2 d2 ++ ifFp a d dl (xs ++ [.val (.ref pa)])) (by rfl) ?_
      repeat wtm_at "w"
      exact ⟨ifFp a d dl (xs ++ [.val (.ref pa)]), patFp t (.lst (parts.map ptPV)) pa pd a1 d1 a2 d2, List.perm_append_comm, rfl, .inl ⟨hts, _, rfl⟩⟩
    · intro hx ea
      have O := O.caught ea
      repeat wtm_at "w"
      exact ⟨ifFp a d dl xs, [], by rw [List.append_nil], rfl, .inr ⟨hx, rfl⟩⟩
end
/- C19 -/
section
open PySem PySem.W PySem.Calls PyProof.Rows Mine
set_option maxHeartbeats 8000000
noncomputable def Ap (t : List Nat) (xs xs' : List PV) : Prop := ((Pl.ts t).isSome = true ∧ ∃ v, xs' = xs ++ [v]) ∨ (trX t ∧ xs' = xs)
theorem Ap.len {t xs xs'} (h : Ap t xs xs') : xs'.length ≤ xs.length + 1 := by
  rcases h with ⟨_, v, rfl⟩ | ⟨_, rfl⟩ <;> simp
theorem meth_append (w : World) : findIn (KP w.params) (.ref 319) "append_pattern" = some (some (.ref 287)) := by kernel_rfl
theorem cl_ifinit (w : World) (t1 t2 : List Nat) (p1 p2 : List Pl.Pt) (r1 r2 : List Nat) (O1 : PatOk t1 p1 r1) (O2 : PatOk t2 p2 r2) (a d : Addr) :
    Cl true (.ref 280) [.val (.ref a), .lst [.byt (B t1), .byt (B t2)]] ((a, .inst 319 d) :: (d, .ns []) :: []) 15 (fun p l => p = .val .none ∧ ∃ dl x1 xs, Ap t1 [] x1 ∧ Ap t2 x1 xs ∧ l = ifFp a d dl xs) w := by
  refine cl_def (dargs := [.val (.bool false), .val .none]) (dvals := [.bool false, .none]) (ps := ["self", "patterns", "ignorecase", "path"]) (by rfl) (by conv => lhs; whnf) (by conv => lhs; whnf) (by kernel_rfl) ?hb ?hd rfl (by decide +kernel) ?hloc (by decide +kernel) (by decide +kernel) rfl rfl rfl (m₀ := [some (.val (.ref a)), some (.lst [.byt (B t1), .byt (B t2)]), some (.val (.bool false)), some (.val .none), none]) (by kernel_rfl) ?body (by wtm_at "li")
  case hb =>
    intro s vals X hl
    obtain ⟨a, b, rfl⟩ := vlist2 hl
    exact kp_binds X (fun S => by kernel_rfl)
  case hd => exact fun g => isL_cons.mpr ⟨_, _, rfl, is_val.mpr rfl, isL_cons.mpr ⟨_, _, rfl, is_val.mpr rfl, isL_nil.mpr rfl⟩⟩
  case hloc => decide +kernel
  case body =>
    intro y hw O hn hr hcl K0 hKr hKn
    subst hw
    have hh := O.hand (hn rfl)
    refine xs_st (ex_asgAttr (hs := by rfl) (ev_lstM (evs_nil ⟨by simp, fun dl => ?_⟩)))
    repeat wtm_at "w"
    refine setA_new O (plain319 _) (by kernel_rfl) (.tail _ (.head _)) 2 rfl (by simp) (by simp) ?_
    repeat wtm_at "w"
    refine setA_new O (plain319 _) (by kernel_rfl) (.tail _ (.head _)) 2 rfl (show (Str.ofString "_ignorecase") ∉ [Str.ofString "_patterns"] by decide +kernel) (by simp) ?_
    repeat wtm_at "w"
    refine setA_new O (plain319 _) (by kernel_rfl) (.tail _ (.head _)) 2 rfl (show (Str.ofString "_path") ∉ [Str.ofString "_ignorecase", Str.ofString "_patterns"] by decide +kernel) (by simp) ?_
    with_reducible refine co_nxt ?_
    refine exs_led ((dl, .lst []) :: [(a, .inst 319 d), (d, .ns (fsI dl))]) (by rfl) ?_
    refine xs_perm (ifFp a d dl []) (List.perm_append_comm (l₁ := [_]) (l₂ := [_, _])) ?_
    refine xs_st ?_
    refine ex_forK (hs := by intro _; rfl) hh noE noE_pass (fun _ _ => [.byt (B t1), .byt (B t2)]) (fun _ _ i q' => ∃ po xs, q' = ⟨[some (.val (.ref a)), some (.lst [.byt (B t1), .byt (B t2)]), some (.val (.bool false)), some (.val .none), po], ifFp a d dl xs⟩ ∧ (match i with | 0 => xs = [] | 1 => Ap t1 [] xs | _ => ∃ x1, Ap t1 [] x1 ∧ Ap t2 x1 xs)) ?_
    repeat wtm_at "w"
    refine ⟨iter_lst hh, ⟨none, [], rfl, rfl⟩, ?tu, ?fi⟩
    case fi =>
      rintro q2 ⟨po, xs, rfl, x1, h1, h2⟩
      repeat wtm_at "w"
      exact ⟨dl, x1, xs, h1, h2, rfl⟩
    case tu =>
      rintro i el q2 hel ⟨po, xs, rfl, hA⟩ K1 hN1 hC1 hB1 hR1
      have step : ∀ (t : List Nat) (p r) (PO : PatOk t p r), xs.length ≤ 1000 → (∀ xs', Ap t xs xs' → (match i + 1 with | 0 => xs' = [] | 1 => Ap t1 [] xs' | _ => ∃ x1, Ap t1 [] x1 ∧ Ap t2 x1 xs')) → el = .byt (B t) → True := fun _ _ _ _ _ _ _ => trivial
      match i, hel, hA with
      | 0, hel, hA =>
        cases hel
        cases hA
        repeat wtm_at "w"
        with_reducible refine ev_inst O (plain319 _) (meth_append _) (by kernel_rfl) (by kernel_rfl) ?_ _ (by intro _; with_unfolding_all rfl) (by intro _ _; with_unfolding_all rfl)
        repeat wtm_at "w"
        refine ⟨a, d, fsI dl, rfl, by simp, by simp, (show (Str.ofString "append_pattern") ∉ [Str.ofString "_path", Str.ofString "_ignorecase", Str.ofString "_patterns"] by decide +kernel), ?_⟩
        repeat wtm_at "w"
        refine call_cl (rest := []) (cl_append y.w t1 p1 r1 O1 a d dl [] (by simp)) O hn (by wtm_at "li") (.refl _) ?_
        rintro p l ⟨rfl, ⟨h1, v, rfl⟩ | ⟨h1, rfl⟩⟩
        · repeat wtm_at "w"
          exact ⟨_, [v], rfl, .inl ⟨h1, v, rfl⟩⟩
        · repeat wtm_at "w"
          exact ⟨_, [], rfl, .inr ⟨h1, rfl⟩⟩
      | 1, hel, hA =>
        cases hel
        have hxl := Ap.len hA
        simp at hxl
        repeat wtm_at "w"
        with_reducible refine ev_inst O (plain319 _) (meth_append _) (by kernel_rfl) (by kernel_rfl) ?_ _ (by intro _; with_unfolding_all rfl) (by intro _ _; with_unfolding_all rfl)
        repeat wtm_at "w"
        refine ⟨a, d, fsI dl, rfl, by simp, by simp, (show (Str.ofString "append_pattern") ∉ [Str.ofString "_path", Str.ofString "_ignorecase", Str.ofString "_patterns"] by decide +kernel), ?_⟩
        repeat wtm_at "w"
        refine call_cl (rest := []) (cl_append y.w t2 p2 r2 O2 a d dl xs (by wtm_at "li")) O hn (by wtm_at "li") (.refl _) ?_
        rintro p l ⟨rfl, ⟨h1, v, rfl⟩ | ⟨h1, rfl⟩⟩
        · repeat wtm_at "w"
          exact ⟨_, xs ++ [v], rfl, xs, hA, .inl ⟨h1, v, rfl⟩⟩
        · repeat wtm_at "w"
          exact ⟨_, xs, rfl, xs, hA, .inr ⟨h1, rfl⟩⟩
      | k + 2, hel, _ => cases hel
theorem cl_IgnoreFilter (w : World) (t1 t2 : List Nat) (p1 p2 : List Pl.Pt) (r1 r2 : List Nat) (O1 : PatOk t1 p1 r1) (O2 : PatOk t2 p2 r2) :
    Cl true (.ref 319) [.lst [.byt (B t1), .byt (B t2)]] [] 16 (fun p l => ∃ a d, p = .val (.ref a) ∧ ∃ dl x1 xs, Ap t1 [] x1 ∧ Ap t2 x1 xs ∧ l = ifFp a d dl xs) w :=
  cl_new (Qc := fun a d l => ∃ dl x1 xs, Ap t1 [] x1 ∧ Ap t2 x1 xs ∧ l = ifFp a d dl xs) (by kernel_rfl) (by kernel_rfl) (by kernel_rfl) fun a d => cl_ifinit w t1 t2 p1 p2 r1 r2 O1 O2 a d
theorem cl_patterns (w : World) (a d dl : Addr) (xs : List PV) :
    Cl false (.ref 301) [.val (.ref a)] (ifFp a d dl xs) 1 (fun p l => p = .val (.ref dl) ∧ l = ifFp a d dl xs) w := by
  refine cl_def (dargs := []) (dvals := []) (ps := ["self"]) (by rfl) (by conv => lhs; whnf) (by conv => lhs; whnf) (by kernel_rfl) ?hb (fun _ => isL_nil.mpr rfl) rfl (by decide +kernel) ?hloc (by decide +kernel) (by decide +kernel) rfl rfl rfl (m₀ := [some (.val (.ref a))]) (by kernel_rfl) ?body (by wtm_at "li")
  case hb =>
    intro s vals X hl
    obtain ⟨a, rfl⟩ := vlist1 hl
    exact .of_eq (by kernel_rfl)
  case hloc => decide +kernel
  case body =>
    intro y hw O hn hr hcl K0 hKr hKn
    subst hw
    repeat wtm_at "w"
    refine get_inst (p := .val (.ref dl)) (fs := fsI dl) (d := d) O (plain319 _) (by kernel_rfl) (by simp) (by simp) (by simp [fsI]) rfl ?_
    repeat wtm_at "w"
    exact ⟨rfl, rfl⟩
end
/- C20 -/
section
open PySem PySem.W PySem.Calls PyProof.Rows Mine
set_option maxHeartbeats 8000000
noncomputable def osPV : Option (List Nat) → PV
  | none => .val .none
  | some l => .str l
theorem cl_lawclass (w : World) (n : List Nat) : Cl true (.ref 343) [.str n] [] 1 (fun p l => p = osPV (Pl.lawClass n) ∧ l = []) w := by
  refine cl_def (dargs := []) (dvals := []) (ps := ["name"]) (by rfl) (by conv => lhs; whnf) (by conv => lhs; whnf) (by kernel_rfl) ?hb (fun _ => isL_nil.mpr rfl) rfl (by decide +kernel) ?hloc (by decide +kernel) (by decide +kernel) rfl rfl rfl (m₀ := [some (.str n)]) (by kernel_rfl) ?body (by decide)
  case hb =>
    intro s vals X hl
    obtain ⟨a, rfl⟩ := vlist1 hl
    exact .of_eq (by kernel_rfl)
  case hloc => decide +kernel
  case body =>
    intro y hw O hn hr hcl K0 hKr hKn
    repeat wtm_at "w"
    by_cases h1 : n = Pl.cc "alpha"
    · with_reducible refine ite_t (beq_iff_eq.mpr h1) ?_
      repeat wtm_at "w"
      exact ⟨by rw [Pl.lawClass, if_pos h1]; rfl, rfl⟩
    · with_reducible refine ite_f (beq_eq_false_iff_ne.mpr h1) ?_
      repeat wtm_at "w"
      by_cases h2 : n = Pl.cc "digit"
      · with_reducible refine ite_t (beq_iff_eq.mpr h2) ?_
        repeat wtm_at "w"
        exact ⟨by rw [Pl.lawClass, if_neg h1, if_pos h2]; rfl, rfl⟩
      · with_reducible refine ite_f (beq_eq_false_iff_ne.mpr h2) ?_
        repeat wtm_at "w"
        exact ⟨by rw [Pl.lawClass, if_neg h1, if_neg h2]; rfl, rfl⟩
theorem g_signs (w : World) : nsIn (KP w.params) mainGlobals "_law_signs" = some (some (.str (Str.ofString "a]b0-c\\!^[.z:A") 717)) := by kernel_rfl
theorem is_signs (g : G) : Is g (.str Pl.lawSigns) (.str (Str.ofString "a]b0-c\\!^[.z:A") 717) := is_str.mpr ⟨717, by rw [Str.ofString_eq_toList]; rfl⟩
theorem lt_one (a b : Nat) : decide ([a] < [b]) = decide (a < b) := by
  rw [Bool.eq_iff_iff, decide_eq_true_eq, decide_eq_true_eq]
  constructor
  · intro h
    cases h with
    | rel h => exact h
    | cons h => cases h
  · intro h; exact .rel h
inductive spanI (L : Addr) (lo hi : Nat) (i : Nat) (ys : List PV) (led : List (Addr × MK)) : Prop where
  | mk (h0 : led = [(L + 2, .cell (.str [hi])), (L + 1, .cell (.str [lo]))]) (h1 : ys = (((Pl.lawSigns.take i).filter fun c => decide (lo ≤ c) && decide (c ≤ hi)).map fun c => [c]).map PV.str) : spanI L lo hi i ys led
theorem cl_lawspan (w : World) (lo hi : Nat) : Cl true (.ref 348) [.str [lo], .str [hi]] [] 2 (fun p l => p = .str (Pl.lawSpan lo hi) ∧ l = []) w := by
  refine cl_defC (ps := ["low", "high"]) (by rfl) (by conv => lhs; whnf) (by conv => lhs; whnf) (by kernel_rfl) ?hb rfl (by decide +kernel) ?hloc (by decide +kernel) (by decide +kernel) (by decide +kernel) rfl rfl rfl (m₀ := [none, none, none]) (by kernel_rfl) ?body (by wtm_at "li")
  case hb =>
    intro s vals X hl
    obtain ⟨a, b, rfl⟩ := vlist2 hl
    exact .of_eq (by kernel_rfl)
  case hloc => decide +kernel
  case body =>
    intro y L hw O W hn hr hcl K0 hKr hKn
    subst hw
    have hh := O.hand (hn rfl)
    have hcl : y.cl = [(Str.ofString "high", L + 2), (Str.ofString "low", L + 1)] := hcl.trans (by kernel_rfl)
    refine exs_led [(L + 2, .cell (.str [hi])), (L + 1, .cell (.str [lo]))] (by kernel_rfl) ?_
    repeat wtm_at "w"
    with_reducible refine ev_meth O (ev_S (mth_join ⟨by with_unfolding_all rfl, ?_⟩)) _ (by intro _; with_unfolding_all rfl) (by intro _ _; with_unfolding_all rfl)
    repeat wtm_at "w"
    refine ev_compR (hs := by intro _; rfl) (ht := by intro _ _; rfl) { kind := .function, names := [(Str.ofString ".0", .local), (Str.ofString "sign", .local), (Str.ofString "high", .cell), (Str.ofString "low", .cell)], isGenerator := false, isCoroutine := false, more := [] } [(Str.ofString "low", L + 1), (Str.ofString "high", L + 2)] O (by kernel_rfl) ?_ (clos_of hcl (by kernel_rfl)) (by decide +kernel) rfl (by decide +kernel) (by decide +kernel)
    refine ev_GP (hd := by decide +kernel) (p := .str Pl.lawSigns) O 2 rfl (by with_reducible rfl) (g_signs _) (fun g _ => is_signs g) ?_
    refine ⟨strEls Pl.lawSigns, _, [], spanI L lo hi, iter_str hh, .refl _, by simp [strEls]; decide, ⟨rfl, rfl⟩, ?tu, ?fi⟩
    case fi =>
      rintro ys led ⟨rfl, rfl⟩
      repeat wtm_at "w"
      have hfl : ∀ l : List Nat, (l.map fun c => [c]).flatten = l := by
        intro l
        induction l with
        | nil => rfl
        | cons a r ih => rw [List.map_cons, List.flatten_cons, ih]; rfl
      have hll : (Pl.lawSigns.filter fun c => decide (lo ≤ c) && decide (c ≤ hi)).length ≤ 14 := Nat.le_trans (List.length_filter_le _ _) (by decide)
      have htk : Pl.lawSigns.take (strEls Pl.lawSigns).length = Pl.lawSigns := List.take_of_length_le (by simp [strEls])
      rw [htk]
      refine call_join (by rw [hfl]; lia) ?_
      rw [hfl]
      repeat wtm_at "w"
      exact ⟨[], _, .refl _, rfl, rfl⟩
    case tu =>
      rintro y2 hw2 O hr2 hn2 hh2 hcl2 D i el ys mm led hel ⟨rfl, rfl⟩ hm
      have hh := hh2.trans hh
      have c1 : y2.cl.lookup (Str.ofString "low") = some (L + 1) := by rw [hcl2]; kernel_rfl
      have c2 : y2.cl.lookup (Str.ofString "high") = some (L + 2) := by rw [hcl2]; kernel_rfl
      obtain ⟨v, hv, rfl⟩ := Option.map_eq_some_iff.mp ((List.getElem?_map ..).symm.trans hel)
      have e1 : (Pl.lawSigns.take (i + 1)).filter (fun c => decide (lo ≤ c) && decide (c ≤ hi)) = (Pl.lawSigns.take i).filter (fun c => decide (lo ≤ c) && decide (c ≤ hi)) ++ if decide (lo ≤ v) && decide (v ≤ hi) then [v] else [] := by
        rw [List.take_add_one, hv, List.filter_append]; simp [List.filter_cons]
      match mm, hm with
      | [m0, m1, m2, m3], _ =>
        repeat first | wtm_at "C" | wtm_at "w"
        have no : (decide (lo ≤ v) && decide (v ≤ hi)) = false → CStep D ((((Pl.lawSigns.take i).filter fun c => decide (lo ≤ c) && decide (c ≤ hi)).map fun c => [c]).map PV.str) 4 (spanI L lo hi (i + 1) ((((Pl.lawSigns.take i).filter fun c => decide (lo ≤ c) && decide (c ≤ hi)).map fun c => [c]).map PV.str)) (⟨[m0, some (.str [v]), m2, m3], [(D, .lst ((((Pl.lawSigns.take i).filter fun c => decide (lo ≤ c) && decide (c ≤ hi)).map fun c => [c]).map PV.str)), (L + 2, .cell (.str [hi])), (L + 1, .cell (.str [lo]))]⟩ : Q) := fun h =>
          ⟨_, _, rfl, rfl, rfl, by rw [e1, h]; simp⟩
        refine op_leS ?_
        rw [lt_one]
        repeat first | wtm_at "C" | wtm_at "w"
        with_reducible refine br_ite (fun h1 => ?_) (fun h1 => ?_)
        · have h1' : lo ≤ v := by simp at h1; lia
          repeat first | wtm_at "C" | wtm_at "w"
          refine op_leS ?_
          rw [lt_one]
          repeat first | wtm_at "C" | wtm_at "w"
          with_reducible refine br_ite (fun h2 => ?_) (fun h2 => ?_)
          · have h2' : v ≤ hi := by simp at h2; lia
            repeat first | wtm_at "C" | wtm_at "w"
            exact ⟨_, _, rfl, rfl, rfl, by rw [e1, if_pos (by simp; lia)]; simp⟩
          · exact no (by simp at h2 ⊢; lia)
        · exact no (by simp at h1 ⊢; lia)
end
/- C21 -/
section
open PySem PySem.W PySem.Calls PyProof.Rows Mine
set_option maxHeartbeats 8000000
theorem drop_lt' {t : List Nat} {i : Nat} {c : Nat} {r : List Nat} (h : t.drop i = c :: r) : i < t.length ∧ t.drop (i + 1) = r := by
  refine ⟨?_, ?_⟩
  · have := congrArg List.length h; simp at this; lia
  · rw [← List.drop_drop, h]; rfl
theorem item_at {x : Act} {cs : Scope} {E : Er} {q : Q} {Qn : PV → Q → Prop} {value slice : Expr} {t : List Nat} {k : Int} {i c : Nat} {r : List Nat} (hd : t.drop i = c :: r) (hk : k = i) (hz : t.length ≤ 10000) (h : Qn (.str [c]) q)
    (hs : ∀ t' u, subscripted slice false (.str ⟨t.toArray⟩ t') (.int k u) = operate [.str ⟨t.toArray⟩ t', .int k u] (getItem (.str ⟨t.toArray⟩ t') (.int k u)))
    (ht : ∀ t' r, letTemporaryGo value (.str ⟨t.toArray⟩ t') r = pure ()) : Op2 x cs (subscriptTail value slice) (.str t) (.int k) q Qn E := by
  obtain ⟨h1, _⟩ := drop_lt' hd
  have hc : t[i]? = some c := by
    have : (t.drop i)[0]? = some c := by rw [hd]; rfl
    rw [List.getElem?_drop] at this; simpa using this
  subst hk
  refine op_itemS (by wtm_at "li") (by wtm_at "li") (by wtm_at "li") ?_ h hs ht
  have : seqIndex? (i : Int) t.length = some i := by
    unfold seqIndex?
    have h3 : ¬ ((i : Int) < 0) := by lia
    simp [h3, h1]
  rw [this]; exact hc
theorem cutS {t : List Nat} {i k : Nat} {a b : Int} (ha : a = i) (hb : b = ((i + k : Nat) : Int)) : cut t (some a) (some b) = (t.drop i).take k := by
  subst ha hb
  have clip : ∀ (n i : Nat), clipAt n (i : Int) = min i n := fun n i => by unfold clipAt; rw [if_neg (by wtm_at "li")]; lia
  simp only [cut, Option.elim, clip]
  by_cases h : i ≤ t.length
  · rw [Nat.min_eq_left h]
    by_cases h' : i + k ≤ t.length
    · rw [Nat.min_eq_left h', Nat.add_sub_cancel_left]
    · have h2 : min (i + k) t.length = t.length := Nat.min_eq_right (by wtm_at "li")
      rw [h2, List.take_of_length_le (by simp), List.take_of_length_le (by simp; lia)]
  · have h2 : min i t.length = t.length := Nat.min_eq_right (by wtm_at "li")
    rw [h2, List.drop_eq_nil_of_le (by lia : t.length ≤ i), List.drop_eq_nil_of_le (Nat.le_refl t.length)]; simp
theorem find93 : ∀ (s : List Nat) (k : Nat), findFrom 93 s k = if Pl.rsOf s = [] then -1 else ((k + (Pl.nmOf s).length : Nat) : Int)
  | [], k => rfl
  | c :: s, k => by
    by_cases h : c = 93
    · subst h
      simp [findFrom, Pl.rsOf, Pl.nmOf]
    · have e1 : Pl.rsOf (c :: s) = Pl.rsOf s := by simp [Pl.rsOf, h]
      have e2 : Pl.nmOf (c :: s) = c :: Pl.nmOf s := by simp [Pl.nmOf, h]
      have e3 : findFrom 93 (c :: s) k = findFrom 93 s (k + 1) := by unfold findFrom; rw [if_neg h]; cases s <;> rfl
      rw [e3, find93 s (k + 1), e1, e2]
      split
      · rfl
      · simp; lia
theorem one_beq (c k : Nat) : ([c] == [k]) = decide (c = k) := by rw [Bool.eq_iff_iff]; simp
theorem cc93 : Pl.cc "]" = [93] := by kernel_rfl
theorem cc92 : Pl.cc "\\" = [92] := by kernel_rfl
theorem cc45 : Pl.cc "-" = [45] := by kernel_rfl
theorem cc91 : Pl.cc "[" = [91] := by kernel_rfl
theorem cc58 : Pl.cc ":" = [58] := by kernel_rfl
theorem la_beg (la : Pl.La) : (la.str != Pl.cc "begin") = decide (la ≠ .beg) := by
  cases la with
  | beg => decide +kernel
  | non => decide +kernel
  | sgn c => rw [Bool.eq_iff_iff]; simp [Pl.La.str]; intro h; have h1 := congrArg List.length h; rw [show ([c] : List Nat).length = 1 from rfl] at h1; revert h1; decide +kernel
theorem la_len (la : Pl.La) : ((la.str.length : Int) == 1) = Pl.isSgn la := by
  cases la with
  | beg => decide +kernel
  | non => decide +kernel
  | sgn c => rfl
theorem la_le (la : Pl.La) : la.str.length ≤ 16777216 := by
  cases la with
  | beg => decide +kernel
  | non => decide +kernel
  | sgn c => exact Nat.le_of_lt (show 1 < 16777216 by decide)
theorem tsb {x : Act} {cs : Scope} {E : Er} {q : Q} {Qb : Bool → Q → Prop} {e} (b0 : Bool) (h : Tst x cs e q (fun b q' => b = b0 ∧ q' = q) E) (h2 : Qb b0 q) : Tst x cs e q Qb E := fun hid g s R =>
  wpAny_mono (h hid g s R) (fun b s' ⟨g', q', a, c, d1, d2⟩ => ⟨g', q', a, c, by rw [d1, d2]; exact h2⟩) fun _ _ e => e
theorem span_len (l h : Nat) : (Pl.lawSpan l h).length ≤ 14 := Nat.le_trans (List.length_filter_le _ _) (by decide +kernel)
theorem class_len {n m : List Nat} (h : Pl.lawClass n = some m) : m.length ≤ 5 := by
  unfold Pl.lawClass at h
  split at h
  · cases h; decide +kernel
  · split at h
    · cases h; decide +kernel
    · cases h
theorem op_neg' {x : Act} {cs : Scope} {E : Er} {q : Q} {Qn : PV → Q → Prop} {a : Int} (h : Qn (.int (-a)) q) : Op1 x cs (unaryOp .USub) (.int a) q Qn E := fun hid g s u R i => by
  obtain ⟨t, rfl⟩ := is_int.mp i
  exact neg_int (R.dn (is_int.mpr ⟨_, rfl⟩) h)
theorem drop_app (a b c : List Nat) (h : a ++ b = c) : c.drop a.length = b := by subst h; simp
noncomputable def setQ (t : List Nat) (o : Option (List Nat × List Nat)) (p : PV) : Prop := match o with
  | none => p = .val .none
  | some (held, r) => ∃ k : Nat, p = .tup [.str held, .int k] ∧ t.drop k = r ∧ k ≤ t.length
theorem g_lawset (w : World) : nsIn (KP w.params) mainGlobals "_law_set" = some (some (.ref 355)) := by kernel_rfl
theorem g_lawspan (w : World) : nsIn (KP w.params) mainGlobals "_law_span" = some (some (.ref 348)) := by kernel_rfl
theorem g_lawclass (w : World) : nsIn (KP w.params) mainGlobals "_law_class" = some (some (.ref 343)) := by kernel_rfl
theorem cl_lawset_step (w : World) (t : List Nat) (hz : t.length ≤ 90) (n i : Nat) (la : Pl.La) (held : List Nat) (hn0 : t.length - i ≤ n) (hi0 : i ≤ t.length) (hhl : held.length + 20 * (t.length - i) ≤ 4000)
    (ih : ∀ m, n = m + 1 → ∀ (j : Nat) (la' : Pl.La) (held' : List Nat), t.length - j ≤ m → j ≤ t.length → held'.length + 20 * (t.length - j) ≤ 4000 →
      Cl true (.ref 355) [.str t, .int j, .str la'.str, .str held'] [] (m + 3) (fun p l => setQ t (Pl.lawSet (t.drop j) la' held') p ∧ l = []) w) :
    Cl true (.ref 355) [.str t, .int i, .str la.str, .str held] [] (n + 3) (fun p l => setQ t (Pl.lawSet (t.drop i) la held) p ∧ l = []) w := by
    refine cl_def (dargs := []) (dvals := []) (ps := ["text", "at", "last", "held"]) (by rfl) (by conv => lhs; whnf) (by conv => lhs; whnf) (by kernel_rfl) ?hb (fun _ => isL_nil.mpr rfl) rfl (by decide +kernel) ?hloc (by decide +kernel) (by decide +kernel) rfl rfl rfl (m₀ := [some (.str t), some (.int i), some (.str la.str), some (.str held), none, none, none, none, none, none, none, none, none]) (by kernel_rfl) ?body (by wtm_at "li")
    case hb =>
      intro s vals X hl
      obtain ⟨a, b, c, d, rfl⟩ := vlist4 hl
      exact .of_eq (by kernel_rfl)
    case hloc => decide +kernel
    case body =>
      intro y hw O hn hr hcl K0 hKr hKn
      subst hw
      have hh := O.hand (hn rfl)
      cases e : t.drop i with
      | nil =>
        rw [e] at hKr hKn
        have : t.length ≤ i := drop_nil_le e
        repeat wtm_at "w"
        with_reducible refine ite_t (by wtm_at "tt") ?_
        repeat wtm_at "w"
        exact ⟨by rw [Pl.ls_nil]; rfl, rfl⟩
      | cons c r =>
        rw [e] at hKr hKn
        obtain ⟨h1, h2⟩ := drop_lt' e
        have hrl : r.length = t.length - (i + 1) := by have := congrArg List.length h2; simp at this; lia
        obtain ⟨m, rfl⟩ : ∃ m, n = m + 1 := ⟨n - 1, by lia⟩
        have recu : ∀ {cs : Scope} {mm : List (Option PV)} {Qn : PV → Q → Prop} (j : Nat) (la' : Pl.La) (held' : List Nat), y.Ok cs → i < j → j ≤ t.length → held'.length + 20 * (t.length - j) ≤ 4000 → (∀ p, setQ t (Pl.lawSet (t.drop j) la' held') p → Qn p ⟨mm, []⟩) →
            CallR y cs (.ref 355) [.str t, .int j, .str la'.str, .str held'] ⟨mm, []⟩ Qn noE := fun j la' held' O' h1 h2 h3 h4 => by
          refine call_pure (ih m rfl j la' held' (by wtm_at "li") h2 h3) O' hn (by wtm_at "li") ?_
          rintro p l ⟨hp, rfl⟩
          exact h4 p hp
        repeat wtm_at "w"
        with_reducible refine ite_f (by wtm_at "tt") ?_
        repeat wtm_at "e"
        with_reducible refine co_nxt ?_
        refine xs_st ?_
        repeat wtm_at "e"
        refine item_at (hs := by intro _ _; with_unfolding_all rfl) (ht := by intro _ _; with_unfolding_all rfl) e rfl (by wtm_at "li") ?_
        repeat wtm_at "e"
        with_reducible refine co_nxt ?_
        refine xs_st (ex_if (tsb (decide (c = 93 ∧ la ≠ .beg)) ?_ ?_))
        · repeat wtm_at "e"
          rw [cc93, one_beq]
          with_reducible refine br_ite (fun h3 => ?_) (fun h3 => ?_)
          · repeat wtm_at "e"
            rw [la_beg]
            with_reducible refine br_ite (fun h4 => ?_) (fun h4 => ?_)
            · repeat wtm_at "e"
              exact ⟨by simp at h3 h4 ⊢; exact ⟨h3, h4⟩, rfl⟩
            · exact ⟨by simp at h3 h4 ⊢; intro _; exact h4, rfl⟩
          · exact ⟨by simp at h3 ⊢; intro h; exact absurd h h3, rfl⟩
        by_cases hA : c = 93 ∧ la ≠ .beg
        · with_reducible refine ite_t (decide_eq_true hA) ?_
          obtain ⟨rfl, hla⟩ := hA
          repeat wtm_at "w"
          exact ⟨by rw [Pl.ls_93 hla]; exact ⟨i + 1, rfl, h2, h1⟩, rfl⟩
        with_reducible refine ite_f (decide_eq_false hA) ?_
        repeat wtm_at "e"
        with_reducible refine co_nxt ?_
        refine xs_st ?_
        repeat wtm_at "e"
        rw [cc92, one_beq]
        by_cases hB : c = 92
        · subst hB
          with_reducible refine ite_t (by decide) ?_
          repeat wtm_at "w"
          cases er : r with
          | nil =>
            subst er
            with_reducible refine ite_t (by simp; simp at hrl; lia) ?_
            repeat wtm_at "w"
            exact ⟨by rw [Pl.ls_92n]; rfl, rfl⟩
          | cons d r' =>
            subst er
            obtain ⟨h5, h6⟩ := drop_lt' h2
            with_reducible refine ite_f (by simp; simp at hrl; lia) ?_
            repeat wtm_at "w"
            with_reducible refine ev_callG O 9 (by with_unfolding_all rfl) (by with_reducible rfl) (g_lawset _) (by with_unfolding_all rfl) ?_ (hd := by decide +kernel) (hpl := by intro _ _; with_unfolding_all rfl)
            repeat wtm_at "w"
            refine item_at (hs := by intro _ _; with_unfolding_all rfl) (ht := by intro _ _; with_unfolding_all rfl) h2 rfl (by wtm_at "li") ?_
            repeat wtm_at "w"
            refine item_at (hs := by intro _ _; with_unfolding_all rfl) (ht := by intro _ _; with_unfolding_all rfl) h2 rfl (by wtm_at "li") ?_
            have hs1 : ([d] : List Nat).length = 1 := rfl
            repeat wtm_at "w"
            refine recu (i + 2) (.sgn d) (held ++ [d]) O (by wtm_at "li") h5 (by simp; lia) fun p hp => ?_
            repeat wtm_at "w"
            exact ⟨by rw [Pl.ls_92, ← show t.drop (i + 2) = r' from h6]; exact hp, rfl⟩
        with_reducible refine ite_f (by wtm_at "tt") ?_
        repeat wtm_at "e"
        with_reducible refine co_nxt ?_
        have hc2 : cut t (some ((i : Int) + 1)) (some ((i : Int) + 2)) = r.take 1 := by rw [cutS (i := i + 1) (k := 1) (by wtm_at "li") (by wtm_at "li"), h2]
        refine xs_st (ex_if (tsb (decide (c = 45 ∧ Pl.isSgn la = true ∧ r ≠ [] ∧ r.head? ≠ some 93)) ?_ ?_))
        · repeat wtm_at "e"
          rw [cc45, one_beq]
          with_reducible refine br_ite (fun h3 => ?_) (fun h3 => ?_)
          · have h45 : c = 45 := by simpa using h3
            subst h45
            have hll := la_le la
            repeat wtm_at "e"
            rw [la_len]
            with_reducible refine br_ite (fun h4 => ?_) (fun h4 => ?_)
            · repeat wtm_at "e"
              cases er : r with
              | nil =>
                subst er
                with_reducible refine ite_f (by simp; simp at hrl; lia) ?_
                exact ⟨by simp, rfl⟩
              | cons d r' =>
                subst er
                with_reducible refine ite_t (by simp; simp at hrl; lia) ?_
                repeat wtm_at "e"
                refine item_at (hs := by intro _ _; with_unfolding_all rfl) (ht := by intro _ _; with_unfolding_all rfl) h2 rfl (by wtm_at "li") ?_
                repeat wtm_at "e"
                rw [cc93, show (([d] : List Nat) != [93]) = !([d] == [93]) from rfl, one_beq]
                with_reducible refine br_ite (fun h5 => ?_) (fun h5 => ?_)
                · repeat wtm_at "e"
                  exact ⟨by simp at h5 ⊢; exact ⟨h4, h5⟩, rfl⟩
                · exact ⟨by simp at h5 ⊢; intro _; exact h5, rfl⟩
            · exact ⟨by simp [h4], rfl⟩
          · exact ⟨by simp at h3 ⊢; intro h; exact absurd h h3, rfl⟩
        by_cases hC : c = 45 ∧ Pl.isSgn la = true ∧ r ≠ [] ∧ r.head? ≠ some 93
        · with_reducible refine ite_t (decide_eq_true hC) ?_
          obtain ⟨rfl, hp, hr0, hr93⟩ := hC
          obtain ⟨l, rfl⟩ : ∃ l, la = .sgn l := by
            cases la with
            | sgn l => exact ⟨l, rfl⟩
            | beg => cases hp
            | non => cases hp
          obtain ⟨d, r', rfl⟩ : ∃ d r', r = d :: r' := by
            cases r with
            | nil => exact absurd rfl hr0
            | cons d r' => exact ⟨d, r', rfl⟩
          have hd93 : d ≠ 93 := by simpa using hr93
          obtain ⟨h5, h6⟩ := drop_lt' h2
          repeat wtm_at "w"
          refine item_at (hs := by intro _ _; with_unfolding_all rfl) (ht := by intro _ _; with_unfolding_all rfl) h2 rfl (by wtm_at "li") ?_
          repeat wtm_at "w"
          refine call_intB ?_
          repeat wtm_at "w"
          rw [cc92, one_beq]
          have spn : ∀ {cs : Scope} {q : Q} {Qn : PV → Q → Prop} (u : Nat), y.Ok cs → (Qn (.str (Pl.lawSpan l u)) q) → CallR y cs (.ref 348) [.str [l], .str [u]] q Qn noE := fun u O' h => by
            refine call_pure (cl_lawspan y.w l u) O' hn (by wtm_at "li") ?_
            rintro p l2 ⟨rfl, rfl⟩
            exact h
          by_cases h92 : d = 92
          · subst h92
            rw [show (if decide (92 = 92) = true then (1 : Int) else 0) = 1 from rfl]
            cases er : r' with
            | nil =>
              subst er
              with_reducible refine ite_t (by simp; simp at hrl; lia) ?_
              repeat wtm_at "w"
              exact ⟨by rw [Pl.ls_45n]; rfl, rfl⟩
            | cons u r2 =>
              subst er
              obtain ⟨h7, h8⟩ := drop_lt' h6
              have hsl := span_len l u
              with_reducible refine ite_f (by simp; simp at hrl; lia) ?_
              repeat wtm_at "w"
              with_reducible refine ev_callG O 9 (by with_unfolding_all rfl) (by with_reducible rfl) (g_lawset _) (by with_unfolding_all rfl) ?_ (hd := by decide +kernel) (hpl := by intro _ _; with_unfolding_all rfl)
              repeat wtm_at "w"
              with_reducible refine ev_callG O 11 (by with_unfolding_all rfl) (by with_reducible rfl) (g_lawspan _) (by with_unfolding_all rfl) ?_ (hd := by decide +kernel) (hpl := by intro _ _; with_unfolding_all rfl)
              repeat wtm_at "w"
              refine item_at (hs := by intro _ _; with_unfolding_all rfl) (ht := by intro _ _; with_unfolding_all rfl) h6 (by wtm_at "li") (by wtm_at "li") ?_
              repeat wtm_at "w"
              refine spn u O ?_
              repeat wtm_at "w"
              refine recu (i + 3) .non (held ++ Pl.lawSpan l u) O (by wtm_at "li") h7 (by simp; lia) fun p hp => ?_
              repeat wtm_at "w"
              exact ⟨by rw [Pl.ls_45e, ← show t.drop (i + 3) = r2 from h8]; exact hp, rfl⟩
          · have hsl := span_len l d
            rw [show (if decide (d = 92) = true then (1 : Int) else 0) = 0 from if_neg (by simpa using h92)]
            with_reducible refine ite_f (by simp; simp at hrl; lia) ?_
            repeat wtm_at "w"
            with_reducible refine ev_callG O 9 (by with_unfolding_all rfl) (by with_reducible rfl) (g_lawset _) (by with_unfolding_all rfl) ?_ (hd := by decide +kernel) (hpl := by intro _ _; with_unfolding_all rfl)
            repeat wtm_at "w"
            with_reducible refine ev_callG O 11 (by with_unfolding_all rfl) (by with_reducible rfl) (g_lawspan _) (by with_unfolding_all rfl) ?_ (hd := by decide +kernel) (hpl := by intro _ _; with_unfolding_all rfl)
            repeat wtm_at "w"
            refine item_at (hs := by intro _ _; with_unfolding_all rfl) (ht := by intro _ _; with_unfolding_all rfl) h2 (by wtm_at "li") (by wtm_at "li") ?_
            repeat wtm_at "w"
            refine spn d O ?_
            repeat wtm_at "w"
            refine recu (i + 2) .non (held ++ Pl.lawSpan l d) O (by wtm_at "li") h5 (by simp; lia) fun p hp => ?_
            repeat wtm_at "w"
            exact ⟨by rw [Pl.ls_45 hd93 h92, ← show t.drop (i + 2) = r' from h6]; exact hp, rfl⟩
        with_reducible refine ite_f (decide_eq_false hC) ?_
        repeat wtm_at "e"
        with_reducible refine co_nxt ?_
        have hs1 : ([c] : List Nat).length = 1 := rfl
        refine xs_mid (fun q' => (∃ m5 m6 m7, q' = ⟨[some (.str t), some (.int i), some (.str la.str), some (.str held), some (.str [c]), m5, m6, m7, none, none, none, none, none], []⟩) ∧ Pl.lawSet (c :: r) la held = Pl.lawSet r (.sgn c) (held ++ [c])) ?_ ?_
        · refine ex_if (tsb (decide (c = 91 ∧ r.head? = some 58)) ?_ ?_)
          · repeat wtm_at "e"
            rw [cc91, one_beq]
            with_reducible refine br_ite (fun h3 => ?_) (fun h3 => ?_)
            · have h91 : c = 91 := by simpa using h3
              subst h91
              repeat wtm_at "e"
              rw [hc2, cc58]
              cases r with
              | nil => with_reducible refine ite_f (by decide) ?_; exact ⟨by simp, rfl⟩
              | cons d r' =>
                rw [show List.take 1 (d :: r') = [d] from rfl, one_beq]
                with_reducible refine br_ite (fun h4 => ?_) (fun h4 => ?_)
                · repeat wtm_at "e"
                  exact ⟨by simp at h4 ⊢; exact h4, rfl⟩
                · exact ⟨by simp at h4 ⊢; exact h4, rfl⟩
            · exact ⟨by simp at h3 ⊢; intro h; exact absurd h h3, rfl⟩
          by_cases hD : c = 91 ∧ r.head? = some 58
          · with_reducible refine ite_t (decide_eq_true hD) ?_
            obtain ⟨rfl, hh58⟩ := hD
            obtain ⟨r', rfl⟩ : ∃ r', r = 58 :: r' := by
              cases r with
              | nil => cases hh58
              | cons d r' => simp at hh58; exact ⟨r', by rw [hh58]⟩
            have hd2' : t.drop (i + 2) = r' := (drop_lt' h2).2
            have hfin := find93 r' (i + 2)
            have hi2 : i + 2 ≤ t.length := (drop_lt' h2).1
            rw [Pl.ls_91] at hKr hKn ⊢
            refine xs_st ?_
            repeat wtm_at "e"
            with_reducible refine ev_meth O (ev_L (hd := by decide +kernel) O 0 (by with_unfolding_all rfl) (by with_reducible rfl) (by with_unfolding_all rfl) (mth_find ⟨by with_unfolding_all rfl, ?_⟩)) _ (by intro _; with_unfolding_all rfl) (by intro _ _; with_unfolding_all rfl)
            repeat wtm_at "w"
            rw [cc93]
            refine call_find (c := 93) (k := i + 2) hi2 ?_
            rw [hd2', hfin]
            repeat wtm_at "w"
            refine op_neg' ?_
            have happ : Pl.nmOf r' ++ Pl.rsOf r' = r' := by unfold Pl.nmOf Pl.rsOf; exact List.takeWhile_append_dropWhile
            by_cases h0 : Pl.rsOf r' = []
            · rw [if_pos h0] at hKr hKn
              rw [if_pos h0, if_pos h0]
              repeat wtm_at "w"
              exact ⟨rfl, rfl⟩
            rw [if_neg h0] at hKr hKn
            rw [if_neg h0, if_neg h0]
            have hdd : t.drop (i + 2 + (Pl.nmOf r').length) = Pl.rsOf r' := by rw [← List.drop_drop, hd2']; exact drop_app _ _ _ happ
            have hlt : i + 2 + (Pl.nmOf r').length < t.length := by
              have h3 := congrArg List.length hdd
              have h4 := List.length_pos_iff.mpr h0
              simp at h3; lia
            repeat wtm_at "e"
            with_reducible refine co_nxt ?_
            rcases List.eq_nil_or_concat (Pl.nmOf r') with hnm | ⟨pre, z, hnm⟩
            · rw [if_neg (by simp [hnm])] at hKr hKn ⊢
              repeat wtm_at "w"
              with_reducible refine ite_f (by rw [hnm]; simp) ?_
              repeat wtm_at "w"
              exact ⟨⟨_, _, _, rfl⟩, rfl⟩
            · rw [List.concat_eq_append] at hnm
              have hnl : (Pl.nmOf r').length = pre.length + 1 := by rw [hnm]; simp
              have hs2 : t.drop (i + 2) = pre ++ z :: Pl.rsOf r' := by
                rw [hd2']
                exact happ.symm.trans (by rw [hnm, List.append_assoc]; rfl)
              have hd3 : t.drop (i + 2 + pre.length) = z :: Pl.rsOf r' := by rw [← List.drop_drop, hs2]; simp
              have hlast : (Pl.nmOf r').getLast? = some z := by rw [hnm]; simp
              have hdl : (Pl.nmOf r').dropLast = pre := by rw [hnm]; simp
              have hne : Pl.nmOf r' ≠ [] := by rw [hnm]; simp
              rw [hnl] at hlt hdd ⊢
              repeat wtm_at "w"
              with_reducible refine ite_t (by wtm_at "tt") ?_
              repeat wtm_at "w"
              refine item_at (hs := by intro _ _; with_unfolding_all rfl) (ht := by intro _ _; with_unfolding_all rfl) hd3 (by wtm_at "li") (by wtm_at "li") ?_
              repeat wtm_at "w"
              rw [cc58, one_beq]
              by_cases hz58 : z = 58
              · subst hz58
                rw [if_pos (show (Pl.nmOf r' ≠ [] ∧ (Pl.nmOf r').getLast? = some 58) from ⟨hne, hlast⟩), hdl] at hKr hKn ⊢
                with_reducible refine ite_t (by decide) ?_
                repeat wtm_at "w"
                with_reducible refine ev_callG O 12 (by with_unfolding_all rfl) (by with_reducible rfl) (g_lawclass _) (by with_unfolding_all rfl) ?_ (hd := by decide +kernel) (hpl := by intro _ _; with_unfolding_all rfl)
                repeat wtm_at "w"
                rw [cutS (t := t) (i := i + 2) (k := pre.length) (by wtm_at "li") (by wtm_at "li"), hs2, List.take_left']
                refine call_pure (cl_lawclass y.w pre) O hn (by wtm_at "li") ?_
                rintro p l ⟨rfl, rfl⟩
                repeat wtm_at "w"
                cases hlc : Pl.lawClass pre with
                | none =>
                  rw [hlc] at hKr hKn
                  with_reducible refine ite_t (by with_unfolding_all rfl) ?_
                  repeat wtm_at "w"
                  exact ⟨rfl, rfl⟩
                | some more =>
                  rw [hlc] at hKr hKn
                  have hml := class_len hlc
                  with_reducible refine ite_f (by with_unfolding_all rfl) ?_
                  unfold osPV
                  repeat wtm_at "w"
                  with_reducible refine ev_callG O 9 (by with_unfolding_all rfl) (by with_reducible rfl) (g_lawset _) (by with_unfolding_all rfl) ?_ (hd := by decide +kernel) (hpl := by intro _ _; with_unfolding_all rfl)
                  repeat wtm_at "w"
                  refine recu (i + 2 + (pre.length + 1) + 1) .non (held ++ more) O (by wtm_at "li") (by wtm_at "li") (by simp; lia) fun p hp => ?_
                  repeat wtm_at "w"
                  exact ⟨by rw [← List.drop_drop, hdd, List.drop_one] at hp; exact hp, rfl⟩
                rfl
              · rw [if_neg (show ¬ (Pl.nmOf r' ≠ [] ∧ (Pl.nmOf r').getLast? = some 58) from fun h => hz58 (by have := h.2; rw [hlast] at this; exact Option.some.inj this))] at hKr hKn ⊢
                with_reducible refine ite_f (by simpa using hz58) ?_
                repeat wtm_at "w"
                exact ⟨⟨_, _, _, rfl⟩, rfl⟩
          · with_reducible refine ite_f (decide_eq_false hD) ?_
            repeat wtm_at "w"
            exact ⟨⟨_, _, _, rfl⟩, Pl.ls_else hA hB hC hD⟩
        rintro q' ⟨⟨m5, m6, m7, rfl⟩, hls⟩
        repeat wtm_at "w"
        with_reducible refine ev_callG O 9 (by with_unfolding_all rfl) (by with_reducible rfl) (g_lawset _) (by with_unfolding_all rfl) ?_ (hd := by decide +kernel) (hpl := by intro _ _; with_unfolding_all rfl)
        repeat wtm_at "w"
        refine recu (i + 1) (.sgn c) (held ++ [c]) O (by wtm_at "li") h1 (by simp; lia) fun p hp => ?_
        repeat wtm_at "w"
        exact ⟨by rw [hls, ← h2]; exact hp, rfl⟩
theorem cl_lawset (w : World) (t : List Nat) (hz : t.length ≤ 90) (n : Nat) : ∀ (i : Nat) (la : Pl.La) (held : List Nat), t.length - i ≤ n → i ≤ t.length → held.length + 20 * (t.length - i) ≤ 4000 →
    Cl true (.ref 355) [.str t, .int i, .str la.str, .str held] [] (n + 3) (fun p l => setQ t (Pl.lawSet (t.drop i) la held) p ∧ l = []) w := by
  induction n with
  | zero => intro i la held a b c; exact cl_lawset_step w t hz 0 i la held a b c fun m h => nomatch h
  | succ n ih =>
    intro i la held a b c
    refine cl_lawset_step w t hz (n + 1) i la held a b c fun m h => ?_
    obtain rfl : n = m := Nat.succ.inj h
    exact ih
end
/- C22 -/
section
open PySem PySem.W PySem.Calls PyProof.Rows Mine
set_option maxHeartbeats 8000000
noncomputable def itPV : Pl.It → PV
  | .star => .tup [.str [42], .val (.bool false), .str []]
  | .one => .tup [.str [63], .val (.bool false), .str []]
  | .set t h => .tup [.str (Pl.cc "set"), .val (.bool t), .str h]
noncomputable def irPV : Option (List Pl.It) → PV
  | none => .val .none
  | some l => .lst (l.map itPV)
theorem omapI {o : Option (List Pl.It)} (a : List Pl.It) (b : Pl.It) : (o.map (b :: ·)).map (a ++ ·) = o.map ((a ++ [b]) ++ ·) := by cases o <;> simp
theorem ex_mid3 {x : Act} {cs : Scope} {E : Er} {q : Q} {Qf : Out → Q → Prop} {st rest} (S : Q → Prop) (h : Ex x cs st q (Mid S Qf) E) (hr : ∀ q', S q' → Exs x cs rest q' Qf E) : Ex x cs st q (Cont x cs rest Qf E) E := fun hid g s R =>
  df_k (h hid g s R) fun f s' g' o q' a b c d => ⟨g', o, q', a, b, c, by cases o <;> first | exact hr _ d | exact d⟩
theorem cc33 : Pl.cc "!" = [33] := by kernel_rfl
theorem cc94 : Pl.cc "^" = [94] := by kernel_rfl
theorem cc42 : Pl.cc "*" = [42] := by kernel_rfl
theorem cc63 : Pl.cc "?" = [63] := by kernel_rfl
theorem cc0 : Pl.cc "" = [] := by kernel_rfl
theorem negS (r : List Nat) : ([[33], [94]] : List (List Nat)).any (· == r.take 1) = Pl.isNeg r := by
  cases r with
  | nil => rfl
  | cons c r =>
    show ([33] == [c] || ([94] == [c] || false)) = _
    simp only [Pl.isNeg, List.head?_cons]
    rw [Bool.eq_iff_iff]; simp
    constructor <;> (intro h; rcases h with h | h <;> simp [h])
inductive rdE (t : List Nat) (d : Addr) (q' : Q) : Prop where
  | mk (j so tu fo its) (h1_0 : q' = ⟨[some (.str t), some (.val (.ref d)), j, so, tu, fo, none, none], [(d, .lst (its.map itPV))]⟩) (h2_1 : Pl.lawRead t = some its) : rdE t d q'
inductive rdI (t : List Nat) (d : Addr) (n : Nat) (q' : Q) : Prop where
  | mk (j : Nat) (so tu fo its) (h2_0 : q' = ⟨[some (.str t), some (.val (.ref d)), some (.int j), so, tu, fo, none, none], [(d, .lst (its.map itPV))]⟩) (h3_1 : (Pl.lawRead (t.drop j)).map (its ++ ·) = Pl.lawRead t) (h4_2 : its.length ≤ j) (h5_3 : j ≤ t.length) (h6_4 : n = t.length - j) : rdI t d n q'
inductive rdB (t : List Nat) (d : Addr) (tu : Option PV) (fo : Option PV) (its : List Pl.It) (j : Nat) (q' : Q) : Prop where
  | mk (k : Nat) (u) (h2_0 : q' = ⟨[some (.str t), some (.val (.ref d)), some (.int k), some (.str [u]), tu, fo, none, none], [(d, .lst (its.map itPV))]⟩) (h3_1 : (Pl.lawRead (t.drop k)).map ((its ++ [.set false [u]]) ++ ·) = Pl.lawRead t) (h4_2 : j < k) (h5_3 : k ≤ t.length) : rdB t d tu fo its j q'
theorem cl_lawread (w : World) (t : List Nat) (hz : t.length ≤ 90) :
    Cl true (.ref 362) [.str t] [] 100 (fun p l => p = irPV (Pl.lawRead t) ∧ l = []) w := by
  refine cl_defC (ps := ["text"]) (by rfl) (by conv => lhs; whnf) (by conv => lhs; whnf) (by kernel_rfl) ?hb rfl (by decide +kernel) ?hloc (by decide +kernel) (by decide +kernel) (by decide +kernel) rfl rfl rfl (m₀ := [some (.str t), none, none, none, none, none, none, none]) (by kernel_rfl) ?body (by wtm_at "li")
  case hb =>
    intro s vals X hl
    obtain ⟨a, rfl⟩ := vlist1 hl
    exact .of_eq (by kernel_rfl)
  case hloc => decide +kernel
  case body =>
    intro y L hw O W hn hr hcl K0 hKr hKn
    subst hw
    have hh := O.hand (hn rfl)
    refine exs_led [] (by kernel_rfl) ?_
    refine xs_st (ex_asg (hs := by rfl) O 1 rfl (by with_reducible rfl) (ev_lstM (evs_nil ⟨by simp, fun d => co_nxt ?_⟩)))
    repeat wtm_at "w"
    with_reducible refine ex_mid3 (rdE t d) ?_ ?_
    · refine ex_whileK noE noE_pass (rdI t d) ?_ _ ⟨0, none, none, none, [], rfl, by simp, by simp, by lia, rfl⟩
      rintro n q' ⟨j, so, tu, fo, its, rfl, hR, hil, hjl, rfl⟩ K1 hN1 hC1 hB1 hR1
      repeat wtm_at "w"
      cases e : t.drop j with
      | nil =>
        have : t.length ≤ j := drop_nil_le e
        with_reducible refine ite_f (by wtm_at "tt") ?_
        rw [e, Pl.lr_nil] at hR
        exact ⟨_, _, _, _, its, rfl, by rw [← hR]; simp⟩
      | cons c r =>
        obtain ⟨h1, h2⟩ := drop_lt' e
        rw [e] at hR
        have hlm : (its.map itPV).length ≤ 100000 := by simp; lia
        have hrl : r.length = t.length - (j + 1) := by have := congrArg List.length h2; simp at this; lia
        have fin : ∀ (k : Nat) (it : Pl.It) so' tu' fo', (Pl.lawRead (t.drop k)).map ((its ++ [it]) ++ ·) = Pl.lawRead t → j < k → k ≤ t.length → ∃ m, m < t.length - j ∧ rdI t d m ⟨[some (.str t), some (.val (.ref d)), some (.int k), so', tu', fo', none, none], [(d, .lst (its.map itPV ++ [itPV it]))]⟩ :=
          fun k it so' tu' fo' h1 h2 h3 => ⟨t.length - k, by lia, k, _, _, _, its ++ [it], by rw [List.map_append]; rfl, h1, by simp; lia, h3, rfl⟩
        with_reducible refine ite_t (by wtm_at "tt") ?_
        refine xs_st ?_
        repeat wtm_at "e"
        refine item_at (hs := by intro _ _; with_unfolding_all rfl) (ht := by intro _ _; with_unfolding_all rfl) e rfl (by wtm_at "li") ?_
        repeat wtm_at "e"
        with_reducible refine co_nxt ?_
        refine xs_st ?_
        repeat wtm_at "e"
        with_reducible refine co_nxt ?_
        refine xs_st ?_
        repeat wtm_at "e"
        rw [cc91, one_beq]
        by_cases h91 : c = 91
        · subst h91
          with_reducible refine ite_t (by decide) ?_
          refine xs_st ?_
          repeat wtm_at "e"
          rw [cc33, cc94]
          refine op_inTS (ls := [[33], [94]]) ?_
          rw [show cut t (some ((j : Int) + 1)) (some ((j : Int) + 1 + 1)) = r.take 1 from by rw [cutS (i := j + 1) (k := 1) (by wtm_at "li") (by wtm_at "li"), h2], negS]
          repeat wtm_at "w"
          with_reducible refine ev_callG O 7 (by with_unfolding_all rfl) (by with_reducible rfl) (g_lawset _) (by with_unfolding_all rfl) ?_ (hd := by decide +kernel) (hpl := by intro _ _; with_unfolding_all rfl)
          repeat wtm_at "w"
          refine op_addb ?_
          repeat wtm_at "w"
          have hnl : Pl.isNeg r = true → j + 2 ≤ t.length := fun h => by
            cases r with
            | nil => cases h
            | cons c2 r2 => exact (drop_lt' h2).1
          have hd2 : t.drop (if Pl.isNeg r = true then j + 2 else j + 1) = if Pl.isNeg r = true then r.tail else r := by
            split
            · have h9 : t.drop (j + 1 + 1) = r.tail := by rw [← List.drop_drop, h2, List.drop_one]
              exact h9
            · exact h2
          have hi2 : j < (if Pl.isNeg r = true then j + 2 else j + 1) ∧ (if Pl.isNeg r = true then j + 2 else j + 1) ≤ t.length := by
            split
            · rename_i h; have := hnl h; lia
            · lia
          have hint : (j : Int) + 1 + (if Pl.isNeg r = true then (1 : Int) else 0) = ((if Pl.isNeg r = true then j + 2 else j + 1 : Nat) : Int) := by split <;> lia
          rw [hint, cc0]
          have hss := fun h => Pl.lr_setn (r := r) h
          have hst := fun hh rr (h : Pl.lawSet (if Pl.isNeg r = true then r.tail else r) .beg [] = some (hh, rr)) => Pl.lr_set (r := r) h
          rw [← hd2] at hss hst
          have hsl := fun hh rr (h : Pl.lawSet (t.drop (if Pl.isNeg r = true then j + 2 else j + 1)) .beg [] = some (hh, rr)) => Pl.ls_len _ _ (Nat.le_refl _) _ _ _ _ h
          generalize (if Pl.isNeg r = true then j + 2 else j + 1) = i2 at *
          refine call_pure (cl_lawset y.w t hz (t.length - i2) i2 .beg [] (Nat.le_refl _) hi2.2 (by simp; lia)) O hn (by wtm_at "li") ?_
          rintro p l ⟨hq, rfl⟩
          cases hl : Pl.lawSet (t.drop i2) .beg [] with
          | none =>
            rw [hl] at hq
            have hq' : p = .val .none := hq
            subst hq'
            repeat wtm_at "w"
            exact ⟨[], _, .refl _, by rw [← hR, hss hl]; rfl, rfl⟩
          | some hr =>
            obtain ⟨hh', r'⟩ := hr
            rw [hl] at hq
            obtain ⟨k, rfl, hk1, hk2⟩ := hq
            have hsl' := hsl _ _ hl
            rw [hst _ _ hl, omapI] at hR
            have hkl : j < k := by
              have := congrArg List.length hk1
              simp at this hsl'; lia
            repeat wtm_at "w"
            with_reducible refine ev_append O ?_ _ (by intro _; with_unfolding_all rfl) (by intro _; with_unfolding_all rfl) (by intro _ _; with_unfolding_all rfl)
            repeat wtm_at "w"
            refine ⟨d, _, rfl, .head _, ?_⟩
            repeat wtm_at "w"
            refine op_itemT (hs := by intro _ _; with_unfolding_all rfl) (ht := by intro _ _; with_unfolding_all rfl) (p := .str hh') (by simp) (by simp) rfl ?_
            repeat wtm_at "w"
            refine ⟨0, _, rfl, hlm, ?_⟩
            repeat wtm_at "w"
            refine op_itemT (hs := by intro _ _; with_unfolding_all rfl) (ht := by intro _ _; with_unfolding_all rfl) (p := .int k) (by simp) (by simp) rfl ?_
            repeat wtm_at "w"
            exact fin k (.set (Pl.isNeg r) hh') _ _ _ (by rw [hk1]; exact hR) hkl hk2
        with_reducible refine ite_f (by wtm_at "tt") ?_
        refine xs_st (ex_if (tsb (decide (c = 42 ∨ c = 63)) ?_ ?_))
        · repeat wtm_at "e"
          rw [cc42, one_beq]
          with_reducible refine br_ite (fun h3 => ?_) (fun h3 => ?_)
          · exact ⟨by simp at h3 ⊢; exact .inl h3, rfl⟩
          · repeat wtm_at "e"
            rw [cc63, one_beq]
            with_reducible refine br_ite (fun h4 => ?_) (fun h4 => ?_)
            · exact ⟨by simp at h4 ⊢; exact .inr h4, rfl⟩
            · repeat wtm_at "e"
              exact ⟨by simp at h3 h4 ⊢; exact ⟨h3, h4⟩, rfl⟩
        by_cases hs : c = 42 ∨ c = 63
        · with_reducible refine ite_t (decide_eq_true hs) ?_
          repeat wtm_at "w"
          with_reducible refine ev_append O ?_ _ (by intro _; with_unfolding_all rfl) (by intro _; with_unfolding_all rfl) (by intro _ _; with_unfolding_all rfl)
          repeat wtm_at "w"
          refine ⟨d, _, rfl, .head _, ?_⟩
          repeat wtm_at "w"
          rw [cc0]
          refine ⟨0, _, rfl, hlm, ?_⟩
          repeat wtm_at "w"
          rcases hs with rfl | rfl
          · rw [Pl.lr_star, omapI] at hR
            exact fin (j + 1) .star _ _ _ (by rw [h2]; exact hR) (by wtm_at "li") h1
          · rw [Pl.lr_one, omapI] at hR
            exact fin (j + 1) .one _ _ _ (by rw [h2]; exact hR) (by wtm_at "li") h1
        with_reducible refine ite_f (decide_eq_false hs) ?_
        refine xs_mid (rdB t d tu fo its j) ?_ ?_
        · refine ex_if (tsb (decide (c = 92 ∧ r ≠ [])) ?_ ?_)
          · repeat wtm_at "e"
            rw [cc92, one_beq]
            with_reducible refine br_ite (fun h3 => ?_) (fun h3 => ?_)
            · have h92 : c = 92 := by simpa using h3
              subst h92
              repeat wtm_at "e"
              cases r with
              | nil => with_reducible refine ite_f (by simp; simp at hrl; lia) ?_; exact ⟨by simp, rfl⟩
              | cons d2 r' => with_reducible refine ite_t (by simp; simp at hrl; lia) ?_; repeat wtm_at "e"
                              exact ⟨by simp, rfl⟩
            · exact ⟨by simp at h3 ⊢; intro h; exact absurd h h3, rfl⟩
          by_cases h92 : c = 92 ∧ r ≠ []
          · with_reducible refine ite_t (decide_eq_true h92) ?_
            obtain ⟨rfl, hr0⟩ := h92
            cases r with
            | nil => exact absurd rfl hr0
            | cons d2 r' =>
              obtain ⟨h5, h6⟩ := drop_lt' h2
              repeat wtm_at "w"
              refine item_at (hs := by intro _ _; with_unfolding_all rfl) (ht := by intro _ _; with_unfolding_all rfl) h2 (by wtm_at "li") (by wtm_at "li") ?_
              repeat wtm_at "w"
              rw [Pl.lr_esc, omapI] at hR
              exact ⟨j + 2, d2, rfl, by rw [show t.drop (j + 2) = r' from h6]; exact hR, by lia, h5⟩
          · with_reducible refine ite_f (decide_eq_false h92) ?_
            repeat wtm_at "w"
            rw [Pl.lr_else h91 (fun h => hs (.inl h)) (fun h => hs (.inr h)) h92, omapI] at hR
            exact ⟨j + 1, c, rfl, by rw [h2]; exact hR, by lia, h1⟩
        rintro q' ⟨k, u, rfl, hR2, hk1, hk2⟩
        repeat wtm_at "w"
        with_reducible refine ev_append O ?_ _ (by intro _; with_unfolding_all rfl) (by intro _; with_unfolding_all rfl) (by intro _ _; with_unfolding_all rfl)
        repeat wtm_at "w"
        refine ⟨d, _, rfl, .head _, ?_⟩
        repeat wtm_at "w"
        refine ⟨0, _, rfl, hlm, ?_⟩
        repeat wtm_at "w"
        exact fin k (.set false [u]) _ _ _ hR2 hk1 hk2
    rintro q' ⟨j, so, tu, fo, its, rfl, hR⟩
    refine xs_freeze d (its.map itPV) (m' := [some (.str t), some (.lst (its.map itPV)), j, so, tu, fo, none, none]) (led' := []) (.refl _) ?_ ?_
    · intro k p e
      match k with
      | 1 => right; cases e; exact ⟨rfl, rfl⟩
      | 0 | 2 | 3 | 4 | 5 | 6 | 7 => left; exact e
      | k + 8 => cases e
    repeat wtm_at "w"
    exact ⟨[], [], .refl _, by rw [hR]; rfl, rfl⟩
end
/- C23 -/
section
open PySem PySem.W PySem.Calls PyProof.Rows Mine
set_option maxHeartbeats 8000000
theorem cc_set : Pl.cc "set" = [115, 101, 116] := by kernel_rfl
theorem g_fits (w : World) : nsIn (KP w.params) mainGlobals "_law_fits" = some (some (.ref 369)) := by kernel_rfl
theorem cl_lawfits_step (w : World) (n : Nat) (its : List Pl.It) (nm : List Nat) (hn0 : its.length + nm.length ≤ n) (hn2 : n ≤ 200)
    (ih : ∀ m, n = m + 1 → ∀ (its' : List Pl.It) (nm' : List Nat), its'.length + nm'.length ≤ m → m ≤ 200 → Cl true (.ref 369) [.lst (its'.map itPV), .str nm'] [] (m + 2) (fun p l => p = .val (.bool (Pl.fits its' nm')) ∧ l = []) w) :
    Cl true (.ref 369) [.lst (its.map itPV), .str nm] [] (n + 2) (fun p l => p = .val (.bool (Pl.fits its nm)) ∧ l = []) w := by
    refine cl_def (dargs := []) (dvals := []) (ps := ["items", "name"]) (by rfl) (by conv => lhs; whnf) (by conv => lhs; whnf) (by kernel_rfl) ?hb (fun _ => isL_nil.mpr rfl) rfl (by decide +kernel) ?hloc (by decide +kernel) (by decide +kernel) rfl rfl rfl (m₀ := [some (.lst (its.map itPV)), some (.str nm), none, none, none, none]) (by kernel_rfl) ?body (by wtm_at "li")
    case hb =>
      intro s vals X hl
      obtain ⟨a, b, rfl⟩ := vlist2 hl
      exact .of_eq (by kernel_rfl)
    case hloc => decide +kernel
    case body =>
      intro y hw O hn hr hcl K0 hKr hKn
      subst hw
      have hh := O.hand (hn rfl)
      have hzl : (its.map itPV).length ≤ 16777216 := by simp; lia
      cases its with
      | nil =>
        repeat wtm_at "w"
        rw [cc0]
        exact ⟨by cases nm <;> simp [Pl.fits, Pl.starF], rfl⟩
      | cons it its =>
        have hl1 : its.length + 1 + nm.length ≤ n := by simpa using hn0
        obtain ⟨m, rfl⟩ : ∃ m, n = m + 1 := ⟨n - 1, by lia⟩
        have recu : ∀ {cs : Scope} {mm : List (Option PV)} {Qn : PV → Q → Prop} (its' : List Pl.It) (nm' : List Nat), y.Ok cs → its'.length + nm'.length ≤ m → Qn (.val (.bool (Pl.fits its' nm'))) ⟨mm, []⟩ →
            CallR y cs (.ref 369) [.lst (its'.map itPV), .str nm'] ⟨mm, []⟩ Qn noE := fun its' nm' O' h1 h2 => by
          refine call_pure (ih m rfl its' nm' h1 (by wtm_at "li")) O' hn (by wtm_at "li") ?_
          rintro p l ⟨rfl, rfl⟩
          exact h2
        have hzl' : ∀ p, (p :: its.map itPV).length ≤ 16777216 := fun p => by simp; lia
        have cl1 : ∀ p, cut (p :: its.map itPV) (some 1) none = its.map itPV := by
          intro p
          have : clipAt (its.length + 1) 1 = 1 := by unfold clipAt; rw [if_neg (by decide)]; lia
          simp [cut, this, List.take_of_length_le]
        have cn1 : ∀ (c : Nat) (r : List Nat), cut (c :: r) (some 1) none = r := by
          intro c r
          have : clipAt (r.length + 1) 1 = 1 := by unfold clipAt; rw [if_neg (by decide)]; lia
          simp [cut, this]
        have hzl : ∀ p, (p :: its.map itPV).length ≤ 16777216 := fun p => by simp at hzl ⊢; lia
        rw [List.map_cons]
        repeat wtm_at "w"
        refine op_itemL (hs := by intro _ _; with_unfolding_all rfl) (ht := by intro _ _; with_unfolding_all rfl) (p := itPV it) (hzl' _) (by simp) rfl ?_
        have hnml : nm.length ≤ 200 := by lia
        cases it with
        | star =>
          have hz2 : (itPV .star :: its.map itPV) = (Pl.It.star :: its).map itPV := rfl
          rw [show itPV .star = PV.tup [.str [42], .val (.bool false), .str []] from rfl]
          repeat wtm_at "e"
          with_reducible refine co_nxt ?_
          refine xs_st ?_
          repeat wtm_at "e"
          try rw [cc42]
          try (with_reducible refine ite_t (by decide) ?_)
          repeat wtm_at "w"
          with_reducible refine ev_callG O 5 (by with_unfolding_all rfl) (by with_reducible rfl) (g_fits _) (by with_unfolding_all rfl) ?_ (hd := by decide +kernel) (hpl := by intro _ _; with_unfolding_all rfl)
          with_reducible refine evs_cons ?_ (by intro _; with_unfolding_all rfl)
          with_reducible refine ev_slc "list" F.slot_list_getitem.lookup ?_ (by intro _ _; with_unfolding_all rfl)
          repeat wtm_at "w"
          refine sl_lst (hzl' _) ?_
          rw [cl1]
          repeat wtm_at "w"
          refine recu its nm O (by wtm_at "li") ?_
          repeat wtm_at "w"
          with_reducible refine br_ite (fun h1 => ?_) (fun h1 => ?_)
          · repeat wtm_at "w"
            exact ⟨by cases nm <;> simp [Pl.fits, Pl.starF, h1], rfl⟩
          · repeat wtm_at "w"
            try rw [cc0]
            cases nm with
            | nil =>
              try (with_reducible refine ite_f (by decide) ?_)
              repeat wtm_at "w"
              exact ⟨by simp [Pl.fits, Pl.starF, h1], rfl⟩
            | cons c r =>
              try (with_reducible refine ite_t (by rfl) ?_)
              repeat wtm_at "w"
              with_reducible refine ev_callG O 5 (by with_unfolding_all rfl) (by with_reducible rfl) (g_fits _) (by with_unfolding_all rfl) ?_ (hd := by decide +kernel) (hpl := by intro _ _; with_unfolding_all rfl)
              repeat wtm_at "w"
              rw [cn1]
              refine recu (.star :: its) r O (by simp at hl1 ⊢; lia) ?_
              repeat wtm_at "w"
              exact ⟨by simp [Pl.fits, Pl.starF, h1], rfl⟩
        | one =>
          rw [show itPV .one = PV.tup [.str [63], .val (.bool false), .str []] from rfl]
          repeat wtm_at "e"
          with_reducible refine co_nxt ?_
          refine xs_st ?_
          repeat wtm_at "e"
          try rw [cc42]
          try (with_reducible refine ite_f (by decide) ?_)
          repeat wtm_at "w"
          try rw [cc0]
          cases nm with
          | nil =>
            try (with_reducible refine ite_t (by decide) ?_)
            repeat wtm_at "w"
            exact ⟨by simp [Pl.fits, Pl.starF], rfl⟩
          | cons c r =>
            try (with_reducible refine ite_f (by rfl) ?_)
            repeat wtm_at "w"
            try rw [cc_set]
            try (with_reducible refine ite_f (by decide) ?_)
            repeat wtm_at "w"
            with_reducible refine ev_callG O 5 (by with_unfolding_all rfl) (by with_reducible rfl) (g_fits _) (by with_unfolding_all rfl) ?_ (hd := by decide +kernel) (hpl := by intro _ _; with_unfolding_all rfl)
            with_reducible refine evs_cons ?_ (by intro _; with_unfolding_all rfl)
            with_reducible refine ev_slc "list" F.slot_list_getitem.lookup ?_ (by intro _ _; with_unfolding_all rfl)
            repeat wtm_at "w"
            refine sl_lst (hzl' _) ?_
            rw [cl1]
            repeat wtm_at "w"
            rw [cn1]
            refine recu its r O (by simp at hl1 ⊢; lia) ?_
            repeat wtm_at "w"
            exact ⟨by simp [Pl.fits, Pl.starF], rfl⟩
        | set tu he =>
          rw [show itPV (.set tu he) = PV.tup [.str (Pl.cc "set"), .val (.bool tu), .str he] from rfl]
          repeat wtm_at "e"
          with_reducible refine co_nxt ?_
          refine xs_st ?_
          repeat wtm_at "e"
          try rw [cc42]
          try (with_reducible refine ite_f (by decide) ?_)
          repeat wtm_at "w"
          try rw [cc0]
          cases nm with
          | nil =>
            try (with_reducible refine ite_t (by decide) ?_)
            repeat wtm_at "w"
            exact ⟨by simp [Pl.fits, Pl.starF], rfl⟩
          | cons c r =>
            try (with_reducible refine ite_f (by rfl) ?_)
            repeat wtm_at "w"
            refine item_at (hs := by intro _ _; with_unfolding_all rfl) (ht := by intro _ _; with_unfolding_all rfl) (i := 0) (c := c) (r := r) rfl rfl (by simp at hl1 ⊢; lia) ?_
            repeat wtm_at "w"
            refine op_inS ?_
            repeat wtm_at "w"
            refine op_eqbb ?_
            repeat wtm_at "w"
            have rest : True := trivial
            with_reducible refine br_ite (fun h1 => ?_) (fun h1 => ?_)
            · repeat wtm_at "w"
              exact ⟨by simp [Pl.fits, Pl.starF]; intro h; simp at h1; simp_all, rfl⟩
            · repeat wtm_at "w"
              with_reducible refine ev_callG O 5 (by with_unfolding_all rfl) (by with_reducible rfl) (g_fits _) (by with_unfolding_all rfl) ?_ (hd := by decide +kernel) (hpl := by intro _ _; with_unfolding_all rfl)
              with_reducible refine evs_cons ?_ (by intro _; with_unfolding_all rfl)
              with_reducible refine ev_slc "list" F.slot_list_getitem.lookup ?_ (by intro _ _; with_unfolding_all rfl)
              repeat wtm_at "w"
              refine sl_lst (hzl' _) ?_
              rw [cl1]
              repeat wtm_at "w"
              rw [cn1]
              refine recu its r O (by simp at hl1 ⊢; lia) ?_
              repeat wtm_at "w"
              exact ⟨by simp [Pl.fits, Pl.starF]; intro h; simp at h1; simp_all, rfl⟩
theorem cl_lawfits (w : World) (n : Nat) : ∀ (its : List Pl.It) (nm : List Nat), its.length + nm.length ≤ n → n ≤ 200 →
    Cl true (.ref 369) [.lst (its.map itPV), .str nm] [] (n + 2) (fun p l => p = .val (.bool (Pl.fits its nm)) ∧ l = []) w := by
  induction n with
  | zero => intro its nm a b; exact cl_lawfits_step w 0 its nm a b fun m h => nomatch h
  | succ n ih =>
    intro its nm a b
    refine cl_lawfits_step w (n + 1) its nm a b fun m h => ?_
    obtain rfl : n = m := Nat.succ.inj h
    exact ih
end
/- C24 -/
section
open PySem PySem.W PySem.Calls PyProof.Rows Mine
set_option maxHeartbeats 8000000
theorem op_turn {x : Act} {cs : Scope} {E : Er} {q : Q} {Qn : PV → Q → Prop} {value slice : Expr} {a b : PV} (h : Op2 x cs (subscriptTail (.Name (Str.ofString "x") default) slice) a b q Qn E) : Op2 x cs (subscriptTail value slice) a b q Qn E := fun hid g s u v R i j =>
  kba_turn (value' := .Name (Str.ofString "x") default) (fun _ => rfl) (h hid g s u v R i j)
noncomputable def stPV (ns : List Int) (place seed : Nat) : List PV := [.lst (ns.map .int), .int place, .int seed]
theorem cl_lawnext (w : World) (d : Addr) (ns : List Int) (hns : ns.length ≤ 63) (place seed size : Nat) (hp : place ≤ 100) (hs : seed < 997) (hz : 0 < size) (hz2 : size ≤ 100) :
    Cl true (.ref 331) [.val (.ref d), .int size] [(d, .lst (stPV ns place seed))] 1 (fun p l => (∃ r : Nat, r < size ∧ p = .int r) ∧ l = [(d, .lst (stPV ns (place + 1) seed))]) w := by
  refine cl_def (dargs := []) (dvals := []) (ps := ["state", "size"]) (by rfl) (by conv => lhs; whnf) (by conv => lhs; whnf) (by kernel_rfl) ?hb (fun _ => isL_nil.mpr rfl) rfl (by decide +kernel) ?hloc (by decide +kernel) (by decide +kernel) rfl rfl rfl (m₀ := [some (.val (.ref d)), some (.int size), none, none, none]) (by kernel_rfl) ?body (by wtm_at "li")
  case hb =>
    intro s vals X hl
    obtain ⟨a, b, rfl⟩ := vlist2 hl
    exact .of_eq (by kernel_rfl)
  case hloc => decide +kernel
  case body =>
    intro y hw O hn hr hcl K0 hKr hKn
    subst hw
    have hh := O.hand (hn rfl)
    have hfm : ∀ x : Int, ∃ r : Nat, r < size ∧ x.fmod (size : Int) = r := fun x => by
      have h1 := Int.fmod_nonneg_of_pos x (show (0 : Int) < size by lia)
      have h2 := Int.fmod_lt_of_pos x (show (0 : Int) < size by lia)
      exact ⟨(x.fmod size).toNat, by lia, by lia⟩
    have hlm : (ns.map PV.int).length ≤ 16777216 := by simp; lia
    repeat wtm_at "w"
    refine op_itemM (hs := by intro _ _; with_unfolding_all rfl) (ht := by intro _ _; with_unfolding_all rfl) (d := d) (xs := stPV ns place seed) (p := .int place) (List.Mem.head _) (by simp [stPV]) (by wtm_at "li") rfl ?_
    repeat wtm_at "e"
    with_reducible refine co_nxt ?_
    refine xs_st (ex_asgSub (hs := by rfl) ?_)
    repeat wtm_at "w"
    refine setI_at (xs := stPV ns place seed) 0 rfl (by simp [stPV]) 1 (by simp [stPV]) (by simp [stPV, seqIndex?]) (by decide) (by decide) ?_
    rw [show (stPV ns place seed).set 1 (PV.int ((place : Int) + 1)) = stPV ns (place + 1) seed from rfl]
    repeat wtm_at "w"
    refine op_itemM (hs := by intro _ _; with_unfolding_all rfl) (ht := by intro _ _; with_unfolding_all rfl) (d := d) (xs := stPV ns (place + 1) seed) (p := .lst (ns.map .int)) (List.Mem.head _) (by simp [stPV]) (by wtm_at "li") rfl ?_
    repeat wtm_at "w"
    with_reducible refine br_ite (fun h1 => ?_) (fun h1 => ?_)
    · have h2 : place < ns.length := by simp at h1; lia
      repeat wtm_at "w"
      refine op_itemM (hs := by intro _ _; with_unfolding_all rfl) (ht := by intro _ _; with_unfolding_all rfl) (d := d) (xs := stPV ns (place + 1) seed) (p := .lst (ns.map .int)) (List.Mem.head _) (by simp [stPV]) (by wtm_at "li") rfl ?_
      repeat wtm_at "w"
      refine op_turn ?_
      refine op_itemL (hs := by intro _ _; with_unfolding_all rfl) (ht := by intro _ _; with_unfolding_all rfl) (p := .int ns[place]) hlm (by wtm_at "li") (by simp [h2]) ?_
      repeat wtm_at "w"
      refine call_abs ?_
      repeat wtm_at "w"
      refine op_mod (by wtm_at "li") ?_
      repeat wtm_at "w"
      obtain ⟨r, hr1, hr2⟩ := hfm (if ns[place] < 0 then -ns[place] else ns[place])
      exact ⟨⟨r, hr1, by rw [hr2]⟩, rfl⟩
    · repeat wtm_at "w"
      refine op_itemM (hs := by intro _ _; with_unfolding_all rfl) (ht := by intro _ _; with_unfolding_all rfl) (d := d) (xs := stPV ns (place + 1) seed) (p := .int seed) (List.Mem.head _) (by simp [stPV]) (by wtm_at "li") rfl ?_
      repeat wtm_at "w"
      refine op_mul (.of_right (by decide +kernel)) ?_
      repeat wtm_at "w"
      refine op_mod (by wtm_at "li") ?_
      repeat wtm_at "w"
      have hm1 : ((place : Int).fmod 3) = ((place % 3 : Nat) : Int) := by rw [Int.fmod_eq_emod_of_nonneg _ (by decide)]; rfl
      rw [hm1]
      refine op_fdiv (by wtm_at "li") ?_ ?_
      · have h3 : place % 3 < 3 := Nat.mod_lt _ (by decide)
        unfold Builtin.divisionGoesByPylong
        have h4 : ∀ k : Nat, k < 3 → (decide ((if ((1 : Int) + (k : Nat)) == 0 then 0 else ((1 : Int) + (k : Nat)).natAbs.log2 / 30 + 1) > 300)) = false := by decide +kernel
        have := h4 _ h3
        dsimp only
        rw [this]; rfl
      repeat wtm_at "w"
      refine op_mod (by wtm_at "li") ?_
      repeat wtm_at "w"
      obtain ⟨r, hr1, hr2⟩ := hfm (((seed : Int) + (place : Int) * 13).fdiv (1 + ((place % 3 : Nat) : Int)))
      exact ⟨⟨r, hr1, by rw [hr2]⟩, rfl⟩
inductive stI (ns : List Int) (i : Nat) (ys : List PV) (led : List (Addr × MK)) : Prop where
  | mk (h0 : led = []) (h1 : ys = ((ns.take i).map fun n : Int => (if n < 0 then -n else n).fmod 997).map PV.int) : stI ns i ys led
theorem cl_lawstate (w : World) (ns : List Int) (hns : ns.length ≤ 63) :
    Cl true (.ref 336) [.lst (ns.map .int)] [] 1 (fun p l => ∃ d, p = .val (.ref d) ∧ ∃ (ns' : List Int) (seed : Nat), ns'.length ≤ 63 ∧ seed < 997 ∧ l = [(d, .lst (stPV ns' 0 seed))]) w := by
  refine cl_def (dargs := []) (dvals := []) (ps := ["script"]) (by rfl) (by conv => lhs; whnf) (by conv => lhs; whnf) (by kernel_rfl) ?hb (fun _ => isL_nil.mpr rfl) rfl (by decide +kernel) ?hloc (by decide +kernel) (by decide +kernel) rfl rfl rfl (m₀ := [some (.lst (ns.map .int)), none]) (by kernel_rfl) ?body (by wtm_at "li")
  case hb =>
    intro s vals X hl
    obtain ⟨a, rfl⟩ := vlist1 hl
    exact .of_eq (by kernel_rfl)
  case hloc => decide +kernel
  case body =>
    intro y hw O hn hr hcl K0 hKr hKn
    subst hw
    have hh := O.hand (hn rfl)
    have hlm : (ns.map PV.int).length ≤ 16777216 := by simp; lia
    refine xs_st (ex_ret (ev_lstM ?_))
    with_reducible refine evs_cons ?_ (by intro _; with_unfolding_all rfl)
    with_reducible refine ev_slc "list" F.slot_list_getitem.lookup ?_ (by intro _ _; with_unfolding_all rfl)
    repeat wtm_at "w"
    refine sl_lst hlm ?_
    repeat wtm_at "w"
    refine ev_compR (hs := by intro _; rfl) (ht := by intro _ _; rfl) { kind := .function, names := [(Str.ofString ".0", .local), (Str.ofString "number", .local), (Str.ofString "abs", .globalImplicit)], isGenerator := false, isCoroutine := false, more := [] } [] O (by kernel_rfl) ?_ (by rfl) (by decide +kernel) rfl (by decide +kernel) (by decide +kernel)
    repeat wtm_at "w"
    refine ⟨ns.map .int, _, [], stI ns, iter_lst hh, .refl _, by simp; lia, ⟨rfl, rfl⟩, ?tu, ?fi⟩
    case fi =>
      rintro ys led ⟨rfl, rfl⟩
      repeat wtm_at "w"
      refine call_sum hh ?_
      repeat wtm_at "w"
      refine op_mod (by decide) ?_
      repeat wtm_at "w"
      intro d
      repeat wtm_at "w"
      generalize (((ns.take (ns.map PV.int).length).map fun n : Int => (if n < 0 then -n else n).fmod 997).sum) = z
      have h1 := Int.fmod_nonneg_of_pos z (show (0 : Int) < 997 by decide)
      have h2 := Int.fmod_lt_of_pos z (show (0 : Int) < 997 by decide)
      have hc : cut (ns.map PV.int) none (some 60) = (ns.take 60).map PV.int := by
        have hcl : clipAt ns.length 60 = min 60 ns.length := by unfold clipAt; rw [if_neg (by decide)]; lia
        simp only [cut, Option.elim, List.length_map, hcl, List.drop_zero, Nat.sub_zero]
        by_cases h : 60 ≤ ns.length
        · rw [Nat.min_eq_left h, List.map_take]
        · rw [Nat.min_eq_right (by wtm_at "li"), List.take_of_length_le (by simp), List.take_of_length_le (by wtm_at "li")]
      exact ⟨d, rfl, ns.take 60, (z.fmod 997).toNat, by simp; lia, by lia, by rw [hc, stPV, Int.toNat_of_nonneg h1]; rfl⟩
    case tu =>
      rintro y2 hw2 O hr2 hn2 hh2 hcl2 D i el ys mm led hel ⟨rfl, rfl⟩ hm
      have hh := hh2.trans hh
      obtain ⟨v, hv, rfl⟩ := Option.map_eq_some_iff.mp ((List.getElem?_map ..).symm.trans hel)
      match mm, hm with
      | [m0, m1, m2], _ =>
        repeat wtm_at "w"
        refine call_abs ?_
        repeat wtm_at "w"
        refine op_mod (by decide) ?_
        repeat wtm_at "w"
        exact ⟨_, _, rfl, rfl, rfl, by rw [List.take_add_one, hv]; simp⟩
end
/- C25 -/
section
open PySem PySem.W PySem.Calls PyProof.Rows Mine
set_option maxHeartbeats 16000000
noncomputable def piecesL : List (List Nat) := ["[", "]", "!", "^", "-", "\\", "a", "b", "c", "0", "*", "?", "[:alpha:]", "[:digit:]", "[:bad:]", "[:", "z", "."].map Pl.cc
theorem g_pieces (w : World) : nsIn (KP w.params) mainGlobals "_law_pieces" = some (some (.ref 324)) := by kernel_rfl
theorem is_strs {g : G} : ∀ (l : List (String × Tok)), IsL g ((l.map fun p => Pl.cc p.1).map .str) (l.map fun p => .str (Str.ofString p.1) p.2)
  | [] => isL_nil.mpr rfl
  | p :: l => isL_cons.mpr ⟨_, _, rfl, is_str.mpr ⟨p.2, by show Value.str (Str.ofString p.1) p.2 = _; rw [Str.ofString_eq_toList]; rfl⟩, is_strs l⟩
theorem is_pieces (w : World) (g : G) (h : ∀ a o, (KP w.params).lookup a = some o → g a = some o) : Is g (.lst (piecesL.map .str)) (.ref 324) :=
  is_lst.mpr ⟨324, _, _, _, rfl, h 324 _ (by rfl), rfl, rfl, is_strs [("[", 698), ("]", 699), ("!", 700), ("^", 701), ("-", 702), ("\\", 703), ("a", 704), ("b", 705), ("c", 706), ("0", 707), ("*", 708), ("?", 709), ("[:alpha:]", 710), ("[:digit:]", 711), ("[:bad:]", 712), ("[:", 713), ("z", 714), (".", 715)]⟩
theorem call_clP {x : Act} {cs : Scope} {E : Er} {q : Q} {Qn : PV → Q → Prop} {b : Bool} {f : Value} {args : List PV} {fp rest : List (Addr × MK)} {need : Nat} {Qc : PV → List (Addr × MK) → Prop} (C : Cl b f args fp need Qc x.w) (O : x.Ok cs) (hb : b = true → x.hn = true) (hr : need ≤ x.r) (hp : q.led.Perm (fp ++ rest))
    (h : ∀ p fp', Qc p fp' → ∃ l', (fp' ++ rest).Perm l' ∧ Qn p ⟨q.m, l'⟩) : CallR x cs f args q Qn E := fun hid g s vs R il => by
  have R' : Rep x cs hid g ⟨q.m, fp ++ rest⟩ s := Rep.perm (l := q.led) R hp
  refine dn_k (wpAny_call (C x cs hid g q.m rest s vs E rfl O hb hr R' il)) fun v s' g' p q' a b c ⟨fp', e, d⟩ => ?_
  subst e
  obtain ⟨l', hpm, hq⟩ := h p fp' d
  exact ⟨g', p, _, a, b, c.perm hpm, hq⟩
theorem flat_len : ∀ (ps : List (List Nat)), (∀ p ∈ ps, p ∈ piecesL) → ps.flatten.length ≤ 9 * ps.length
  | [], _ => by simp
  | p :: ps, h => by
    have h1 := flat_len ps fun q hq => h q (.tail _ hq)
    have h2 : p.length ≤ 9 := of_decide_eq_true (List.all_eq_true.mp (show piecesL.all (fun p => decide (p.length ≤ 9)) = true by decide +kernel) p (h p (.head _)))
    rw [List.flatten_cons, List.length_append, List.length_cons]; lia
theorem call_lenM {x : Act} {cs : Scope} {E : Er} {q : Q} {Qn : PV → Q → Prop} {d : Addr} {xs : List PV} (hm : (d, MK.lst xs) ∈ q.led) (hz : xs.length ≤ 16777216) (h : Qn (.int (xs.length : Nat)) q) : CallR x cs (.builtin "len") [.val (.ref d)] q Qn E := fun hid g s vs R il => by
  obtain ⟨v, r, rfl, iv, il2⟩ := isL_cons.mp il
  rw [is_val.mp iv]
  have er := isL_nil.mp il2
  subst er
  obtain ⟨_, _, _, vs, o, n, ho, oc, od, odn, il'⟩ := R.led _ (List.mem_append_left _ hm)
  have hl' : vs.size = xs.length := by simpa using il'.length
  exact PyProof.Rows.len_list ⟨_, ho, oc, _, od⟩ (by wtm_at "li") (R.dn (is_int.mpr ⟨_, by rw [hl']⟩) h)
theorem get_patterns {x : Act} {cs : Scope} {E : Er} {q : Q} {Qn : PV → Q → Prop} {a d dl : Addr} {xs : List PV} {rest : List (Addr × MK)} (O : x.Ok cs) (hl : q.led = ifFp a d dl xs ++ rest) (hr : 2 ≤ x.r) (h : Qn (.val (.ref dl)) q) : Get x cs (.val (.ref a)) "patterns" q Qn E := by
  refine get_propL (b := false) (p := 302) (fget := 301) (fs := fsI dl) (d := d) (fp := ifFp a d dl xs) (rest := rest) (need := 1) O (plain319 _) (by kernel_rfl) (by kernel_rfl) (by kernel_rfl) (by rfl) (by rw [hl]; simp) (by rw [hl]; simp) (by rw [hl]) hr (fun h => by cases h) (cl_patterns x.w a d dl xs) ?_
  rintro r fp' ⟨rfl, rfl⟩
  refine ⟨⟨dl, rfl⟩, ?_⟩
  rw [← hl]; exact h
theorem cc97 : Pl.cc "a" = [97] := by kernel_rfl
theorem cc99 : Pl.cc "c" = [99] := by kernel_rfl
theorem cc92b : Pl.cc "\\" = [92] := by kernel_rfl
/- a text that the law builds -/
inductive Built (t : List Nat) : Prop where
  | mk (ps : List (List Nat)) (h1_0 : ps.length ≤ 7) (h2_1 : (∀ p ∈ ps, p ∈ piecesL)) (h3_2 : t = (if (97 :: ps.flatten).getLast? = some 92 then 97 :: ps.flatten ++ [99] else 97 :: ps.flatten)) : Built t
/- a name that the law builds -/
inductive Named (n : List Nat) : Prop where
  | mk (cs : List Nat) (h1_0 : cs.length ≤ 3) (h2_1 : (∀ c ∈ cs, c ∈ Pl.lawSigns)) (h3_2 : n = 97 :: cs) : Named n
structure LawOk : Prop where
  tok : ∀ t, Built t → TOk t
  low : ∀ t, Built t → ∀ c ∈ t, c < 128
  bad : ∀ t, Built t → Pl.lawRead t = none → Pl.ts t = none
  good : ∀ t its, Built t → Pl.lawRead t = some its → ¬ trX t ∧ its.length ≤ 100 ∧ ∃ parts r, ReOk t parts r ∧ ∀ name, Named name → ∃ res, EndsG (F1 name) parts [0] res ∧ res.length ≤ 10000 ∧ decide (0 < res.length) = Pl.fits its name
  zz : ∃ parts r, PatOk [122, 122] parts r ∧ (Pl.ts [122, 122]).isSome = true ∧ ¬ trX [122, 122]
theorem g_lawstate (w : World) : nsIn (KP w.params) mainGlobals "_law_state" = some (some (.ref 336)) := by kernel_rfl
theorem g_lawnext (w : World) : nsIn (KP w.params) mainGlobals "_law_next" = some (some (.ref 331)) := by kernel_rfl
theorem g_lawread (w : World) : nsIn (KP w.params) mainGlobals "_law_read" = some (some (.ref 362)) := by kernel_rfl
theorem g_IgnoreFilter (w : World) : nsIn (KP w.params) mainGlobals "IgnoreFilter" = some (some (.ref 319)) := by kernel_rfl
theorem meth_matches (w : World) : findIn (KP w.params) (.ref 233) "matches" = some (some (.ref 216)) := by kernel_rfl
theorem type_216 (w : World) : typeIn (KP w.params) (.ref 216) = some (.type "function") := by kernel_rfl
theorem keep_216 (w : World) : keepOk (KP w.params) (.ref 216) = true := by kernel_rfl
theorem names_no : Str.ofString "matches" ∉ [Str.ofString "_describes_contents", Str.ofString "_name_re", Str.ofString "_re", Str.ofString "is_empty", Str.ofString "is_directory_only", Str.ofString "is_exclude", Str.ofString "ignorecase", Str.ofString "pattern"] := by decide +kernel
theorem cs_flat (l : List Nat) : (l.map fun c => [c]).flatten = l := by
  induction l with
  | nil => rfl
  | cons a r ih => rw [List.map_cons, List.flatten_cons, ih]; rfl
@[reducible] noncomputable def lwA (ns : List Int) (ps : List (List Nat)) (ns' : List Int) (r : Nat) (seed : Nat) (L : Addr) (d : Addr) (q' : Q) : Prop := q' = ⟨[some (.lst (ns.map .int)), none, none, some (.str (if (97 :: ps.flatten).getLast? = some 92 then 97 :: ps.flatten ++ [99] else 97 :: ps.flatten)), none, none, none, none, none, none, none, none, none, none, none, none, none], [(d, .lst (stPV ns' (1 + r) seed)), (L + 1, .cell (.val (.ref d)))]⟩
@[reducible] noncomputable def lwB (ns : List Int) (t : List Nat) (its : List Pl.It) (fa : Addr) (pa : Addr) (q' : Q) : Prop := ∃ b2 b7 led, q' = ⟨[some (.lst (ns.map .int)), none, b2, some (.str t), some (.lst (its.map itPV)), some (.val (.ref fa)), some (.val (.ref pa)), b7, none, none, none, none, none, none, none, none, none], led⟩
inductive lwP (ns' : List Int) (seed : Nat) (L d : Addr) (i : Nat) (ys : List PV) (led : List (Addr × MK)) : Prop where
  | mk (h0 : led = [(d, .lst (stPV ns' (1 + i) seed)), (L + 1, .cell (.val (.ref d)))]) (ps : List (List Nat)) (h1 : ps.length = i) (h2 : ∀ p ∈ ps, p ∈ piecesL) (h3 : ys = ps.map .str) : lwP ns' seed L d i ys led
inductive lwN (ns' : List Int) (seed pl : Nat) (L d : Addr) (i : Nat) (ys : List PV) (led : List (Addr × MK)) : Prop where
  | mk (h0 : led = [(d, .lst (stPV ns' (pl + 1 + i) seed)), (L + 1, .cell (.val (.ref d)))]) (cs : List Nat) (h1 : cs.length = i) (h2 : ∀ c ∈ cs, c ∈ Pl.lawSigns) (h3 : ys = (cs.map fun c => [c]).map .str) : lwN ns' seed pl L d i ys led
inductive lwI (ns : List Int) (t : List Nat) (its : List Pl.It) (fa pa : Addr) (ns' : List Int) (seed : Nat) (L d : Addr) (PF : List (Addr × MK)) (p : PV) (i : Nat) (q' : Q) : Prop where
  | mk (ra : Addr) (tk1 tk2 tk3) (b2 b7 : Option PV) (pl : Nat) (h0 : p = .val (.ref ra)) (h1 : q' = ⟨[some (.lst (ns.map .int)), none, b2, some (.str t), some (.lst (its.map itPV)), some (.val (.ref fa)), some (.val (.ref pa)), b7, none, none, none, none, none, none, none, none, none], (ra, .raw (rangeObj (4 : Nat) tk1 tk2 tk3)) :: (d, .lst (stPV ns' pl seed)) :: (L + 1, .cell (.val (.ref d))) :: PF⟩) (h2 : pl ≤ 9 + 4 * i) : lwI ns t its fa pa ns' seed L d PF p i q'
theorem law_entry (w : World) (H : LawOk) (ns : List Int) (hns : ns.length ≤ 63) {s : Shared} {mg mb : Str → Option Value} {vals : List Value} (hkin : (KP w.params).In s.heap) (htop : TopRead hd.view_39 (looseW hd.view_39 looseS) mg mb s.heap) (hg : AllBare s.gens) (ia : IsL (fun b => s.heap.get? b) [.lst (ns.map .int)] vals) :
    codeAny (model PW w) callerA (.call (.ref 374) ⟨vals, []⟩) (fun r s' => match r with | .ok (.ret v) => ∃ g' p, Is g' p v ∧ p = .val (.bool true) ∧ (∀ b o, s.heap.get? b = some o → s'.heap.get? b = some o) ∧ s'.os = s.os ∧ s'.gens = s.gens | _ => False) s := by
  refine cl_entry (need := 120) (Qc := fun p => p = .val (.bool true)) (ps := ["script"]) (by rfl) (by conv => lhs; whnf) (by conv => lhs; whnf) (by kernel_rfl) ?hb rfl (by decide +kernel) ?hloc (by decide +kernel) (by decide +kernel) (by decide +kernel) rfl rfl rfl (m₀ := [some (.lst (ns.map .int)), none, none, none, none, none, none, none, none, none, none, none, none, none, none, none, none]) (by kernel_rfl) ?body (by wtm_at "li") hkin htop hg ia
  case hb =>
    intro s vals X hl
    obtain ⟨a, rfl⟩ := vlist1 hl
    exact .of_eq (by kernel_rfl)
  case hloc => decide +kernel
  case body =>
    intro y L hw O W hn hr hcl K0 hKr hKn
    subst hw
    have hh := O.hand (hn rfl)
    have hcl : y.cl = [(Str.ofString "state", L + 1)] := hcl.trans (by kernel_rfl)
    have c1 : y.cl.lookup (Str.ofString "state") = some (L + 1) := by rw [hcl]; kernel_rfl
    refine exs_led [(L + 1, .ecell)] (by kernel_rfl) ?_
    refine xs_st (ex_asgC (hs := by rfl) O 1 1 (c := L + 1) (mk := .ecell) rfl (by with_reducible rfl) c1 ?_)
    with_reducible refine ev_callG O 8 (by with_unfolding_all rfl) (by with_reducible rfl) (g_lawstate _) (by with_unfolding_all rfl) ?_ (hd := by decide +kernel) (hpl := by intro _ _; with_unfolding_all rfl)
    repeat wtm_at "w"
    refine call_pure (cl_lawstate y.w ns hns) O hn (by wtm_at "li") ?_
    rintro p l ⟨d, rfl, ns', seed, hns', hseed, rfl⟩
    refine ⟨⟨rfl, .inl rfl⟩, ?_⟩
    with_reducible refine co_nxt ?_
    refine exs_led [(d, .lst (stPV ns' 0 seed)), (L + 1, .cell (.val (.ref d)))] (by rfl) ?_
    refine xs_st ?_
    repeat wtm_at "e"
    with_reducible refine ev_meth O (ev_S (mth_join ⟨by with_unfolding_all rfl, ?_⟩)) _ (by intro _; with_unfolding_all rfl) (by intro _ _; with_unfolding_all rfl)
    repeat wtm_at "w"
    refine ev_compR (hs := by intro _; rfl) (ht := by intro _ _; rfl) { kind := .function, names := [(Str.ofString ".0", .local), (Str.ofString "turn", .local), (Str.ofString "_law_pieces", .globalImplicit), (Str.ofString "_law_next", .globalImplicit), (Str.ofString "state", .cell)], isGenerator := false, isCoroutine := false, more := [] } [(Str.ofString "state", L + 1)] O (by kernel_rfl) ?_ (clos_of hcl (by kernel_rfl)) (by decide +kernel) rfl (by decide +kernel) (by decide +kernel)
    repeat wtm_at "w"
    with_reducible refine ev_callG O 10 (by with_unfolding_all rfl) (by with_reducible rfl) (g_lawnext _) (by with_unfolding_all rfl) ?_ (hd := by decide +kernel) (hpl := by intro _ _; with_unfolding_all rfl)
    repeat first | wtm_at "C" | wtm_at "w"
    refine call_clP (fp := [(d, .lst (stPV ns' 0 seed))]) (rest := [(L + 1, .cell (.val (.ref d)))]) (cl_lawnext y.w d ns' hns' 0 seed 8 (by wtm_at "li") hseed (by wtm_at "li") (by wtm_at "li")) O hn (by wtm_at "li") (.refl _) ?_
    rintro p l ⟨⟨r, hr8, rfl⟩, rfl⟩
    refine ⟨_, .refl _, ?_⟩
    repeat wtm_at "w"
    refine call_range fun ra tk1 tk2 tk3 => ?_
    refine ⟨rangeEls r, [(d, .lst (stPV ns' 1 seed)), (L + 1, .cell (.val (.ref d)))], [(ra, .raw (rangeObj r tk1 tk2 tk3))], lwP ns' seed L d,
      iter_range hh (by wtm_at "li") (List.Mem.head _), List.perm_append_comm (l₁ := [_]) (l₂ := [_, _]), by simp [rangeEls]; lia, ⟨rfl, [], rfl, by simp, rfl⟩, ?tu, ?fi⟩
    case tu =>
      rintro y2 hw2 O hr2 hn2 hh2 hcl2 D i el ys mm led hel ⟨rfl, ps, hps1, hps2, rfl⟩ hm
      have hh := hh2.trans hh
      have hn : true = true → y2.hn = true := fun h => hn2.trans (hn h)
      have c1 : y2.cl.lookup (Str.ofString "state") = some (L + 1) := by rw [hcl2]; kernel_rfl
      have hi : i < r := by
        have := (List.getElem?_eq_some_iff.mp hel).1
        simpa [rangeEls] using this
      have hel' : el = .int (i : Nat) := by
        simp [rangeEls, hi] at hel; exact hel.symm
      subst hel'
      match mm, hm with
      | [m0, m1, m2, m3, m4], _ =>
        repeat wtm_at "w"
        refine ev_GP (hd := by decide +kernel) (p := .lst (piecesL.map .str)) O 2 rfl (by with_reducible rfl) (g_pieces _) (fun g h => is_pieces _ g h) ?_
        repeat wtm_at "w"
        with_reducible refine ev_callG O 3 (by with_unfolding_all rfl) (by with_reducible rfl) (g_lawnext _) (by with_unfolding_all rfl) ?_ (hd := by decide +kernel) (hpl := by intro _ _; with_unfolding_all rfl)
        repeat first | wtm_at "C" | wtm_at "w"
        refine call_clP (fp := [(d, .lst (stPV ns' (1 + i) seed))]) (rest := [(D, .lst (ps.map .str)), (L + 1, .cell (.val (.ref d)))]) (cl_lawnext y2.w d ns' hns' (1 + i) seed 18 (by wtm_at "li") hseed (by wtm_at "li") (by wtm_at "li")) O hn (by wtm_at "li") (List.Perm.swap _ _ _) ?_
        rintro p l ⟨⟨j, hj, rfl⟩, rfl⟩
        refine ⟨(D, .lst (ps.map .str)) :: [(d, .lst (stPV ns' (1 + i + 1) seed)), (L + 1, .cell (.val (.ref d)))], List.Perm.swap _ _ _, ?_⟩
        have hpl : piecesL.length = 18 := by decide +kernel
        refine op_itemL (hs := by intro _ _; with_unfolding_all rfl) (ht := by intro _ _; with_unfolding_all rfl) (p := .str (piecesL[j]'(by lia))) (by simp [hpl]) (by wtm_at "li") (by simp [hpl, hj]) ?_
        exact ⟨_, _, rfl, rfl, rfl, ps ++ [piecesL[j]'(by lia)], by simp [hps1], fun p hp => by
          rcases List.mem_append.mp hp with h | h
          · exact hps2 p h
          · rw [List.mem_singleton.mp h]; exact List.getElem_mem _, by simp⟩
    case fi =>
      rintro ys led ⟨rfl, ps, hps1, hps2, rfl⟩
      have hfl := flat_len ps hps2
      have hrr : ps.length ≤ 7 := by rw [hps1]; simp [rangeEls]; lia
      have hlen1 : (rangeEls r).length = r := by simp [rangeEls]
      rw [hlen1, cc97]
      have hs1 : ([97] : List Nat).length = 1 := rfl
      have hs2 : ([99] : List Nat).length = 1 := rfl
      repeat wtm_at "w"
      refine call_join (by wtm_at "li") ?_
      repeat wtm_at "e"
      with_reducible refine co_nxt ?_
      refine xs_drop [(d, .lst (stPV ns' (1 + r) seed)), (L + 1, .cell (.val (.ref d)))] [(ra, .raw (rangeObj r tk1 tk2 tk3))] (.refl _) ?_
      have hB : Built (if (97 :: ps.flatten).getLast? = some 92 then 97 :: ps.flatten ++ [99] else 97 :: ps.flatten) := ⟨ps, hrr, hps2, rfl⟩
      have hlt : ([97] ++ ps.flatten).length ≤ 64 := by rw [List.length_append, hs1]; lia
      refine xs_mid (lwA ns ps ns' r seed L d) ?_ ?_
      · obtain ⟨z, hz⟩ : ∃ z, (97 :: ps.flatten).getLast? = some z := ⟨_, List.getLast?_eq_some_getLast (by simp)⟩
        repeat wtm_at "w"
        refine op_neg' ?_
        refine op_itemS (hs := by intro _ _; with_unfolding_all rfl) (ht := by intro _ _; with_unfolding_all rfl) (c := z) (by wtm_at "li") (by rw [List.length_append, hs1]; lia) (by wtm_at "li") ?_ ?_
        · have e1 : seqIndex? (-1) ([97] ++ ps.flatten).length = some (([97] ++ ps.flatten).length - 1) := by
            unfold seqIndex?; rw [List.length_append, hs1]; simp only [show ((-1 : Int) < 0) from by decide, if_true]; rw [if_pos (by simp; lia)]; congr 1; lia
          rw [e1]
          rw [List.getLast?_eq_getElem?] at hz
          exact hz
        repeat wtm_at "w"
        rw [cc92b, one_beq]
        with_reducible refine br_ite (fun h3 => ?_) (fun h3 => ?_)
        · have h4 : z = 92 := by simpa using h3
          repeat wtm_at "w"
          try rw [cc99]
          refine op_addS (by rw [List.length_append, hs1, hs2]; lia) ?_
          repeat wtm_at "w"
          unfold lwA; rw [hz, if_pos (by rw [h4])]; rfl
        · have h4 : z ≠ 92 := by simpa using h3
          repeat wtm_at "w"
          unfold lwA; rw [hz, if_neg (by simpa using h4)]; rfl
      rintro q' rfl
      generalize (if (97 :: ps.flatten).getLast? = some 92 then 97 :: ps.flatten ++ [99] else 97 :: ps.flatten) = t at *
      have T := H.tok t hB
      have hlow := H.low t hB
      obtain ⟨tr, ht97⟩ : ∃ tr, t = 97 :: tr := by
        obtain ⟨ps, _, _, rfl⟩ := hB
        split
        · exact ⟨_, rfl⟩
        · exact ⟨_, rfl⟩
      obtain ⟨parts, re, RO, hgood⟩ : ∃ parts re, ReOk t parts re ∧ (∀ its, Pl.lawRead t = some its → ¬ trX t ∧ its.length ≤ 100 ∧ ∀ name, Named name → ∃ res, EndsG (F1 name) parts [0] res ∧ res.length ≤ 10000 ∧ decide (0 < res.length) = Pl.fits its name) := by
        cases hlr : Pl.lawRead t with
        | none =>
          have hts := H.bad t hB hlr
          exact ⟨[], [], ⟨fun out h => (by rw [hts] at h; cases h), by simp, by simp⟩, fun its h => by cases h⟩
        | some its =>
          obtain ⟨h1, h2, parts, r, h3, h4⟩ := H.good t its hB hlr
          exact ⟨parts, r, h3, fun its' h => by cases h; exact ⟨h1, h2, h4⟩⟩
      have PO : PatOk t parts re := ⟨T, RO, 97, tr, ht97, by decide, by decide⟩
      obtain ⟨zp, zr, ZO, zs, zx⟩ := H.zz
      have hz := T.t2
      refine xs_st ?_
      repeat wtm_at "e"
      with_reducible refine ev_callG O 11 (by with_unfolding_all rfl) (by with_reducible rfl) (g_lawread _) (by with_unfolding_all rfl) ?_ (hd := by decide +kernel) (hpl := by intro _ _; with_unfolding_all rfl)
      repeat wtm_at "w"
      refine call_pure (cl_lawread y.w t hz) O hn (by wtm_at "li") ?_
      rintro p l ⟨rfl, rfl⟩
      repeat wtm_at "e"
      with_reducible refine co_nxt ?_
      refine xs_st ?_
      repeat wtm_at "e"
      with_reducible refine ev_callG O 12 (by with_unfolding_all rfl) (by with_reducible rfl) (g_IgnoreFilter _) (by with_unfolding_all rfl) ?_ (hd := by decide +kernel) (hpl := by intro _ _; with_unfolding_all rfl)
      repeat wtm_at "wF"
      with_reducible refine ev_meth O (ev_L (hd := by decide +kernel) O 3 (by with_unfolding_all rfl) (by with_reducible rfl) (by with_unfolding_all rfl) (mth_strM slot_encode type_encode ⟨by with_unfolding_all rfl, ?_⟩)) _ (by intro _; with_unfolding_all rfl) (by intro _ _; with_unfolding_all rfl)
      repeat wtm_at "w"
      refine call_encode hlow (by wtm_at "li") ?_
      repeat wtm_at "w"
      rw [show ([122, 122] : List UInt8) = B [122, 122] from rfl]
      refine call_pure (cl_IgnoreFilter y.w t [122, 122] parts zp re zr PO ZO) O hn (by wtm_at "li") ?_
      rintro p l ⟨fa, fd, rfl, dl, x1, xs, hx1, hxs, rfl⟩
      have hxs2 : ∃ v, xs = x1 ++ [v] := by
        rcases hxs with ⟨_, v, h⟩ | ⟨h, _⟩
        · exact ⟨v, h⟩
        · exact absurd h zx
      obtain ⟨v2, rfl⟩ := hxs2
      repeat wtm_at "e"
      with_reducible refine co_nxt ?_
      refine exs_led (ifFp fa fd dl (x1 ++ [v2]) ++ [(d, .lst (stPV ns' (1 + r) seed)), (L + 1, .cell (.val (.ref d)))]) (by rfl) ?_
      refine xs_st (ex_tryCall (hpl := by intro _ _; rfl) (hs := by rfl) O W (hn rfl) 6 rfl (by with_reducible rfl) 14 rfl (by with_reducible rfl) ?_)
      refine ev_G (hd := by decide +kernel) O 13 rfl (by with_reducible rfl) (g_Pattern _) ⟨_, rfl, by kernel_rfl, ?_⟩
      repeat wtm_at "w"
      with_reducible refine ev_meth O (ev_L (hd := by decide +kernel) O 3 (by with_unfolding_all rfl) (by with_reducible rfl) (by with_unfolding_all rfl) (mth_strM slot_encode type_encode ⟨by with_unfolding_all rfl, ?_⟩)) _ (by intro _; with_unfolding_all rfl) (by intro _ _; with_unfolding_all rfl)
      repeat wtm_at "w"
      refine call_encode hlow (by wtm_at "li") ?_
      repeat wtm_at "w"
      refine ⟨[], _, 13, _, trX t, .refl _, cl_Pattern y.w false t T 97 tr ht97 (by decide) (by decide) parts re RO, by lia, ?_, ?_⟩
      · rintro p l ⟨pa, pd, rfl, hts, a1, d1, a2, d2, rfl⟩
        obtain ⟨its, hits⟩ : ∃ its, Pl.lawRead t = some its := by
          cases hlr : Pl.lawRead t with
          | none => rw [H.bad t hB hlr] at hts; cases hts
          | some its => exact ⟨its, rfl⟩
        obtain ⟨hnx, hil, hnames⟩ := hgood its hits
        obtain ⟨v1, rfl⟩ : ∃ v, x1 = [v] := by
          rcases hx1 with ⟨_, v, h⟩ | ⟨h, _⟩
          · exact ⟨v, h⟩
          · exact absurd h hnx
        rw [hits]
        with_reducible refine co_nxt ?_
        refine exs_led (patFp t (.lst (parts.map ptPV)) pa pd a1 d1 a2 d2 ++ (ifFp fa fd dl [v1, v2] ++ [(d, .lst (stPV ns' (1 + r) seed)), (L + 1, .cell (.val (.ref d)))])) (by rfl) ?_
        have hPFm : (pa, MK.inst 233 pd) ∈ patFp t (.lst (parts.map ptPV)) pa pd a1 d1 a2 d2 ∧ (pd, MK.ns (pFs t a1 a2)) ∈ patFp t (.lst (parts.map ptPV)) pa pd a1 d1 a2 d2 := by simp
        have cm := fun name hname hz hpl r hrl h => cl_matches y.w t parts pa pd a1 d1 a2 d2 name hname hz hpl r hrl h
        generalize patFp t (.lst (parts.map ptPV)) pa pd a1 d1 a2 d2 = PF at *
        refine xs_perm (ifFp fa fd dl [v1, v2] ++ (PF ++ [(d, .lst (stPV ns' (1 + r) seed)), (L + 1, .cell (.val (.ref d)))])) (List.perm_append_comm_assoc _ _ _) ?_
        refine xs_st ?_
        repeat wtm_at "e"
        refine get_patterns (a := fa) (d := fd) (dl := dl) (xs := [v1, v2]) (rest := PF ++ [(d, .lst (stPV ns' (1 + r) seed)), (L + 1, .cell (.val (.ref d)))]) O (by rfl) (by wtm_at "li") ?_
        repeat wtm_at "e"
        refine call_lenM (xs := [v1, v2]) (by simp) (by simp) ?_
        repeat wtm_at "e"
        with_reducible refine co_nxt ?_
        refine xs_drop (PF ++ [(d, .lst (stPV ns' (1 + r) seed)), (L + 1, .cell (.val (.ref d)))]) (ifFp fa fd dl [v1, v2]) List.perm_append_comm ?_
        refine xs_perm ([(d, .lst (stPV ns' (1 + r) seed)), (L + 1, .cell (.val (.ref d)))] ++ PF) List.perm_append_comm ?_
        refine xs_mid (lwB ns t its fa pa) ?_ ?_
        · refine ex_forK (hs := by intro _; rfl) hh noE noE_pass (fun _ _ => rangeEls 4) (fun p _ => lwI ns t its fa pa ns' seed L d PF p) ?_
          repeat wtm_at "w"
          refine call_range fun ra tk1 tk2 tk3 => ?_
          refine ⟨iter_range (n := 4) hh (by wtm_at "li") (List.Mem.head _), ⟨ra, tk1, tk2, tk3, none, none, 1 + r, rfl, rfl, by lia⟩, ?tu, ?fi⟩
          case fi =>
            rintro q2 ⟨ra', _, _, _, b2, b7, pl, _, rfl, _⟩
            exact ⟨b2, b7, _, rfl⟩
          case tu =>
            rintro i el q2 hel ⟨ra', tk1', tk2', tk3', b2, b7, pl, hra, rfl, hpl⟩ K1 hN1 hC1 hB1 hR1
            cases hra
            have hi4 : i < 4 := by
              have := (List.getElem?_eq_some_iff.mp hel).1
              simpa [rangeEls] using this
            repeat wtm_at "w"
            with_reducible refine ev_meth O (ev_S (mth_join ⟨by with_unfolding_all rfl, ?_⟩)) _ (by intro _; with_unfolding_all rfl) (by intro _ _; with_unfolding_all rfl)
            repeat wtm_at "w"
            refine ev_compR (hs := by intro _; rfl) (ht := by intro _ _; rfl) { kind := .function, names := [(Str.ofString ".0", .local), (Str.ofString "number", .local), (Str.ofString "_law_signs", .globalImplicit), (Str.ofString "_law_next", .globalImplicit), (Str.ofString "state", .cell)], isGenerator := false, isCoroutine := false, more := [] } [(Str.ofString "state", L + 1)] O (by kernel_rfl) ?_ (clos_of hcl (by kernel_rfl)) (by decide +kernel) rfl (by decide +kernel) (by decide +kernel)
            repeat wtm_at "w"
            with_reducible refine ev_callG O 10 (by with_unfolding_all rfl) (by with_reducible rfl) (g_lawnext _) (by with_unfolding_all rfl) ?_ (hd := by decide +kernel) (hpl := by intro _ _; with_unfolding_all rfl)
            repeat first | wtm_at "C" | wtm_at "w"
            refine call_clP (fp := [(d, .lst (stPV ns' pl seed))]) (rest := (ra, .raw (rangeObj (4 : Nat) tk1' tk2' tk3')) :: (L + 1, .cell (.val (.ref d))) :: PF) (cl_lawnext y.w d ns' hns' pl seed 4 (by wtm_at "li") hseed (by wtm_at "li") (by wtm_at "li")) O hn (by wtm_at "li") (List.Perm.swap _ _ _) ?_
            rintro p l ⟨⟨rn, hrn, rfl⟩, rfl⟩
            refine ⟨(ra, .raw (rangeObj (4 : Nat) tk1' tk2' tk3')) :: (d, .lst (stPV ns' (pl + 1) seed)) :: (L + 1, .cell (.val (.ref d))) :: PF, List.Perm.swap _ _ _, ?_⟩
            repeat wtm_at "w"
            refine call_range fun rb uk1 uk2 uk3 => ?_
            refine ⟨rangeEls rn, [(d, .lst (stPV ns' (pl + 1) seed)), (L + 1, .cell (.val (.ref d)))], (rb, .raw (rangeObj rn uk1 uk2 uk3)) :: (ra, .raw (rangeObj (4 : Nat) tk1' tk2' tk3')) :: PF, lwN ns' seed pl L d,
              iter_range hh (by wtm_at "li") (List.Mem.head _), List.perm_append_comm_assoc [_, _] [_, _] PF, by simp [rangeEls]; lia, ⟨rfl, [], rfl, by simp, rfl⟩, ?tu2, ?fi2⟩
            case tu2 =>
              rintro y2 hw2 O hr2 hn2 hh2 hcl2 D j el ys mm led hel ⟨rfl, cs, hcs1, hcs2, rfl⟩ hm
              have hh := hh2.trans hh
              have hn : true = true → y2.hn = true := fun h => hn2.trans (hn h)
              have c1 : y2.cl.lookup (Str.ofString "state") = some (L + 1) := by rw [hcl2]; kernel_rfl
              have hj : j < rn := by
                have := (List.getElem?_eq_some_iff.mp hel).1
                simpa [rangeEls] using this
              have hel' : el = .int (j : Nat) := by
                simp [rangeEls, hj] at hel; exact hel.symm
              subst hel'
              match mm, hm with
              | [m0, m1, m2, m3, m4], _ =>
                repeat wtm_at "w"
                refine ev_GP (hd := by decide +kernel) (p := .str Pl.lawSigns) O 2 rfl (by with_reducible rfl) (g_signs _) (fun g _ => is_signs g) ?_
                repeat wtm_at "w"
                with_reducible refine ev_callG O 3 (by with_unfolding_all rfl) (by with_reducible rfl) (g_lawnext _) (by with_unfolding_all rfl) ?_ (hd := by decide +kernel) (hpl := by intro _ _; with_unfolding_all rfl)
                repeat first | wtm_at "C" | wtm_at "w"
                refine call_clP (fp := [(d, .lst (stPV ns' (pl + 1 + j) seed))]) (rest := [(D, .lst ((cs.map fun c => [c]).map .str)), (L + 1, .cell (.val (.ref d)))]) (cl_lawnext y2.w d ns' hns' (pl + 1 + j) seed 14 (by wtm_at "li") hseed (by wtm_at "li") (by wtm_at "li")) O hn (by wtm_at "li") (List.Perm.swap _ _ _) ?_
                rintro p l ⟨⟨k, hk, rfl⟩, rfl⟩
                refine ⟨(D, .lst ((cs.map fun c => [c]).map .str)) :: [(d, .lst (stPV ns' (pl + 1 + j + 1) seed)), (L + 1, .cell (.val (.ref d)))], List.Perm.swap _ _ _, ?_⟩
                have hsl : Pl.lawSigns.length = 14 := by decide +kernel
                have hkl : k < Pl.lawSigns.length := by lia
                refine item_at (hs := by intro _ _; with_unfolding_all rfl) (ht := by intro _ _; with_unfolding_all rfl) (t := Pl.lawSigns) (i := k) (List.drop_eq_getElem_cons hkl) rfl (by wtm_at "li") ?_
                exact ⟨_, _, rfl, rfl, rfl, cs ++ [Pl.lawSigns[k]], by simp [hcs1], fun c hc => by
                  rcases List.mem_append.mp hc with h | h
                  · exact hcs2 c h
                  · rw [List.mem_singleton.mp h]; exact List.getElem_mem _, by simp⟩
            case fi2 =>
              rintro ys led ⟨rfl, cs, hcs1, hcs2, rfl⟩
              have hlen1 : (rangeEls rn).length = rn := by simp [rangeEls]
              rw [hlen1] at hcs1 ⊢
              rw [cc97]
              have hs97 : ([97] : List Nat).length = 1 := rfl
              repeat wtm_at "w"
              refine call_join (by rw [cs_flat]; lia) ?_
              rw [cs_flat]
              repeat wtm_at "e"
              with_reducible refine co_nxt ?_
              have hN : Named ([97] ++ cs) := ⟨cs, by lia, hcs2, rfl⟩
              obtain ⟨res, he1, he2, he3⟩ := hnames _ hN
              have hnlow : ∀ c ∈ [97] ++ cs, c < 128 := fun c hc => by
                rcases List.mem_append.mp hc with h | h
                · rw [List.mem_singleton.mp h]; decide
                · exact of_decide_eq_true (List.all_eq_true.mp (show Pl.lawSigns.all (fun c => decide (c < 128)) = true by decide +kernel) c (hcs2 c h))
              have hnlen : ([97] ++ cs).length ≤ 4 := by rw [List.length_append, hs97]; lia
              generalize [97] ++ cs = name at *
              refine xs_drop ((ra, .raw (rangeObj (4 : Nat) tk1' tk2' tk3')) :: (d, .lst (stPV ns' (pl + 1 + rn) seed)) :: (L + 1, .cell (.val (.ref d))) :: PF) [(rb, .raw (rangeObj rn uk1 uk2 uk3))] ?_ ?_
              · exact (List.perm_append_comm_assoc [_, _] [_, _] PF).trans (List.perm_append_comm (l₁ := [_]) (l₂ := _ :: _ :: _ :: PF))
              repeat wtm_at "w"
              with_reducible refine ev_inst O (plain233 _) (meth_matches _) (type_216 _) (keep_216 _) ?_ _ (by intro _; with_unfolding_all rfl) (by intro _ _; with_unfolding_all rfl)
              repeat wtm_at "w"
              refine ⟨pa, pd, pFs t a1 a2, rfl, .tail _ (.tail _ (.tail _ hPFm.1)), .tail _ (.tail _ (.tail _ hPFm.2)), names_no, ?_⟩
              repeat wtm_at "w"
              with_reducible refine ev_meth O (ev_L (hd := by decide +kernel) O 7 (by with_unfolding_all rfl) (by with_reducible rfl) (by with_unfolding_all rfl) (mth_strM slot_encode type_encode ⟨by with_unfolding_all rfl, ?_⟩)) _ (by intro _; with_unfolding_all rfl) (by intro _ _; with_unfolding_all rfl)
              repeat wtm_at "w"
              refine call_encode hnlow (by wtm_at "li") ?_
              repeat wtm_at "w"
              refine call_id (rest := [_, _, _]) (cm name (fun c hc => Nat.lt_trans (hnlow c hc) (by decide)) (by wtm_at "li") RO.r2 res he2 he1) O hn (by wtm_at "li") (List.perm_append_comm (l₁ := [_, _, _]) (l₂ := PF)) ?_
              rintro p rfl
              repeat wtm_at "w"
              with_reducible refine ev_callG O 16 (by with_unfolding_all rfl) (by with_reducible rfl) (g_fits _) (by with_unfolding_all rfl) ?_ (hd := by decide +kernel) (hpl := by intro _ _; with_unfolding_all rfl)
              repeat wtm_at "w"
              refine call_pure (cl_lawfits y.w (its.length + name.length) its name (Nat.le_refl _) (by wtm_at "li")) O hn (by wtm_at "li") ?_
              rintro p l ⟨rfl, rfl⟩
              rw [he3]
              refine op_isnotB ?_
              repeat wtm_at "w"
              with_reducible refine ite_f (by simp) ?_
              repeat wtm_at "w"
              exact ⟨ra, tk1', tk2', tk3', _, _, pl + 1 + rn, rfl, rfl, by lia⟩
        rintro q' ⟨b2, b7, led, rfl⟩
        repeat wtm_at "w"
        exact ⟨[], led, .refl _, rfl, rfl⟩
      · intro hx ea
        have O := O.caught ea
        have hno : Pl.lawRead t = none := by
          cases hlr : Pl.lawRead t with
          | none => rfl
          | some its => exact absurd hx (hgood its hlr).1
        have hx1' : x1 = [] := by
          rcases hx1 with ⟨h, _⟩ | ⟨_, h⟩
          · rw [H.bad t hB hno] at h; cases h
          · exact h
        subst hx1'
        rw [hno]
        repeat wtm_at "w"
        refine get_patterns (a := fa) (d := fd) (dl := dl) (xs := [v2]) (rest := [(d, .lst (stPV ns' (1 + r) seed)), (L + 1, .cell (.val (.ref d)))]) O (by rfl) (by show 2 ≤ y.r; lia) ?_
        repeat wtm_at "w"
        refine call_lenM (xs := [v2]) (by simp) (by simp) ?_
        repeat wtm_at "w"
        exact ⟨[], _, .refl _, rfl, rfl⟩
end
end Wk
end
/- P4 -/
section
namespace Wk
open Pl
theorem special_cases {c : Nat} (h : Pl.special.contains c = true) : c ≠ 120 ∧ c ≠ 116 ∧ c ≠ 110 ∧ c ≠ 114 ∧ c ≠ 90 := by
  refine ⟨?_, ?_, ?_, ?_, ?_⟩ <;> (rintro rfl; exact absurd h (by decide))
theorem special_not {c : Nat} (h : Pl.special.contains c = false) : c ≠ 92 ∧ c ≠ 93 ∧ c ≠ 45 ∧ c ≠ 94 ∧ c ≠ 40 ∧ c ≠ 41 ∧ c ≠ 46 ∧ c ≠ 91 ∧ c ≠ 42 ∧ c ≠ 43 ∧ c ≠ 63 := by
  refine ⟨?_, ?_, ?_, ?_, ?_, ?_, ?_, ?_, ?_, ?_, ?_⟩ <;> (rintro rfl; exact absurd h (by decide))
theorem roct_esc (c : Nat) (s : List Nat) : roct (Pl.esc1 c ++ s) = some (c, s) := by
  unfold Pl.esc1
  cases h : Pl.special.contains c with
  | true => obtain ⟨h1, h2, h3, h4, _⟩ := special_cases h; simp [roct, h1, h2, h3, h4]
  | false => obtain ⟨h1, _⟩ := special_not h; simp [roct, h1]
/- what may stand at the head of an escaped sign -/
theorem esc_head (c : Nat) (s : List Nat) : ∃ d t, Pl.esc1 c ++ s = d :: t ∧ d ≠ 93 ∧ d ≠ 45 ∧ d ≠ 94 ∧ d ≠ 42 ∧ d ≠ 43 ∧ d ≠ 63 := by
  unfold Pl.esc1
  cases h : Pl.special.contains c with
  | true => exact ⟨92, c :: s, rfl, by decide, by decide, by decide, by decide, by decide, by decide⟩
  | false => obtain ⟨_, h1, h2, h3, _, _, _, _, h4, h5, h6⟩ := special_not h; exact ⟨c, s, rfl, h1, h2, h3, h4, h5, h6⟩
noncomputable def okH (s : List Nat) : Prop := s.head? ≠ some 45 ∧ s.head? ≠ some 94
theorem rc_piece {a b : Nat} {s rs r : List _} (h : RC s rs r) (hs : okH s) : RC (Pl.piece a b ++ s) ((a, b) :: rs) r ∧ okH (Pl.piece a b ++ s) := by
  unfold Pl.piece
  by_cases hab : a = b
  · subst hab
    simp only [ne_eq, not_true_eq_false, if_false, List.append_nil]
    obtain ⟨d, t, e, h1, h2, h3, _⟩ := esc_head a s
    have hr := roct_esc a s
    rw [e] at hr ⊢
    exact ⟨.one h1 hr hs.1 h, by simp [okH, h2, h3]⟩
  · rw [if_pos hab, List.append_assoc]
    obtain ⟨d, t, e, h1, h2, h3, _⟩ := esc_head a (45 :: Pl.esc1 b ++ s)
    have hr := roct_esc a (45 :: Pl.esc1 b ++ s)
    rw [e] at hr ⊢
    exact ⟨.two h1 hr (roct_esc b s) h, by simp [okH, h2, h3]⟩
theorem rc_pieces : ∀ (l : List (Nat × Nat)) {s rs r : List _}, RC s rs r → okH s → RC ((l.flatMap fun x => Pl.piece x.1 x.2) ++ s) (l ++ rs) r ∧ okH ((l.flatMap fun x => Pl.piece x.1 x.2) ++ s)
  | [], _, _, _, h, hs => ⟨h, hs⟩
  | x :: l, s, rs, r, h, hs => by
    obtain ⟨h1, h2⟩ := rc_pieces l h hs
    rw [List.flatMap_cons, List.append_assoc]
    exact rc_piece h1 h2
theorem ccAZ : cc "A-Za-z" = [65, 45, 90, 97, 45, 122] := by decide +kernel
theorem cc09 : cc "0-9" = [48, 45, 57] := by decide +kernel
theorem rc_cls : ∀ (cls : List (List Nat)), (∀ c ∈ cls, c = cc "A-Za-z" ∨ c = cc "0-9") → ∀ {s rs r : List _}, RC s rs r → okH s → RC (cls.flatten ++ s) (cls.flatMap clsR ++ rs) r ∧ okH (cls.flatten ++ s)
  | [], _, _, _, _, h, hs => ⟨h, hs⟩
  | c :: cls, hc, s, rs, r, h, hs => by
    obtain ⟨h1, h2⟩ := rc_cls cls (fun d hd => hc d (.tail _ hd)) h hs
    rw [List.flatten_cons, List.append_assoc, List.flatMap_cons, List.append_assoc]
    rcases hc c (.head _) with rfl | rfl
    · rw [show clsR (cc "A-Za-z") = [(65, 90), (97, 122)] by decide +kernel, ccAZ]
      refine ⟨.two (by decide) (s1 := 90 :: 97 :: 45 :: 122 :: (cls.flatten ++ s)) rfl rfl (.two (by decide) (s1 := 122 :: (cls.flatten ++ s)) rfl rfl h1), by simp [okH]⟩
    · rw [show clsR (cc "0-9") = [(48, 57)] by decide +kernel, cc09]
      exact ⟨.two (by decide) (s1 := 57 :: (cls.flatten ++ s)) rfl rfl h1, by simp [okH]⟩
theorem inR_pieces (m : Nat × Nat) (c : Nat) (hc : c ≠ 47) : inR (pieces m) c = (decide (m.1 ≤ c) && decide (c ≤ m.2)) := by
  unfold pieces inR
  rw [List.any_filter]
  rw [Bool.eq_iff_iff]
  simp
  lia
theorem inR_flat (mem : List (Nat × Nat)) (c : Nat) (hc : c ≠ 47) : inR (mem.flatMap pieces) c = inR mem c := by
  induction mem with
  | nil => rfl
  | cons m r ih =>
    rw [List.flatMap_cons, inR_app, ih, inR_pieces m c hc]
    simp [inR]
theorem sign_not47 {c : Nat} (h : lawSigns.contains c = true) : c ≠ 47 := by
  have := List.all_eq_true.mp (show lawSigns.all (fun c => decide (c ≠ 47)) = true by decide +kernel) c (List.contains_iff_mem.mp h)
  exact of_decide_eq_true this
/- what follows a part must not be taken for its quantifier -/
noncomputable def hdOk (s : List Nat) : Prop := s.head? ≠ some 42 ∧ s.head? ≠ some 43 ∧ s.head? ≠ some 63
theorem brk_none {s : List Nat} (h : Pl.lawSet (if isNeg s then s.tail else s) .beg [] = none) (hs : Sig s) : brk s = none := by
  have hs' : Sig (if isNeg s then s.tail else s) := by
    split
    · exact fun c hc => hs c (List.mem_of_mem_tail hc)
    · exact hs
  have := main1 _ _ (Nat.le_refl _) hs' true none [] [] .beg [] (by simp) ⟨fun l e => (by cases e), rfl⟩ (fun c _ => rfl) ⟨by simp, by simp⟩ (by simp)
  rw [h] at this
  unfold brk
  rw [show br (if isNeg s then s.tail else s) true none [] [] = none from this]
theorem br_len : ∀ (n : Nat) (s : List Nat), s.length ≤ n → ∀ (f : Bool) (p : Option Nat) (mem : List (Nat × Nat)) (cls : List (List Nat)) (mem' : List (Nat × Nat)) (cls' : List (List Nat)) (r : List Nat), (∀ l, p = some l → mem ≠ []) → br s f p mem cls = some (mem', cls', r) → mem'.length + cls'.length ≤ mem.length + cls.length + s.length
  | n, [], hn, f, p, mem, cls, mem', cls', r, hp, e => by rw [br_nil] at e; cases e
  | 0, c :: r0, hn, _, _, _, _, _, _, _, _, _ => by simp at hn
  | n + 1, c :: r0, hn, f, p, mem, cls, mem', cls', r, hp, e => by
    have hn' : r0.length ≤ n := by simpa using hn
    have hsl : ∀ (l e : Nat), mem ≠ [] → (if l ≤ e then setLast mem (l, e) else mem).length = mem.length := fun l e h => by
      split
      · have := List.length_pos_iff.mpr h; simp [setLast]; lia
      · rfl
    by_cases hA : c = 93 ∧ f = false
    · obtain ⟨rfl, rfl⟩ := hA
      rw [br_93] at e; cases e; lia
    by_cases hB : c = 92
    · subst hB
      cases r0 with
      | nil => rw [br_92n] at e; cases e
      | cons d r' => rw [br_92] at e; have := br_len n r' (by simp at hn'; lia) _ _ _ _ _ _ _ (by simp) e; simp at this ⊢; lia
    by_cases hC : c = 45 ∧ p.isSome = true ∧ r0 ≠ [] ∧ r0.head? ≠ some 93
    · obtain ⟨rfl, hps, hr0, hr93⟩ := hC
      obtain ⟨l, rfl⟩ : ∃ l, p = some l := by
        cases p with
        | none => cases hps
        | some l => exact ⟨l, rfl⟩
      have hm := hp l rfl
      cases r0 with
      | nil => exact absurd rfl hr0
      | cons d r' =>
        have hd93 : d ≠ 93 := by simpa using hr93
        by_cases h92 : d = 92
        · subst h92
          cases r' with
          | nil => rw [br_45n] at e; cases e
          | cons u r2 => rw [br_45e] at e; have := br_len n r2 (by simp at hn'; lia) _ _ _ _ _ _ _ (by simp) e; rw [hsl _ _ hm] at this; simp; lia
        · rw [br_45 hd93 h92] at e; have := br_len n r' (by simp at hn'; lia) _ _ _ _ _ _ _ (by simp) e; rw [hsl _ _ hm] at this; simp; lia
    by_cases hD : c = 91 ∧ r0.head? = some 58
    · obtain ⟨rfl, h58⟩ := hD
      cases r0 with
      | nil => cases h58
      | cons d r' =>
        have hd : d = 58 := by simpa using h58
        subst hd
        rw [br_91] at e
        have hrs := rs_len r'
        split at e
        · cases e
        split at e
        · split at e
          · cases e
          · have := br_len n _ (by simp at hn' ⊢; lia) _ _ _ _ _ _ _ (by simp) e; simp at this ⊢; lia
        · have := br_len n _ hn' _ _ _ _ _ _ _ (by simp) e; simp at this ⊢; lia
    · rw [br_else hA hB hC hD] at e
      have := br_len n r0 hn' _ _ _ _ _ _ _ (by simp) e; simp at this ⊢; lia
theorem sig_lt {c : Nat} (h : sigL.contains c = true) : c < 128 := of_decide_eq_true (sig_all (P := fun c => decide (c < 128)) (by decide +kernel) h)
theorem esc_lt {c : Nat} (hc : c < 256) : ∀ x ∈ Pl.esc1 c, x < 256 := fun x hx => by
  unfold Pl.esc1 at hx
  split at hx <;> simp at hx <;> lia
theorem body_lt {mem : List (Nat × Nat)} {cls : List (List Nat)} (g : Good mem cls) : ∀ c ∈ render mem ++ cls.flatten, c < 256 := fun c hc => by
  rcases List.mem_append.mp hc with h | h
  · unfold render at h
    obtain ⟨x, hx, hcx⟩ := List.mem_flatMap.mp h
    obtain ⟨m, hm, hxm⟩ := List.mem_flatMap.mp hx
    obtain ⟨_, _, h1, h2⟩ := g.gm m hm
    have h1' := sig_lt h1
    have h2' := sig_lt h2
    have hx12 : x.1 < 256 ∧ x.2 < 256 := by
      unfold pieces at hxm
      have := (List.mem_filter.mp hxm).1
      simp only [List.mem_cons, List.not_mem_nil, or_false] at this
      rcases this with rfl | rfl <;> simp <;> lia
    unfold Pl.piece at hcx
    rcases List.mem_append.mp hcx with h3 | h3
    · exact esc_lt hx12.1 c h3
    · split at h3
      · rcases List.mem_cons.mp h3 with h4 | h4
        · lia
        · exact esc_lt hx12.2 c h4
      · cases h3
  · obtain ⟨l, hl, hcl⟩ := List.mem_flatten.mp h
    rcases g.gc l hl with rfl | rfl
    · rw [ccAZ] at hcl; simp at hcl; lia
    · rw [cc09] at hcl; simp at hcl; lia
theorem body_ne {mem : List (Nat × Nat)} {cls : List (List Nat)} (g : Good mem cls) (h : mem ≠ [] ∨ cls ≠ []) : render mem ++ cls.flatten ≠ [] := by
  intro e
  obtain ⟨e1, e2⟩ := List.append_eq_nil_iff.mp e
  rcases h with h | h
  · cases mem with
    | nil => exact h rfl
    | cons m r =>
      obtain ⟨h1, h2, _, _⟩ := g.gm m (.head _)
      unfold render at e1
      rw [List.flatMap_cons, List.flatMap_append] at e1
      obtain ⟨e3, _⟩ := List.append_eq_nil_iff.mp e1
      have : pieces m ≠ [] := by
        unfold pieces
        intro hp
        rw [List.filter_eq_nil_iff] at hp
        have h3 := hp (m.1, min m.2 46) (by simp)
        have h4 := hp (max m.1 48, m.2) (by simp)
        simp at h3 h4
        lia
      cases hp : pieces m with
      | nil => exact this hp
      | cons x l =>
        rw [hp, List.flatMap_cons] at e3
        obtain ⟨e5, _⟩ := List.append_eq_nil_iff.mp e3
        unfold Pl.piece at e5
        obtain ⟨e6, _⟩ := List.append_eq_nil_iff.mp e5
        unfold Pl.esc1 at e6
        split at e6 <;> cases e6
  · cases cls with
    | nil => exact h rfl
    | cons c r =>
      rw [List.flatten_cons] at e2
      obtain ⟨e3, _⟩ := List.append_eq_nil_iff.mp e2
      rcases g.gc c (.head _) with rfl | rfl
      · rw [ccAZ] at e3; cases e3
      · rw [cc09] at e3; cases e3
theorem brk_some {s held r : List Nat} (h : Pl.lawSet (if isNeg s then s.tail else s) .beg [] = some (held, r)) (hs : Sig s) :
    ∃ out o, brk s = some (out, r) ∧ Sig r ∧ r.length ≤ s.length ∧ (∀ tl, OcR (out ++ tl) o tl) ∧ (∃ x, out = 91 :: x) ∧ (∀ c ∈ out, c < 256) ∧ o.rs.length ≤ 2 * s.length + 4 ∧ ∀ c, lawSigns.contains c = true → ocHolds o c = (held.contains c != isNeg s) := by
  have hs' : Sig (if isNeg s then s.tail else s) := by
    split
    · exact fun c hc => hs c (List.mem_of_mem_tail hc)
    · exact hs
  have hsl : (if isNeg s then s.tail else s).length ≤ s.length := by split <;> simp
  have H := main1 _ _ (Nat.le_refl _) hs' true none [] [] .beg [] (by simp) ⟨fun l e => (by cases e), rfl⟩ (fun c _ => rfl) ⟨by simp, by simp⟩ (by simp)
  rw [h] at H
  obtain ⟨mem, cls, hb, hR, hG, hne, hrl, hSr⟩ := H
  have hbl := br_len _ _ (Nat.le_refl _) _ _ _ _ _ _ _ (by simp) hb
  have hbody := body_ne hG hne
  have hlt := body_lt hG
  have hpl : (mem.flatMap pieces ++ cls.flatMap clsR).length ≤ 2 * (mem.length + cls.length) := by
    have h1 : ∀ (l : List (Nat × Nat)), (l.flatMap pieces).length ≤ 2 * l.length := by
      intro l
      induction l with
      | nil => simp
      | cons m r ih =>
        have : (pieces m).length ≤ 2 := List.length_filter_le _ _
        rw [List.flatMap_cons, List.length_append, List.length_cons]; lia
    have h2 : ∀ (l : List (List Nat)), (l.flatMap clsR).length ≤ 2 * l.length := by
      intro l
      induction l with
      | nil => simp
      | cons m r ih =>
        have : (clsR m).length ≤ 2 := by
          unfold clsR
          split
          · simp
          · split <;> simp
        rw [List.flatMap_cons, List.length_append, List.length_cons]; lia
    have := h1 mem
    have := h2 cls
    rw [List.length_append]; lia
  have rc : ∀ tl, RC (render mem ++ cls.flatten ++ (93 :: tl)) (mem.flatMap pieces ++ cls.flatMap clsR) tl ∧ okH (render mem ++ cls.flatten ++ (93 :: tl)) := fun tl => by
    obtain ⟨h1, h2⟩ := rc_cls cls hG.gc (s := 93 :: tl) .done (by simp [okH])
    have := rc_pieces (mem.flatMap pieces) h1 h2
    rw [List.append_nil] at this
    rw [List.append_assoc]
    exact this
  have hin : ∀ c, lawSigns.contains c = true → inR (mem.flatMap pieces ++ cls.flatMap clsR) c = held.contains c := fun c hc => by
    rw [inR_app, inR_flat mem c (sign_not47 hc), hR c hc]
  have hbrk : brk s = some (if isNeg s then [91, 94, 47] ++ (render mem ++ cls.flatten) ++ [93] else if render mem ++ cls.flatten = [] then [40, 63, 33, 41] else [91] ++ (render mem ++ cls.flatten) ++ [93], r) := by
    unfold brk; rw [hb]
  cases hn : isNeg s with
  | true =>
    rw [hn, if_pos rfl] at hbrk
    refine ⟨_, ⟨true, (47, 47) :: (mem.flatMap pieces ++ cls.flatMap clsR)⟩, hbrk, hSr, by lia, fun tl => ?_, ⟨_, rfl⟩, fun c hc => ?_, by simp at hpl hbl ⊢; lia, fun c hc => ?_⟩
    · obtain ⟨h1, h2⟩ := rc tl
      have h3 : RC (47 :: (render mem ++ cls.flatten ++ (93 :: tl))) ((47, 47) :: (mem.flatMap pieces ++ cls.flatMap clsR)) tl := .one (by decide) rfl h2.1 h1
      have h4 := OcR.cls (c := 94) (s := 47 :: (render mem ++ cls.flatten ++ (93 :: tl))) h3
      simpa using h4
    · simp only [List.mem_append, List.mem_cons, List.not_mem_nil, or_false] at hc
      rcases hc with (hc | hc) | hc
      · lia
      · exact hlt c (List.mem_append.mpr hc)
      · lia
    · have h47 := sign_not47 hc
      have : inR ((47, 47) :: (mem.flatMap pieces ++ cls.flatMap clsR)) c = held.contains c := by
        rw [← hin c hc]
        show ((decide (47 ≤ c) && decide (c ≤ 47)) || inR _ c) = _
        rw [show (decide (47 ≤ c) && decide (c ≤ 47)) = false by simp; lia, Bool.false_or]
      show (if inR ((47, 47) :: (mem.flatMap pieces ++ cls.flatMap clsR)) c = true then !true else true) = _
      rw [this]; cases held.contains c <;> rfl
  | false =>
    rw [hn, if_neg (by decide), if_neg hbody] at hbrk
    refine ⟨_, ⟨false, mem.flatMap pieces ++ cls.flatMap clsR⟩, hbrk, hSr, by lia, fun tl => ?_, ⟨_, rfl⟩, fun c hc => ?_, by simp at hpl hbl ⊢; lia, fun c hc => ?_⟩
    · obtain ⟨h1, h2⟩ := rc tl
      cases hbd : render mem ++ cls.flatten with
      | nil => exact absurd hbd hbody
      | cons b0 bs =>
        rw [hbd] at h1 h2
        have h94 : b0 ≠ 94 := by have := h2.2; simpa using this
        have h4 := OcR.cls (c := b0) (s := bs ++ (93 :: tl)) (rs := mem.flatMap pieces ++ cls.flatMap clsR) (r := tl) (by rw [if_neg h94]; exact h1)
        rw [show (b0 == 94) = false by simpa using h94] at h4
        simpa using h4
    · simp only [List.mem_append, List.mem_cons, List.not_mem_nil, or_false] at hc
      rcases hc with (hc | hc) | hc
      · lia
      · exact hlt c (List.mem_append.mpr hc)
      · lia
    · show (if inR (mem.flatMap pieces ++ cls.flatMap clsR) c = true then !false else false) = _
      rw [hin c hc]; cases held.contains c <;> rfl
end Wk
end
/- P5 -/
section
namespace Wk
open Pl
noncomputable abbrev starO : Oc := ⟨true, [(47, 47)]⟩
inductive Corr : List It → List (Oc × Nat × Option Nat) → Prop
  | nil : Corr [] []
  | star {its ps} : Corr its ps → Corr (It.star :: its) ((starO, 0, none) :: ps)
  | more {its ps} : Corr (It.star :: its) ps → Corr (It.star :: It.star :: its) ps
  | one {its ps} : Corr its ps → Corr (It.one :: its) ((starO, 1, some 1) :: ps)
  | set {t h its o ps} : (∀ c, lawSigns.contains c = true → ocHolds o c = (h.contains c != t)) → o.rs.length ≤ 100000 → Corr its ps → Corr (It.set t h :: its) ((o, 1, some 1) :: ps)
structure Tr (s out : List Nat) (its : List It) (ps : List (Oc × Nat × Option Nat)) : Prop where
  ts : Pl.ts s = some out
  sp : Pl.sp s = true
  co : Corr its ps
  lt : ∀ c ∈ out, c < 256
  l1 : ps.length ≤ s.length
  l2 : its.length ≤ s.length
  rp : ∀ tl qs r, hdOk tl → RP tl qs r → RP (out ++ tl) (ps.map toPt ++ qs) r
  hd : ∀ tl, hdOk tl → hdOk (out ++ tl)
theorem qt_no {tl : List Nat} (h : hdOk tl) : QT tl 1 (some 1) tl := .no h.1 h.2.1 h.2.2
theorem ocr_esc (c : Nat) (tl : List Nat) : OcR (Pl.esc1 c ++ tl) ⟨false, [(c, c)]⟩ tl := by
  unfold Pl.esc1
  cases h : Pl.special.contains c with
  | true => exact .esc (special_cases h).2.2.2.2
  | false => obtain ⟨h1, _, _, _, h2, h3, h4, h5, _⟩ := special_not h; exact .raw h2 h3 h4 h5 h1
theorem hd_esc (c : Nat) (tl : List Nat) : hdOk (Pl.esc1 c ++ tl) := by
  obtain ⟨d, t, e, _, _, _, h1, h2, h3⟩ := esc_head c tl
  rw [e]; simp [hdOk, h1, h2, h3]
theorem one_holds (c x : Nat) : ocHolds ⟨false, [(c, c)]⟩ x = ([c].contains x != false) := by
  show (if inR [(c, c)] x = true then !false else false) = _
  rw [inR_one, one_contains]
  have : (decide (c ≤ x) && decide (x ≤ c)) = decide (x = c) := by rw [Bool.eq_iff_iff]; simp; lia
  rw [this]; cases decide (x = c) <;> rfl
theorem ocr_star (tl : List Nat) : OcR ([91, 94, 47, 93] ++ tl) starO tl :=
  OcR.cls (c := 94) (s := 47 :: 93 :: tl) (.one (by decide) rfl (by simp) .done)
theorem Tr.lit {s out its ps} (T : Tr s out its ps) (c : Nat) (hc : c < 256) {s' : List Nat} (hl : s.length < s'.length) (hts : Pl.ts s' = (Pl.ts s).map (Pl.esc1 c ++ ·)) (hsp : Pl.sp s' = Pl.sp s) :
    Tr s' (Pl.esc1 c ++ out) (It.set false [c] :: its) ((⟨false, [(c, c)]⟩, 1, some 1) :: ps) where
  ts := by rw [hts, T.ts]; rfl
  sp := hsp.trans T.sp
  co := .set (fun x _ => one_holds c x) (by simp) T.co
  lt := fun x hx => by
    rcases List.mem_append.mp hx with h | h
    · exact esc_lt hc x h
    · exact T.lt x h
  l1 := by have := T.l1; simp; lia
  l2 := by have := T.l2; simp; lia
  rp := fun tl qs r h1 h2 => by
    rw [List.append_assoc]
    exact .oct (ocr_esc c _) (qt_no (T.hd tl h1)) (T.rp tl qs r h1 h2)
  hd := fun tl h => by rw [List.append_assoc]; exact hd_esc c _
theorem main2 : ∀ (n : Nat) (s : List Nat), s.length ≤ n → s.length ≤ 1000 → Sig s → (Pl.lawRead s = none → Pl.ts s = none) ∧ (∀ its, Pl.lawRead s = some its → ∃ out ps, Tr s out its ps)
  | n, [], hn, hz, hs => by
    refine ⟨fun h => (by rw [lr_nil] at h; cases h), fun its h => ?_⟩
    rw [lr_nil] at h; cases h
    exact ⟨[], [], ts_nil, sp_nil, .nil, by simp, by simp, by simp, fun tl qs r _ h => h, fun tl h => h⟩
  | 0, c :: r, hn, _, _ => by simp at hn
  | n + 1, c :: r, hn, hz0, hs => by
    have hz : r.length ≤ 1000 := by simp at hz0; lia
    have hn' : r.length ≤ n := by simpa using hn
    have hc : c < 256 := Nat.lt_trans (sig_lt hs.head) (by decide)
    by_cases h91 : c = 91
    · subst h91
      cases hls : Pl.lawSet (if isNeg r then r.tail else r) .beg [] with
      | none =>
        have hb := brk_none hls hs.tail
        refine ⟨fun _ => ts_brkn hb, fun its h => ?_⟩
        rw [lr_setn hls] at h; cases h
      | some p =>
        obtain ⟨held, r'⟩ := p
        obtain ⟨out1, o, hb, hSr, hrl, hoc, ⟨x, hx⟩, hlt, hrs, hhold⟩ := brk_some hls hs.tail
        obtain ⟨ih1, ih2⟩ := main2 n r' (by lia) (by lia) hSr
        refine ⟨fun h => ?_, fun its h => ?_⟩
        · rw [lr_set hls] at h
          rw [ts_brk hb hrl, ih1 (by cases e : Pl.lawRead r' with
            | none => rfl
            | some _ => rw [e] at h; cases h)]
          rfl
        · rw [lr_set hls] at h
          obtain ⟨its', hi, rfl⟩ := Option.map_eq_some_iff.mp h
          obtain ⟨out, ps, T⟩ := ih2 its' hi
          refine ⟨out1 ++ out, (o, 1, some 1) :: ps, ⟨by rw [ts_brk hb hrl, T.ts]; rfl, by rw [sp_brk hb hrl]; exact T.sp, .set hhold (by lia) T.co, fun c hc => ?_, by have := T.l1; simp; lia, by have := T.l2; simp; lia, fun tl qs rr h1 h2 => ?_, fun tl h => ?_⟩⟩
          · rcases List.mem_append.mp hc with h | h
            · exact hlt c h
            · exact T.lt c h
          · rw [List.append_assoc]
            exact .oct (hoc _) (qt_no (T.hd tl h1)) (T.rp tl qs rr h1 h2)
          · rw [hx]; simp [hdOk]
    by_cases h42 : c = 42
    · subst h42
      obtain ⟨ih1, ih2⟩ := main2 n r hn' hz hs.tail
      have hsp : Pl.sp (42 :: r) = Pl.sp r := sp_else (by simp) (by decide)
      by_cases hr : r.head? = some 42
      · obtain ⟨r', rfl⟩ : ∃ r', r = 42 :: r' := by
          cases r with
          | nil => cases hr
          | cons d r' => simp at hr; exact ⟨r', by rw [hr]⟩
        have hts : Pl.ts (42 :: 42 :: r') = Pl.ts (42 :: r') := by rw [ts_star, ts_star]; simp
        refine ⟨fun h => ?_, fun its h => ?_⟩
        · rw [lr_star] at h
          rw [hts, ih1 (by cases e : Pl.lawRead (42 :: r') with
            | none => rfl
            | some _ => rw [e] at h; cases h)]
        · rw [lr_star] at h
          obtain ⟨its', hi, rfl⟩ := Option.map_eq_some_iff.mp h
          obtain ⟨out, ps, T⟩ := ih2 its' hi
          rw [lr_star] at hi
          obtain ⟨its'', hi2, rfl⟩ := Option.map_eq_some_iff.mp hi
          exact ⟨out, ps, ⟨hts.trans T.ts, hsp.trans T.sp, .more T.co, T.lt, by have := T.l1; simp at this ⊢; lia, by have := T.l2; simp at this ⊢; lia, T.rp, T.hd⟩⟩
      · have hdw : r.dropWhile (· = 42) = r := by
          cases r with
          | nil => rfl
          | cons d r' => simp at hr; simp [hr]
        have hts : Pl.ts (42 :: r) = (Pl.ts r).map ([91, 94, 47, 93, 42] ++ ·) := by rw [ts_star, hdw]
        refine ⟨fun h => ?_, fun its h => ?_⟩
        · rw [lr_star] at h
          rw [hts, ih1 (by cases e : Pl.lawRead r with
            | none => rfl
            | some _ => rw [e] at h; cases h)]
          rfl
        · rw [lr_star] at h
          obtain ⟨its', hi, rfl⟩ := Option.map_eq_some_iff.mp h
          obtain ⟨out, ps, T⟩ := ih2 its' hi
          refine ⟨[91, 94, 47, 93, 42] ++ out, (starO, 0, none) :: ps, ⟨by rw [hts, T.ts]; rfl, hsp.trans T.sp, .star T.co, fun c hc => ?_, by have := T.l1; simp; lia, by have := T.l2; simp; lia, fun tl qs rr h1 h2 => ?_, fun tl h => by simp [hdOk]⟩⟩
          · rcases List.mem_append.mp hc with h | h
            · simp at h; lia
            · exact T.lt c h
          · rw [List.append_assoc]
            exact .oct (ocr_star (42 :: (out ++ tl))) (.star (T.hd tl h1).2.2) (T.rp tl qs rr h1 h2)
    by_cases h63 : c = 63
    · subst h63
      obtain ⟨ih1, ih2⟩ := main2 n r hn' hz hs.tail
      have hsp : Pl.sp (63 :: r) = Pl.sp r := sp_else (by simp) (by decide)
      refine ⟨fun h => ?_, fun its h => ?_⟩
      · rw [lr_one] at h
        rw [ts_one, ih1 (by cases e : Pl.lawRead r with
          | none => rfl
          | some _ => rw [e] at h; cases h)]
        rfl
      · rw [lr_one] at h
        obtain ⟨its', hi, rfl⟩ := Option.map_eq_some_iff.mp h
        obtain ⟨out, ps, T⟩ := ih2 its' hi
        refine ⟨[91, 94, 47, 93] ++ out, (starO, 1, some 1) :: ps, ⟨by rw [ts_one, T.ts]; rfl, hsp.trans T.sp, .one T.co, fun c hc => ?_, by have := T.l1; simp; lia, by have := T.l2; simp; lia, fun tl qs rr h1 h2 => ?_, fun tl h => by simp [hdOk]⟩⟩
        · rcases List.mem_append.mp hc with h | h
          · simp at h; lia
          · exact T.lt c h
        · rw [List.append_assoc]
          exact .oct (ocr_star (out ++ tl)) (qt_no (T.hd tl h1)) (T.rp tl qs rr h1 h2)
    by_cases h92 : c = 92 ∧ r ≠ []
    · obtain ⟨rfl, hr0⟩ := h92
      cases r with
      | nil => exact absurd rfl hr0
      | cons d r' =>
        obtain ⟨ih1, ih2⟩ := main2 n r' (by simp at hn'; lia) (by simp at hz; lia) hs.tail.tail
        refine ⟨fun h => ?_, fun its h => ?_⟩
        · rw [lr_esc] at h
          rw [ts_esc, ih1 (by cases e : Pl.lawRead r' with
            | none => rfl
            | some _ => rw [e] at h; cases h)]
          rfl
        · rw [lr_esc] at h
          obtain ⟨its', hi, rfl⟩ := Option.map_eq_some_iff.mp h
          obtain ⟨out, ps, T⟩ := ih2 its' hi
          exact ⟨_, _, T.lit d (Nat.lt_trans (sig_lt hs.tail.head) (by decide)) (by simp; lia) ts_esc sp_esc⟩
    · obtain ⟨ih1, ih2⟩ := main2 n r hn' hz hs.tail
      have hts : Pl.ts (c :: r) = (Pl.ts r).map (Pl.esc1 c ++ ·) := by
        by_cases hc92 : c = 92
        · subst hc92
          have hr : r = [] := by
            cases r with
            | nil => rfl
            | cons d r' => exact absurd ⟨rfl, by simp⟩ h92
          subst hr
          rw [ts_esc1, ts_nil]; simp
        · exact ts_else h42 h63 hc92 h91
      refine ⟨fun h => ?_, fun its h => ?_⟩
      · rw [lr_else h91 h42 h63 h92] at h
        rw [hts, ih1 (by cases e : Pl.lawRead r with
          | none => rfl
          | some _ => rw [e] at h; cases h)]
        rfl
      · rw [lr_else h91 h42 h63 h92] at h
        obtain ⟨its', hi, rfl⟩ := Option.map_eq_some_iff.mp h
        obtain ⟨out, ps, T⟩ := ih2 its' hi
        exact ⟨_, _, T.lit c hc (by simp) hts (sp_else h92 h91)⟩
end Wk
end
/- P6 -/
section
namespace Wk
open Pl
noncomputable abbrev slashO : Oc := ⟨false, [(47, 47)]⟩
noncomputable abbrev dotO : Oc := ⟨true, []⟩
noncomputable abbrev grpL : List (Oc × Nat × Option Nat) := [(dotO, 0, none), (slashO, 1, some 1)]
noncomputable def fullP (ps : List (Oc × Nat × Option Nat)) : List Pt := .grp grpL 0 (some 1) :: (ps.map toPt ++ [.oct slashO 0 (some 1), .fin])
theorem full_rp {s out its ps} (T : Tr s out its ps) : RP ([40, 46, 42, 47, 41, 63] ++ (out ++ ([47, 63] ++ [92, 90]))) (fullP ps) [] := by
  have h0 : hdOk ([47, 63] ++ [92, 90]) := by simp [hdOk]
  have h1 : RP ([47, 63] ++ [92, 90]) [.oct slashO 0 (some 1), .fin] [] :=
    .oct (s1 := [63, 92, 90]) (.raw (by decide) (by decide) (by decide) (by decide) (by decide)) (.opt (by simp)) (.fin (by simp) (by simp) (by simp) (.stop (.inl rfl)))
  have h2 := T.rp _ _ _ h0 h1
  have h3 := T.hd _ h0
  generalize out ++ ([47, 63] ++ [92, 90]) = rest at *
  have h4 : RP (46 :: 42 :: 47 :: 41 :: 63 :: rest) (grpL.map fun q => .oct q.1 q.2.1 q.2.2) (41 :: 63 :: rest) :=
    .oct (s1 := 42 :: 47 :: 41 :: 63 :: rest) .dot (.star (by simp)) (.oct (s1 := 41 :: 63 :: rest) (.raw (by decide) (by decide) (by decide) (by decide) (by decide)) (.no (by simp) (by simp) (by simp)) (.stop (.inr rfl)))
  exact .grp (by simp) (by simp) h4 (.opt h3.2.2) h2

/- places -/
theorem nodup_len : ∀ (N : Nat) (l : List Nat), l.Nodup → (∀ x ∈ l, x < N) → l.length ≤ N
  | 0, l, _, h => by
    cases l with
    | nil => simp
    | cons a r => exact absurd (h a (.head _)) (by lia)
  | N + 1, l, hn, h => by
    have h1 := nodup_len N (l.erase N) (hn.erase N) fun x hx => by
      obtain ⟨h2, h3⟩ := hn.mem_erase_iff.mp hx
      have := h x h3
      lia
    have h2 := List.length_erase (a := N) (l := l)
    split at h2 <;> lia
noncomputable def PI (N : Nat) (l : List Nat) : Prop := l.Nodup ∧ ∀ x ∈ l, x ≤ N
theorem PI.len {N l} (h : PI N l) : l.length ≤ N + 1 := nodup_len (N + 1) l h.1 fun x hx => by have := h.2 x hx; lia
theorem fresh_gen (done : List Nat) : ∀ (l f : List Nat), f.Nodup → (l.foldl (fun f p => if done.contains p || f.contains p then f else f ++ [p]) f).Nodup ∧ ∀ x, x ∈ l.foldl (fun f p => if done.contains p || f.contains p then f else f ++ [p]) f ↔ x ∈ f ∨ (x ∈ l ∧ x ∉ done)
  | [], f, hf => ⟨hf, fun x => by simp⟩
  | a :: l, f, hf => by
    rw [List.foldl_cons]
    by_cases h : (done.contains a || f.contains a) = true
    · rw [if_pos h]
      obtain ⟨h1, h2⟩ := fresh_gen done l f hf
      refine ⟨h1, fun x => ?_⟩
      rw [h2]
      simp only [Bool.or_eq_true, List.contains_iff_mem] at h
      constructor
      · rintro (h3 | ⟨h3, h4⟩)
        · exact .inl h3
        · exact .inr ⟨.tail _ h3, h4⟩
      · rintro (h3 | ⟨h3, h4⟩)
        · exact .inl h3
        · rcases List.mem_cons.mp h3 with rfl | h3
          · rcases h with h | h
            · exact absurd h h4
            · exact .inl h
          · exact .inr ⟨h3, h4⟩
    · rw [if_neg h]
      simp only [Bool.or_eq_true, List.contains_iff_mem, not_or] at h
      have hf' : (f ++ [a]).Nodup := List.nodup_append.mpr ⟨hf, by simp, fun x hx y hy => by rw [List.mem_singleton.mp hy]; intro e; exact h.2 (e ▸ hx)⟩
      obtain ⟨h1, h2⟩ := fresh_gen done l (f ++ [a]) hf'
      refine ⟨h1, fun x => ?_⟩
      rw [h2]
      constructor
      · rintro (h3 | ⟨h3, h4⟩)
        · rcases List.mem_append.mp h3 with h3 | h3
          · exact .inl h3
          · rw [List.mem_singleton.mp h3]; exact .inr ⟨.head _, h.1⟩
        · exact .inr ⟨.tail _ h3, h4⟩
      · rintro (h3 | ⟨h3, h4⟩)
        · exact .inl (List.mem_append_left _ h3)
        · rcases List.mem_cons.mp h3 with rfl | h3
          · exact .inl (List.mem_append_right _ (.head _))
          · exact .inr ⟨h3, h4⟩
theorem fresh_nd (done l : List Nat) : (freshL done l).Nodup := (fresh_gen done l [] (by simp)).1
theorem fresh_mem (done l : List Nat) (x : Nat) : x ∈ freshL done l ↔ x ∈ l ∧ x ∉ done := by
  exact ((fresh_gen done l [] (by simp)).2 x).trans (by simp)
theorem once_mem (o : Oc) (name now : List Nat) (x : Nat) : x ∈ onceO o name now ↔ ∃ p ∈ now, p < name.length ∧ ocHolds o (name.getD p 0) = true ∧ x = p + 1 := by
  unfold onceO
  rw [List.mem_map]
  constructor
  · rintro ⟨p, hp, rfl⟩
    obtain ⟨h1, h2⟩ := List.mem_filter.mp hp
    simp only [Bool.and_eq_true, decide_eq_true_eq] at h2
    exact ⟨p, h1, h2.1, h2.2, rfl⟩
  · rintro ⟨p, h1, h2, h3, rfl⟩
    exact ⟨p, List.mem_filter.mpr ⟨h1, by simp only [Bool.and_eq_true, decide_eq_true_eq]; exact ⟨h2, h3⟩⟩, rfl⟩
theorem once_len (o : Oc) (name now : List Nat) : (onceO o name now).length ≤ now.length := by
  unfold onceO; rw [List.length_map]; exact List.length_filter_le _ _

section
variable {name : List Nat} (hN : name.length ≤ 100)
include hN
/- all signs fit -/
noncomputable def AllH (o : Oc) (name : List Nat) : Prop := ∀ p, p < name.length → ocHolds o (name.getD p 0) = true
theorem star_lp {o : Oc} (ho : AllH o name) (F : List Nat → List Nat → Prop) (hF : ∀ now, F now (onceO o name now)) : ∀ (k many : Nat) (done now : List Nat), name.length + 1 - many ≤ k → (∀ x ∈ now, many ≤ x) → now.Nodup → (∀ x ∈ now, x ∈ done) → PI name.length done → (∀ q ∈ done, q ∉ now → q < name.length → q + 1 ∈ done) →
    ∃ r, Lp F none k many done now r ∧ PI name.length r ∧ (∀ q ∈ done, q ∈ r) ∧ (∀ q ∈ r, q < name.length → q + 1 ∈ r) ∧ (∀ q ∈ r, ∃ p ∈ done, p ≤ q)
  | k, many, done, [], _, _, _, _, hd, hc => ⟨done, .stop (.inl rfl), hd, fun q h => h, fun q h hq => hc q h (by simp) hq, fun q h => ⟨q, h, Nat.le_refl _⟩⟩
  | 0, many, done, a :: now, hk, hm, _, hs, hd, _ => by
    have h1 := hm a (.head _)
    have h2 := hd.2 a (hs a (.head _))
    lia
  | k + 1, many, done, a :: now, hk, hm, hnn, hs, hd, hc => by
    have hm' : ∀ x ∈ freshL done (onceO o name (a :: now)), many + 1 ≤ x ∧ x ≤ name.length := fun x hx => by
      obtain ⟨h1, _⟩ := (fresh_mem _ _ _).mp hx
      obtain ⟨p, hp, h2, _, rfl⟩ := (once_mem _ _ _ _).mp h1
      have := hm p hp
      lia
    have hd' : PI name.length (done ++ freshL done (onceO o name (a :: now))) := ⟨List.nodup_append.mpr ⟨hd.1, fresh_nd _ _, fun x hx y hy e => by
        subst e; exact ((fresh_mem _ _ _).mp hy).2 hx⟩, fun x hx => by
        rcases List.mem_append.mp hx with h | h
        · exact hd.2 x h
        · exact (hm' x h).2⟩
    obtain ⟨r, h1, h2, h3, h4, h5⟩ := star_lp ho F hF k (many + 1) (done ++ freshL done (onceO o name (a :: now))) (freshL done (onceO o name (a :: now))) (by lia) (fun x hx => (hm' x hx).1) (fresh_nd _ _) (fun x hx => List.mem_append_right _ hx) hd'
      (fun q hq hqn hql => by
        rcases List.mem_append.mp hq with h | h
        · by_cases hqa : q ∈ a :: now
          · by_cases hq1 : q + 1 ∈ done
            · exact List.mem_append_left _ hq1
            · exact List.mem_append_right _ ((fresh_mem _ _ _).mpr ⟨(once_mem _ _ _ _).mpr ⟨q, hqa, hql, ho q hql, rfl⟩, hq1⟩)
          · exact List.mem_append_left _ (hc q h hqa hql)
        · exact absurd h hqn)
    have hl1 := hd.len
    have hl2 : (a :: now).length ≤ name.length + 1 := PI.len ⟨hnn, fun x hx => hd.2 x (hs x hx)⟩
    have hl3 := once_len o name (a :: now)
    refine ⟨r, .step (out := onceO o name (a :: now)) (by simp) (fun m e => by cases e) (hF _) (by lia) h1, h2, fun q hq => h3 q (List.mem_append_left _ hq), h4, fun q hq => ?_⟩
    obtain ⟨p, hp, hpq⟩ := h5 q hq
    rcases List.mem_append.mp hp with h | h
    · exact ⟨p, h, hpq⟩
    · obtain ⟨h6, _⟩ := (fresh_mem _ _ _).mp h
      obtain ⟨p', hp', _, _, rfl⟩ := (once_mem _ _ _ _).mp h6
      exact ⟨p', hs p' hp', by lia⟩
theorem star_all {o : Oc} (ho : AllH o name) (F : List Nat → List Nat → Prop) (hF : ∀ now, F now (onceO o name now)) {places : List Nat} (hp : PI name.length places) :
    ∃ r k, Lp F none k 0 places places r ∧ PI name.length r ∧ ∀ x, x ∈ r ↔ ∃ p ∈ places, p ≤ x ∧ x ≤ name.length := by
  obtain ⟨r, h1, h2, h3, h4, h5⟩ := star_lp hN ho F hF (name.length + 1) 0 places places (by lia) (fun _ _ => Nat.zero_le _) hp.1 (fun _ h => h) hp (fun q h h' => absurd h h')
  refine ⟨r, _, h1, h2, fun x => ⟨fun hx => ?_, ?_⟩⟩
  · obtain ⟨p, hp, hpx⟩ := h5 x hx
    exact ⟨p, hp, hpx, h2.2 x hx⟩
  · rintro ⟨p, hp, h6, h7⟩
    have : ∀ d, p + d ≤ name.length → p + d ∈ r := by
      intro d
      induction d with
      | zero => intro _; exact h3 p hp
      | succ d ih => intro h; exact h4 (p + d) (ih (by lia)) (by lia)
    have := this (x - p) (by lia)
    rwa [show p + (x - p) = x by lia] at this
theorem one_lp (F : List Nat → List Nat → Prop) {places out : List Nat} (hp : PI name.length places) (hF : F places out) (ho : out.length ≤ places.length) : Lp F (some 1) 1 0 [] places (freshL [] out) := by
  have hl := hp.len
  cases places with
  | nil =>
    have : out = [] := List.length_eq_zero_iff.mp (by simpa using ho)
    subst this
    exact .stop (.inl rfl)
  | cons a r =>
    have := Lp.step (F := F) (most := some 1) (k := 0) (many := 0) (done := []) (now := a :: r) (out := out) (r := [] ++ freshL [] out) (by simp) (fun m e => by cases e; decide) hF (by simp at hl ho ⊢; lia) (.stop (.inr ⟨1, rfl, Nat.le_refl _⟩))
    simpa using this
theorem opt_lp (F : List Nat → List Nat → Prop) {places : List Nat} (hp : PI name.length places) (hF : F places []) : Lp F (some 1) 1 0 places places places := by
  have hl := hp.len
  by_cases hn : places = []
  · exact .stop (.inl hn)
  · have := Lp.step (F := F) (most := some 1) (k := 0) (many := 0) (done := places) (now := places) (out := []) (r := places ++ freshL places []) hn (fun m e => by cases e; decide) hF (by simp; lia) (.stop (.inl rfl))
    simpa [freshL] using this
end
end Wk
end
/- P7 -/
section
namespace Wk
open Pl
/- the matcher says what the law's reading says -/
theorem fits_more (its : List It) : ∀ m, fits (It.star :: It.star :: its) m = fits (It.star :: its) m
  | [] => rfl
  | c :: m => by
    rw [fits_s1, fits_more its m, fits_s1]
    cases fits its (c :: m) <;> cases fits (It.star :: its) m <;> rfl
theorem fits_star (its : List It) (name : List Nat) : ∀ (d p : Nat), p + d = name.length → (fits (It.star :: its) (name.drop p) = true ↔ ∃ x, p ≤ x ∧ x ≤ name.length ∧ fits its (name.drop x) = true)
  | 0, p, h => by
    rw [List.drop_eq_nil_of_le (by lia)]
    rw [fits_s0]
    constructor
    · intro h1; exact ⟨p, Nat.le_refl _, by lia, by rw [List.drop_eq_nil_of_le (by lia)]; exact h1⟩
    · rintro ⟨x, h1, h2, h3⟩
      rw [List.drop_eq_nil_of_le (by lia)] at h3; exact h3
  | d + 1, p, h => by
    have hd : name.drop p = name[p]'(by lia) :: name.drop (p + 1) := List.drop_eq_getElem_cons (by lia)
    rw [hd]
    rw [fits_s1, Bool.or_eq_true, ← hd, fits_star its name d (p + 1) (by lia)]
    constructor
    · rintro (h1 | ⟨x, h1, h2, h3⟩)
      · exact ⟨p, Nat.le_refl _, by lia, h1⟩
      · exact ⟨x, by lia, h2, h3⟩
    · rintro ⟨x, h1, h2, h3⟩
      by_cases hx : x = p
      · subst hx; exact .inl h3
      · exact .inr ⟨x, by lia, h2, h3⟩
theorem not47 {c : Nat} (h : c ≠ 47) : (decide (47 ≤ c) && decide (c ≤ 47)) = false := by simp; lia
section
variable {name : List Nat} (hN : name.length ≤ 100) (hs : ∀ c ∈ name, lawSigns.contains c = true)
include hN hs
theorem getD_sign {p : Nat} (h : p < name.length) : lawSigns.contains (name.getD p 0) = true := by
  rw [List.getD_eq_getElem?_getD, List.getElem?_eq_getElem h]
  exact hs _ (List.getElem_mem h)
theorem star_holds : AllH starO name := fun p h => by
  have h47 := sign_not47 (getD_sign hN hs h)
  show (if inR [(47, 47)] _ = true then !true else true) = true
  rw [inR_one, not47 h47]
  rfl
theorem dot_holds : AllH dotO name := fun p h => rfl
theorem slash_none (now : List Nat) : onceO slashO name now = [] := by
  cases h : onceO slashO name now with
  | nil => rfl
  | cons x r =>
    obtain ⟨p, _, h1, h2, _⟩ := (once_mem slashO name now x).mp (by rw [h]; exact .head _)
    have h47 := sign_not47 (getD_sign hN hs h1)
    have h3 : (if inR [(47, 47)] (name.getD p 0) = true then !false else false) = true := h2
    rw [inR_one, not47 h47] at h3
    cases h3
theorem single {o : Oc} {its : List It} {it : It} (hit : ∀ c n, lawSigns.contains c = true → fits (it :: its) (c :: n) = (ocHolds o c && fits its n)) (hnil : fits (it :: its) [] = false) {places : List Nat} (hp : PI name.length places) :
    PI name.length (freshL [] (onceO o name places)) ∧ ((∃ x ∈ freshL [] (onceO o name places), fits its (name.drop x) = true) ↔ ∃ p ∈ places, fits (it :: its) (name.drop p) = true) := by
  have hm : ∀ x, x ∈ freshL [] (onceO o name places) ↔ ∃ p ∈ places, p < name.length ∧ ocHolds o (name.getD p 0) = true ∧ x = p + 1 := fun x => by
    rw [fresh_mem]; simp only [List.not_mem_nil, not_false_eq_true, and_true]; exact once_mem o name places x
  refine ⟨⟨fresh_nd _ _, fun x hx => ?_⟩, ?_⟩
  · obtain ⟨p, _, h1, _, rfl⟩ := (hm x).mp hx; lia
  · have hd : ∀ p, p < name.length → name.drop p = name.getD p 0 :: name.drop (p + 1) := fun p h => by
      rw [List.getD_eq_getElem?_getD, List.getElem?_eq_getElem h]; exact List.drop_eq_getElem_cons h
    constructor
    · rintro ⟨x, hx, hf⟩
      obtain ⟨p, h1, h2, h3, rfl⟩ := (hm x).mp hx
      exact ⟨p, h1, by rw [hd p h2, hit _ _ (getD_sign hN hs h2), h3, hf]; rfl⟩
    · rintro ⟨p, h1, hf⟩
      by_cases h2 : p < name.length
      · rw [hd p h2, hit _ _ (getD_sign hN hs h2), Bool.and_eq_true] at hf
        exact ⟨p + 1, (hm _).mpr ⟨p, h1, h2, hf.1, rfl⟩, hf.2⟩
      · rw [List.drop_eq_nil_of_le (by lia), hnil] at hf; cases hf
theorem main3 {its : List It} {ps : List (Oc × Nat × Option Nat)} (C : Corr its ps) : ∀ places, PI name.length places →
    ∃ r, EndsG (F1 name) (ps.map toPt) places r ∧ PI name.length r ∧ (name.length ∈ r ↔ ∃ p ∈ places, fits its (name.drop p) = true) := by
  induction C with
  | nil =>
    intro places hp
    refine ⟨places, .nil, hp, ?_⟩
    constructor
    · intro h; exact ⟨_, h, by simp [fits]⟩
    · rintro ⟨p, h1, h2⟩
      have h3 := hp.2 p h1
      simp [fits] at h2
      have : p = name.length := by lia
      exact this ▸ h1
  | more C ih =>
    intro places hp
    obtain ⟨r, h1, h2, h3⟩ := ih places hp
    refine ⟨r, h1, h2, h3.trans ?_⟩
    simp only [fits_more]
  | @star its ps C ih =>
    intro places hp
    obtain ⟨r1, k, h1, h2, h3⟩ := star_all hN (star_holds hN hs) (F1 name (toPt (starO, 0, none))) (fun now => ⟨rfl, by simp⟩) hp
    obtain ⟨r, h4, h5, h6⟩ := ih r1 h2
    have hl := hp.len
    refine ⟨r, .cons (k := k) (by lia) h1 h4, h5, h6.trans ?_⟩
    constructor
    · rintro ⟨x, hx, hf⟩
      obtain ⟨p, h7, h8, h9⟩ := (h3 x).mp hx
      exact ⟨p, h7, (fits_star its name (name.length - p) p (by lia)).mpr ⟨x, h8, h9, hf⟩⟩
    · rintro ⟨p, h7, hf⟩
      have h8 := hp.2 p h7
      obtain ⟨x, h9, h10, h11⟩ := (fits_star its name (name.length - p) p (by lia)).mp hf
      exact ⟨x, (h3 x).mpr ⟨p, h7, h9, h10⟩, h11⟩
  | @one its ps C ih =>
    intro places hp
    have hl := hp.len
    obtain ⟨h1, h2⟩ := single hN hs (o := starO) (its := its) (it := .one) (fun c n hc => by
      have h47 := sign_not47 hc
      have : ocHolds starO c = true := by
        show (if inR [(47, 47)] c = true then !true else true) = true
        rw [inR_one, show (decide (47 ≤ c) && decide (c ≤ 47)) = false by simp; lia]; rfl
      rw [this]; simp [fits]) (by simp [fits]) hp
    obtain ⟨r, h4, h5, h6⟩ := ih _ h1
    exact ⟨r, .cons (k := 1) (by lia) (one_lp hN _ hp ⟨rfl, by simp⟩ (once_len _ _ _)) h4, h5, h6.trans h2⟩
  | @set t h its o ps hh hrs C ih =>
    intro places hp
    have hl := hp.len
    obtain ⟨h1, h2⟩ := single hN hs (o := o) (its := its) (it := .set t h) (fun c n hc => by
      rw [hh c hc]; simp only [fits]; cases h.contains c <;> cases t <;> simp) (by simp [fits]) hp
    obtain ⟨r, h4, h5, h6⟩ := ih _ h1
    exact ⟨r, .cons (k := 1) (by lia) (one_lp hN _ hp ⟨rfl, hrs⟩ (once_len _ _ _)) h4, h5, h6.trans h2⟩
theorem ends_app {F : Pt → List Nat → List Nat → Prop} : ∀ {a b : List Pt} {p r r' : List Nat}, EndsG F a p r → EndsG F b r r' → EndsG F (a ++ b) p r'
  | [], b, p, r, r', h, h' => by cases h; exact h'
  | x :: a, b, p, r, r', h, h' => by
    cases h with
    | cons h1 h2 h3 => exact .cons h1 h2 (ends_app h3 h')
theorem main4 {its : List It} {ps : List (Oc × Nat × Option Nat)} (C : Corr its ps) :
    ∃ res, EndsG (F1 name) (fullP ps) [0] res ∧ res.length ≤ 10000 ∧ decide (0 < res.length) = fits its name := by
  have h0 : PI name.length [0] := ⟨by simp, by simp⟩
  -- the group takes nothing
  obtain ⟨rd, kd, hd1, hd2, _⟩ := star_all hN (dot_holds hN hs) (F0 name (toPt (dotO, 0, none))) (fun now => ⟨rfl, by simp⟩) h0
  have hsl : EndsG (F0 name) (grpL.map toPt) [0] [] := by
    have hl := hd2.len
    refine .cons (k := kd) (by simp) hd1 (.cons (k := 1) (by lia) ?_ .nil)
    have := one_lp hN (F0 name (toPt (slashO, 1, some 1))) hd2 (out := []) ⟨(slash_none hN hs rd).symm, by simp⟩ (by simp)
    exact this
  have hgrp : Lp (F1 name (.grp grpL 0 (some 1))) (some 1) 1 0 [0] [0] [0] := opt_lp hN _ h0 ⟨by simp, hsl⟩
  obtain ⟨r, h1, h2, h3⟩ := main3 hN hs C [0] h0
  have hl := h2.len
  have hopt : Lp (F1 name (.oct slashO 0 (some 1))) (some 1) 1 0 r r r := opt_lp hN _ h2 ⟨(slash_none hN hs r).symm, by simp⟩
  have hfin : Lp (F1 name .fin) (some 1) 1 0 [] r (freshL [] (r.filter fun x => x == name.length)) := one_lp hN _ h2 rfl (List.length_filter_le _ _)
  have hmem : ∀ x, x ∈ freshL [] (r.filter fun x => x == name.length) ↔ x ∈ r ∧ x = name.length := fun x => by
    rw [fresh_mem]; simp
  refine ⟨freshL [] (r.filter fun x => x == name.length), .cons (k := 1) (by simp) hgrp (ends_app hN hs h1 (.cons (k := 1) (by lia) hopt (.cons (k := 1) (by lia) hfin .nil))), ?_, ?_⟩
  · have : PI name.length (freshL [] (r.filter fun x => x == name.length)) := ⟨fresh_nd _ _, fun x hx => by have := ((hmem x).mp hx).2; lia⟩
    have := this.len
    lia
  · have h4 : name.length ∈ r ↔ fits its name = true := h3.trans (by simp)
    rw [Bool.eq_iff_iff, decide_eq_true_eq, ← h4]
    constructor
    · intro h5
      cases hq : freshL [] (r.filter fun x => x == name.length) with
      | nil => rw [hq] at h5; simp at h5
      | cons x l =>
        obtain ⟨h6, h7⟩ := (hmem x).mp (by rw [hq]; exact .head _)
        exact h7 ▸ h6
    · intro h5
      exact List.length_pos_of_mem ((hmem _).mpr ⟨h5, rfl⟩)
end
end Wk
end
/- E1 -/
section
set_option maxHeartbeats 8000000
open PySem PySem.W PySem.Calls PyProof.Rows
namespace Wk
open Mine
theorem pre_of {args : List WData} (h : RR.claim.pre args = true) : ∃ ns : List Int, args = [.list (ns.map .int)] ∧ ns.length ≤ 63 := by
  have h' : (WShape.hasAll [] args [.list .int] && PySem.Challenge.rw_jh0008_01.pre.holds [] { args := args }) = true := h
  rw [Bool.and_eq_true] at h'
  obtain ⟨h1, h2⟩ := h'
  match args, h1, h2 with
  | [], h1, _ => simp [WShape.hasAll] at h1
  | [a], h1, h2 =>
    simp only [WShape.hasAll, List.isEmpty_nil, Bool.and_true] at h1
    obtain ⟨xs, rfl, hx⟩ := hasW_list h1
    have intz : ∀ xs : List WData, WShape.hasItems [] xs .int = true → ∃ ns : List Int, xs = ns.map .int := by
      intro xs
      induction xs with
      | nil => intro _; exact ⟨[], rfl⟩
      | cons d r ih =>
        intro h
        simp only [WShape.hasItems, Bool.and_eq_true] at h
        obtain ⟨i, rfl⟩ := hasW_int h.1
        obtain ⟨ns, rfl⟩ := ih h.2
        exact ⟨i :: ns, rfl⟩
    obtain ⟨ns, rfl⟩ := intz xs hx
    refine ⟨ns, rfl, ?_⟩
    clear h1
    refine Decidable.byContradiction fun hc => ?_
    have hl : less? (WData.int ((63 : Nat) : Int)) (WData.int ((ns.map WData.int).length : Int)) = some true := by
      have h63 : (63 : Int) < ((ns.map WData.int).length : Int) := by rw [List.length_map]; lia
      unfold less?
      show some (decide ((63 : Int) < ((ns.map WData.int).length : Int))) = some true
      rw [decide_eq_true h63]
    dsimp only [OpenLaw.pre, PySem.Challenge.rw_jh0008_01, WTm.holds, WTm.value, List.getElem?_cons_zero] at h2

    rw [hl] at h2
    exact absurd (show false = true from h2) Bool.false_ne_true
  | a :: b :: r, h1, _ => simp [WShape.hasAll] at h1
theorem isL_ints {h : Heap} {R : WRecords} {cl : Str → Option Addr} : ∀ (ns : List Int) (vs : List Value) (as : List Addr), ReadsAllW R cl h vs (ns.map .int) as → IsL (fun b => h.get? b) (ns.map PV.int) vs
  | [], vs, as, r => by cases r; exact isL_nil.mpr rfl
  | n :: ns, vs, as, r => by
    generalize hx : List.map WData.int (n :: ns) = xs at r
    cases r with
    | nil => cases hx
    | cons r1 r2 =>
      rw [List.map_cons] at hx
      cases hx
      cases r1
      exact isL_cons.mpr ⟨_, _, rfl, is_int.mpr ⟨_, rfl⟩, isL_ints ns _ _ r2⟩
theorem isL_args {h : Heap} {R : WRecords} {cl : Str → Option Addr} {ns : List Int} {vals : List Value} {as : List Addr} (r : ReadsAllW R cl h vals [.list (ns.map .int)] as) : IsL (fun b => h.get? b) [.lst (ns.map .int)] vals := by
  cases r with
  | cons r1 r2 =>
    cases r2
    cases r1 with
    | list h1 h2 h3 h4 => exact isL_cons.mpr ⟨_, _, rfl, is_lst.mpr ⟨_, _, _, _, rfl, h1, h2, h3, isL_ints ns _ _ h4⟩, isL_nil.mpr rfl⟩
theorem top_of {w : World} {s₀ : Shared} {mg mb : Str → Option Value} {h : Heap} (G : PySem.W.Ground hd.view_39 looseS RR.records (XL hd.view_39 []) w s₀ mg mb h) : TopRead hd.view_39 (looseW hd.view_39 looseS) mg mb h := by
  exact topRead_of G.T
end Wk
end
/- P8 -/
section
open PySem PySem.W PySem.Calls PyProof.Rows
namespace Wk
open Mine
theorem pieces_sig : piecesL.all (fun p => p.all fun c => Pl.sigL.contains c) = true := by decide +kernel
theorem flat_sig (ps : List (List Nat)) (h : ∀ p ∈ ps, p ∈ piecesL) : Pl.Sig ps.flatten := fun c hc => by
  obtain ⟨p, hp, hcp⟩ := List.mem_flatten.mp hc
  exact List.all_eq_true.mp (List.all_eq_true.mp pieces_sig p (h p hp)) c hcp
theorem built_facts {t : List Nat} (h : Built t) : Pl.Sig t ∧ t.length ≤ 65 ∧ ∃ r, t = 97 :: r := by
  obtain ⟨ps, h1, h2, rfl⟩ := h
  have hs := flat_sig ps h2
  have hl := flat_len ps h2
  have s97 : Pl.sigL.contains 97 = true := by decide +kernel
  have s99 : Pl.sigL.contains 99 = true := by decide +kernel
  have h0 : Pl.Sig (97 :: ps.flatten) := fun c hc => by
    rcases List.mem_cons.mp hc with rfl | hc
    · exact s97
    · exact hs c hc
  split
  · refine ⟨fun c hc => ?_, ?_, _, rfl⟩
    · rcases List.mem_append.mp hc with h | h
      · exact h0 c h
      · rw [List.mem_singleton.mp h]; exact s99
    · rw [List.length_append, List.length_cons]
      have : ([99] : List Nat).length = 1 := rfl
      lia
  · exact ⟨h0, by rw [List.length_cons]; lia, _, rfl⟩
theorem tok_of {t : List Nat} (hs : Pl.Sig t) (hl : t.length ≤ 90) (h1 : t ≠ [42]) (h2 : t ≠ [42, 42]) : TOk t := by
  refine ⟨fun c hc => Nat.lt_trans (sig_lt (hs c hc)) (by decide), hl, ?_, h1, h2⟩
  cases h : t.contains 47 with
  | false => rfl
  | true =>
    have := hs 47 (List.contains_iff_mem.mp h)
    exact absurd this (by decide +kernel)
theorem re_of {t out : List Nat} {its : List Pl.It} {ps : List (Pl.Oc × Nat × Option Nat)} (T : Tr t out its ps) (hl : t.length ≤ 90) : ReOk t (fullP ps) [] where
  r1 := fun out' h => by
    have e : out = out' := Option.some.inj (T.ts.symm.trans h)
    subst e
    exact ⟨full_rp T, T.lt⟩
  r2 := by have := T.l1; simp [fullP]; lia
  r3 := fun qs l m h => by
    unfold fullP at h
    rcases List.mem_cons.mp h with h | h
    · cases h; decide
    · rcases List.mem_append.mp h with h | h
      · obtain ⟨q, _, e⟩ := List.mem_map.mp h
        cases e
      · rcases List.mem_cons.mp h with h | h
        · cases h
        · rcases List.mem_cons.mp h with h | h
          · cases h
          · cases h
theorem not_trX {t out : List Nat} {its : List Pl.It} {ps : List (Pl.Oc × Nat × Option Nat)} (T : Tr t out its ps) : ¬ trX t := fun h => by
  rcases h with h | h
  · rw [T.sp] at h; cases h
  · rw [T.ts] at h; cases h
theorem named_facts {n : List Nat} (h : Named n) : n.length ≤ 100 ∧ ∀ c ∈ n, Pl.lawSigns.contains c = true := by
  obtain ⟨cs, h1, h2, rfl⟩ := h
  refine ⟨by rw [List.length_cons]; lia, fun c hc => ?_⟩
  rcases List.mem_cons.mp hc with rfl | hc
  · decide +kernel
  · exact List.contains_iff_mem.mpr (h2 c hc)
theorem lawOk : LawOk where
  tok := fun t h => by
    obtain ⟨h1, h2, r, h3⟩ := built_facts h
    exact tok_of h1 (by lia) (by rw [h3]; simp) (by rw [h3]; simp)
  low := fun t h c hc => sig_lt ((built_facts h).1 c hc)
  bad := fun t h hn => (main2 _ t (Nat.le_refl _) (by have := (built_facts h).2.1; lia) (built_facts h).1).1 hn
  good := fun t its h hi => by
    obtain ⟨h1, h2, r, h3⟩ := built_facts h
    obtain ⟨out, ps, T⟩ := (main2 _ t (Nat.le_refl _) (by lia) h1).2 its hi
    refine ⟨not_trX T, by have := T.l2; lia, fullP ps, [], re_of T (by lia), fun name hn => ?_⟩
    obtain ⟨h4, h5⟩ := named_facts hn
    exact main4 h4 h5 T.co
  zz := by
    have hs : Pl.Sig [122, 122] := by
      intro c hc
      simp at hc
      subst hc
      decide +kernel
    have hi : Pl.lawRead [122, 122] = some [.set false [122], .set false [122]] := by
      rw [Pl.lr_else (by decide) (by decide) (by decide) (by simp), Pl.lr_else (by decide) (by decide) (by decide) (by simp), Pl.lr_nil]; rfl
    obtain ⟨out, ps, T⟩ := (main2 _ [122, 122] (Nat.le_refl _) (by decide) hs).2 _ hi
    exact ⟨fullP ps, [], ⟨tok_of hs (by decide) (by simp) (by simp), re_of T (by decide), 122, [122], rfl, by decide, by decide⟩, by rw [T.ts]; rfl, not_trX T⟩
end Wk
end
/- E2 -/
section
set_option maxHeartbeats 8000000
open PySem PySem.W PySem.Calls PyProof.Rows
namespace Wk
open Mine
theorem the_walk : WalkO hd.view_39 looseS (XL hd.view_39 []) HK.says RR lawD [] fun f vs => PySem.call f vs := by
  intro w s₀ s₁ mg mb G Y a o pm cd doc dV kV ha ho hcd hdf hmg hg args vals as hpre hlay hreads hwell hlow
  obtain ⟨ns, rfl, hns⟩ := pre_of hpre
  have X : (KP w.params).In s₁.heap := Y
  have T := top_of G
  have ea : a = 374 := by
    have h1 : mg "law" = some (.ref 374) := mg_of X T.g (by kernel_rfl)
    have h2 : mg "law" = some (.ref a) := hmg
    rw [h1] at h2
    cases h2; rfl
  subst ea
  have ia := isL_args hreads
  refine wpAny_call (codeAny_mono (law_entry w lawOk ns hns X T (.of_eq hg) ia) fun r s' z => ?_)
  rcases r with e | (v | _ | _ | _)
  all_goals try exact z.elim
  obtain ⟨g', p, hi, rfl, hk, hos, hgn⟩ := z
  rw [is_val.mp hi]
  refine ⟨.inl ⟨.bool true, .bool true, [], rfl, fun _ => rfl, .bool true, ?_, fun _ => ⟨by simp, by simp⟩⟩, .of_keep hk, hos, ?_⟩
  · show (WShape.has [] (.bool true) .bool && WTm.holds [] (.eq .res (.lit (.bool true))) { args := _, res := some (.bool true), after := _ }) = true
    kernel_rfl
  · rw [hgn]; exact .of_eq hg
end Wk

end

end Lawp.Internal
theorem PySem.Challenge.cw_jh0008_01_holds : PySem.Challenge.rw_jh0008_01.Holds := by
  exact Lawp.Internal.Mine.headP Lawp.Internal.Wk.the_walk
