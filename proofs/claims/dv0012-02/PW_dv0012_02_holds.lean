import PyProof.Rows.All
import Wide.All
import OpenK.AllK
import Wide.FinOn
import Lean
import PySem.Challenge.RW_dv0012_02
set_option Elab.async false
set_option linter.all false

open PySem PySem.W PyProof.Rows PySem.Calls PySem.Spec
set_option maxRecDepth 100000
namespace Mine

abbrev iterOf (l : Addr) (k : Nat) : Obj := { cls := .type "list_iterator", data := .fields #[.ref l, .int k 0] }
abbrev tupOf (vs : List Value) : Obj := { cls := .type "tuple", data := .seq vs.toArray }

theorem news_sub {h₀ h : Heap} {L : Addr} {news news' : List (Addr × Obj)} (N : News h₀ L h news) (hs : ∀ p ∈ news', p ∈ news) : News h₀ L h news' := fun p hp => N p (hs p hp)

section
variable {prog : Program} {w : World} {A : Around} {E : Value → Shared → Prop} {s : Shared} {h₀ : Heap} {L it l : Addr} {m : Str → Option Value} {news rest : List (Addr × Obj)} {k n : Nat} {vs : Array Value} {v : Value}

theorem news_iter (F : Fr h₀ L s.heap m) (N : News h₀ L s.heap news) (hi : (it, iterOf l k) ∈ news) (hs : ∀ p ∈ rest, p ∈ news) (hne : ∀ p ∈ rest, p.1 ≠ it) (j : Int) :
    Fr h₀ L (s.heap.update it (Obj.mapFields (·.setIfInBounds 1 (rawInt j)))) m ∧ News h₀ L (s.heap.update it (Obj.mapFields (·.setIfInBounds 1 (rawInt j)))) ((it, { cls := .type "list_iterator", data := .fields #[.ref l, .int j 0] }) :: rest) := by
  have N' : News h₀ L s.heap ([] ++ (it, iterOf l k) :: rest) := fun p hp => by
    rcases List.mem_cons.mp hp with rfl | hp
    · exact N _ hi
    · exact N _ (hs p hp)
  exact news_upd F N' (fun _ h => nomatch h) hne rfl rfl

theorem next_list {Q : Value → Shared → Prop} (F : Fr h₀ L s.heap m) (N : News h₀ L s.heap news) (hi : (it, iterOf l k) ∈ news) (hs : ∀ p ∈ rest, p ∈ news) (hne : ∀ p ∈ rest, p.1 ≠ it)
    (hl : (l, listOf vs n) ∈ rest) (hx : vs[k]? = some v)
    (h : ∀ h', Fr h₀ L h' m → News h₀ L h' ((it, iterOf l (k + 1)) :: rest) → Q v { s with heap := h' }) :
    wpAny (model prog w) A (call (.builtin "next") [.ref it]) Q E s := by
  have ho := (N _ hi).1
  have hol := (N _ (hs _ hl)).1
  have hit : s.heap.IsListIter it l k := ⟨_, ho, rfl, rfl⟩
  refine call_function_entry (by decide +kernel) (by decide +kernel) kdk_entry_next (kdk_args_next _) ?_
  unfold Builtin.«next»
  refine wpAny_bind (m := someArgs "next" 1 2 _) (wpAny_of_eq (a := [Value.ref it]) (by first | rfl | kernel_rfl!) ?_)
  dsimp only
  refine wpAny_bind (wpAny_specialOf (name := Str.ofString "__next__") hit.typeIs slot_listiter_next.lookup ?_)
  refine wpAny_ite_split (fun hab => absurd hab (by decide)) (fun _ => ?_)
  refine wpAny_bind (wpAny_callSpecial?_slot (name := Str.ofString "__next__") hit.typeIs slot_listiter_next
    (wpAny_call_entry slot_listiter_next hit.typeIs entry_listiter_next ?_ (args_listiter_next _)))
  show wpAny _ _ (field (.ref it) 0 >>= _) _ _ s
  refine wpAny_bind (wpAny_field ho rfl (x := .ref l) rfl ?_)
  show wpAny _ _ (if (Value.ref l == Value.none) = true then _ else _) _ _ s
  rw [if_neg (show ¬ ((Value.ref l == Value.none) = true) from Bool.false_ne_true)]
  show wpAny _ _ (field (.ref it) 1 >>= _) _ _ s
  refine wpAny_bind (wpAny_field ho rfl (x := .int k 0) rfl ?_)
  show wpAny _ _ (seqItems? (.ref l) >>= _) _ _ s
  refine wpAny_bind (wpAny_seqItems hol rfl ?_)
  simp only [Int.toNat_natCast, hx]
  obtain ⟨F', N'⟩ := news_iter (s := s) F N hi hs hne ((k : Int) + 1)
  refine wpAny_bind (wpAny_setField ho rfl (by simp) (wpAny_pure ⟨v, rfl, wpAny_pure ⟨_, rfl, h _ F' ?_⟩⟩))
  exact N'
end
end Mine


set_option maxRecDepth 100000
namespace Mine

/-- what a call of the parser comes to: a lookahead token, or an error's words; the tokens left -/
inductive Out where
  | ok (t : Str) (rest : List Str)
  | err (wd : Str) (rest : List Str)

def errWords (t : Str) : Str := if t = Str.ofString "" then Str.ofString "unexpected end of plural form" else Str.ofString "unexpected token in plural form: " ++ t
def unbal : Str := Str.ofString "unbalanced parenthesis in plural form"

def opTab : List (Str × Int) := [(Str.ofString "||", 1), (Str.ofString "&&", 2), (Str.ofString "==", 3), (Str.ofString "!=", 3), (Str.ofString "<", 4), (Str.ofString ">", 4), (Str.ofString "<=", 4), (Str.ofString ">=", 4),
  (Str.ofString "+", 5), (Str.ofString "-", 5), (Str.ofString "*", 6), (Str.ofString "/", 6), (Str.ofString "%", 6)]
def opLv (t : Str) : Option Int := (opTab.find? fun p => p.1 == t).map (·.2)

def opTk (i : Int) : Tok := if i = 1 then 211 else if i = 2 then 216 else if i = 3 then 221 else if i = 4 then 228 else if i = 5 then 239 else 246
def opVal (t : Str) : Option Value := (opLv t).map fun i => .int i (opTk i)
def c2py (t : Str) : Option Value :=
  if t = Str.ofString "||" then some (.str (Str.ofString "or") 257)
  else if t = Str.ofString "&&" then some (.str (Str.ofString "and") 259)
  else if t = Str.ofString "/" then some (.str (Str.ofString "//") 261)
  else none
theorem c2py_len {t : Str} {tk : Tok} (h : t.length ≤ 3) : ∃ o ot, (c2py t).getD (.str t tk) = .str o ot ∧ o.length ≤ 3 := by
  unfold c2py
  split
  · exact ⟨_, _, rfl, by decide⟩
  · split
    · exact ⟨_, _, rfl, by decide⟩
    · split
      · exact ⟨_, _, rfl, by decide⟩
      · exact ⟨_, _, rfl, h⟩
theorem op_len {t : Str} {i : Int} (h : opLv t = some i) : t.length ≤ 3 ∧ 1 ≤ i ∧ i ≤ 6 := by
  have all : ∀ p ∈ opTab, p.1.length ≤ 3 ∧ 1 ≤ p.2 ∧ p.2 ≤ 6 := by decide
  unfold opLv at h
  obtain ⟨p, hp, rfl⟩ := Option.map_eq_some_iff.mp h
  have e : p.1 = t := by simpa using List.find?_some hp
  exact e ▸ all p (List.mem_of_find?_eq_some hp)

/-- int(t, 10) refuses -/
def Bad (t : Str) : Prop := PySem.intText? t = none ∧ ∀ c ∈ t.cps.toList, c < 16 ^ 8

inductive Opd (P : Int → List Str → Out → Prop) : List Str → Option Str → List Str → Prop
  | par {ts r} : P (-1) ts (.ok (Str.ofString ")") r) → Opd P (Str.ofString "(" :: ts) none r
  | unb {ts r t} : P (-1) ts (.ok t r) → t ≠ Str.ofString ")" → Opd P (Str.ofString "(" :: ts) (some unbal) r
  | inner {ts r wd} : P (-1) ts (.err wd r) → Opd P (Str.ofString "(" :: ts) (some wd) r
  | var {ts} : Opd P (Str.ofString "n" :: ts) none ts
  | num {ts t v} : t ≠ Str.ofString "!" → t ≠ Str.ofString "(" → t ≠ Str.ofString "n" → PySem.intText? t = some v → 0 ≤ v → v < 1000 → Opd P (t :: ts) none ts
  | bad {ts t} : t ≠ Str.ofString "!" → t ≠ Str.ofString "(" → t ≠ Str.ofString "n" → Bad t → Opd P (t :: ts) (some (errWords t)) ts

/-- the marks ahead of an operand -/
inductive Bangs : List Str → List Str → Prop
  | nil {t ts} : t ≠ Str.ofString "!" → Bangs (t :: ts) (t :: ts)
  | cons {ts ts'} : Bangs ts ts' → Bangs (Str.ofString "!" :: ts) ts'

inductive Ops (P : Int → List Str → Out → Prop) (pr : Int) : Str → List Str → Out → Prop
  | stop {t r} : opLv t = none → Ops P pr t r (.ok t r)
  | low {t r i} : opLv t = some i → i < pr → Ops P pr t r (.ok t r)
  | step {t r i t' r' out} : opLv t = some i → pr ≤ i → P (i + 1) r (.ok t' r') → Ops P pr t' r' out → Ops P pr t r out
  | fail {t r i wd r'} : opLv t = some i → pr ≤ i → P (i + 1) r (.err wd r') → Ops P pr t r (.err wd r')

inductive Tail (P : Int → List Str → Out → Prop) (pr : Int) : Str → List Str → Out → Prop
  | plain {t r} : ¬ (t = Str.ofString "?" ∧ pr ≤ 0) → Tail P pr t r (.ok t r)
  | ifErr {r wd r2} : pr ≤ 0 → P 0 r (.err wd r2) → Tail P pr (Str.ofString "?") r (.err wd r2)
  | ifTok {r t2 r2} : pr ≤ 0 → P 0 r (.ok t2 r2) → t2 ≠ Str.ofString ":" → Tail P pr (Str.ofString "?") r (.err (errWords t2) r2)
  | ifOk {r r2 t3 r3} : pr ≤ 0 → P 0 r (.ok (Str.ofString ":") r2) → P (-1) r2 (.ok t3 r3) → Tail P pr (Str.ofString "?") r (.ok t3 r3)
  | ifBad {r r2 wd r3} : pr ≤ 0 → P 0 r (.ok (Str.ofString ":") r2) → P (-1) r2 (.err wd r3) → Tail P pr (Str.ofString "?") r (.err wd r3)

inductive ParseS (P : Int → List Str → Out → Prop) (pr : Int) : List Str → Out → Prop
  | opd {ts ts' wd r} : Bangs ts ts' → Opd P ts' (some wd) r → ParseS P pr ts (.err wd r)
  | ops {ts ts' t r wd r'} : Bangs ts ts' → Opd P ts' none (t :: r) → Ops P pr t r (.err wd r') → ParseS P pr ts (.err wd r')
  | all {ts ts' t r t' r' out} : Bangs ts ts' → Opd P ts' none (t :: r) → Ops P pr t r (.ok t' r') → Tail P pr t' r' out → ParseS P pr ts out

/-- behind an operand -/
inductive Goes (P : Int → List Str → Out → Prop) (pr : Int) (t : Str) (r : List Str) : Out → Prop
  | err {wd r'} : Ops P pr t r (.err wd r') → Goes P pr t r (.err wd r')
  | ok {t' r' out} : Ops P pr t r (.ok t' r') → Tail P pr t' r' out → Goes P pr t r out

def Parse : Nat → Int → List Str → Out → Prop
  | 0 => fun _ _ _ => False
  | n + 1 => fun pr ts out => ParseS (Parse n) pr ts out

theorem goes_cases {P : Int → List Str → Out → Prop} {pr : Int} {t : Str} {r : List Str} {out : Out} (h : Goes P pr t r out) :
    (opLv t = none ∧ Tail P pr t r out) ∨ (∃ i, opLv t = some i ∧ i < pr ∧ Tail P pr t r out) ∨ (∃ i t' r', opLv t = some i ∧ pr ≤ i ∧ P (i + 1) r (.ok t' r') ∧ Goes P pr t' r' out) ∨
    (∃ i wd r', opLv t = some i ∧ pr ≤ i ∧ P (i + 1) r (.err wd r') ∧ out = .err wd r') := by
  cases h with
  | err h => cases h with
    | step a b c d => exact .inr (.inr (.inl ⟨_, _, _, a, b, c, .err d⟩))
    | fail a b c => exact .inr (.inr (.inr ⟨_, _, _, a, b, c, rfl⟩))
  | ok h q => cases h with
    | stop a => exact .inl ⟨a, q⟩
    | low a b => exact .inr (.inl ⟨_, a, b, q⟩)
    | step a b c d => exact .inr (.inr (.inl ⟨_, _, _, a, b, c, .ok d q⟩))
theorem opVal_some {t : Str} {i : Int} (h : opLv t = some i) : opVal t = some (.int i (opTk i)) := by unfold opVal; rw [h]; rfl
theorem opVal_none {t : Str} (h : opLv t = none) : opVal t = none := by unfold opVal; rw [h]; rfl

theorem strs_fun {l : List Value} {a b : List Str} (h : StrsAre l a) (h' : StrsAre l b) : a = b := by
  induction h generalizing b with
  | nil => cases h'; rfl
  | cons y t _ ih => cases h' with | cons _ _ h'' => rw [ih h'']
theorem strs_drop {l : List Value} {a : List Str} (h : StrsAre l a) (i : Nat) : StrsAre (l.drop i) (a.drop i) := by
  induction h generalizing i with
  | nil => cases i <;> exact .nil
  | cons y t h ih => cases i with
    | zero => exact .cons y t h
    | succ i => exact ih i
theorem strs_sub {vs : Array Value} {k : Nat} {ts r : List Str} (h : StrsAre (vs.toList.drop k) ts) (h' : StrsAre (vs.toList.drop (k + (ts.length - r.length))) r) : ∀ t ∈ r, t ∈ ts := by
  have q := strs_drop h (ts.length - r.length)
  rw [List.drop_drop] at q
  rw [strs_fun h' q]
  exact fun t ht => List.mem_of_mem_drop ht
theorem errWords_ne {t : Str} (h : (t.length : Int) ≠ 0) : errWords t = Str.ofString "unexpected token in plural form: " ++ t := by
  unfold errWords
  rw [if_neg]
  intro e; subst e; exact h rfl
theorem errWords_eq {t : Str} (h : (t.length : Int) = 0) : errWords t = Str.ofString "unexpected end of plural form" := by
  unfold errWords
  rw [if_pos]
  obtain ⟨c⟩ := t
  have : c.size = 0 := by have h' : (c.size : Int) = 0 := h; omega
  have e : c = #[] := Array.eq_empty_of_size_eq_zero this
  rw [e]; decide
theorem ne_bool {t u : Str} (h : t ≠ u) : (t == u) = false := by simpa using h
theorem ne_bool' {t u : Str} (h : t ≠ u) : (t != u) = true := by simpa using h
theorem news_drop2 {h₀ h : Heap} {L : Addr} {x y : Addr × Obj} {r : List (Addr × Obj)} (N : News h₀ L h (x :: y :: r)) : News h₀ L h (x :: r) := fun p hp => by
  rcases List.mem_cons.mp hp with rfl | hp
  · exact N _ (.head _)
  · exact N _ (.tail _ (.tail _ hp))
theorem fits {n : Nat} (h : n ≤ 100000) : n ≤ sizeLine := by rw [sizeLine_eq]; omega
theorem len_empty : Str.empty.length = 0 := rfl
theorem len_lp : (Str.ofString "(").length = 1 := by decide
theorem len_rp : (Str.ofString ")").length = 1 := by decide
theorem len_n : (Str.ofString "n").length = 1 := by decide
theorem len_sp : (Str.ofString " ").length = 1 := by decide
theorem len_if : (Str.ofString " if ").length = 4 := by decide
theorem len_else : (Str.ofString " else ").length = 6 := by decide

theorem bangs_suffix {ts ts' : List Str} (h : Bangs ts ts') : ∃ t r, ts' = t :: r ∧ t ≠ Str.ofString "!" ∧ ts'.length ≤ ts.length := by
  induction h with
  | nil h => exact ⟨_, _, rfl, h, Nat.le_refl _⟩
  | cons _ ih => obtain ⟨t, r, e, hn, hl⟩ := ih; exact ⟨t, r, e, hn, by rw [List.length_cons]; omega⟩

/-- the parser's frame: the four names that every part of it reads, and the rest -/
abbrev M4 (it : Addr) (pr : Int) (u : Tok) (t : Str) (tt : Tok) (res : Str) (rt : Tok) (x : Str → Option Value) : Str → Option Value := fun y =>
  if y = Str.ofString "nexttok" then some (.str t tt) else if y = Str.ofString "result" then some (.str res rt) else if y = Str.ofString "tokens" then some (.ref it) else if y = Str.ofString "priority" then some (.int pr u) else x y

abbrev M5 (it : Addr) (pr : Int) (u : Tok) (t : Str) (tt : Tok) (res : Str) (rt : Tok) (j : Int) (jt : Tok) (x : Str → Option Value) : Str → Option Value := fun y =>
  if y = Str.ofString "j" then some (.int j jt) else M4 it pr u t tt res rt x y

/-- where the parser stands: t in hand, r behind it; c: what its text may still grow -/
def PSt (g : Heap) (L it l : Addr) (k : Nat) (vs : Array Value) (ts : List Str) (rest : List (Addr × Obj)) (pr : Int) (u : Tok) (s₀ : Shared) (t : Str) (r : List Str) (c : Nat) (s' : Shared) : Prop :=
  ∃ h' tk res rt tt x, s' = { s₀ with heap := h', toks := tk } ∧ t.length ≤ 64 ∧ r.length < ts.length ∧ res.length + 16 * r.length + c ≤ 16 * ts.length ∧ StrsAre (vs.toList.drop (k + (ts.length - r.length))) r ∧
    Fr g L h' (M4 it pr u t tt res rt x) ∧ News g L h' ((it, iterOf l (k + (ts.length - r.length))) :: rest)
def PStJ (g : Heap) (L it l : Addr) (k : Nat) (vs : Array Value) (ts : List Str) (rest : List (Addr × Obj)) (pr : Int) (u : Tok) (s₀ : Shared) (t : Str) (r : List Str) (c : Nat) (s' : Shared) : Prop :=
  ∃ h' tk res rt tt j jt x, s' = { s₀ with heap := h', toks := tk } ∧ t.length ≤ 64 ∧ r.length < ts.length ∧ res.length + 16 * r.length + c ≤ 16 * ts.length ∧ StrsAre (vs.toList.drop (k + (ts.length - r.length))) r ∧
    Fr g L h' (M5 it pr u t tt res rt j jt x) ∧ News g L h' ((it, iterOf l (k + (ts.length - r.length))) :: rest)

theorem strs_head {vs : Array Value} {k : Nat} {t : Str} {r : List Str} (h : StrsAre (vs.toList.drop k) (t :: r)) : ∃ tk, vs[k]? = some (.str t tk) ∧ StrsAre (vs.toList.drop (k + 1)) r := by
  cases hd : vs.toList.drop k with
  | nil => rw [hd] at h; cases h
  | cons v vr =>
    rw [hd] at h
    have h1 : vs.toList[k]? = some v := by rw [← List.head?_drop, hd]; rfl
    have h2 : vs.toList.drop (k + 1) = vr := by rw [← List.drop_drop, hd]; rfl
    cases h with
    | cons y tk h' => exact ⟨tk, by rw [← Array.getElem?_toList]; exact h1, by rw [h2]; exact h'⟩

theorem pin {g h : Heap} {L : Addr} {m : Str → Option Value} {x : Str} {v : Value} (F : Fr g L h m) (e : m x = some v) : Fr g L h (fun y => if y = x then some v else m y) := by
  have : (fun y => if y = x then some v else m y) = m := funext fun y => by
    by_cases hy : y = x
    · rw [if_pos hy, hy, e]
    · rw [if_neg hy]
  rw [this]; exact F

theorem pin4 {g h : Heap} {L it : Addr} {m : Str → Option Value} {pr : Int} {u tt rt : Tok} {t res : Str} (F : Fr g L h m) (e1 : m (Str.ofString "nexttok") = some (.str t tt)) (e2 : m (Str.ofString "result") = some (.str res rt))
    (e3 : m (Str.ofString "tokens") = some (.ref it)) (e4 : m (Str.ofString "priority") = some (.int pr u)) : Fr g L h (M4 it pr u t tt res rt m) := by
  have : M4 it pr u t tt res rt m = m := funext fun y => by
    unfold M4
    split
    · rename_i h; rw [h, e1]
    · split
      · rename_i h; rw [h, e2]
      · split
        · rename_i h; rw [h, e3]
        · split
          · rename_i h; rw [h, e4]
          · rfl
  rw [this]; exact F

theorem pin5 {g h : Heap} {L it : Addr} {m : Str → Option Value} {pr j : Int} {u tt rt jt : Tok} {t res : Str} (F : Fr g L h m) (e0 : m (Str.ofString "j") = some (.int j jt)) (e1 : m (Str.ofString "nexttok") = some (.str t tt)) (e2 : m (Str.ofString "result") = some (.str res rt))
    (e3 : m (Str.ofString "tokens") = some (.ref it)) (e4 : m (Str.ofString "priority") = some (.int pr u)) : Fr g L h (M5 it pr u t tt res rt j jt m) :=
  pin (pin4 F e1 e2 e3 e4) (by
    unfold M4
    rw [if_neg (by decide), if_neg (by decide), if_neg (by decide), if_neg (by decide)]
    exact e0)

theorem raisedK_sub {base h : Heap} {l : List Env} {e t : Addr} {cls : Value} {vs : List Value} {news news' : List (Addr × Obj)} (hs : ∀ p ∈ news', p ∈ news) (R : RaisedK base l e cls t vs news h) : RaisedK base l e cls t vs news' h := by
  obtain ⟨⟨B, h1, h2, h3⟩, h4⟩ := R
  exact ⟨⟨B, h1, fun q hq => h2 q (hs q hq), h3⟩, h4⟩

section
variable {prog : Program} {w : World} {A : Around} {E : Value → Shared → Prop} {s : Shared} {env : Env} {test : PySem.Expr} {body orelse : List Stmt} {Q : Flow → Shared → Prop}

theorem exec_cut {st : Stmt} {rest : List Stmt} (mid : Shared → Prop) (h1 : wpAny (model prog w) A (exec st env) (fun f s' => f = .next ∧ mid s') E s) (h2 : ∀ s', mid s' → wpAny (model prog w) A (execs rest env) Q E s') :
    wpAny (model prog w) A (execs (st :: rest) env) Q E s := by
  refine wpAny_execs_cons (wpAny_mono h1 (fun f s' h => ?_) fun _ _ x => x)
  obtain ⟨rfl, hm⟩ := h
  exact h2 s' hm

structure Gate (n : Nat) : Prop where
def Halt (p : Prop) : Prop := p
theorem halt {p : Prop} (h : Halt p) : p := h
theorem mid_cut {α : Type} {M : Model} {t : Sem α} {Q' : α → Shared → Prop} (mid : α → Shared → Prop) (h1 : wpAny M A t mid E s) (h2 : ∀ f s', mid f s' → Q' f s') : wpAny M A t Q' E s := wpAny_mono h1 h2 fun _ _ x => x

section
variable {d : Addr} {f : Str → Option Value} {x : Str} {t : Tok} {v dflt : Value}
theorem in_map {Q : Value → Shared → Prop} (hm : s.heap.MapOf (strKind prog w) d f) (lo : (d == sysModules) = false) (h : Q (.bool (f x).isSome) { s with toks := s.toks + 1 }) : wpAny (model prog w) A (compareOp .In (.str x t) (.ref d)) Q E s :=
  wpAny_in_of (strKind_is prog w x t) lo hm h
theorem item_map {value slice : PySem.Expr} {Q : Value → Shared → Prop} (hm : s.heap.MapOf (strKind prog w) d f) (hv : f x = some v) (h : Q v { s with toks := s.toks + 1 })
    (hs : subscripted slice false (.ref d) (.str x t) = operate [.ref d, .str x t] (getItem (.ref d) (.str x t))) (hg : ∀ r, letTemporaryGo value (.ref d) r = pure ()) :
    wpAny (model prog w) A (subscriptTail value slice (.ref d) (.str x t)) Q E s :=
  subscriptTail_builtin hm.typeIs slot_dict_getitem.lookup (wpAny_getItem_of (strKind_is prog w x t) hm hv h) hs hg
theorem meth_map {pl : Sem Bool} {Q : Value × List Value → Shared → Prop} (hm : s.heap.MapOf (strKind prog w) d f) (h : Q (.builtin "dict.get", [.ref d]) s) : wpAny (model prog w) A (getMethod (.ref d) (Str.ofString "get") pl) Q E s :=
  getMethod_builtin hm.typeIs PySem.F.plainAttrs_dict PySem.F.slot_dict_get PySem.F.type_dict_get hm.noDict h
theorem get_map {Q : Value → Shared → Prop} (hm : s.heap.MapOf (strKind prog w) d f) (lo : (d == sysModules) = false) (h : Q ((f x).getD dflt) { s with toks := s.toks + 1 }) : wpAny (model prog w) A (call (.builtin "dict.get") [.ref d, .str x t, dflt]) Q E s :=
  call_meetsIn PySem.F.slot_dict_get hm.typeIs PySem.F.entry_dict_get (PySem.F.args_dict_get_3 _ _ _) (meets_dict_get_default (strKind prog w) d (strKind_is prog w x t) lo dflt) ⟨_, hm, h⟩
end

abbrev excOf (a : Addr) : Obj := { cls := .type "ValueError", data := .fields #[.ref a, .none, .none, .none, .bool false, .none] }

theorem call_VE {h₀ : Heap} {L : Addr} {m : Str → Option Value} {news : List (Addr × Obj)} {rest : List Value} {Q : Value → Shared → Prop} (F : Fr h₀ L s.heap m) (N : News h₀ L s.heap news) (hz : rest.length ≤ sizeLine)
    (h : ∀ e b h', Fr h₀ L h' m → News h₀ L h' ((e, excOf b) :: (b, tupOf rest) :: news) → (∀ p ∈ news, p.1 ≠ e ∧ p.1 ≠ b) → (∀ a o, s.heap.get? a = some o → h'.get? a = some o) → Q (.ref e) { s with heap := h' }) : wpAny (model prog w) A (call (.type "ValueError") rest) Q E s := by
  obtain ⟨hp, g, d, tk, os⟩ := s
  refine wpAny_call_exc PySem.F.excCall_ValueError (hrest := hz) fun h' e hm => ?_
  obtain ⟨t, he, htn, ht⟩ := hm.there
  have F' : Fr h₀ L h' m := F.keeps hm.keeps
  have N' : News h₀ L h' news := fun p hp => ⟨hm.keeps _ _ (N p hp).1, (N p hp).2⟩
  have fresh : ∀ b, hp.get? b = none → h₀.get? b = none := fun b hb => by
    cases q : h₀.get? b with
    | none => rfl
    | some o => have := F.keep b o q; rw [hb] at this; cases this
  refine h e t h' F' (News.more F' (News.more F' N' ht (fun es n q => by cases q) (fresh t htn)) he (fun es n q => by cases q) (fresh e hm.new)) (fun p hp => ⟨fun q => ?_, fun q => ?_⟩) hm.keeps
  · have := (N p hp).1; rw [q, hm.new] at this; cases this
  · have := (N p hp).1; rw [q, htn] at this; cases this

theorem whl_ind {k : Nat} (I : Nat → Shared → Prop) (b : Nat) (h0 : I b s) (hE : PassesOwn (model prog w) A env E)
    (step : ∀ b s, I b s → wpAny (model prog w) A (isTrue test env (eval test env)) (fun bl s₂ => WhlIf bl (wpAny (model prog w) A (execs body env) (fun f s₃ => match f with | .next => Halt (∃ b', b' < b ∧ I b' s₃) | .cont => Halt (∃ b', b' < b ∧ I b' s₃) | .brk => Q .next s₃ | .ret v => Q (.ret v) s₃) E s₂)
      (wpAny (model prog w) A (execs orelse env) Q E s₂)) E s) : WhlRest prog w A E env test body orelse Q k s := by
  have key : ∀ n b s, b < n → I b s → WhlRest prog w A E env test body orelse Q k s := by
    intro n
    induction n with
    | zero => intro b s hb; omega
    | succ n ih =>
      intro b s hb hI
      refine whl_turn (k := k) hE (wpAny_mono (step b s hI) (fun bl s₂ h₂ => ?_) fun _ _ x => x)
      cases bl with
      | false => exact .no rfl (by unfold WhlIf at h₂; rw [if_neg Bool.false_ne_true] at h₂; exact h₂)
      | true =>
        refine .yes rfl ?_
        unfold WhlIf at h₂
        rw [if_pos rfl] at h₂
        refine wpAny_mono h₂ (fun f s₃ h₄ => ?_) fun _ _ x => x
        cases f with
        | next => obtain ⟨b', hb', hI'⟩ := h₄; exact ih b' s₃ (by omega) hI'
        | cont => obtain ⟨b', hb', hI'⟩ := h₄; exact ih b' s₃ (by omega) hI'
        | brk => exact h₄
        | ret v => exact h₄
  exact key (b + 1) b s (by omega) h0
end
end Mine


set_option maxRecDepth 100000
namespace Mine

/-- the part of h that lies where g's objects lie -/
def regr (g h : Heap) : Heap := ⟨Array.ofFn (n := g.objs.size) fun i => if (g.get? i).isSome then (h.objs[i.1]?).getD { cls := .none, data := .freed } else { cls := .none, data := .freed }, h.life⟩
theorem regr_size (g h : Heap) : (regr g h).objs.size = g.objs.size := by simp [regr]
theorem regr_at {g h : Heap} {b : Addr} (hb : b < g.objs.size) : (regr g h).objs[b]? = some (if (g.get? b).isSome then (h.objs[b]?).getD { cls := .none, data := .freed } else { cls := .none, data := .freed }) := by
  unfold regr
  rw [Array.getElem?_ofFn, dif_pos hb]
theorem regr_get {g h : Heap} {b : Addr} {o o' : Obj} (e : g.get? b = some o) (e' : h.get? b = some o') : (regr g h).get? b = some o' := by
  obtain ⟨h1, h2⟩ := Heap.get?_some_iff.mp e'
  refine Heap.get?_some_iff.mpr ⟨?_, h2⟩
  rw [regr_at (Heap.lt_size e), e, h1]; rfl
theorem regr_of {g h : Heap} {b : Addr} {o' : Obj} (e : (regr g h).get? b = some o') : (∃ o, g.get? b = some o) ∧ h.get? b = some o' := by
  obtain ⟨h1, h2⟩ := Heap.get?_some_iff.mp e
  have hb : b < g.objs.size := by have := Heap.lt_size e; rw [regr_size] at this; exact this
  rw [regr_at hb] at h1
  cases q : g.get? b with
  | none => rw [q] at h1; cases h1; cases h2
  | some o =>
    refine ⟨⟨o, rfl⟩, ?_⟩
    rw [q] at h1
    cases q2 : h.objs[b]? with
    | none => rw [q2] at h1; cases h1; cases h2
    | some o2 => rw [q2] at h1; cases h1; exact Heap.get?_some_iff.mpr ⟨q2, h2⟩
theorem regr_none {g h : Heap} {b : Addr} (e : g.get? b = none) : (regr g h).get? b = none := by
  cases q : (regr g h).get? b with
  | none => rfl
  | some o => obtain ⟨⟨o', h1⟩, _⟩ := regr_of q; rw [e] at h1; cases h1

section
variable {A : Around} {base g h h' : Heap} {outer : List Env} {L : Addr} {m : Str → Option Value} {news : List (Addr × Obj)}

theorem frame_apart (K : Below A base outer g) (F : Fr g L h m) {b : Addr} {o : Obj} (e : base.get? b = some o) : b ∉ L :: outer.filterMap (·.frame) := by
  intro hm
  rcases List.mem_cons.mp hm with rfl | hm
  · exact absurd (Heap.lt_size (K.stays _ _ e)) (Nat.not_lt_of_le F.above)
  · rw [(K.frames.mem hm).1] at e; cases e
theorem news_apart (K : Below A base outer g) (N : News g L h news) {p : Addr × Obj} (hp : p ∈ news) : p.1 ∉ L :: outer.filterMap (·.frame) := by
  intro hm
  rcases List.mem_cons.mp hm with q | hm
  · exact (N p hp).2.1 q
  · obtain ⟨o, ho, _⟩ := (K.frames.mem hm).2
    rw [(N p hp).2.2] at ho; cases ho

/-- a new ground, where the frames' slots have been turned -/
theorem reground (K : Below A base outer g) (F : Fr g L h m) (N : News g L h news) (stay : ∀ b o, h.get? b = some o → b ∉ L :: outer.filterMap (·.frame) → h'.get? b = some o) (up : h.UpToSlots h') :
    Below A base outer (regr g h') ∧ Fr (regr g h') L h' m ∧ News (regr g h') L h' news ∧ g.UpToSlots (regr g h') := by
  have stB : base.StaysIn (regr g h') := fun b o e => regr_get (K.stays b o e) (stay b o (F.keep b o (K.stays b o e)) (frame_apart K F e))
  refine ⟨⟨K.stack, stB, K.frames.of_keeps fun b o e hn => ?_⟩, ⟨up.ns F.ns, fun b o e => (regr_of e).2, by rw [regr_size]; exact F.above⟩, fun p hp => ⟨stay _ _ (N p hp).1 (news_apart K N hp), (N p hp).2.1, regr_none (N p hp).2.2⟩, fun b o e hn => ?_⟩
  · obtain ⟨sl, q⟩ := up b o (F.keep b o e) hn
    exact ⟨_, regr_get e q, rfl⟩
  · obtain ⟨sl, q⟩ := up b o (F.keep b o e) hn
    exact ⟨sl, regr_get e q⟩
end

section
variable {M : Model} {A : Around} {E : Value → Shared → Prop} {s' : Shared} {base g : Heap} {outer : List Env} {L a e b : Addr} {m : Str → Option Value} {name : Str} {scope : Scope} {cd : Value} {Q : Unit → Shared → Prop} {news : List (Addr × Obj)}
/-- an exception whose object is known leaves the frame that raised it -/
theorem leave_gen {oe ot : Obj} {ws : Array Value} {vs : List Value} {nt : Nat} (K : Below A base outer g) (F : Fr g L s'.heap m) (N : News g L s'.heap ((e, oe) :: (b, ot) :: news)) (hne : ∀ p ∈ news, p.1 ≠ e ∧ p.1 ≠ b) (hd : oe.data = .fields ws) (h0 : ws[0]? = some (.ref b)) (h1 : ws[1]? = some .none)
    (htc : ot.cls = .type "tuple") (htd : ot.data = .seq vs.toArray nt)
    (hQ : ∀ h', RaisedK base outer e oe.cls b vs news h' → g.UpToSlots h' → Q () { s' with heap := h' }) (hk : scope.kind = .function := by rfl) :
    wpAny M (A.deeper (envOf name scope L a cd)) (leaving (envOf name scope L a cd) (.ref e)) Q E s' := by
  have K' := K.push (name := name) (a := a) (cd := cd) F hk
  have he := N _ (.head _)
  have hb := N _ (.tail _ (.head _))
  have N' : News g L s'.heap news := fun p hp => N p (.tail _ (.tail _ hp))
  let as := L :: (outer.filterMap (·.frame) ++ [e, b])
  have hin : ∀ env ∈ (envOf name scope L a cd :: outer), ∀ x, env.frame = some x → x ∈ as := fun env hm x hx => by
    rcases List.mem_cons.mp hm with rfl | hm
    · cases hx; exact .head _
    · exact .tail _ (List.mem_append_left _ (List.mem_filterMap.mpr ⟨env, hm, hx⟩))
  have away : ∀ x, x ∉ L :: outer.filterMap (·.frame) → x ≠ e → x ≠ b → x ∉ as := fun x h1 h2 h3 hm => by
    rcases List.mem_cons.mp hm with q | hm
    · exact h1 (q ▸ .head _)
    · rcases List.mem_append.mp hm with q | q
      · exact h1 (.tail _ q)
      · simp only [List.mem_cons, List.not_mem_nil, or_false] at q
        exact q.elim h2 h3
  have fresh : ∀ x o, base.get? x = some o → x ≠ e ∧ x ≠ b := fun x o q => ⟨fun z => (by have := K.stays x o q; rw [z, he.2.2] at this; cases this), fun z => (by have := K.stays x o q; rw [z, hb.2.2] at this; cases this)⟩
  have st : base.StaysIn (hideAll s'.heap as) := fun x o q => hideAll_get _ (F.keep x o (K.stays x o q)) (away x (frame_apart K F q) (fresh x o q).1 (fresh x o q).2)
  have hbn : base.get? e = none := fresh_of_stays K.stays he.2.2
  have hbb : base.get? b = none := fresh_of_stays K.stays hb.2.2
  have hl : ∀ q ∈ news, (hideAll s'.heap as).get? q.1 = some q.2 ∧ base.get? q.1 = none := fun q hq =>
    ⟨hideAll_get _ (N' q hq).1 (away _ (news_apart K N' hq) (hne q hq).1 (hne q hq).2), fresh_of_stays K.stays (N' q hq).2.2⟩
  refine wpAny_leaving_firstW (base := hideAll s'.heap as) (a0 := .ref b) K'.stack (funFrames_hide K'.frames hin) rfl he.1 (fun x o q => of_hideAll _ q) (hideAll_none _ (.tail _ (List.mem_append_right _ (.head _)))) hd h1 h0 fun h' hL => ?_
  obtain ⟨k1, ⟨_, _, k2⟩, k3, k4⟩ := hL
  have up : s'.heap.UpToSlots h' := k4
  refine hQ h' ⟨⟨hideAll s'.heap as, st, hl, ⟨k1, hideAll_none _ (.tail _ (List.mem_append_right _ (.head _))), k2, k3⟩, hideAll_none _ (.tail _ (List.mem_append_right _ (.tail _ (.head _))))⟩, ?_⟩ ((Heap.UpToSlots.of_keeps F.keep).trans up)
  exact Heap.TupAt.of_slots ⟨ot, nt, hb.1, htc, htd⟩ up
end

/-- an exception held: what has been turned since h -/
structure Caught (fs : List Addr) (h : Heap) (e : Addr) (oe : Obj) (vs : Array Value) (T : Addr) (h' : Heap) : Prop where
  stay : ∀ b o, b ≠ e → h.get? b = some o → b ∉ fs → h'.get? b = some o
  up : ∀ b o, b ≠ e → h.get? b = some o → ∃ sl, h'.get? b = some { o with slots := sl }
  exc : h'.get? e = some { oe with data := .fields (vs.setIfInBounds 1 (.ref T)) }
  tb : ∃ oT ts, h'.get? T = some oT ∧ oT.data = .fields ts ∧ 3 < ts.size
  new : h.get? T = none
  ne : T ≠ e

section
variable {M : Model} {A : Around} {E : Value → Shared → Prop} {s : Shared}

theorem Caught.flight {fs : List Addr} {h : Heap} {e T : Addr} {oe : Obj} {vs : Array Value} {Q : Unit → Shared → Prop} (c : Caught fs h e oe vs T s.heap) (hz : 1 < vs.size) (hQ : ∀ h', Caught fs h e oe vs T h' → Q () { s with heap := h' }) :
    wpAny M A (setFlight (.ref e) none) Q E s := by
  obtain ⟨oT, ts, hT, hd, hts⟩ := c.tb
  unfold setFlight
  refine wpAny_bind (wpAny_field c.exc rfl (x := .ref T) (by simp [hz]) ?_)
  rw [if_pos (show (Value.ref T != Value.none) = true from by simp)]
  refine wpAny_setField hT hd hts (hQ _ ?_)
  have other : ∀ b, b ≠ T → (s.heap.update T (Obj.mapFields (·.setIfInBounds 3 ((none : Option Addr).elim Value.none fun f => rawInt f)))).get? b = s.heap.get? b := fun b hb => Heap.get?_update_other _ _ (Ne.symm hb)
  have old : ∀ b o, h.get? b = some o → b ≠ T := fun b o q z => by rw [z, c.new] at q; cases q
  refine ⟨fun b o h1 h2 h3 => (other b (old b o h2)).trans (c.stay b o h1 h2 h3), fun b o h1 h2 => ?_, (other e (Ne.symm c.ne)).trans c.exc, ?_, c.new, c.ne⟩
  · obtain ⟨sl, q⟩ := c.up b o h1 h2
    exact ⟨sl, (other b (old b o h2)).trans q⟩
  · exact ⟨_, _, Heap.get?_update_self _ hT (Obj.isFreed_of_fields (Obj.data_mapFields hd _)), Obj.data_mapFields hd _, by simpa using hts⟩

theorem note_first {base : Heap} {env : Env} {outer : List Env} {L e : Addr} {oe : Obj} {vs : Array Value} {Q : Unit → Shared → Prop}
    (hfr : A.frames = some (env :: outer)) (hl : s.heap.FunFrames base (env :: outer)) (hf : env.frame = some L) (he : s.heap.get? e = some oe) (hd : oe.data = .fields vs) (h1 : vs[1]? = some .none)
    (h : ∀ h' T, Caught (L :: outer.filterMap (·.frame)) s.heap e oe vs T h' → Q () { s with heap := h' }) : wpAny M A (noteFrame (.ref e) env) Q E s := by
  have hsz : 1 < vs.size := (Array.getElem?_eq_some_iff.mp h1).1
  have hfs : (env :: outer).filterMap (·.frame) = L :: outer.filterMap (·.frame) := by rw [List.filterMap_cons, hf]
  have hene : e ∉ L :: outer.filterMap (·.frame) := fun hm => by
    rw [← hfs] at hm
    obtain ⟨_, o, ho, hnf⟩ := hl.mem hm
    rw [he] at ho; injection ho with ho; subst ho; exact hnf vs hd
  unfold noteFrame
  simp only [hf]
  refine wpAny_bind (wpAny_field he hd h1 ?_)
  rw [if_neg (by decide)]
  refine wpAny_bind (wpAny_frameOf_fun hfr hl hf fun h₁ hs₁ => ?_)
  rw [hfs] at hs₁
  refine wpAny_bind (wpAny_entryPlaceOf fun pl hpl => ?_)
  unfold EntryCells.newEntry newFields
  refine wpAny_bind (wpAny_newObj_type ?_ (hpl.sizeOk5 _ _ _ _ _))
  have he₁ : h₁.get? e = some oe := (hs₁.2.1 e hene).trans he
  have he₂ := Heap.get?_push_of_some (h := h₁) { cls := .type "traceback", dict := none, data := .fields ([Value.none, .ref L, .none, rawInt L, .none] ++ (if pl.isEmpty then List.replicate 6 Value.none else pl)).toArray } he₁
  refine wpAny_setField he₂ hd hsz (h _ h₁.objs.size ?_)
  have hTe : h₁.objs.size ≠ e := Nat.ne_of_gt (Heap.lt_size he₁)
  have keep : ∀ b o, b ≠ e → h₁.get? b = some o →
      ((h₁.push { cls := .type "traceback", dict := none, data := .fields ([Value.none, .ref L, .none, rawInt L, .none] ++ (if pl.isEmpty then List.replicate 6 Value.none else pl)).toArray }).update e (Obj.mapFields (·.setIfInBounds 1 (Value.ref h₁.objs.size)))).get? b = some o :=
    fun b o hbe hb => by
      rw [Heap.get?_update_other _ _ (Ne.symm hbe)]
      exact Heap.get?_push_of_some _ hb
  refine ⟨fun b o q1 q2 q3 => keep b o q1 ((hs₁.2.1 b q3).trans q2), fun b o q1 q2 => ?_, ?_, ?_, ?_, hTe⟩
  · obtain ⟨sl, q⟩ := hs₁.2.2 b o q2
    exact ⟨sl, keep b _ q1 q⟩
  · rw [Heap.get?_update_self _ he₂ (Obj.isFreed_of_fields (Obj.data_mapFields hd _))]
    obtain ⟨c, dd, da, sl⟩ := oe
    cases hd
    rfl
  · refine ⟨_, _, (Heap.get?_update_other _ _ (Ne.symm hTe)).trans (Heap.get?_push_size h₁ rfl), rfl, ?_⟩
    simp only [List.size_toArray, List.length_append, List.length_cons, List.length_nil] <;> omega
  · exact Heap.get?_none_of_le (Nat.le_of_eq hs₁.1.symm)
end

section
variable {prog : Program} {w : World} {A₀ : Around} {E : Value → Shared → Prop} {s' : Shared} {base g h : Heap} {outer : List Env} {L a e : Addr} {m : Str → Option Value} {name : Str} {scope : Scope} {cd : Value}
  {b₀ : Stmt} {suite : List Stmt} {pos np : Pos} {rest : List ExceptHandler} {Q : Flow → Shared → Prop} {news : List (Addr × Obj)} {p : Program} {loose : List Str} {mg mb : Str → Option Value}

theorem up_of_caught {fs : List Addr} {h h' : Heap} {T : Addr} {oe : Obj} {vs : Array Value} (hx : h.get? e = none) {hm : Heap} (hk : ∀ b o, h.get? b = some o → hm.get? b = some o) (c : Caught fs hm e oe vs T h') : h.UpToSlots h' := fun b o q _ =>
  c.up b o (fun z => by rw [z, hx] at q; cases q) (hk b o q)

/-- a built-in raised ValueError in this frame, and its own clause takes it -/
theorem catch_own (K : Below A₀ base outer g) (F : Fr g L h m) (N : News g L h news) (hx : Heap.NewExc h s'.heap e "ValueError") (TB : TopRead p loose mg mb base)
    (k : ∀ g' h' oe ws, Below A₀ base outer g' → Fr g' L h' m → News g' L h' ((e, oe) :: news) → g.UpToSlots g' → oe.cls = .type "ValueError" → oe.data = .fields ws → ws[2]? = some .none → (∀ p ∈ news, p.1 ≠ e) →
      wpAny (model prog w) ((A₀.deeper (envOf name scope L a cd)).mark (some (.ref e))) (execs (b₀ :: suite) (envOf name scope L a cd)) Q E { s' with heap := h' })
    (h1 : Str.ofString "ValueError" ∉ startupNames := by decide +kernel) (h2 : Str.ofString "ValueError" ∉ loose := by decide +kernel) (h3 : Str.ofString "ValueError" ∉ (recsOf p).map (·.name) := by decide +kernel) (h4 : Str.ofString "ValueError" ∉ (litsOf p).map (·.1) := by decide +kernel) (h4c : Str.ofString "ValueError" ∉ (clssOf p loose).map (·.name) := by decide +kernel)
    (hk : scope.kind = .function := by rfl) (hxk : (envOf name scope L a cd).kindOf (Str.ofString "ValueError") = some .globalImplicit := by rfl)
    (hE : PassesOwnAt (model prog w) ((A₀.deeper (envOf name scope L a cd)).mark (some (.ref e))) (A₀.deeper (envOf name scope L a cd)) (envOf name scope L a cd) E := by passes_own) :
    wpAny (model prog w) (A₀.deeper (envOf name scope L a cd)) (noteFrame (.ref e) (envOf name scope L a cd))
      (fun _ s₂ => wpAny (model prog w) (A₀.deeper (envOf name scope L a cd)) (setFlight (.ref e) none) (fun _ s₃ =>
        wpAny (model prog w) (A₀.deeper (envOf name scope L a cd)) (handleBy (.ref e) (envOf name scope L a cd) (.ExceptHandler (some (.Name (Str.ofString "ValueError") np)) none (b₀ :: suite) pos :: rest)) Q E s₃) E s₂) E s' := by
  have K' := K.push (name := name) (a := a) (cd := cd) F hk
  obtain ⟨ob, t, he, hcls, hd⟩ := hx.there
  have gn : g.get? e = none := by
    cases q : g.get? e with
    | none => rfl
    | some o => have := F.keep e o q; rw [hx.new] at this; cases this
  have Ln : e ≠ L := fun q => by
    obtain ⟨o, _, _, ho, _⟩ := F.ns
    rw [← q, hx.new] at ho; cases ho
  have nn : ∀ p ∈ news, p.1 ≠ e := fun p hp q => by have := (N p hp).1; rw [q, hx.new] at this; cases this
  refine note_first K'.stack (K'.frames.of_keeps fun b o hb _ => ⟨o, hx.keeps b o hb, rfl⟩) rfl he hd rfl fun h₂ T c₂ => ?_
  refine c₂.flight (by show 1 < 6; decide) fun h₃ c₃ => ?_
  have fin : ∀ h₄, Caught (L :: outer.filterMap (·.frame)) s'.heap e ob #[t, .none, .none, .none, .bool false, .none] T h₄ →
      Below A₀ base outer (regr g h₄) ∧ Fr (regr g h₄) L h₄ m ∧ News (regr g h₄) L h₄ news ∧ g.UpToSlots (regr g h₄) := fun h₄ c₄ =>
    reground K F N (fun b o q q2 => c₄.stay b o (fun z => by rw [z, hx.new] at q; cases q) (hx.keeps b o q) q2) (up_of_caught hx.new hx.keeps c₄)
  obtain ⟨B₃, F₃, _, _⟩ := fin h₃ c₃
  refine wpAny_handleBy_builtin (X := "ValueError") (T := "ValueError") (b := true) PySem.F.isExc_ValueError PySem.F.notTuple_ValueError (by rw [isSubtype_type]; kernel_rfl)
    (ld_builtin_at (s := { s' with heap := h₃ }) F₃ (TB.g.keeps B₃.stays) (TB.free _ h1 h2 h3 h4 h4c) (TB.b.keeps B₃.stays) ((TB.builtins _ (by decide +kernel)).trans PyProof.Rows.Boot.«ValueError») ⟨rfl, ⟨_, c₃.exc, hcls⟩, ?_⟩ hk hxk (by decide))
  rw [if_pos rfl]
  refine c₃.flight (s := { s' with heap := h₃ }) (by show 1 < 6; decide) fun h₄ c₄ => ?_
  obtain ⟨B₄, F₄, N₄, U₄⟩ := fin h₄ c₄
  refine wpAny_passesOwnAt hE (k _ h₄ { ob with data := .fields ((#[t, .none, .none, .none, .bool false, .none] : Array Value).setIfInBounds 1 (.ref T)) } _ B₄ F₄ ?_ U₄ hcls rfl rfl nn)
  intro p hp
  rcases List.mem_cons.mp hp with rfl | hp
  · exact ⟨c₄.exc, Ln, regr_none gn⟩
  · exact N₄ p hp
end

theorem entry_unchain : entryFor table "proto.unchain" = some Builtin.«proto.unchain» := by first | exact entryFor_of_fast (by kernel_rfl) | exact entryFor_of_tree (by kernel_rfl)

section
variable {prog : Program} {w : World} {A : Around} {E : Value → Shared → Prop} {s : Shared} {env : Env}
theorem unchain_none {e e1 : Addr} {o1 : Obj} {ws : Array Value} {Q : Value → Shared → Prop} (h1 : s.heap.get? e1 = some o1) (hd : o1.data = .fields ws) (h2 : ws[2]? = some .none) (h : Q .none s) :
    wpAny (model prog w) A (runValue (.builtin "proto.unchain" ⟨[.ref e, .ref e1, .ref e1, .bool false], []⟩)) Q E s := by
  refine wpAny_runValue (codeAny_builtin entry_unchain ?_)
  unfold Builtin.«proto.unchain»
  dsimp only
  refine wpAny_bind (wpAny_field h1 hd h2 ?_)
  rw [if_pos (by decide)]
  exact wpAny_pure h

/-- raise X from None, in a clause that holds e1 -/
theorem raise_from_none {e1 : Addr} {x : PySem.Expr} {n : Nat} {np pos : Pos} {Q : Flow → Shared → Prop} (hh : A.handled = some (.ref e1))
    (h : wpAny (model prog w) A (eval x env) (fun v s₁ => ∃ e b o1 ws, v = .ref e ∧ s₁.heap.get? e = some (excOf b) ∧ e ≠ e1 ∧ s₁.heap.get? e1 = some o1 ∧ o1.data = .fields ws ∧ ws[2]? = some .none ∧
      ∀ h', h'.get? e = some { cls := .type "ValueError", data := .fields #[.ref b, .none, .ref e1, .none, .bool true, .none] } → Heap.SameBut e s₁.heap h' → E (.ref e) { s₁ with heap := h' }) E s) :
    wpAny (model prog w) A (exec (.Raise (some x) (some (.Constant .none n np)) pos) env) Q E s := by
  show wpAny _ A (do standAt pos; raiseStmt env (some (do let v ← eval x env; standAt pos; pure v)) (some (do let v ← eval (.Constant .none n np) env; standAt pos; pure v))) Q E s
  refine wpAny_bind (wpAny_standAt ?_)
  unfold raiseStmt
  dsimp only
  refine wpAny_bind (wpAny_bind (wpAny_mono h (fun v s₁ h₁ => wpAny_bind (wpAny_standAt (wpAny_pure ?_))) fun _ _ x => x))
  obtain ⟨a, b, o1, ws, rfl, ha, hae, he1, hd1, h2, hE⟩ := h₁
  have hc := PyProof.Rows.excClass_ValueError
  have hT : s₁.TypeIs (.ref a) "ValueError" := ⟨_, ha, rfl⟩
  have hnt : ∀ {s₁ : Shared} {b : Addr} {ws : Array Value} {Q' : Bool → Shared → Prop}, s₁.heap.get? a = some { cls := .type "ValueError", data := .fields ws } → Q' false s₁ → wpAny (model prog w) A (isType (.ref a)) Q' E s₁ := by
    intro s₁ b ws Q' ha hq
    simp only [isType, loadHead]
    exact wpAny_bind (wpAny_loadPart ha (wpAny_pure hq))
  refine wpAny_bind (wpAny_holding (wpAny_bind ?_))
  refine wpAny_Constant_none (wpAny_bind (wpAny_standAt (wpAny_pure (wpAny_bind (wpAny_pure ?_)))))
  refine wpAny_bind (wpAny_holding ?_)
  unfold excFromValue isExcClass
  refine wpAny_bind (wpAny_bind (hnt (b := b) ha ?_))
  simp only [Bool.false_eq_true, if_false]
  refine wpAny_pure ?_
  simp only [Bool.false_eq_true, if_false]
  refine wpAny_bind (wpAny_isInstance hT hc.base ?_)
  simp only [if_true]
  refine wpAny_pure ?_
  rw [if_pos (by decide)]
  refine wpAny_bind (wpAny_pure (wpAny_bind (wpAny_setField ha rfl (by show 3 < 6; decide) ?_)))
  have ha2 : (s₁.heap.update a (Obj.mapFields (·.setIfInBounds 3 Value.none))).get? a = some { cls := .type "ValueError", data := .fields #[.ref b, .none, .none, .none, .bool false, .none] } := by
    rw [Heap.get?_update_self _ ha rfl]; rfl
  refine wpAny_bind (wpAny_setField ha2 rfl (by show 4 < 6; decide) ?_)
  have ha3 : ((s₁.heap.update a (Obj.mapFields (·.setIfInBounds 3 Value.none))).update a (Obj.mapFields (·.setIfInBounds 4 (Value.bool true)))).get? a = some { cls := .type "ValueError", data := .fields #[.ref b, .none, .none, .none, .bool true, .none] } := by
    rw [Heap.get?_update_self _ ha2 rfl]; rfl
  refine wpAny_bind (hnt (b := b) ha3 ?_)
  simp only [Bool.false_eq_true, if_false]
  unfold raisedInstance
  refine wpAny_bind (wpAny_bind (wpAny_typeOf (T := "ValueError") ⟨_, ha3, rfl⟩ (wpAny_bind (m := typeOf (.type "ValueError")) (wpAny_pure ?_))))
  rw [if_pos hc.metaType]
  refine wpAny_pure ?_
  unfold setFlight raiseNew
  refine wpAny_bind (wpAny_bind (wpAny_field ha3 rfl (x := .none) rfl ?_))
  rw [if_neg (by decide)]
  refine wpAny_pure (wpAny_bind (wpAny_handled ?_))
  rw [hh]
  dsimp only
  rw [if_pos (by simpa using fun q => hae q.symm)]
  have he3 : ((s₁.heap.update a (Obj.mapFields (·.setIfInBounds 3 Value.none))).update a (Obj.mapFields (·.setIfInBounds 4 (Value.bool true)))).get? e1 = some o1 := by
    rw [Heap.get?_update_other _ _ hae, Heap.get?_update_other _ _ hae]; exact he1
  refine wpAny_bind (wpAny_holding (unchain_none he3 hd1 h2 ?_))
  show wpAny _ _ (setField (.ref a) 2 (.ref e1) >>= _) _ _ _
  refine wpAny_bind (wpAny_setField ha3 rfl (by show 2 < 6; decide) (wpAny_throw (hE _ ?_ ?_)))
  · rw [Heap.get?_update_self _ ha3 rfl]; rfl
  · exact ((Heap.SameBut.update ..).trans (Heap.SameBut.update ..)).trans (Heap.SameBut.update ..)
end
end Mine


set_option maxRecDepth 100000
namespace Mine

/-- the claim's own caller stands below -/
def Called (Γ : PySem.Ctx) : Prop := ∃ c ∈ Γ.code :: Γ.below.map (·.1), Code.isCaller c = true
def CalledB (Γ : PySem.Ctx) : Prop := ∃ c ∈ Γ.below.map (·.1), Code.isCaller c = true
theorem CalledB.called {Γ : PySem.Ctx} (h : CalledB Γ) : Called Γ := let ⟨c, hc, q⟩ := h; ⟨c, .tail _ hc, q⟩
theorem Called.enter {Γ : PySem.Ctx} (h : Called Γ) (c : Code) (hd : Option Value) (p : Pos) : CalledB (Γ.enter c hd p) := h
theorem CalledB.goto {Γ : PySem.Ctx} (h : CalledB Γ) (c : Code) : CalledB (Γ.goto c) := h

def wpC {α : Type} (M : Model) (A : Around) (t : Sem α) (Q : α → Shared → Prop) (E : Value → Shared → Prop) (s : Shared) : Prop :=
  ∀ Γ p, Γ.In A → Called Γ → Sem.wp M Γ t (fun a _ s' => Q a s') (fun e _ s' => E e s') p s
def codeC (M : Model) (A : Around) (c : Code) (R : Result → Shared → Prop) (s : Shared) : Prop :=
  ∀ Γ p, Γ.code = c → Γ.Below A → CalledB Γ → wpCode M Γ R p s

section
variable {α β : Type} {M : Model} {A : Around} {E : Value → Shared → Prop} {s : Shared}
theorem wpC_of_any {t : Sem α} {Q : α → Shared → Prop} (h : wpAny M A t Q E s) : wpC M A t Q E s := fun Γ p hΓ _ => h Γ p hΓ
theorem codeC_of_any {c : Code} {R : Result → Shared → Prop} (h : codeAny M A c R s) : codeC M A c R s := fun Γ p hc hΓ _ => h Γ p hc hΓ
theorem wpC_mono {t : Sem α} {Q Q' : α → Shared → Prop} {E' : Value → Shared → Prop} (h : wpC M A t Q E s) (hQ : ∀ a s, Q a s → Q' a s) (hE : ∀ e s, E e s → E' e s) : wpC M A t Q' E' s :=
  fun Γ p hΓ hc => Sem.wp_mono M Γ t (fun a _ s => hQ a s) (fun e _ s => hE e s) p s (h Γ p hΓ hc)
theorem wpC_bind {m : Sem α} {f : α → Sem β} {Q : β → Shared → Prop} (h : wpC M A m (fun a s' => wpC M A (f a) Q E s') E s) : wpC M A (m >>= f) Q E s := fun Γ p hΓ hc => by
  rw [Sem.wp_bind']
  exact Sem.wp_mono M Γ m (fun a p' s' h' => h' Γ p' hΓ hc) (fun _ _ _ h' => h') p s (h Γ p hΓ hc)
/-- first what goes anywhere -/
theorem wpC_bindL {m : Sem α} {f : α → Sem β} {Q : β → Shared → Prop} (h : wpAny M A m (fun a s' => wpC M A (f a) Q E s') E s) : wpC M A (m >>= f) Q E s := wpC_bind (wpC_of_any h)
/-- then what goes anywhere -/
theorem wpC_bindR {m : Sem α} {f : α → Sem β} {Q : β → Shared → Prop} (h : wpC M A m (fun a s' => wpAny M A (f a) Q E s') E s) : wpC M A (m >>= f) Q E s :=
  wpC_bind (wpC_mono h (fun _ _ h' => wpC_of_any h') fun _ _ h' => h')
theorem wpC_holding {vs : List Value} {m : Sem α} {Q : α → Shared → Prop} (h : wpC M A m Q E s) : wpC M A (holding vs m) Q E s := fun Γ p hΓ hc => by
  rw [Sem.wp_holding]; exact h Γ p hΓ hc
theorem wpC_onRaise {m : Sem α} {k : Value → Sem Unit} {Q : α → Shared → Prop} (h : wpC M A m Q (fun e s' => wpAny M A (k e) (fun _ s'' => E e s'') E s') s) : wpC M A (m.onRaise k) Q E s := fun Γ p hΓ hc => by
  rw [Sem.wp_onRaise]
  exact Sem.wp_mono M Γ m (fun _ _ _ h' => h') (fun e p' s' h' => h' Γ p' hΓ) p s (h Γ p hΓ hc)
theorem wpC_attempt {m : Sem α} {Q : Except Value α → Shared → Prop} (h : wpC M A m (fun a => Q (.ok a)) (fun e => Q (.error e)) s) : wpC M A m.attempt Q E s := fun Γ p hΓ hc => by
  rw [Sem.wp_attempt]; exact h Γ p hΓ hc
theorem wpC_run {c : Code} {h : Option Value} {Q : Flow → Shared → Prop} (hc : codeC M (A.mark h) c (fun r s' => match r with | .ok f => Q f s' | .error e => E e s') s) (hnb : h ≠ some byPass := by intro x; cases x) : wpC M A (run c h) Q E s :=
  fun Γ p hΓ hC => by rw [Sem.wp_run]; exact hc _ p rfl (hΓ.enter c h p hnb) (hC.enter c h p)
theorem wpC_runValue {c : Code} {Q : Value → Shared → Prop} (hc : codeC M A c (fun r s' => match r with | .ok (.ret v) => Q v s' | .ok _ => False | .error e => E e s') s) : wpC M A (runValue c) Q E s :=
  fun Γ p hΓ hC => by rw [Sem.wp_runValue]; exact hc _ p rfl (hΓ.enter c none p (by intro x; cases x)) (hC.enter c none p)
theorem wpC_call {f : Value} {pos : List Value} {kw : List (Str × Value)} {Q : Value → Shared → Prop}
    (hc : codeC M A (.call f ⟨pos, kw⟩) (fun r s' => match r with | .ok (.ret v) => Q v s' | .ok _ => False | .error e => E e s') s) : wpC M A (call f pos kw) Q E s := wpC_runValue hc
theorem codeC_mono {c : Code} {R R' : Result → Shared → Prop} (h : codeC M A c R s) (hR : ∀ r s, R r s → R' r s) : codeC M A c R' s := fun Γ p hc hΓ hC => wpCode_mono hR (h Γ p hc hΓ hC)
theorem codeC_of_tree {c : Code} {R : Result → Shared → Prop}
    (h : wpC M (A.under c) (M.den c) (fun fin s' => match fin with | .done f => R (.ok f) s' | .again c' => c'.quiet = true ∧ codeC M A c' R s') (fun e s' => R (.error e) s') s) : codeC M A c R s := fun Γ p hc hΓ hC => by
  rw [wpCode_iff_wp, hc]
  refine Sem.wp_mono M Γ _ (fun fin p' s' h' => ?_) (fun _ _ _ h' => h') p s (h Γ p (hc ▸ hΓ.in) hC.called)
  cases fin with
  | done f => exact h'
  | again c' => exact ⟨h'.1, h'.2 (Γ.goto c') p' rfl (hΓ.goto c') (hC.goto c')⟩
end

section
variable {prog : Program} {w : World} {A : Around} {E : Value → Shared → Prop} {R : Result → Shared → Prop} {s : Shared}

theorem codeC_func {body : List Stmt} {env : Env}
    (h : wpC (model prog w) (A.deeper env) (execs body env) (fun f s' => R (.ok (.ret (match f with | .ret v => v | _ => .none))) s')
      (fun e s' => wpAny (model prog w) (A.deeper env) (leaving env e) (fun _ s'' => R (.error e) s'') (fun e' s'' => R (.error e') s'') s') s) :
    codeC (model prog w) A (.func body env) R s := by
  refine codeC_of_tree ?_
  show wpC _ (A.deeper env) (do point; match ← (execs body env).onRaise (leaving env) with | .ret v => ret v | _ => ret .none) _ _ s
  refine wpC_bindL (wpAny_point (wpC_bindR (wpC_onRaise (wpC_mono h (fun f s' h' => ?_) fun _ _ h' => h'))))
  cases f <;> exact wpAny_pure h'

theorem codeC_call_def {a : Addr} {o : Obj} {fd : FuncData} {body : List Stmt} {args : Args} {binds : List (Str × Value)}
    (hroom : A.depth < recursionLimit) (ho : s.heap.get? a = some o) (hdata : o.data = .func fd) (hlim : s.heap.NoLimit) (hcd : s.heap.CodeRec fd.code fd.qualname)
    (hbody : fd.body = .stmts body) (hbind : BindsTo s fd args binds) (hcell : ∀ x ∈ fd.scope.names, x.2 ≠ .cell) (hloc : ∀ x ∈ binds, fd.scope.names.lookup x.1 = some .local)
    (h : ∀ h₀, h₀.Ns s.heap.objs.size (fun x => binds.reverse.lookup x) → (∀ b o, s.heap.get? b = some o → h₀.get? b = some o) →
      wpC (model prog w) (A.deeper (callEnv fd s.heap.objs.size a)) (execs body (callEnv fd s.heap.objs.size a)) (fun f s' => R (.ok (.ret (match f with | .ret v => v | _ => .none))) s')
        (fun e s' => wpAny (model prog w) (A.deeper (callEnv fd s.heap.objs.size a)) (leaving (callEnv fd s.heap.objs.size a) e) (fun _ s'' => R (.error e) s'') (fun e' s'' => R (.error e') s'') s')
        { s with heap := h₀, toks := s.toks + binds.length })
    (hco : fd.scope.isCoroutine = false) (hgen : fd.scope.isGenerator = false) (hk : fd.scope.kind = .function) :
    codeC (model prog w) A (.call (.ref a) args) R s := by
  refine codeC_of_tree ?_
  show wpC _ A.in1 (callAny (.ref a) args) _ _ s
  simp only [callAny]
  refine wpC_of_any (wpAny_bind (wpAny_load ho ?_))
  obtain ⟨c, oc, vs, tq, hc, hoc, hdc, hq⟩ := hcd
  simp only [hdata, callFunction, hco, hgen, hbody, hc]
  refine wpAny_bind (m := field (.ref c) 1) (wpAny_field hoc hdc hq (wpAny_bind (wpAny_pure ?_)))
  refine wpAny_bind (hbind _ _ _ _ ?_)
  refine wpAny_bind (wpAny_newFunctionEnv hcell hloc (fun h₀ hns₀ hsb₀ => wpAny_bind (wpAny_enterFrame (hlim.fresh _ hsb₀) hroom (wpAny_pure ⟨rfl, ?_⟩))) hk)
  rw [← hc]
  exact codeC_func (h h₀ hns₀ fun b o e => hsb₀.extBut b o (Nat.ne_of_lt (Heap.lt_size e)) (Heap.get?_push_of_some _ e))
end

section
variable {M : Model} {A : Around} {E : Value → Shared → Prop} {s : Shared} {env : Env}
theorem wpC_keep {α : Type} {vs : List Value} {m : Sem α} {Q : α → Shared → Prop} (h : wpC M A m Q E s) : wpC M A (m.keep vs) Q E s := fun Γ p hΓ hC => by rw [Sem.wp_keep]; exact h Γ p hΓ hC

theorem wpC_execs_cons {st : Stmt} {rest : List Stmt} {Q : Flow → Shared → Prop} (h : wpC M A (exec st env) (fun f s' => match f with | .next => wpC M A (execs rest env) Q E s' | f => Q f s') E s) : wpC M A (execs (st :: rest) env) Q E s := by
  rw [execs_cons]
  refine wpC_bind (wpC_mono h (fun f s' h' => ?_) fun _ _ x => x)
  cases f <;> first | exact h' | exact wpC_of_any (wpAny_pure h')
/-- a statement that goes anywhere -/
theorem wpC_execs_consL {st : Stmt} {rest : List Stmt} {Q : Flow → Shared → Prop} (h : wpAny M A (exec st env) (fun f s' => match f with | .next => wpC M A (execs rest env) Q E s' | f => Q f s') E s) : wpC M A (execs (st :: rest) env) Q E s :=
  wpC_execs_cons (wpC_of_any h)
theorem wpC_If {test : PySem.Expr} {body orelse : List Stmt} {pos : Pos} {Q : Flow → Shared → Prop} (h : wpAny M A (isTrue test env (eval test env)) (fun b s₂ => WhlIf b (wpC M A (execs body env) Q E s₂) (wpC M A (execs orelse env) Q E s₂)) E s) :
    wpC M A (exec (.If test body orelse pos) env) Q E s := by
  rw [exec_If]
  refine wpC_bindL (wpAny_standAt (wpC_bindL (wpAny_mono h (fun b s₂ h₂ => ?_) fun _ _ x => x)))
  unfold WhlIf at h₂
  cases b with
  | true => rw [if_pos rfl] at h₂ ⊢; exact h₂
  | false => rw [if_neg Bool.false_ne_true] at h₂ ⊢; exact h₂
theorem wpC_AssignTuple {elts : List PySem.Expr} {k : Nat} {tpos pos : Pos} {value : PySem.Expr} {Q : Flow → Shared → Prop}
    (h : wpC M A (eval value env) (fun v s₁ => wpAny M A (assign (.Tuple elts k tpos) env v) (fun _ => Q .next) E s₁) E s)
    (hs : swapsWithSole [.Tuple elts k tpos] value pos.line env = pure false := by rfl) (hw : swappedStores [.Tuple elts k tpos] value env = pure none := by rfl) :
    wpC M A (exec (.Assign [.Tuple elts k tpos] value pos) env) Q E s := by
  rw [exec_Assign]
  refine wpC_bindL (wpAny_standAt ?_)
  rw [hs]
  refine wpC_bindL (wpAny_pure ?_)
  rw [if_neg (by decide)]
  refine wpC_bindR (wpC_mono h (fun v s₁ h₁ => ?_) fun _ _ x => x)
  rw [hw]
  refine wpAny_bind (wpAny_pure ?_)
  show wpAny M A (do assignAll v [assign (.Tuple elts k tpos) env]; pure .next) Q E s₁
  exact wpAny_bind (wpAny_mono h₁ (fun _ _ x => wpAny_pure x) fun _ _ x => x)
theorem wpC_AssignName {x : Str} {np pos : Pos} {value : PySem.Expr} {Q : Flow → Shared → Prop}
    (h : wpC M A (eval value env) (fun v s₁ => wpAny M A (bindName env x v) (fun _ => Q .next) E s₁) E s) (hs : swapsWith value (some (.Name x np)) pos.line env = pure false := by rfl) :
    wpC M A (exec (.Assign [.Name x np] value pos) env) Q E s := by
  rw [exec_Assign_Name (hs := hs)]
  refine wpC_bindL (wpAny_standAt (wpC_bindR (wpC_mono h (fun v s₁ h₁ => ?_) fun _ _ x => x)))
  exact wpAny_bind (wpAny_standAt (wpAny_bind (wpAny_mono h₁ (fun _ _ x => wpAny_pure x) fun _ _ x => x)))
theorem wpC_runOwn {c : Code} {h : Option Value} {Q : Flow → Shared → Prop}
    (hc : codeC M (A.mark h) c (fun r s' => match r with | .ok f => Q f s' | .error e => cameBackBy M A env E e s') s) (hnb : h ≠ some byPass := by intro x; cases x) : wpC M A (runOwn c env h) Q E s := by
  unfold runOwn
  exact wpC_onRaise (wpC_run hc hnb)
theorem wpC_noted {α : Type} {m : Sem α} {Q : α → Shared → Prop} (h : wpC M A m Q (notedBy M A env E) s) : wpC M A (m.onRaise fun x => do noteFrame x env; theTreesLotGoes x) Q E s :=
  wpC_onRaise (wpC_mono h (fun _ _ q => q) fun _ _ hx => wpAny_bind (wpAny_mono hx (fun _ _ e => wpAny_theTreesLotGoes e) fun _ _ e => e))
end

section
variable {prog : Program} {w : World} {A : Around} {E : Value → Shared → Prop} {s : Shared} {env : Env} {test : PySem.Expr} {body orelse : List Stmt} {Q : Flow → Shared → Prop}

/-- a while by an invariant and a measure -/
theorem wpC_While {pos : Pos} (I : Nat → Shared → Prop) (b : Nat) (h0 : I b s) (hE : PassesOwn (model prog w) A env E)
    (step : ∀ b s, I b s → wpAny (model prog w) A (isTrue test env (eval test env)) (fun bl s₂ => WhlIf bl (wpC (model prog w) A (execs body env) (fun f s₃ => match f with | .next => Halt (∃ b', b' < b ∧ I b' s₃) | .cont => Halt (∃ b', b' < b ∧ I b' s₃) | .brk => Q .next s₃ | .ret v => Q (.ret v) s₃) E s₂)
      (wpAny (model prog w) A (execs orelse env) Q E s₂)) E s) : wpC (model prog w) A (exec (.While test body orelse pos) env) Q E s := by
  rw [exec_While]
  refine wpC_bindL (wpAny_standAt (wpC_runOwn ?_))
  have key : ∀ n b s, b < n → I b s → codeC (model prog w) A (.whileLoop test body orelse env) (fun r s' => match r with | .ok f => Q f s' | .error e => cameBackBy (model prog w) A env E e s') s := by
    intro n
    induction n with
    | zero => intro b s hb; omega
    | succ n ih =>
      intro b s hb hI
      refine codeC_of_tree ?_
      show wpC _ A ((whileTurn test body orelse env).onRaise (fun x => do noteFrame x env; theTreesLotGoes x)) _ _ s
      refine wpC_noted ?_
      simp only [whileTurn]
      refine wpC_bindL (wpAny_mono (step b s hI) (fun bl s₂ h₂ => ?_) hE)
      unfold WhlIf at h₂
      cases bl with
      | false =>
        rw [if_neg Bool.false_ne_true] at h₂
        simp only [Bool.false_eq_true, if_false]
        exact wpC_of_any (wpAny_bind (wpAny_mono h₂ (fun f s₃ h₄ => wpAny_pure h₄) hE))
      | true =>
        rw [if_pos rfl] at h₂
        simp only [if_true]
        refine wpC_bindR (wpC_mono h₂ (fun f s₃ h₄ => ?_) hE)
        cases f with
        | next => obtain ⟨b', hb', hI'⟩ := h₄; exact wpAny_pure ⟨rfl, ih b' s₃ (by omega) hI'⟩
        | cont => obtain ⟨b', hb', hI'⟩ := h₄; exact wpAny_pure ⟨rfl, ih b' s₃ (by omega) hI'⟩
        | brk => exact wpAny_pure h₄
        | ret v => exact wpAny_pure h₄
  exact key (b + 1) b s (by omega) h0

theorem wpC_Try {h₀ : ExceptHandler} {hs : List ExceptHandler} {pos : Pos}
    (h : wpC (model prog w) A (execs body env) (fun f s₁ => match f with | .next => wpAny (model prog w) A (execs orelse env) Q E s₁ | f => Q f s₁)
      (fun e s₁ => wpAny (model prog w) A (noteFrame e env) (fun _ s₂ => wpAny (model prog w) A (setFlight e none) (fun _ s₃ => wpAny (model prog w) A (handleBy e env (h₀ :: hs)) Q E s₃) E s₂) E s₁) s) :
    wpC (model prog w) A (exec (.Try body (h₀ :: hs) orelse [] pos) env) Q E s := by
  rw [arm_exec_Try]
  refine wpC_bindL (wpAny_standAt ?_)
  unfold tryStmt
  dsimp only
  simp only [List.isEmpty_nil, if_true]
  refine wpC_bindR (wpC_attempt (wpC_mono h (fun f s₁ h₁ => ?_) fun e s₁ h₁ => ?_))
  · cases f <;> first | exact h₁ | exact wpAny_pure h₁
  · refine wpAny_bind (wpAny_mono h₁ (fun _ s₂ h₂ => ?_) fun _ _ x => x)
    simp only [List.isEmpty_cons, Bool.false_eq_true, if_false]
    exact wpAny_bind (wpAny_mono h₂ (fun _ s₃ h₃ => by simpa using h₃) fun _ _ x => x)

/-- a call of a def of the text by its name -/
theorem wpC_callK {K : Frag} {h₁ : Heap} {L a f : Addr} {m mg mb : Str → Option Value} {cn : Str} {cs : Scope} {ccd : Value} {p : Program} {loose : List Str} {x : Str} {np cpos : Pos} {e : PySem.Expr} {rest : List PySem.Expr} {Qv : Value → Shared → Prop}
    (F : Fr h₁ L s.heap m) (X : K.In h₁) (T : TopRead p loose mg mb h₁) (hn : nsIn K mainGlobals x = some (some (.ref f))) (hf : fnIn K f = true)
    (h : wpAny (model prog w) A (spliced (backTo cpos (starEach (e :: rest) (envOf cn cs L a ccd)))) (fun vs s₁ => K.In s₁.heap ∧ wpC (model prog w) A (call (.ref f) vs) Qv E s₁) E s)
    (hk : cs.kind = .function := by rfl) (hx : (envOf cn cs L a ccd).kindOf x = some .globalImplicit := by rfl) (hd : (x == ("__debug__" : Str)) = false := by decide)
    (he : starEach (e :: rest) (envOf cn cs L a ccd) = (false, eval e (envOf cn cs L a ccd)) :: starEach rest (envOf cn cs L a ccd) := by rfl) (hplain : (backTo cpos (starEach rest (envOf cn cs L a ccd))).any (·.1) = false := by rfl) :
    wpC (model prog w) A (eval (.Call (.Name x np) (e :: rest) [] cpos) (envOf cn cs L a ccd)) Qv E s := by
  rw [arm_eval_Call_Name']
  refine wpC_bindL (name_K F X T hn ?_ hk hx hd)
  unfold callWith
  rw [he] at h ⊢
  refine wpC_bindL (wpAny_holding (evalArgs_plain (wpAny_mono h (fun vs s₁ h₁ => ?_) fun _ _ x => x)))
  refine wpC_bindL (wpAny_standAt ?_)
  obtain ⟨hK, hc⟩ := h₁
  have hs : ((backTo cpos ((false, eval e (envOf cn cs L a ccd)) :: starEach rest (envOf cn cs L a ccd))).any fun x => x.fst) = false := by
    show (false || (backTo cpos (starEach rest (envOf cn cs L a ccd))).any (·.1)) = false
    rw [hplain]; rfl
  simp only [backToKw, keywordEach, List.map_nil, List.any_nil, Bool.or_false, hs]
  have Lk : Looks (model prog w) s₁.heap (keeperOf (.ref f)) .frame := by
    unfold fnIn at hf
    split at hf
    · rename_i q
      exact (Looks.ld (part := none) (hK _ _ q)).andThen .now
    · cases hf
  refine wpC_bindL (Lk.here ?_)
  show wpC _ A (if (backTo cpos ((false, eval e (envOf cn cs L a ccd)) :: starEach rest (envOf cn cs L a ccd))).length + 2 * ([] : List (Option Str × Sem Value)).length > 30 then _ else _) Qv E s₁
  have tail : ∀ {t : Sem Value}, wpC (model prog w) A t Qv E s₁ → wpC (model prog w) A (t >>= fun r => holding [r] point >>= fun _ => pure r) Qv E s₁ :=
    fun ht => wpC_bindR (wpC_mono ht (fun r s₂ hr => wpAny_bind (wpAny_holding (wpAny_point (wpAny_pure hr)))) fun _ _ x => x)
  split
  · exact tail hc
  · exact tail (by unfold callMarked; exact wpC_keep hc)

/-- a call of a built-in type -/
theorem wpC_callType {T : String} {cpos : Pos} {e : PySem.Expr} {rest : List PySem.Expr} {Qv : Value → Shared → Prop}
    (h : wpAny (model prog w) A (spliced (backTo cpos (starEach (e :: rest) env))) (fun vs s₁ => wpC (model prog w) A (call (.type T) vs) Qv E s₁) E s)
    (he : starEach (e :: rest) env = (false, eval e env) :: starEach rest env := by rfl) (hplain : (backTo cpos (starEach rest env)).any (·.1) = false := by rfl) :
    wpC (model prog w) A (callWith cpos (.type T) [] (backTo cpos (starEach (e :: rest) env)) (backToKw cpos (keywordEach [] env))) Qv E s := by
  unfold callWith
  rw [he] at h ⊢
  refine wpC_bindL (wpAny_holding (evalArgs_plain (wpAny_mono h (fun vs s₁ h₁ => ?_) fun _ _ x => x)))
  refine wpC_bindL (wpAny_standAt ?_)
  have hs : ((backTo cpos ((false, eval e env) :: starEach rest env)).any fun x => x.fst) = false := by
    show (false || (backTo cpos (starEach rest env)).any (·.1)) = false
    rw [hplain]; rfl
  simp only [backToKw, keywordEach, List.map_nil, List.any_nil, Bool.or_false, hs]
  refine wpC_bindL (wpAny_pure ?_)
  exact wpC_bindR (wpC_mono h₁ (fun r s₂ hr => wpAny_bind (wpAny_holding (wpAny_point (wpAny_pure hr)))) fun _ _ x => x)

theorem wpC_execs_consE {st : Stmt} {rest : List Stmt} (h : wpC (model prog w) A (exec st env) (fun _ _ => False) E s) : wpC (model prog w) A (execs (st :: rest) env) Q E s :=
  wpC_execs_cons (wpC_mono h (fun _ _ x => x.elim) fun _ _ x => x)
theorem wpC_never {α : Type} {t : Sem α} {Qa : α → Shared → Prop} (h : wpC (model prog w) A t (fun _ _ => False) E s) : wpC (model prog w) A t Qa E s := wpC_mono h (fun _ _ x => x.elim) fun _ _ x => x
theorem wpC_named {α : Type} {M : Model} {t : Sem α} {Q : α → Shared → Prop} (h : ∀ qk ek, qk = Q → ek = E → wpC M A t qk ek s) : wpC M A t Q E s := h Q E rfl rfl
theorem wpC_cut {α : Type} {M : Model} {t : Sem α} {Q : α → Shared → Prop} (mid : α → Shared → Prop) (h1 : wpC M A t mid E s) (h2 : ∀ f s', mid f s' → Q f s') : wpC M A t Q E s := wpC_mono h1 h2 fun _ _ x => x
end

section
variable {prog : Program} {w : World} {A A₀ : Around} {s : Shared} {K : Frag} {L : Addr} {h₀ base : Heap} {m mg mb : Str → Option Value} {news : List (Addr × Obj)} {p : Program} {loose : List Str} {mean : ExcName → Option Value}
theorem codeC_K {env : Env} {outer : List Env} {R : Result → Shared → Prop} {name qual : Str} {params : Arguments} {body : List Stmt} {scope : Scope} {dV kV doc pm cdv ct oc : Value} {an od : Option Addr} {osl : Array (Option Value)} {f : Addr} {args : Args} {binds : List (Str × Value)}
    (B : Below A₀ base outer h₀) (F : Fr h₀ L s.heap m) (X₀ : K.In h₀) (N : News h₀ L s.heap news) (T : Top p loose mean mg mb h₀) (hA : A.frames = some (env :: outer)) (hf : env.frame = some L) (hke : env.scope.kind = .function)
    (ho : K.lookup f = some ⟨oc, od, .func (fnOf name qual params body scope dV kV doc pm an cdv ct), osl⟩) (hcd : codeIn K cdv qual = true) (hroom : A.depth < recursionLimit)
    (hbind : BindsTo s (fnOf name qual params body scope dV kV doc pm an cdv ct) args binds) (hloc : ∀ y ∈ binds, scope.names.lookup y.1 = some .local)
    (h : ∀ g L' h₁, Fr h₀ L g m → Fr g L' h₁ (fun y => binds.reverse.lookup y) → News g L' h₁ news → Below A base (env :: outer) g → K.In g → Top p loose mean mg mb g →
      wpC (model prog w) (A.deeper (envOf qual scope L' f cdv)) (execs body (envOf qual scope L' f cdv)) (fun fl s' => LeaveK h₀ L m g R (match fl with | .ret v => v | _ => .none) s')
        (fun e s' => wpAny (model prog w) (A.deeper (envOf qual scope L' f cdv)) (leaving (envOf qual scope L' f cdv) e) (fun _ s'' => R (.error e) s'') (fun e' s'' => R (.error e') s'') s')
        { s with heap := h₁, toks := s.toks + binds.length })
    (hco : scope.isCoroutine = false) (hgen : scope.isGenerator = false) (hk : scope.kind = .function) (hcell : ∀ x ∈ scope.names, x.2 ≠ .cell) : codeC (model prog w) A (.call (.ref f) args) R s := by
  obtain ⟨FG, BG, st, lv⟩ := groundX (R := R) B F N hA hf hke
  have X := X₀.keeps F.keep
  refine codeC_call_def (fd := fnOf name qual params body scope dV kV doc pm an cdv ct) (body := body) (binds := binds) hroom (X _ _ ho) rfl (T.nolimit.keeps F.keep) (codeRec_of X hcd) rfl hbind hcell hloc (fun h₁ hns hk₁ => ?_) hco hgen hk
  exact wpC_mono (h _ s.heap.objs.size h₁ FG ⟨hns, fun b o e => hk₁ b o (of_hideAll _ e), Nat.le_of_eq (hideAll_size _ _)⟩
    (fun p hp => ⟨hk₁ _ _ (N p hp).1, Nat.ne_of_lt (Heap.lt_size (N p hp).1), hideAll_none _ (List.mem_map_of_mem hp)⟩) BG (X₀.keeps st) (T.keeps st)) (fun fl s' hl => lv _ _ hl) fun _ _ y => y
end
end Mine


set_option maxRecDepth 100000
namespace Mine

/-- what is left to walk: the call, below the claim's own caller -/
def WalkC (q : Program) (loose : List Str) (XP : (Str → Option Value) → Heap → Prop) (YP : World → Heap → Prop) (r : RowW) (d : DefRec) (kwd : List (Str × PySem.Expr)) : Prop :=
  ∀ (w : World) (s₀ s₁ : Shared) (mg mb : Str → Option Value), Ground q loose r.records XP w s₀ mg mb s₁.heap → YP w s₁.heap → ∀ (a : Addr) (o : Obj) (pm cd doc dV kV : Value), s₁.heap.get? a = some o →
    o.data = .func { docDef d.name d.params d.body d.scope pm cd doc with defaults := dV, kwdefaults := kV } → s₁.heap.CodeRec cd d.name → Dflts mg s₁.heap d.params kwd dV kV → mg d.name = some (.ref a) → s₁.gens = #[] →
    ∀ (args : List WData) (vals : List Value) (as : List Addr), r.claim.pre args = true → WData.layableAll args = true → ReadsAllW r.records (classAt s₀.heap) s₁.heap vals args as → WellAll w.params s₁.heap vals args → (∀ a ∈ as, (a == sysModules) = false) →
      wpC (model r.prog w) callerA (PySem.call (.ref a) vals) (fun v s' => GoodWG r.claim (classAt s₀.heap) (ExcName.means s₀.heap) args s₁ (.ok (.ret v)) s')
        (fun e s' => GoodWG r.claim (classAt s₀.heap) (ExcName.means s₀.heap) args s₁ (.error e) s') s₁

theorem called_caller : Called (⟨.builtin "claim.caller" {}, none, none, [], none⟩ : PySem.Ctx) := ⟨_, .head _, rfl⟩

theorem PySem.W.holds_open {r : OpenRow} {q : Program} {loose : List Str} {Xt : Shared → Bool} {XP : (Str → Option Value) → Heap → Prop} {α : Type} {Yf : Shared → α} {Ya : World → α} {YP : World → Heap → Prop} {d : DefRec} {kwd : List (Str × PySem.Expr)} {N : Nat}
    (left : LeftO r.prog q loose Xt Yf Ya N) (hY : ∀ w s, Yf s = Ya w → YP w s.heap) (hYk : ∀ w h h', YP w h → (∀ b o, h.get? b = some o → h'.get? b = some o) → YP w h')
    (hX : ∀ s, Xt s = true → XP (s.heap.nsMap mainGlobals) s.heap) (hXk : ∀ mg h h', XP mg h → (∀ b o, h.get? b = some o → h'.get? b = some o) → XP mg h')
    (hdef : defOf q r.name = some (d, kwd)) (hp : r.prog.theDef r.name = some (d.params, d.body, d.scope)) (hk : kwWritten? d.params.kwonlyargs d.params.kw_defaults = some kwd) (hRf : ∀ s, Xt s = true → RecFacts r.records s.heap) (hwr : (!r.writes || r.records.isEmpty) = true)
    (k1 : r.wellSaid = true) (ok : (chainsOk q && opensWell r.prog && (frees r.toRowW && r.within.isEmpty)) = true) (hb : r.prog.bare) (hw : r.toRowW.promised)
    (call : WalkC q loose XP YP r.toRowW d kwd) : r.Holds := by
  obtain ⟨ok1, ok2⟩ := Bool.and_eq_true_iff.mp ok
  obtain ⟨hch, hwell⟩ := Bool.and_eq_true_iff.mp ok1
  obtain ⟨hfree, hin⟩ := Bool.and_eq_true_iff.mp ok2
  obtain ⟨hsame, hu, ha, hap, hm⟩ := frees_parts hfree
  refine ⟨k1, hw, ⟨hb, hwell, by show r.makers.map _ = []; rw [hm]; rfl⟩, hw.witness, fun w => ⟨(left.behind hX hch w).1, fun s' hs' => ?_⟩⟩
  obtain ⟨s₀, hf, hg0, s, hT, hz, hgens, hg, G, y⟩ := (left.behind (XP := fun mg h => XP mg h ∧ RecFacts r.records h) (fun s hs => ⟨hX s hs, hRf s hs⟩) hch w).2 s' hs'
  have G0 : Ground q loose [] XP w s (s.heap.nsMap mainGlobals) (s.heap.nsMap builtinsNs) s.heap := { G with X := G.X.1 }
  refine ⟨s₀, hf, hg0, s, hT, fun n hn => ?_, G.X.2.1, G.X.2.2.1, fun args hpre hlay ord hord => ?_⟩
  · obtain rfl : n = r.name := by split at hn <;> simp_all
    exact pinned_of_view hg G0 hdef hp hk
  have hgens' : s.gens = #[] := Array.eq_empty_of_size_eq_zero (beq_iff_eq.mp hgens)
  have G1 : Ground q loose r.records XP w s _ _ s.heap := G.X.2.ground G0
  obtain ⟨⟨vs, s₁⟩, hlaid⟩ := Option.isSome_iff_exists.mp (layAllW_isSome (P := w.params) (ord := ord) G1.has args r.args s (pre_splitW hpre).1)
  have keeps := layAllW_keeps _ _ _ hlaid
  have hal := layAllW_rest _ _ _ hlaid
  obtain ⟨as, hrd, hin', hold⟩ := reads_layAllW hord _ _ _ hlaid hlay s₁.heap (fun _ _ e => e)
  have L : Laid r.records w s s₁ args vs as := ⟨⟨ord, hord, hlaid⟩, hrd, hin', hold, keeps, hal.1.trans hgens', hal.2.2.1⟩
  have G2 := G1.keeps hXk keeps
  obtain ⟨a, o, pm, cd, doc, dV, kV, h1, h2, h3, h4, h5⟩ := G2.fn hdef
  have hcall := call w s s₁ _ _ G2 (hYk _ _ _ (hY w s y) keeps) a o pm cd doc dV kV h2 h3 h4 h5 (defOf_name hdef ▸ h1) L.gens args vs as hpre hlay L.reads L.well (L.low G1.low)
  have hi := ident_freeW hu ha hap
  have hwi : r.claim.within = [] := List.isEmpty_iff.mp hin
  have hends : ∀ res s', GoodWG r.claim (classAt s.heap) (ExcName.means s.heap) args s₁ res s' → (r.claim.Ends s args vs s₁ res s' ∧ s'.os = s.os ∧ OldK s₁.heap s'.heap) ∧ leftWithCleanup s'.gens = false := fun res s' g =>
    have z := g.laid (c := r.claim) hsame hwi hi L
    ⟨⟨z.1, z.2.1, g.2.1⟩, leftWithCleanup_false_of_bare z.2.2⟩
  have htree : wpC (model r.prog w) callerA (do match ← nsGet mainNs r.name with
      | some f => do ret (← PySem.call f vs)
      | none => unsupported "claim.caller:no-such-global")
      (fun fin s' => ∃ f, fin = .done f ∧ GoodWG r.claim (classAt s.heap) (ExcName.means s.heap) args s₁ (.ok f) s') (fun e s' => GoodWG r.claim (classAt s.heap) (ExcName.means s.heap) args s₁ (.error e) s') s₁ := by
    refine wpC_bindL (wpAny_nsGet G2.T.g ?_)
    rw [h1]
    exact wpC_bindR (wpC_mono hcall (fun v s' g => wpAny_pure ⟨_, rfl, g⟩) fun _ _ g => g)
  obtain ⟨k, res, s₂, s₃, hsched, hrun, hfo, ⟨hcase, hos, hold'⟩⟩ := wp_halts_full (M := model r.prog w) (c := .builtin "claim.caller" {}) (p := default) (s := s₁)
    (R := fun res s' => (r.claim.Ends s args vs s₁ res s' ∧ s'.os = s.os ∧ OldK s₁.heap s'.heap))
    (Shared.asleep_of_life hal.2.2.2 hz) (Sem.wp_mono _ _ _ (fun fin p' s' h' => by
      obtain ⟨f, rfl, g⟩ := h'
      exact hends _ _ g) (fun e _ s' g => hends _ _ g) default s₁ (htree _ default caller_in called_caller))
  obtain ⟨eh, _, _, eo, _⟩ := Shared.forget_eq hfo
  have hcase := hcase.congr eh
  have hkeep : OldK s₁.heap s₃.heap := by rw [eh]; exact hold'
  have hos' : s₃.os = s.os := eo.trans hos
  have hlife : s₃.heap.life = s.heap.life := (runN_life _ _ _ hrun).trans hal.2.2.2
  refine ⟨vs, s₁, hlaid, k, _, s₃, hsched, ?_, (fun _ i x hx => by rw [hgens'] at hx; simp at hx), fun q => ⟨namesKept_of hT hg _ keeps hkeep.old, noTable hwr q⟩, by rw [hlife], Shared.rest_eq hos'⟩
  rcases hcase with ⟨v, rfl, d1, d2, d3, d4, d5⟩ | ⟨e, ob, cls, rfl, d1, d2, d3, d4, d5⟩
  · exact .inl ⟨v, rfl, d1, d2, d3, fun b o y _ => d4 b o y, d5⟩
  · exact .inr ⟨e, ob, cls, rfl, d1, d2, d3, d4, fun b o y _ => d5 b o y⟩

/-- into the law's own def -/
theorem codeC_top {prog : Program} {w : World} {A : Around} {s : Shared} {R : Result → Shared → Prop} {name qual : Str} {params : Arguments} {body : List Stmt} {scope : Scope} {dV kV doc pm cdv ct : Value} {an : Option Addr} {f : Addr} {o : Obj} {args : Args} {binds : List (Str × Value)}
    (ho : s.heap.get? f = some o) (hd : o.data = .func (fnOf name qual params body scope dV kV doc pm an cdv ct)) (hlim : s.heap.NoLimit) (hcd : s.heap.CodeRec cdv qual) (hroom : A.depth < recursionLimit)
    (hbind : BindsTo s (fnOf name qual params body scope dV kV doc pm an cdv ct) args binds) (hloc : ∀ y ∈ binds, scope.names.lookup y.1 = some .local)
    (h : ∀ L h₁, Fr s.heap L h₁ (fun y => binds.reverse.lookup y) → News s.heap L h₁ [] →
      wpC (model prog w) (A.deeper (envOf qual scope L f cdv)) (execs body (envOf qual scope L f cdv)) (fun fl s' => R (.ok (.ret (match fl with | .ret v => v | _ => .none))) s')
        (fun e s' => wpAny (model prog w) (A.deeper (envOf qual scope L f cdv)) (leaving (envOf qual scope L f cdv) e) (fun _ s'' => R (.error e) s'') (fun e' s'' => R (.error e') s'') s')
        { s with heap := h₁, toks := s.toks + binds.length })
    (hco : scope.isCoroutine = false) (hgen : scope.isGenerator = false) (hk : scope.kind = .function) (hcell : ∀ x ∈ scope.names, x.2 ≠ .cell) : codeC (model prog w) A (.call (.ref f) args) R s := by
  refine codeC_call_def (fd := fnOf name qual params body scope dV kV doc pm an cdv ct) (body := body) (binds := binds) hroom ho hd hlim hcd rfl hbind hcell hloc (fun h₁ hns hk₁ => ?_) hco hgen hk
  have F : Fr s.heap s.heap.objs.size h₁ (fun y => binds.reverse.lookup y) := ⟨hns, hk₁, Nat.le_refl _⟩
  exact h _ h₁ F (News.nil.at F)

/-- into the law's own def, where names are captured -/
theorem codeC_topC {prog : Program} {w : World} {A : Around} {s : Shared} {R : Result → Shared → Prop} {name : Str} {params : Arguments} {body : List Stmt} {scope : Scope} {pm cd doc : Value} {a : Addr} {o : Obj} {args : List Value} {binds : List (Str × Value)}
    (ho : s.heap.get? a = some o) (hdata : o.data = .func (docDef name params body scope pm cd doc)) (hlim : s.heap.NoLimit) (hcd : s.heap.CodeRec cd name) (hroom : A.depth < recursionLimit)
    (hbind : bindArgs (docDef name params body scope pm cd doc) ⟨args, []⟩ = pure binds)
    (hkind : ∀ x ∈ binds, scope.names.lookup x.1 = some .local ∨ (scope.names.lookup x.1 = some .cell ∧ ((cellsFrom (s.heap.objs.size + 1) scope.names []).lookup x.1).isSome = true))
    (hnd : ((cellsFrom 0 scope.names []).map (·.1)).Nodup)
    (h : ∀ h₁ tk cells, Fr s.heap s.heap.objs.size h₁ (bindL (envOfC name scope s.heap.objs.size a cd).kindOf binds fun _ => none) → News s.heap s.heap.objs.size h₁ cells →
      CellsAre (bindC (envOfC name scope s.heap.objs.size a cd).kindOf binds fun _ => none) (cellsFrom (s.heap.objs.size + 1) scope.names []) cells →
      wpC (model prog w) (A.deeper (envOfC name scope s.heap.objs.size a cd)) (execs body (envOfC name scope s.heap.objs.size a cd))
        (fun f s' => R (.ok (.ret (match f with | .ret v => v | _ => .none))) s')
        (fun e s' => wpAny (model prog w) (A.deeper (envOfC name scope s.heap.objs.size a cd)) (leaving (envOfC name scope s.heap.objs.size a cd) e) (fun _ s'' => R (.error e) s'') (fun e' s'' => R (.error e') s'') s')
        { s with heap := h₁, toks := tk })
    (hco : scope.isCoroutine = false := by rfl) (hgen : scope.isGenerator = false := by rfl) (hk : scope.kind = .function := by rfl) : codeC (model prog w) A (.call (.ref a) ⟨args, []⟩) R s := by
  have hco' : (docDef name params body scope pm cd doc).scope.isCoroutine = false := hco
  have hgen' : (docDef name params body scope pm cd doc).scope.isGenerator = false := hgen
  have hbody : (docDef name params body scope pm cd doc).body = .stmts body := rfl
  have hcd' : (docDef name params body scope pm cd doc).code = cd := rfl
  generalize hfd : docDef name params body scope pm cd doc = fd at hdata hbind hco' hgen' hbody hcd'
  refine codeC_of_tree ?_
  show wpC _ A.in1 (callAny (.ref a) _) _ _ s
  simp only [callAny]
  refine wpC_of_any (wpAny_bind (wpAny_load ho ?_))
  obtain ⟨c, oc, vs, tq, hc, hoc, hdc, hq⟩ := hcd
  simp only [hdata, callFunction, hco', hgen', hbody, hcd', hc]
  refine wpAny_bind (m := field (.ref c) 1) (wpAny_field hoc hdc hq (wpAny_bind (wpAny_pure ?_)))
  rw [hbind]
  refine wpAny_bind (wpAny_pure ?_)
  subst hfd
  refine wpAny_bind (wpAny_newFunctionEnv_cells hk hkind fun env he s' x => ?_)
  subst he
  refine wpAny_bind (wpAny_enterFrame (hlim.keeps x.toInCall.keep) hroom (wpAny_pure ⟨rfl, codeC_func ?_⟩))
  obtain ⟨h₁, tk, rfl, _⟩ := x.done
  have X : Cl s.heap.objs.size (cellsFrom (s.heap.objs.size + 1) scope.names []) h₁ (bindC (envOfC name scope s.heap.objs.size a cd).kindOf binds fun _ => none) := hc ▸ ⟨x.cell, x.apart, x.above⟩
  obtain ⟨cells, N, Y⟩ := Cl.news (h₀ := s.heap) (Nat.le_refl _) fun n c hm => ⟨X.cell n c (lookup_of_mem_nodup (cellsFrom_names scope.names 0 (s.heap.objs.size + 1) [] [] rfl ▸ hnd) hm), X.above n c hm⟩
  exact hc ▸ h h₁ tk cells (hc ▸ ⟨x.toInCall.ns, x.toInCall.keep, x.toInCall.fresh⟩) N Y
end Mine


set_option maxRecDepth 100000
namespace Mine
/-- what the top leaves in one world -/
def OneW (p q : Program) (loose : List Str) (Xt : Shared → Bool) {α : Type} (Yf : Shared → α) (Ya : World → α) (N : Nat) (w : World) : Prop :=
  (openEnds treeTable p w N).map (fun s => (openSeen q loose (importedModules p.main.body) Xt true s, Yf s)) = some (openGood q loose, Ya w)
section
variable {p q : Program} {loose : List Str} {Xt : Shared → Bool} {α : Type} {Yf : Shared → α} {Ya : World → α} {N : Nat}
theorem one_of {w : World} (h : (openEnds treeTable p w N).map (fun s => (openSeen q loose (importedModules p.main.body) Xt true s, Yf s)) = some (openGood q loose, Ya w)) : OneW p q loose Xt Yf Ya N w := h
theorem left4 (a b : String) (h1 : ∀ w : World, OneW p q loose Xt Yf Ya N ((w.withFollow b false).withFollow a false)) (h2 : ∀ w : World, OneW p q loose Xt Yf Ya N ((w.withFollow b true).withFollow a false))
    (h3 : ∀ w : World, OneW p q loose Xt Yf Ya N ((w.withFollow b false).withFollow a true)) (h4 : ∀ w : World, OneW p q loose Xt Yf Ya N ((w.withFollow b true).withFollow a true)) : LeftO p q loose Xt Yf Ya N :=
  byRow2 (P := OneW p q loose Xt Yf Ya N) a (byRow2 (P := fun w => OneW p q loose Xt Yf Ya N (w.withFollow a false)) b h1 h2) (byRow2 (P := fun w => OneW p q loose Xt Yf Ya N (w.withFollow a true)) b h3 h4)
end
/-- the head, its two premises in one -/
theorem holds_both {r : OpenRow} {q : Program} {loose : List Str} {Xt : Shared → Bool} {XP : (Str → Option Value) → Heap → Prop} {α : Type} {Yf : Shared → α} {Ya : World → α} {YP : World → Heap → Prop} {d : DefRec} {kwd : List (Str × PySem.Expr)} {N : Nat}
    (hY : ∀ w s, Yf s = Ya w → YP w s.heap) (hYk : ∀ w h h', YP w h → (∀ b o, h.get? b = some o → h'.get? b = some o) → YP w h')
    (hX : ∀ s, Xt s = true → XP (s.heap.nsMap mainGlobals) s.heap) (hXk : ∀ mg h h', XP mg h → (∀ b o, h.get? b = some o → h'.get? b = some o) → XP mg h')
    (hdef : defOf q r.name = some (d, kwd)) (hp : r.prog.theDef r.name = some (d.params, d.body, d.scope)) (hk : kwWritten? d.params.kwonlyargs d.params.kw_defaults = some kwd) (hRf : ∀ s, Xt s = true → RecFacts r.records s.heap) (hwr : (!r.writes || r.records.isEmpty) = true)
    (k1 : r.wellSaid = true) (ok : (chainsOk q && opensWell r.prog && (frees r.toRowW && r.within.isEmpty)) = true) (hb : r.prog.bare) (hw : r.toRowW.promised)
    (both : LeftO r.prog q loose Xt Yf Ya N ∧ WalkC q loose XP YP r.toRowW d kwd) : r.Holds :=
  Mine.PySem.W.holds_open both.1 hY hYk hX hXk hdef hp hk hRf hwr k1 ok hb hw both.2
end Mine


set_option maxRecDepth 100000
namespace Mine
section
variable {prog : Program} {w : World} {A : Around} {h₀ : Heap} {L : Addr} {m : Str → Option Value} {env : Env} {elt : PySem.Expr} {x : Str} {scope : Scope} {cl : List (Str × Addr)} {s : Shared} {S : List (Addr × Obj) → Prop} {P : Nat → Value → Prop} {Fin : List Value → List (Addr × Obj) → Prop} {news : List (Addr × Obj)}

/-- a comprehension by an invariant over the turn's number, the list so far and the ledger -/
theorem comp_inv {n : Nat} (I : Nat → List Value → List (Addr × Obj) → Prop) (h0 : I 0 [] news) (fin : ∀ ys news, I n ys news → Fin ys news)
    (turn : ∀ i ys news v J oJ C oC D m₂ h tk (E' : Value → Shared → Prop), i < n → I i ys news → P i v → LCg.NsObj oC m₂ → m₂ x = some v → Fr h₀ L h m → News h₀ L h ((J, oJ) :: (C, oC) :: (D, LCg.lst ys) :: news) → LCg.Off3 J C D news → ((@Ne Nat J C) ∧ (@Ne Nat J D) ∧ (@Ne Nat C D)) →
      wpAny (model prog w) A (eval elt (compEnvC scope cl C env)) (LCg.CompEnd h₀ L m { s with heap := h, toks := tk } J oJ C oC D (LCg.lst ys) S (fun y news' => I (i + 1) (ys ++ [y]) news')) E' { s with heap := h, toks := tk }) :
    LCg.CompRest prog w A h₀ L m env elt x scope cl s S P Fin n 0 [] news := by
  have key : ∀ (j i : Nat) (ys : List Value) (news : List (Addr × Obj)), i + j = n → I i ys news → LCg.CompRest prog w A h₀ L m env elt x scope cl s S P Fin j i ys news := by
    intro j
    induction j with
    | zero =>
      intro i ys news hi hI
      obtain rfl : i = n := by omega
      exact LCg.CompRest.zero (fin ys news hI)
    | succ j ih =>
      intro i ys news hi hI
      refine LCg.CompRest.succ ?_
      intro v J oJ C oC D m₂ h tk E' hv hC hx F N off ne
      refine wpAny_mono (turn i ys news v J oJ C oC D m₂ h tk E' (by omega) hI hv hC hx F N off ne) (fun y s₂ hq => ?_) fun _ _ e => e
      obtain ⟨h', tk', nw, e, F', N', off', hS, hn⟩ := hq
      exact ⟨h', tk', nw, e, F', N', off', hS, ih (i + 1) _ _ (by omega) hn⟩
  exact key n 0 [] news (by omega) h0
end

section
variable {prog : Program} {w : World} {A : Around} {E : Value → Shared → Prop} {s : Shared} {env : Env} {body : List Stmt} {Q : Flow → Shared → Prop} {target iter : PySem.Expr}

/-- a for by an invariant and a measure -/
theorem wpC_For {pos : Pos} (hE : PassesOwn (model prog w) A env E)
    (h : wpAny (model prog w) A (eval iter env) (fun x s₁ => wpAny (model prog w) A (foldedSetIterable iter env x) (fun x s₂ => wpAny (model prog w) A (pyIter x) (fun it s₃ => ∃ (I : Nat → Shared → Prop) (b : Nat), I b s₃ ∧
      ∀ b s, I b s → wpAny (model prog w) A (pyNext it) (fun o s₄ => match o with
        | none => Q .next s₄
        | some v => wpAny (model prog w) A (letOwnedTupleGo target it v) (fun _ s₅ => wpAny (model prog w) A (assign target env v) (fun _ s₆ =>
          wpC (model prog w) A (execs body env) (fun f s₇ => match f with | .next => Halt (∃ b', b' < b ∧ I b' s₇) | .cont => Halt (∃ b', b' < b ∧ I b' s₇) | .brk => Q .next s₇ | .ret v => Q (.ret v) s₇) E s₆) E s₅) E s₄) E s) E s₂) E s₁) E s) :
    wpC (model prog w) A (exec (.For target iter body [] pos) env) Q E s := by
  rw [exec_For]
  refine wpC_bindL (wpAny_standAt (wpC_bindL (wpAny_mono h (fun x s₁ h₁ => ?_) fun _ _ x => x)))
  refine wpC_bindL (wpAny_mono h₁ (fun x s₂ h₂ => ?_) fun _ _ x => x)
  refine wpC_bindL (wpAny_standAt (wpC_bindL (wpAny_holding (wpAny_mono h₂ (fun it s₃ h₃ => ?_) fun _ _ x => x))))
  obtain ⟨I, b, h0, step⟩ := h₃
  refine wpC_runOwn ?_
  have key : ∀ n b s, b < n → I b s → codeC (model prog w) A (.forLoop target it body [] env) (fun r s' => match r with | .ok f => Q f s' | .error e => cameBackBy (model prog w) A env E e s') s := by
    intro n
    induction n with
    | zero => intro b s hb; omega
    | succ n ih =>
      intro b s hb hI
      refine codeC_of_tree ?_
      show wpC _ A ((forTurn target it body [] env).onRaise (fun x => do noteFrame x env; theTreesLotGoes x)) _ _ s
      refine wpC_noted ?_
      simp only [forTurn]
      refine wpC_bindL (wpAny_standAt (wpC_bindL (wpAny_onRaise (wpAny_mono (step b s hI) (fun o s₄ h₄ => ?_) fun e s₄ h₄ => wpAny_standAt (hE _ _ h₄)))))
      cases o with
      | none =>
        refine wpC_of_any (wpAny_pure ⟨rfl, codeC_of_tree ?_⟩)
        show wpC _ A (do return Fin.done (← (execs [] env).onRaise (fun x => do noteFrame x env; theTreesLotGoes x))) _ _ s₄
        exact wpC_bindR (wpC_noted (wpC_of_any (wpAny_execs_nil (wpAny_pure h₄))))
      | some v =>
        refine wpC_bindL (wpAny_mono h₄ (fun _ s₅ h₅ => ?_) hE)
        refine wpC_bindL (wpAny_mono h₅ (fun _ s₆ h₆ => ?_) hE)
        refine wpC_bindR (wpC_mono h₆ (fun f s₇ h₇ => ?_) hE)
        cases f with
        | next => obtain ⟨b', hb', hI'⟩ := h₇; exact wpAny_pure ⟨rfl, ih b' s₇ (by omega) hI'⟩
        | cont => obtain ⟨b', hb', hI'⟩ := h₇; exact wpAny_pure ⟨rfl, ih b' s₇ (by omega) hI'⟩
        | brk => exact wpAny_pure h₇
        | ret v => exact wpAny_pure h₇
  exact key (b + 1) b _ (by omega) h0
end
end Mine


set_option maxRecDepth 100000
namespace Mine

theorem funFrames_on {h h' base : Heap} : ∀ {l : List Env}, h.FunFrames base l → (∀ b ∈ l.filterMap (·.frame), ∀ o, h.get? b = some o → ∃ o', h'.get? b = some o' ∧ o'.data = o.data) → h'.FunFrames base l
  | [], _, _ => trivial
  | env :: rest, ⟨hk, ⟨L, o, hf, hn, ho, hd⟩, hr⟩, q => by
    obtain ⟨o', ho', hd'⟩ := q L (by rw [List.filterMap_cons, hf]; exact .head _) o ho
    exact ⟨hk, ⟨L, o', hf, hn, ho', fun vs => hd' ▸ hd vs⟩, funFrames_on hr fun b hb => q b (by rw [List.filterMap_cons, hf]; exact .tail _ hb)⟩

/-- the frames are dicts -/
def Dicts (outer : List Env) (g : Heap) : Prop := ∀ b ∈ outer.filterMap (·.frame), ∃ o es n, g.get? b = some o ∧ o.data = .dict es n
/-- the frames' names stand as they stood -/
def NsKept (outer : List Env) (g g' : Heap) : Prop := ∀ b ∈ outer.filterMap (·.frame), ∀ m, g.Ns b m → g'.Ns b m
theorem NsKept.refl {outer : List Env} {g : Heap} : NsKept outer g g := fun _ _ _ x => x
theorem NsKept.trans {outer : List Env} {g g' g'' : Heap} (x : NsKept outer g g') (y : NsKept outer g' g'') : NsKept outer g g'' := fun b hb m q => y b hb m (x b hb m q)

section
variable {A : Around} {base g h h' : Heap} {outer : List Env} {L e t : Addr} {m : Str → Option Value} {news : List (Addr × Obj)}

/-- the ground behind a catch -/
def gnd (g h' : Heap) (as : List Addr) : Heap := hideAll (regr g h') as

theorem regroundC {as : List Addr} (K : Below A base outer g) (F : Fr g L h m) (hB : base.StaysIn h') (up : h.UpToSlots h') (has : ∀ x ∈ as, base.get? x = none ∧ ∃ o, h'.get? x = some o ∧ ∀ es n, o.data ≠ .dict es n) (hD : Dicts outer g) :
    Below A base outer (gnd g h' as) ∧ Fr (gnd g h' as) L h' m ∧ (∀ b, g.get? b = none → (gnd g h' as).get? b = none) ∧ (∀ x ∈ as, (gnd g h' as).get? x = none) ∧ NsKept outer g (gnd g h' as) ∧ Dicts outer (gnd g h' as) := by
  have fr : ∀ b ∈ outer.filterMap (·.frame), ∀ o, g.get? b = some o → ∃ sl, (gnd g h' as).get? b = some { o with slots := sl } := fun b hb o ho => by
    obtain ⟨o', es, n, ho', hd'⟩ := hD b hb
    rw [ho] at ho'; injection ho' with ho'; subst ho'
    obtain ⟨sl, q⟩ := up b o (F.keep b o ho) (fun vs z => by rw [hd'] at z; cases z)
    refine ⟨sl, hideAll_get _ (regr_get ho q) fun hm => ?_⟩
    obtain ⟨_, o2, h2, hn⟩ := has b hm
    rw [h2] at q; injection q with q; subst q
    exact hn es n hd'
  have hin : ∀ b o, (gnd g h' as).get? b = some o → (regr g h').get? b = some o := fun b o q => of_hideAll _ q
  refine ⟨⟨K.stack, fun b o q => ?_, funFrames_on K.frames fun b hb o ho => ?_⟩, ⟨up.ns F.ns, fun b o q => (regr_of (hin b o q)).2, ?_⟩, fun b q => ?_, fun x hx => hideAll_none _ hx, fun b hb m q => ?_, fun b hb => ?_⟩
  · refine hideAll_get _ (regr_get (K.stays b o q) (hB b o q)) fun hm => ?_
    rw [(has b hm).1] at q; cases q
  · obtain ⟨sl, q⟩ := fr b hb o ho
    exact ⟨_, q, rfl⟩
  · unfold gnd; rw [hideAll_size, regr_size]; exact F.above
  · cases z : (gnd g h' as).get? b with
    | none => rfl
    | some o => have := hin b o z; rw [regr_none q] at this; cases this
  · obtain ⟨oL, es, ep, hL, hLd, hLk, hLf⟩ := q
    obtain ⟨sl, q⟩ := fr b hb oL hL
    exact ⟨_, es, ep, q, hLd, hLk, hLf⟩
  · obtain ⟨o, es, n, ho, hd⟩ := hD b hb
    obtain ⟨sl, q⟩ := fr b hb o ho
    exact ⟨_, es, n, q, hd⟩
end

section
variable {h₀ g g' h' : Heap} {L L' : Addr} {m m' : Str → Option Value} {news : List (Addr × Obj)}
/-- back in the frame below, over a ground that was turned -/
theorem back_ground (st : h₀.StaysIn g') (FG : Fr h₀ L g m) (ns : g'.Ns L m) (F' : Fr g' L' h' m') (N' : News g' L' h' news) : Fr h₀ L h' m ∧ News h₀ L h' news := by
  obtain ⟨oL, es, ep, hL, hLd, hLk, hLf⟩ := ns
  refine ⟨⟨⟨oL, es, ep, F'.keep _ _ hL, hLd, hLk, hLf⟩, fun b o q => F'.keep b o (st b o q), FG.above⟩, fun p hp => ⟨(N' p hp).1, fun q => ?_, fresh_of_stays st (N' p hp).2.2⟩⟩
  have := (N' p hp).2.2; rw [q, hL] at this; cases this
end

section
variable {prog : Program} {w : World} {A A₀ : Around} {s : Shared} {K : Frag} {L : Addr} {h₀ base : Heap} {m mg mb : Str → Option Value} {news : List (Addr × Obj)} {p : Program} {loose : List Str} {mean : ExcName → Option Value}
/-- into a def, the end told without a ground -/
theorem codeC_Kr {env : Env} {outer : List Env} {R : Result → Shared → Prop} {name qual : Str} {params : Arguments} {body : List Stmt} {scope : Scope} {dV kV doc pm cdv ct oc : Value} {an od : Option Addr} {osl : Array (Option Value)} {f : Addr} {args : Args} {binds : List (Str × Value)}
    (B : Below A₀ base outer h₀) (F : Fr h₀ L s.heap m) (X₀ : K.In h₀) (N : News h₀ L s.heap news) (T : Top p loose mean mg mb h₀) (hA : A.frames = some (env :: outer)) (hf : env.frame = some L) (hke : env.scope.kind = .function)
    (ho : K.lookup f = some ⟨oc, od, .func (fnOf name qual params body scope dV kV doc pm an cdv ct), osl⟩) (hcd : codeIn K cdv qual = true) (hroom : A.depth < recursionLimit)
    (hbind : BindsTo s (fnOf name qual params body scope dV kV doc pm an cdv ct) args binds) (hloc : ∀ y ∈ binds, scope.names.lookup y.1 = some .local)
    (h : ∀ g L' h₁, Fr h₀ L g m → Fr g L' h₁ (fun y => binds.reverse.lookup y) → News g L' h₁ news → Below A base (env :: outer) g → K.In g → Top p loose mean mg mb g → h₀.StaysIn g →
      wpC (model prog w) (A.deeper (envOf qual scope L' f cdv)) (execs body (envOf qual scope L' f cdv)) (fun fl s' => R (.ok (.ret (match fl with | .ret v => v | _ => .none))) s')
        (fun e s' => wpAny (model prog w) (A.deeper (envOf qual scope L' f cdv)) (leaving (envOf qual scope L' f cdv) e) (fun _ s'' => R (.error e) s'') (fun e' s'' => R (.error e') s'') s')
        { s with heap := h₁, toks := s.toks + binds.length })
    (hco : scope.isCoroutine = false) (hgen : scope.isGenerator = false) (hk : scope.kind = .function) (hcell : ∀ x ∈ scope.names, x.2 ≠ .cell) : codeC (model prog w) A (.call (.ref f) args) R s := by
  obtain ⟨FG, BG, st, -⟩ := groundX (R := R) B F N hA hf hke
  have X := X₀.keeps F.keep
  refine codeC_call_def (fd := fnOf name qual params body scope dV kV doc pm an cdv ct) (body := body) (binds := binds) hroom (X _ _ ho) rfl (T.nolimit.keeps F.keep) (codeRec_of X hcd) rfl hbind hcell hloc (fun h₁ hns hk₁ => ?_) hco hgen hk
  exact h _ s.heap.objs.size h₁ FG ⟨hns, fun b o e => hk₁ b o (of_hideAll _ e), Nat.le_of_eq (hideAll_size _ _)⟩
    (fun p hp => ⟨hk₁ _ _ (N p hp).1, Nat.ne_of_lt (Heap.lt_size (N p hp).1), hideAll_none _ (List.mem_map_of_mem hp)⟩) BG (X₀.keeps st) (T.keeps st) st
end
end Mine


set_option maxRecDepth 100000
namespace Mine

/-- a ValueError under way, its context told -/
structure Fly (B : Heap) (l : List Env) (e t : Addr) (c fl : Value) (h : Heap) : Prop where
  stays : B.StaysIn h
  new : B.get? e = none
  frames : h.FunFrames B l
  obj : ∃ oe ws T oT ts, h.get? e = some oe ∧ oe.cls = .type "ValueError" ∧ oe.data = .fields ws ∧ ws[0]? = some (.ref t) ∧ ws[1]? = some (.ref T) ∧ ws[2]? = some c ∧ B.get? T = none ∧ T ≠ e ∧ h.get? T = some oT ∧ oT.data = .fields ts ∧ ts[3]? = some fl

section
variable {M : Model} {A : Around} {E : Value → Shared → Prop} {s : Shared} {B : Heap} {env : Env} {outer l : List Env} {L e t : Addr} {c fl : Value} {Q : Unit → Shared → Prop}

theorem Fly.flight (x : Fly B l e t c fl s.heap) (hQ : ∀ h', Fly B l e t c .none h' → s.heap.UpToSlots h' → Q () { s with heap := h' }) : wpAny M A (setFlight (.ref e) none) Q E s := by
  obtain ⟨k1, k2, k3, oe, ws, T, oT, ts, he, hcl, hd, h0, h1, h2, hnT, hTe, hT, hdT, h3⟩ := x
  have hz : 3 < ts.size := (Array.getElem?_eq_some_iff.mp h3).1
  unfold setFlight
  refine wpAny_bind (wpAny_field he hd h1 ?_)
  rw [if_pos (show (Value.ref T != Value.none) = true from by simp)]
  have other : ∀ b, b ≠ T → (s.heap.update T (Obj.mapFields (·.setIfInBounds 3 ((none : Option Addr).elim Value.none fun f => rawInt f)))).get? b = s.heap.get? b := fun b hb => Heap.get?_update_other _ _ (Ne.symm hb)
  have nr : ∀ b o, s.heap.get? b = some o → (∀ vs, o.data ≠ .fields vs) → b ≠ T := fun b o hb hnf q => by
    rw [q, hT] at hb; injection hb with hb; subst hb; exact hnf ts hdT
  refine wpAny_setField hT hdT hz (hQ _ ⟨fun b o q => (other b fun z => by rw [z, hnT] at q; cases q).trans (k1 b o q), k2, k3.of_keeps fun b o hb hn => ⟨o, (other b (nr b o hb hn)).trans hb, rfl⟩,
    oe, ws, T, _, _, (other e (Ne.symm hTe)).trans he, hcl, hd, h0, h1, h2, hnT, hTe, Heap.get?_update_self _ hT (Obj.isFreed_of_fields (Obj.data_mapFields hdT _)), Obj.data_mapFields hdT _, by simp [hz]⟩ fun b o hb hn => ⟨o.slots, (other b (nr b o hb hn)).trans hb⟩)

/-- a new entry of the traceback -/
theorem entryX {oe : Obj} {ws : Array Value} {head : Value} {hadNext : Bool} (hfr : A.frames = some (env :: outer)) (k1 : B.StaysIn s.heap) (k2 : B.get? e = none) (k3 : s.heap.FunFrames B (env :: outer)) (hf : env.frame = some L)
    (he : s.heap.get? e = some oe) (hcl : oe.cls = .type "ValueError") (hd : oe.data = .fields ws) (h0 : ws[0]? = some (.ref t)) (h2 : ws[2]? = some c)
    (hQ : ∀ h', Fly B (env :: outer) e t c (rawInt L) h' → s.heap.UpToSlots h' → Q () { s with heap := h' }) :
    wpAny M A (do let a ← frameOf env; let pl ← entryPlaceOf L hadNext; let b ← EntryCells.newEntry head a .none (rawInt L) .none pl; setField (.ref e) 1 b) Q E s := by
  have hsz : 1 < ws.size := Nat.lt_trans (by decide) (Array.getElem?_eq_some_iff.mp h2).1
  have hene : e ∉ (env :: outer).filterMap (·.frame) := fun hm => by
    obtain ⟨_, o, ho, hnf⟩ := k3.mem hm
    rw [he] at ho; injection ho with ho; subst ho; exact hnf ws hd
  refine wpAny_bind (wpAny_frameOf_fun hfr k3 hf fun h₁ hs₁ => ?_)
  refine wpAny_bind (wpAny_entryPlaceOf fun pl hpl => ?_)
  unfold EntryCells.newEntry newFields
  refine wpAny_bind (wpAny_newObj_type ?_ (hpl.sizeOk5 _ _ _ _ _))
  have he₁ : h₁.get? e = some oe := (hs₁.2.1 e hene).trans he
  have kb₁ : B.StaysIn h₁ := fun b o q => (hs₁.2.1 b fun hm => by rw [(k3.mem hm).1] at q; cases q).trans (k1 b o q)
  have he₂ := Heap.get?_push_of_some (h := h₁) { cls := .type "traceback", dict := none, data := .fields ([head, .ref L, .none, rawInt L, .none] ++ (if pl.isEmpty then List.replicate 6 Value.none else pl)).toArray } he₁
  have hTe : h₁.objs.size ≠ e := Nat.ne_of_gt (Heap.lt_size he₁)
  have hd₃ := Obj.data_mapFields hd (·.setIfInBounds 1 (Value.ref h₁.objs.size))
  have keep : ∀ b o, b ≠ e → h₁.get? b = some o →
      ((h₁.push { cls := .type "traceback", dict := none, data := .fields ([head, .ref L, .none, rawInt L, .none] ++ (if pl.isEmpty then List.replicate 6 Value.none else pl)).toArray }).update e (Obj.mapFields (·.setIfInBounds 1 (Value.ref h₁.objs.size)))).get? b = some o :=
    fun b o hbe hb => by
      rw [Heap.get?_update_other _ _ (Ne.symm hbe)]
      exact Heap.get?_push_of_some _ hb
  have nr : ∀ b o, s.heap.get? b = some o → (∀ vs, o.data ≠ .fields vs) → b ≠ e := fun b o hb hnf q => by
    rw [q, he] at hb; injection hb with hb; subst hb; exact hnf ws hd
  refine wpAny_setField he₂ hd hsz (hQ _ ⟨fun b o q => keep b o (fun z => by rw [z, k2] at q; cases q) (kb₁ b o q), k2, k3.of_keeps fun b o hb hn => ?_, _, _, h₁.objs.size, _, _, Heap.get?_update_self _ he₂ (Obj.isFreed_of_fields hd₃), (Obj.cls_mapFields _ _).trans hcl, hd₃, ?_, ?_, ?_, kb₁.fresh, hTe,
    (Heap.get?_update_other _ _ (Ne.symm hTe)).trans (Heap.get?_push_size h₁ rfl), rfl, ?_⟩ fun b o hb hn => ?_)
  · obtain ⟨sl, q⟩ := hs₁.2.2 b o hb
    exact ⟨_, keep b _ (nr b o hb hn) q, rfl⟩
  · rw [Array.getElem?_setIfInBounds_ne (by decide)]; exact h0
  · simp [hsz]
  · rw [Array.getElem?_setIfInBounds_ne (by decide)]; exact h2
  · first | (simp; done) | (rcases hpl with rfl | ⟨_, _, _, _, _, _, _, rfl⟩ <;> simp)
  · obtain ⟨sl, q⟩ := hs₁.2.2 b o hb
    exact ⟨sl, keep b _ (nr b o hb hn) q⟩

theorem note_firstX {oe : Obj} {ws : Array Value} (hfr : A.frames = some (env :: outer)) (k1 : B.StaysIn s.heap) (k2 : B.get? e = none) (k3 : s.heap.FunFrames B (env :: outer)) (hf : env.frame = some L)
    (he : s.heap.get? e = some oe) (hcl : oe.cls = .type "ValueError") (hd : oe.data = .fields ws) (h0 : ws[0]? = some (.ref t)) (h1 : ws[1]? = some .none) (h2 : ws[2]? = some c)
    (hQ : ∀ h', Fly B (env :: outer) e t c (rawInt L) h' → s.heap.UpToSlots h' → Q () { s with heap := h' }) : wpAny M A (noteFrame (.ref e) env) Q E s := by
  unfold noteFrame
  simp only [hf]
  refine wpAny_bind (wpAny_field he hd h1 ?_)
  rw [if_neg (by decide)]
  exact entryX hfr k1 k2 k3 hf he hcl hd h0 h2 hQ

theorem Fly.note (x : Fly B (env :: outer) e t c .none s.heap) (hfr : A.frames = some (env :: outer)) (hf : env.frame = some L)
    (hQ : ∀ h', Fly B (env :: outer) e t c (rawInt L) h' → s.heap.UpToSlots h' → Q () { s with heap := h' }) : wpAny M A (noteFrame (.ref e) env) Q E s := by
  obtain ⟨k1, k2, k3, oe, ws, T, oT, ts, he, hcl, hd, h0, h1, h2, hnT, hTe, hT, hdT, h3⟩ := x
  unfold noteFrame
  simp only [hf]
  refine wpAny_bind (wpAny_field he hd h1 ?_)
  rw [if_pos (show (Value.ref T != Value.none) = true from by simp)]
  refine wpAny_bind (wpAny_field hT hdT h3 ?_)
  rw [if_neg (show ¬ ((Value.none == rawInt L) = true) from by simp [rawInt])]
  refine wpAny_bind (wpAny_setField hT hdT (Array.getElem?_eq_some_iff.mp h3).1 ?_)
  have other : ∀ b, b ≠ T → (s.heap.update T (Obj.mapFields (·.setIfInBounds 3 Value.none))).get? b = s.heap.get? b := fun b hb => Heap.get?_update_other _ _ (Ne.symm hb)
  have nr : ∀ b o, s.heap.get? b = some o → (∀ vs, o.data ≠ .fields vs) → b ≠ T := fun b o hb hnf q => by
    rw [q, hT] at hb; injection hb with hb; subst hb; exact hnf ts hdT
  exact entryX (s := { s with heap := s.heap.update T (Obj.mapFields (·.setIfInBounds 3 Value.none)) }) hfr (fun b o q => (other b fun z => by rw [z, hnT] at q; cases q).trans (k1 b o q)) k2 (k3.of_keeps fun b o hb hn => ⟨o, (other b (nr b o hb hn)).trans hb, rfl⟩) hf ((other e (Ne.symm hTe)).trans he) hcl hd h0 h2
    fun h' x u => hQ h' x fun b o hb hn => u b o ((other b (nr b o hb hn)).trans hb) hn

theorem Fly.less {env : Env} (x : Fly B (env :: outer) e t c fl s.heap) : Fly B outer e t c fl s.heap := ⟨x.stays, x.new, x.frames.2.2, x.obj⟩

theorem Fly.leaves (x : Fly B (env :: outer) e t c .none s.heap) (hfr : A.frames = some (env :: outer)) (hf : env.frame = some L)
    (hQ : ∀ h', Fly B outer e t c .none h' → s.heap.UpToSlots h' → Q () { s with heap := h' }) : wpAny M A (leaving env (.ref e)) Q E s := by
  unfold leaving
  refine wpAny_bind (x.note hfr hf fun h' y u => ?_)
  exact Fly.flight (s := { s with heap := h' }) y fun h'' z u' => hQ h'' ⟨z.stays, z.new, z.frames.2.2, z.obj⟩ (u.trans u')
end

/-- what a call raised: the error, its words' tuple, its context -/
def RaisedX (base : Heap) (l : List Env) (e : Addr) (t : Addr) (vs : List Value) (news : List (Addr × Obj)) (h : Heap) : Prop :=
  ∃ B cx c, base.StaysIn B ∧ (∀ q ∈ news, B.get? q.1 = some q.2 ∧ base.get? q.1 = none) ∧ Fly B l e t c .none h ∧ B.get? t = none ∧ h.TupAt t vs ∧
    (c = .none ∨ ∃ o1 ws1, c = .ref cx ∧ B.get? cx = some o1 ∧ base.get? cx = none ∧ o1.data = .fields ws1 ∧ ws1[2]? = some .none)

theorem raisedX_sub {base h : Heap} {l : List Env} {e t : Addr} {vs : List Value} {news news' : List (Addr × Obj)} (hs : ∀ p ∈ news', p ∈ news) (R : RaisedX base l e t vs news h) : RaisedX base l e t vs news' h := by
  obtain ⟨B, cx, c, h1, h2, h3⟩ := R
  exact ⟨B, cx, c, h1, fun q hq => h2 q (hs q hq), h3⟩

section
variable {M : Model} {A : Around} {E : Value → Shared → Prop} {s' : Shared} {base g g₂ : Heap} {outer : List Env} {L a e b t : Addr} {m : Str → Option Value} {name : Str} {scope : Scope} {cd : Value} {Q : Unit → Shared → Prop} {news : List (Addr × Obj)} {vs : List Value}

theorem leave_onX (K : Below A base outer g) (F : Fr g L g₂ m) (R : RaisedX base (envOf name scope L a cd :: outer) e t vs news s'.heap) (hsm : g₂.UpToSlots s'.heap)
    (hQ : ∀ h', RaisedX base outer e t vs news h' → g.UpToSlots h' → Q () { s' with heap := h' }) :
    wpAny M (A.deeper (envOf name scope L a cd)) (leaving (envOf name scope L a cd) (.ref e)) Q E s' := by
  obtain ⟨B, cx, c, hB, hl, hfl, hnew, htup, hc⟩ := R
  exact hfl.leaves (Around.frames_deeper K.stack) rfl fun h' x1 x2 => hQ h' ⟨B, cx, c, hB, hl, x1, hnew, htup.of_slots x2, hc⟩ ((Heap.UpToSlots.of_keeps F.keep).trans (hsm.trans x2))

/-- a ValueError whose object is known leaves the frame that raised it -/
theorem leave_genX {oe ot : Obj} {ws : Array Value} {nt : Nat} {c : Value} (K : Below A base outer g) (F : Fr g L s'.heap m) (N : News g L s'.heap ((e, oe) :: (b, ot) :: news)) (hne : ∀ p ∈ news, p.1 ≠ e ∧ p.1 ≠ b) (hcl : oe.cls = .type "ValueError") (hd : oe.data = .fields ws) (h0 : ws[0]? = some (.ref b)) (h1 : ws[1]? = some .none) (h2 : ws[2]? = some c)
    (htc : ot.cls = .type "tuple") (htd : ot.data = .seq vs.toArray nt) (hcx : c = .none ∨ ∃ cx o1 ws1, c = .ref cx ∧ (cx, o1) ∈ news ∧ o1.data = .fields ws1 ∧ ws1[2]? = some .none)
    (hQ : ∀ h', RaisedX base outer e b vs news h' → g.UpToSlots h' → Q () { s' with heap := h' }) (hk : scope.kind = .function := by rfl) :
    wpAny M (A.deeper (envOf name scope L a cd)) (leaving (envOf name scope L a cd) (.ref e)) Q E s' := by
  have K' := K.push (name := name) (a := a) (cd := cd) F hk
  have he := N _ (.head _)
  have hb := N _ (.tail _ (.head _))
  have N' : News g L s'.heap news := fun p hp => N p (.tail _ (.tail _ hp))
  let as := L :: (outer.filterMap (·.frame) ++ [e, b])
  have hin : ∀ env ∈ (envOf name scope L a cd :: outer), ∀ x, env.frame = some x → x ∈ as := fun env hm x hx => by
    rcases List.mem_cons.mp hm with rfl | hm
    · cases hx; exact .head _
    · exact .tail _ (List.mem_append_left _ (List.mem_filterMap.mpr ⟨env, hm, hx⟩))
  have away : ∀ x, x ∉ L :: outer.filterMap (·.frame) → x ≠ e → x ≠ b → x ∉ as := fun x h1 h2 h3 hm => by
    rcases List.mem_cons.mp hm with q | hm
    · exact h1 (q ▸ .head _)
    · rcases List.mem_append.mp hm with q | q
      · exact h1 (.tail _ q)
      · simp only [List.mem_cons, List.not_mem_nil, or_false] at q
        exact q.elim h2 h3
  have fresh : ∀ x o, base.get? x = some o → x ≠ e ∧ x ≠ b := fun x o q => ⟨fun z => (by have := K.stays x o q; rw [z, he.2.2] at this; cases this), fun z => (by have := K.stays x o q; rw [z, hb.2.2] at this; cases this)⟩
  have st : base.StaysIn (hideAll s'.heap as) := fun x o q => hideAll_get _ (F.keep x o (K.stays x o q)) (away x (frame_apart K F q) (fresh x o q).1 (fresh x o q).2)
  have hl : ∀ q ∈ news, (hideAll s'.heap as).get? q.1 = some q.2 ∧ base.get? q.1 = none := fun q hq =>
    ⟨hideAll_get _ (N' q hq).1 (away _ (news_apart K N' hq) (hne q hq).1 (hne q hq).2), fresh_of_stays K.stays (N' q hq).2.2⟩
  unfold leaving
  refine wpAny_bind (note_firstX (B := hideAll s'.heap as) K'.stack (fun x o q => of_hideAll _ q) (hideAll_none _ (.tail _ (List.mem_append_right _ (.head _)))) (funFrames_hide K'.frames hin) rfl he.1 hcl hd h0 h1 h2 fun h' x u => ?_)
  refine Fly.flight (s := { s' with heap := h' }) x fun h'' y u' => ?_
  refine hQ h'' ?_ (((Heap.UpToSlots.of_keeps F.keep).trans u).trans u')
  have htup : h''.TupAt b vs := Heap.TupAt.of_slots (Heap.TupAt.of_slots ⟨ot, nt, hb.1, htc, htd⟩ u) u'
  have z : Fly (hideAll s'.heap as) outer e b c .none h'' := ⟨y.stays, y.new, y.frames.2.2, y.obj⟩
  have hbn : (hideAll s'.heap as).get? b = none := hideAll_none _ (.tail _ (List.mem_append_right _ (.tail _ (.head _))))
  rcases hcx with rfl | ⟨cx, o1, ws1, rfl, hm, hd1, hw1⟩
  · exact ⟨_, 0, _, st, hl, z, hbn, htup, .inl rfl⟩
  · exact ⟨_, cx, _, st, hl, z, hbn, htup, .inr ⟨o1, ws1, rfl, (hl _ hm).1, (hl _ hm).2, hd1, hw1⟩⟩
end

section
variable {prog : Program} {w : World} {A₀ : Around} {E : Value → Shared → Prop} {s' : Shared} {base g h : Heap} {outer : List Env} {L a e t : Addr} {m : Str → Option Value} {name : Str} {scope : Scope} {cd : Value}
  {vs : List Value} {n : Str} {b₀ : Stmt} {suite : List Stmt} {pos np : Pos} {rest : List ExceptHandler} {Q : Flow → Shared → Prop} {news : List (Addr × Obj)}
  {p : Program} {loose : List Str} {mg mb : Str → Option Value}

/-- a ValueError under way, taken by this frame's clause with a name -/
theorem catch_flyX {B : Heap} {cx : Addr} {c fl : Value} (K : Below A₀ base outer g) (F : Fr g L h m) (hsm : h.UpToSlots s'.heap) (hB : base.StaysIn B) (hl : ∀ q ∈ news, B.get? q.1 = some q.2 ∧ base.get? q.1 = none) (hfl : Fly B (envOf name scope L a cd :: outer) e t c fl s'.heap) (hnew : B.get? t = none) (htup : s'.heap.TupAt t vs)
    (hc : c = .none ∨ ∃ o1 ws1, c = .ref cx ∧ B.get? cx = some o1 ∧ base.get? cx = none ∧ o1.data = .fields ws1 ∧ ws1[2]? = some .none) (hn0 : ∀ q ∈ news, g.get? q.1 = none) (hD : Dicts outer g) (TB : TopRead p loose mg mb base)
    (k : ∀ g' h' oe ot ws ctx tk, Below A₀ base outer g' → Fr g' L h' (fun y => if y = n then some (.ref e) else m y) → News g' L h' ((e, oe) :: (t, ot) :: (ctx ++ news)) → Got ((e, oe) :: (t, ot) :: (ctx ++ news)) e t (.type "ValueError") vs → NsKept outer g g' → Dicts outer g' → (∀ p ∈ news, p.1 ≠ e ∧ p.1 ≠ t) →
      oe.data = .fields ws → ((ctx = [] ∧ ws[2]? = some .none) ∨ ∃ cx o1 ws1, ctx = [(cx, o1)] ∧ ws[2]? = some (.ref cx) ∧ o1.data = .fields ws1 ∧ ws1[2]? = some .none) →
      wpAny (model prog w) ((A₀.deeper (envOf name scope L a cd)).mark (some (.ref e))) (execs (b₀ :: suite) (envOf name scope L a cd))
        (fun f s₄ => wpAny (model prog w) (A₀.deeper (envOf name scope L a cd)) (do bindName (envOf name scope L a cd) n .none; unbindBehindTheSuite (envOf name scope L a cd) n pos) (fun _ s₅ => Q f s₅) E s₄)
        (AsSuiteRaised (model prog w) ((A₀.deeper (envOf name scope L a cd)).mark (some (.ref e))) (envOf name scope L a cd) n pos (notedBy (model prog w) ((A₀.deeper (envOf name scope L a cd)).mark (some (.ref e))) (envOf name scope L a cd) (cameBackBy (model prog w) (A₀.deeper (envOf name scope L a cd)) (envOf name scope L a cd) E)))
        { s' with heap := h', toks := tk })
    (h1 : Str.ofString "ValueError" ∉ startupNames := by decide +kernel) (h2 : Str.ofString "ValueError" ∉ loose := by decide +kernel) (h3 : Str.ofString "ValueError" ∉ (recsOf p).map (·.name) := by decide +kernel) (h4 : Str.ofString "ValueError" ∉ (litsOf p).map (·.1) := by decide +kernel) (h4c : Str.ofString "ValueError" ∉ (clssOf p loose).map (·.name) := by decide +kernel)
    (hk : scope.kind = .function := by rfl) (hlo : (envOf name scope L a cd).kindOf n = some .local := by rfl) (hx : (envOf name scope L a cd).kindOf (Str.ofString "ValueError") = some .globalImplicit := by rfl) :
    wpAny (model prog w) (A₀.deeper (envOf name scope L a cd)) (setFlight (.ref e) none) (fun _ s₃ =>
        wpAny (model prog w) (A₀.deeper (envOf name scope L a cd)) (handleBy (.ref e) (envOf name scope L a cd) (.ExceptHandler (some (.Name (Str.ofString "ValueError") np)) (some n) (b₀ :: suite) pos :: rest)) Q E s₃) E s' := by
  have hL : B.get? L = none := by
    obtain ⟨_, ⟨L', _, hf, hn', _⟩, _⟩ := hfl.frames
    obtain rfl : L = L' := Option.some.inj hf
    exact hn'
  refine hfl.flight fun h₅ hf₅ hsm₅ => ?_
  obtain ⟨oe₅, ws₅, T₅, oT₅, ts₅, hoe₅, hoec₅, hoed₅, _⟩ := hf₅.obj
  obtain ⟨ot₅, nt₅, hot₅, hotc₅, hotd₅⟩ := htup.of_slots hsm₅
  have bh : ∀ {h'}, B.StaysIn h' → base.StaysIn h' := fun q b o z => q b o (hB b o z)
  obtain ⟨ctx, hcb, hcc⟩ : ∃ ctx : List (Addr × Obj), (∀ q ∈ ctx, B.get? q.1 = some q.2 ∧ base.get? q.1 = none ∧ ∃ ws, q.2.data = .fields ws) ∧ ((ctx = [] ∧ c = .none) ∨ ∃ cx o1 ws1, ctx = [(cx, o1)] ∧ c = .ref cx ∧ o1.data = .fields ws1 ∧ ws1[2]? = some .none) := by
    rcases hc with rfl | ⟨o1, ws1, rfl, q1, q2, q3, q4⟩
    · exact ⟨[], (by intro q hq; cases hq), .inl ⟨rfl, rfl⟩⟩
    · exact ⟨[(cx, o1)], fun q hq => by rw [List.mem_singleton.mp hq]; exact ⟨q1, q2, ws1, q3⟩, .inr ⟨cx, o1, ws1, rfl, rfl, q3, q4⟩⟩
  have hidden : ∀ {h' : Heap} {oe ot : Obj} {ws : Array Value} {nt : Nat}, B.StaysIn h' → h'.get? e = some oe → oe.data = .fields ws → h'.get? t = some ot → ot.data = .seq vs.toArray nt → ∀ x ∈ e :: t :: ctx.map (·.1), base.get? x = none ∧ ∃ o, h'.get? x = some o ∧ ∀ es n, o.data ≠ .dict es n := by
    intro h' oe ot ws nt st z1 z2 z3 z4 x hx
    rcases List.mem_cons.mp hx with rfl | hx
    · exact ⟨fresh_of_stays hB hfl.new, _, z1, fun es n z => by rw [z2] at z; cases z⟩
    · rcases List.mem_cons.mp hx with rfl | hx
      · exact ⟨fresh_of_stays hB hnew, _, z3, fun es n z => by rw [z4] at z; cases z⟩
      · obtain ⟨q, hq, rfl⟩ := List.mem_map.mp hx
        obtain ⟨a1, a2, ws, a3⟩ := hcb q hq
        exact ⟨a2, _, st _ _ a1, fun es n z => by rw [a3] at z; cases z⟩
  obtain ⟨B₅, F₅, _⟩ := regroundC K F (bh hf₅.stays) (hsm.trans hsm₅) (hidden hf₅.stays hoe₅ hoed₅ hot₅ hotd₅) hD
  refine wpAny_handleBy_builtin_as (X := "ValueError") (T := "ValueError") (b := true) PySem.F.isExc_ValueError PySem.F.notTuple_ValueError (by rw [isSubtype_type]; kernel_rfl)
    (ld_builtin_at (s := { s' with heap := h₅ }) F₅ (TB.g.keeps B₅.stays) (TB.free _ h1 h2 h3 h4 h4c) (TB.b.keeps B₅.stays) ((TB.builtins _ (by decide +kernel)).trans PyProof.Rows.Boot.«ValueError») ⟨rfl, ⟨_, hoe₅, hoec₅⟩, ?_⟩ hk hx (by decide))
  refine Fly.flight (s := { s' with heap := h₅ }) hf₅ fun h₆ hfl₆ hsm₆ => ?_
  obtain ⟨oe, ws, T, oT, ts, hoe, hoec, hoed, hoe0, -, hoe2, -⟩ := hfl₆.obj
  obtain ⟨ot, nt, hot, hotc, hotd⟩ := (htup.of_slots hsm₅).of_slots hsm₆
  obtain ⟨B₆, F₆, gn, gh, nk, dk⟩ := regroundC K F (bh hfl₆.stays) ((hsm.trans hsm₅).trans hsm₆) (hidden hfl₆.stays hoe hoed hot hotd) hD
  have Nl : News (gnd g h₆ (e :: t :: ctx.map (·.1))) L h₆ (ctx ++ news) := fun q hq => by
    rcases List.mem_append.mp hq with hq | hq
    · exact ⟨hfl₆.stays _ _ (hcb q hq).1, (fun z => by have := (hcb q hq).1; rw [z, hL] at this; cases this), gh _ (.tail _ (.tail _ (List.mem_map_of_mem hq)))⟩
    · exact ⟨hfl₆.stays _ _ (hl q hq).1, (fun z => by have := (hl q hq).1; rw [z, hL] at this; cases this), gn _ (hn0 q hq)⟩
  have N₆ := News.more F₆ (News.more F₆ Nl hot (fun es n q => by rw [hotd] at q; cases q) (gh _ (.tail _ (.head _)))) hoe (fun es n q => by rw [hoed] at q; cases q) (gh _ (.head _))
  refine stN F₆ N₆ (fun h₇ F₇ N₇ => ?_) hk hlo
  refine k _ h₇ _ _ _ _ _ B₆ F₇ N₇ ⟨oe, ot, ws, nt, .head _, .tail _ (.head _), hoec, hoed, hoe0, hotc, hotd⟩ nk dk (fun q hq => ⟨fun z => ?_, fun z => ?_⟩) hoed ?_
  · have := (hl q hq).1; rw [z, hfl₆.new] at this; cases this
  · have := (hl q hq).1; rw [z, hnew] at this; cases this
  · rcases hcc with ⟨rfl, rfl⟩ | ⟨cx, o1, ws1, rfl, rfl, q3, q4⟩
    · exact .inl ⟨rfl, hoe2⟩
    · exact .inr ⟨cx, o1, ws1, rfl, hoe2, q3, q4⟩

/-- the same from a callee -/
theorem catch_calleeX (K : Below A₀ base outer g) (F : Fr g L h m) (hsm : h.UpToSlots s'.heap) (R : RaisedX base (envOf name scope L a cd :: outer) e t vs news s'.heap) (hn0 : ∀ q ∈ news, g.get? q.1 = none) (hD : Dicts outer g) (TB : TopRead p loose mg mb base)
    (k : ∀ g' h' oe ot ws ctx tk, Below A₀ base outer g' → Fr g' L h' (fun y => if y = n then some (.ref e) else m y) → News g' L h' ((e, oe) :: (t, ot) :: (ctx ++ news)) → Got ((e, oe) :: (t, ot) :: (ctx ++ news)) e t (.type "ValueError") vs → NsKept outer g g' → Dicts outer g' → (∀ p ∈ news, p.1 ≠ e ∧ p.1 ≠ t) →
      oe.data = .fields ws → ((ctx = [] ∧ ws[2]? = some .none) ∨ ∃ cx o1 ws1, ctx = [(cx, o1)] ∧ ws[2]? = some (.ref cx) ∧ o1.data = .fields ws1 ∧ ws1[2]? = some .none) →
      wpAny (model prog w) ((A₀.deeper (envOf name scope L a cd)).mark (some (.ref e))) (execs (b₀ :: suite) (envOf name scope L a cd))
        (fun f s₄ => wpAny (model prog w) (A₀.deeper (envOf name scope L a cd)) (do bindName (envOf name scope L a cd) n .none; unbindBehindTheSuite (envOf name scope L a cd) n pos) (fun _ s₅ => Q f s₅) E s₄)
        (AsSuiteRaised (model prog w) ((A₀.deeper (envOf name scope L a cd)).mark (some (.ref e))) (envOf name scope L a cd) n pos (notedBy (model prog w) ((A₀.deeper (envOf name scope L a cd)).mark (some (.ref e))) (envOf name scope L a cd) (cameBackBy (model prog w) (A₀.deeper (envOf name scope L a cd)) (envOf name scope L a cd) E)))
        { s' with heap := h', toks := tk })
    (h1 : Str.ofString "ValueError" ∉ startupNames := by decide +kernel) (h2 : Str.ofString "ValueError" ∉ loose := by decide +kernel) (h3 : Str.ofString "ValueError" ∉ (recsOf p).map (·.name) := by decide +kernel) (h4 : Str.ofString "ValueError" ∉ (litsOf p).map (·.1) := by decide +kernel) (h4c : Str.ofString "ValueError" ∉ (clssOf p loose).map (·.name) := by decide +kernel)
    (hk : scope.kind = .function := by rfl) (hlo : (envOf name scope L a cd).kindOf n = some .local := by rfl) (hx : (envOf name scope L a cd).kindOf (Str.ofString "ValueError") = some .globalImplicit := by rfl) :
    wpAny (model prog w) (A₀.deeper (envOf name scope L a cd)) (noteFrame (.ref e) (envOf name scope L a cd))
      (fun _ s₂ => wpAny (model prog w) (A₀.deeper (envOf name scope L a cd)) (setFlight (.ref e) none) (fun _ s₃ =>
        wpAny (model prog w) (A₀.deeper (envOf name scope L a cd)) (handleBy (.ref e) (envOf name scope L a cd) (.ExceptHandler (some (.Name (Str.ofString "ValueError") np)) (some n) (b₀ :: suite) pos :: rest)) Q E s₃) E s₂) E s' := by
  obtain ⟨B, cx, c, hB, hl, hfl, hnew, htup, hc⟩ := R
  refine hfl.note (Around.frames_deeper K.stack) rfl fun h' x u => ?_
  exact catch_flyX (s' := { s' with heap := h' }) K F (hsm.trans u) hB hl x hnew (htup.of_slots u) hc hn0 hD TB k h1 h2 h3 h4 h4c hk hlo hx
end
end Mine


set_option maxRecDepth 100000
namespace Mine
section
variable {prog : Program} {w : World} {A₀ : Around} {E : Value → Shared → Prop} {s' : Shared} {base g h : Heap} {outer : List Env} {L a e t : Addr} {m : Str → Option Value} {name : Str} {scope : Scope} {cd : Value}
  {vs : List Value} {n : Str} {b₀ : Stmt} {suite : List Stmt} {pos np : Pos} {rest : List ExceptHandler} {Q : Flow → Shared → Prop} {news : List (Addr × Obj)}
  {p : Program} {loose : List Str} {mg mb : Str → Option Value}

/-- a ValueError that this frame raised, taken by its own clause with a name -/
theorem catch_genX {oe ot : Obj} {ws : Array Value} {nt : Nat} (K : Below A₀ base outer g) (F : Fr g L s'.heap m) (N : News g L s'.heap ((e, oe) :: (t, ot) :: news)) (hne : ∀ p ∈ news, p.1 ≠ e ∧ p.1 ≠ t) (hcl : oe.cls = .type "ValueError") (hd : oe.data = .fields ws) (h0 : ws[0]? = some (.ref t)) (h1' : ws[1]? = some .none) (h2' : ws[2]? = some .none)
    (htc : ot.cls = .type "tuple") (htd : ot.data = .seq vs.toArray nt) (hD : Dicts outer g) (TB : TopRead p loose mg mb base)
    (k : ∀ g' h' oe ot ws ctx tk, Below A₀ base outer g' → Fr g' L h' (fun y => if y = n then some (.ref e) else m y) → News g' L h' ((e, oe) :: (t, ot) :: (ctx ++ news)) → Got ((e, oe) :: (t, ot) :: (ctx ++ news)) e t (.type "ValueError") vs → NsKept outer g g' → Dicts outer g' → (∀ p ∈ news, p.1 ≠ e ∧ p.1 ≠ t) →
      oe.data = .fields ws → ((ctx = [] ∧ ws[2]? = some .none) ∨ ∃ cx o1 ws1, ctx = [(cx, o1)] ∧ ws[2]? = some (.ref cx) ∧ o1.data = .fields ws1 ∧ ws1[2]? = some .none) →
      wpAny (model prog w) ((A₀.deeper (envOf name scope L a cd)).mark (some (.ref e))) (execs (b₀ :: suite) (envOf name scope L a cd))
        (fun f s₄ => wpAny (model prog w) (A₀.deeper (envOf name scope L a cd)) (do bindName (envOf name scope L a cd) n .none; unbindBehindTheSuite (envOf name scope L a cd) n pos) (fun _ s₅ => Q f s₅) E s₄)
        (AsSuiteRaised (model prog w) ((A₀.deeper (envOf name scope L a cd)).mark (some (.ref e))) (envOf name scope L a cd) n pos (notedBy (model prog w) ((A₀.deeper (envOf name scope L a cd)).mark (some (.ref e))) (envOf name scope L a cd) (cameBackBy (model prog w) (A₀.deeper (envOf name scope L a cd)) (envOf name scope L a cd) E)))
        { s' with heap := h', toks := tk })
    (h1 : Str.ofString "ValueError" ∉ startupNames := by decide +kernel) (h2 : Str.ofString "ValueError" ∉ loose := by decide +kernel) (h3 : Str.ofString "ValueError" ∉ (recsOf p).map (·.name) := by decide +kernel) (h4 : Str.ofString "ValueError" ∉ (litsOf p).map (·.1) := by decide +kernel) (h4c : Str.ofString "ValueError" ∉ (clssOf p loose).map (·.name) := by decide +kernel)
    (hk : scope.kind = .function := by rfl) (hlo : (envOf name scope L a cd).kindOf n = some .local := by rfl) (hx : (envOf name scope L a cd).kindOf (Str.ofString "ValueError") = some .globalImplicit := by rfl) :
    wpAny (model prog w) (A₀.deeper (envOf name scope L a cd)) (noteFrame (.ref e) (envOf name scope L a cd))
      (fun _ s₂ => wpAny (model prog w) (A₀.deeper (envOf name scope L a cd)) (setFlight (.ref e) none) (fun _ s₃ =>
        wpAny (model prog w) (A₀.deeper (envOf name scope L a cd)) (handleBy (.ref e) (envOf name scope L a cd) (.ExceptHandler (some (.Name (Str.ofString "ValueError") np)) (some n) (b₀ :: suite) pos :: rest)) Q E s₃) E s₂) E s' := by
  have K' := K.push (name := name) (a := a) (cd := cd) F hk
  have he := N _ (.head _)
  have hb := N _ (.tail _ (.head _))
  have N' : News g L s'.heap news := fun p hp => N p (.tail _ (.tail _ hp))
  let as := L :: (outer.filterMap (·.frame) ++ [e, t])
  have hin : ∀ env ∈ (envOf name scope L a cd :: outer), ∀ x, env.frame = some x → x ∈ as := fun env hm x hx => by
    rcases List.mem_cons.mp hm with rfl | hm
    · cases hx; exact .head _
    · exact .tail _ (List.mem_append_left _ (List.mem_filterMap.mpr ⟨env, hm, hx⟩))
  have away : ∀ x, x ∉ L :: outer.filterMap (·.frame) → x ≠ e → x ≠ t → x ∉ as := fun x h1 h2 h3 hm => by
    rcases List.mem_cons.mp hm with q | hm
    · exact h1 (q ▸ .head _)
    · rcases List.mem_append.mp hm with q | q
      · exact h1 (.tail _ q)
      · simp only [List.mem_cons, List.not_mem_nil, or_false] at q
        exact q.elim h2 h3
  have fresh : ∀ x o, base.get? x = some o → x ≠ e ∧ x ≠ t := fun x o q => ⟨fun z => (by have := K.stays x o q; rw [z, he.2.2] at this; cases this), fun z => (by have := K.stays x o q; rw [z, hb.2.2] at this; cases this)⟩
  have st : base.StaysIn (hideAll s'.heap as) := fun x o q => hideAll_get _ (F.keep x o (K.stays x o q)) (away x (frame_apart K F q) (fresh x o q).1 (fresh x o q).2)
  have hl : ∀ q ∈ news, (hideAll s'.heap as).get? q.1 = some q.2 ∧ base.get? q.1 = none := fun q hq =>
    ⟨hideAll_get _ (N' q hq).1 (away _ (news_apart K N' hq) (hne q hq).1 (hne q hq).2), fresh_of_stays K.stays (N' q hq).2.2⟩
  have hbn : (hideAll s'.heap as).get? t = none := hideAll_none _ (.tail _ (List.mem_append_right _ (.tail _ (.head _))))
  refine note_firstX (B := hideAll s'.heap as) K'.stack (fun x o q => of_hideAll _ q) (hideAll_none _ (.tail _ (List.mem_append_right _ (.head _)))) (funFrames_hide K'.frames hin) rfl he.1 hcl hd h0 h1' h2' fun h' x u => ?_
  exact catch_flyX (s' := { s' with heap := h' }) (cx := 0) K F u st hl x hbn (Heap.TupAt.of_slots ⟨ot, nt, hb.1, htc, htd⟩ u) (.inl rfl) (fun q hq => (N' q hq).2.2) hD TB k h1 h2 h3 h4 h4c hk hlo hx
end
end Mine


set_option maxRecDepth 100000
namespace Mine

/-- what is being handled has a context that ends -/
def HandOk (A : Around) (h : Heap) : Prop := A.handled = none ∨ ∃ e oe ws, A.handled = some (.ref e) ∧ h.get? e = some oe ∧ oe.data = .fields ws ∧
  (ws[2]? = some .none ∨ ∃ cx o1 ws1, ws[2]? = some (.ref cx) ∧ h.get? cx = some o1 ∧ o1.data = .fields ws1 ∧ ws1[2]? = some .none)

theorem HandOk.keeps {A : Around} {h h' : Heap} (x : HandOk A h) (k : ∀ b o, h.get? b = some o → h'.get? b = some o) : HandOk A h' := by
  rcases x with x | ⟨e, oe, ws, h1, h2, h3, h4⟩
  · exact .inl x
  · refine .inr ⟨e, oe, ws, h1, k _ _ h2, h3, ?_⟩
    rcases h4 with h4 | ⟨cx, o1, ws1, a1, a2, a3, a4⟩
    · exact .inl h4
    · exact .inr ⟨cx, o1, ws1, a1, k _ _ a2, a3, a4⟩
theorem HandOk.in1 {A : Around} {h : Heap} (x : HandOk A h) : HandOk A.in1 h := x

section
variable {prog : Program} {w : World} {A : Around} {E : Value → Shared → Prop} {s : Shared}

theorem unchain_ok {x e : Addr} {oe : Obj} {ws : Array Value} {Q : Value → Shared → Prop} (hxe : s.heap.get? e = some oe) (hd : oe.data = .fields ws) (hx : ∀ cx o1, s.heap.get? cx = some o1 → cx ≠ x)
    (hc : ws[2]? = some .none ∨ ∃ cx o1 ws1, ws[2]? = some (.ref cx) ∧ s.heap.get? cx = some o1 ∧ o1.data = .fields ws1 ∧ ws1[2]? = some .none) (s' : Shared) (hs : ∀ b o, s.heap.get? b = some o → s'.heap.get? b = some o) (h : Q .none s') :
    wpAny (model prog w) A (runValue (.builtin "proto.unchain" ⟨[.ref x, .ref e, .ref e, .bool false], []⟩)) Q E s' := by
  refine wpAny_runValue (codeAny_builtin entry_unchain ?_)
  unfold Builtin.«proto.unchain»
  dsimp only
  rcases hc with h2 | ⟨cx, o1, ws1, h2, hcx, hd1, hw1⟩
  · refine wpAny_bind (wpAny_field (hs _ _ hxe) hd h2 ?_)
    rw [if_pos (by decide)]
    exact wpAny_pure h
  · refine wpAny_bind (wpAny_field (hs _ _ hxe) hd h2 ?_)
    rw [if_neg (by simp)]
    rw [if_neg (by simpa using hx cx o1 hcx)]
    by_cases hce : cx = e
    · rw [if_pos (by simp [hce])]
      exact wpAny_bind (wpAny_rule (wpAny_pure h))
    · rw [if_neg (by simpa using hce)]
      rw [if_neg (by decide)]
      refine wpAny_bind (wpAny_pure (wpAny_pure ⟨Code.quiet_builtin _ (by decide +kernel), codeAny_builtin entry_unchain ?_⟩))
      unfold Builtin.«proto.unchain»
      dsimp only
      refine wpAny_bind (wpAny_field (hs _ _ hcx) hd1 hw1 ?_)
      rw [if_pos (by decide)]
      exact wpAny_pure h

theorem next_end {it l : Addr} {i : Nat} {items : Array Value} {Q : Option Value → Shared → Prop} (hh : HandOk A s.heap) (hne : ∀ b, A.handled = some (.ref b) → b ≠ it ∧ ∀ oe ws cx, s.heap.get? b = some oe → oe.data = .fields ws → ws[2]? = some (.ref cx) → cx ≠ it)
    (hit : s.heap.IsListIter it l i) (hl : s.heap.IsList l items) (hx : items[i]? = none)
    (hQ : ∀ h', Heap.ExtBut it s.heap h' → Q none { s with heap := h' }) : wpAny (model prog w) A (pyNext (.ref it)) Q E s := by
  rcases hh with hh | ⟨e, oe, ws, hh, he, hed, hc⟩
  · exact wpAny_pyNext_list_end hh hit hl hx hQ
  obtain ⟨hei, hci⟩ := hne e hh
  obtain ⟨o, ho, hcl, hd⟩ := id hit
  obtain ⟨ol, hol, _, nl, hdl⟩ := hl
  unfold pyNext
  refine wpAny_bind (wpAny_attempt (wpAny_callSpecial?_slot (name := Str.ofString "__next__") hit.typeIs slot_listiter_next
    (wpAny_call_entry slot_listiter_next hit.typeIs entry_listiter_next ?_ (args_listiter_next _))))
  show wpAny _ _ (field (.ref it) 0 >>= _) _ _ s
  refine wpAny_bind (wpAny_field ho hd (x := .ref l) rfl ?_)
  show wpAny _ _ (if (Value.ref l == Value.none) = true then _ else _) _ _ s
  rw [if_neg (show ¬ ((Value.ref l == Value.none) = true) from Bool.false_ne_true)]
  show wpAny _ _ (field (.ref it) 1 >>= _) _ _ s
  refine wpAny_bind (wpAny_field ho hd (x := .int i 0) rfl ?_)
  show wpAny _ _ (seqItems? (.ref l) >>= _) _ _ s
  refine wpAny_bind (wpAny_seqItems hol hdl ?_)
  simp only [Int.toNat_natCast, hx]
  refine wpAny_bind (wpAny_rule (wpAny_bind (wpAny_setField ho hd (by simp) ?_)))
  show wpAny _ _ (newExc (.type "StopIteration") [] >>= _) _ _ _
  refine wpAny_bind ?_
  simp only [newExc, newTuple]
  refine wpAny_bind (wpAny_newObj_type ?_ (by size_fits))
  refine wpAny_bind (m := firstArgMember _ _) (wpAny_of_eq (a := Value.none) (by first | rfl | (simp only [firstArgMember]; rfl)) ?_)
  refine wpAny_newObj_type ?_ (by size_fits)
  simp only [raiseNew]
  refine wpAny_bind (wpAny_handled ?_)
  rw [show A.in1.handled = some (.ref e) from hh]
  dsimp only
  have oth : ∀ b o', b ≠ it → s.heap.get? b = some o' → (s.heap.update it (Obj.mapFields (·.setIfInBounds 0 Value.none))).get? b = some o' := fun b o' hb q => (Heap.get?_update_other _ _ (Ne.symm hb)).trans q
  have hz : (s.heap.update it (Obj.mapFields (·.setIfInBounds 0 Value.none))).objs.size = s.heap.objs.size := Heap.size_after_update ..
  rw [if_pos (by
    have := Heap.lt_size he
    simp only [bne_iff_ne, ne_eq, Value.ref.injEq]
    intro q
    rw [Heap.size_push, hz] at q
    rw [q] at this
    exact absurd this (Nat.not_lt_of_le (Nat.le_succ _)))]
  refine wpAny_bind (wpAny_holding (unchain_ok (s := { s with heap := s.heap.update it (Obj.mapFields (·.setIfInBounds 0 Value.none)) }) (oth _ _ hei he) hed (fun cx o1 q z => ?_) ?_ _ (fun b o' q => Heap.get?_push_of_some _ (Heap.get?_push_of_some _ q)) ?_))
  · have := Heap.lt_size q
    rw [z, Heap.size_push] at this
    exact absurd this (Nat.not_lt_of_le (Nat.le_succ _))
  · rcases hc with h2 | ⟨cx, o1, ws1, h2, hcx, hd1, hw1⟩
    · exact .inl h2
    · exact .inr ⟨cx, o1, ws1, h2, oth _ _ (hci oe ws cx he hed h2) hcx, hd1, hw1⟩
  · show wpAny _ _ (setField (.ref _) 2 (.ref e) >>= _) _ _ _
    refine wpAny_bind (wpAny_setField (Heap.get?_push_size _ rfl) rfl (by rw [Array.size_append]; exact Nat.lt_of_lt_of_le (by decide : 2 < 6) (Nat.le_add_right _ _)) (wpAny_throw ?_))
    refine wpAny_bind (wpAny_isInstance (T := "StopIteration") (b := true) ⟨_, Heap.get?_update_self _ (Heap.get?_push_size _ rfl) rfl, rfl⟩ isSubtype_stop ?_)
    refine wpAny_pure (hQ _ fun b o' hb q => ?_)
    rw [Heap.get?_update_other]
    · exact Heap.get?_push_of_some _ (Heap.get?_push_of_some _ (oth b o' hb q))
    · have := Heap.lt_size q
      rw [Heap.size_push, hz]
      intro z
      rw [← z] at this
      exact absurd this (Nat.not_lt_of_le (Nat.le_succ _))
end
end Mine


set_option maxRecDepth 100000
namespace Mine

/-- the same by a ledger -/
def HandL (A : Around) (hand : List (Addr × Obj)) : Prop := A.handled = none ∨ ∃ e oe ws, A.handled = some (.ref e) ∧ (e, oe) ∈ hand ∧ oe.data = .fields ws ∧
  (ws[2]? = some .none ∨ ∃ cx o1 ws1, ws[2]? = some (.ref cx) ∧ (cx, o1) ∈ hand ∧ o1.data = .fields ws1 ∧ ws1[2]? = some .none)

section
variable {prog : Program} {w : World} {A : Around} {E : Value → Shared → Prop} {s : Shared}

theorem walks_iter {I l : Addr} {k nl : Nat} {vs : Array Value} {hand : List (Addr × Obj)} (H : HandL A hand) (hne : ∀ p ∈ hand, p.1 ≠ I) (hl : (l, listOf vs nl) ∈ hand) (hk : k ≤ vs.size) :
    WalksS prog w A I (I :: hand.map (·.1)) [I] (fun a b => b = a) (vs.size - k) (fun i v => vs[k + i]? = some v) (fun i s => s.heap.IsListIter I l (k + i) ∧ ∀ p ∈ hand, s.heap.get? p.1 = some p.2) where
  sub := fun b hb => by rw [List.mem_singleton.mp hb]; exact .head _
  grefl := fun _ => rfl
  gtrans := fun _ _ _ h1 h2 => h2.trans h1
  frame := fun i s h' tk st _ hk => ⟨st.1.at fun o e => hk I (.head _) o e, fun p hp => hk p.1 (.tail _ (List.mem_map_of_mem hp)) _ (st.2 p hp)⟩
  item := fun i s Q E hi st hQ => by
    have hx : vs[k + i]? = some (vs[k + i]'(by omega)) := by simp
    refine wpAny_pyNext_list_item st.1 ⟨_, st.2 _ hl, rfl, nl, rfl⟩ hx fun h' hit' hs' => ?_
    exact hQ _ _ hx ⟨hit', fun p hp => hs'.extBut _ _ (hne p hp) (st.2 p hp)⟩ ⟨fun b o hb e => hs'.extBut b o (fun z => hb (by rw [z]; exact .head _)) e, rfl, rfl, rfl, Nat.le_refl _⟩
  done := fun s Q E st hQ => by
    refine next_end (items := vs) ?_ (fun b hb => ?_) st.1 ⟨_, st.2 _ hl, rfl, nl, rfl⟩ (by simp; omega) fun h' he => hQ _ ⟨fun b o hb e => he b o (fun z => hb (by rw [z]; exact .head _)) e, rfl, rfl, rfl, Nat.le_refl _⟩
    · rcases H with H | ⟨e, oe, ws, h1, h2, h3, h4⟩
      · exact .inl H
      · refine .inr ⟨e, oe, ws, h1, st.2 _ h2, h3, ?_⟩
        rcases h4 with h4 | ⟨cx, o1, ws1, a1, a2, a3, a4⟩
        · exact .inl h4
        · exact .inr ⟨cx, o1, ws1, a1, st.2 _ a2, a3, a4⟩
    · rcases H with H | ⟨e, oe, ws, h1, h2, h3, h4⟩
      · rw [H] at hb; cases hb
      · rw [h1] at hb; cases hb
        refine ⟨hne _ h2, fun oe' ws' cx z1 z2 z3 => ?_⟩
        rw [st.2 _ h2] at z1; cases z1
        rw [h3] at z2; cases z2
        rcases h4 with h4 | ⟨cx', o1, ws1, a1, a2, a3, a4⟩
        · rw [h4] at z3; cases z3
        · rw [a1] at z3; cases z3
          exact hne _ a2
  self := fun i s Q E st hQ => wpAny_pyIter_listiter st.1 hQ

variable {I : Addr} {fp wr : List Addr} {G : Array GenState → Array GenState → Prop} {n : Nat} {P : Nat → Value → Prop} {St : Nat → Shared → Prop} {R : Result → Shared → Prop}

theorem extend_li (W : WalksS prog w A.in1 I fp wr G n P St) (hT : ∀ i s, St i s → s.TypeIs (.ref I) "list_iterator") (S : Addr) (res : Value) (c₀ : Nat) (hst : St 0 s) (hSf : S ∉ fp) (hI : I ∈ fp)
    (hS : s.heap.get? S = some { cls := .type "list", data := .seq #[] c₀ })
    (hR : ∀ s' acc' c', Moved (S :: wr) G s s' → s'.heap.get? S = some { cls := .type "list", dict := none, data := .seq acc' c', slots := #[] } → ItemsOf P acc' n → R (.ok (.ret res)) s') (hn : n ≤ sizeLine) :
    wpAny (model prog w) A.in1 (Builtin.List.listExtendWith (.ref S) (.ref I) res)
      (fun fin s' => match fin with | .done f => R (.ok f) s' | .again c' => c'.quiet = true ∧ codeAny (model prog w) A c' R s') (fun e s' => R (.error e) s') s := by
  have hSI : S ≠ I := fun e => hSf (e ▸ hI)
  unfold Builtin.List.listExtendWith
  refine wpAny_bind (wpAny_typeOf (hT 0 _ hst) ?_)
  have h1 : Builtin.List.listSameRef (.ref S) (.ref I) = false := by simp [Builtin.List.listSameRef, hSI]
  rw [if_neg (by rw [h1]; decide)]
  refine wpAny_bind (W.self 0 _ _ _ hst ?_)
  refine wpAny_bind (wpAny_holding ?_)
  unfold Builtin.List.listLengthHint
  refine wpAny_bind (wpAny_specialOf (hT 0 _ hst) F.nolen_li ?_)
  show wpAny _ A.in1 (specialOf (Value.ref I) (Str.ofString "__length_hint__") >>= _) _ _ _
  refine wpAny_bind (wpAny_specialOf (hT 0 _ hst) F.hint_li ?_)
  (generalize hid : ("list_iterator.__length_hint__" : String) = id0; (fail_if_success (clear hid id0)); wp_delta; rw [show splitId id0 = some ("list_iterator", "__length_hint__") from by subst hid; decide +kernel]; subst hid)
  refine wpAny_bind (wpAny_isInstance (b := true) (hT 0 _ hst) (by rw [isSubtype_type]; kernel_rfl) ?_)
  refine wpAny_pure ?_
  rw [if_neg (by decide)]
  exact wpAny_pure ⟨plainId_quiet F.plain_extend_loop _, codeAny_extend_loopS W hn S hSf res n 0 _ _ _ rfl (Nat.zero_le _) hst hS (ItemsOf.nil P) hR⟩

theorem call_list_li {Q : Value → Shared → Prop} (W : WalksS prog w A.in1.in1 I fp wr G n P St) (hT : ∀ i s, St i s → s.TypeIs (.ref I) "list_iterator") (hst : St 0 s) (hfp : ∀ b ∈ fp, b < s.heap.objs.size) (hI : I ∈ fp)
    (hQ : ∀ s' acc' c', Moved (s.heap.objs.size :: wr) G { s with heap := s.heap.push { cls := .type "list", data := .seq #[] } } s' →
      s'.heap.get? s.heap.objs.size = some { cls := .type "list", dict := none, data := .seq acc' c', slots := #[] } → ItemsOf P acc' n → Q (.ref s.heap.objs.size) s') (hn : n ≤ sizeLine) :
    wpAny (model prog w) A (call (.type "list") [.ref I]) Q E s := by
  have hSf : s.heap.objs.size ∉ fp := fun hm => Nat.lt_irrefl _ (hfp _ hm)
  refine callType_codes (Q₁ := fun obj s₁ => obj = .ref s.heap.objs.size ∧ s₁ = { s with heap := s.heap.push { cls := .type "list", data := .seq #[] } }) F.called_list (F.typeCall_list_1 _) F.entry_list_init
    (code_list_new _ ⟨rfl, rfl⟩) fun obj s₁ h₁ => ?_
  obtain ⟨rfl, rfl⟩ := h₁
  have hS : (s.heap.push { cls := .type "list", data := .seq #[] }).get? s.heap.objs.size = some { cls := .type "list", data := .seq #[] } := Heap.get?_push_size _ rfl
  refine ⟨⟨_, hS, rfl⟩, F.args_list_init_2 _ _, ?_⟩
  have hst₁ := W.frame 0 s _ s.toks hst (Nat.le_refl _) fun b _ o e => Heap.get?_push_of_some { cls := .type "list", data := .seq #[] } e
  generalize hs1 : ({ s with heap := s.heap.push { cls := .type "list", data := .seq #[] } } : Shared) = s1 at *
  have hS1 : s1.heap.get? s.heap.objs.size = some { cls := .type "list", data := .seq #[] } := by rw [← hs1]; exact hS
  show wpAny _ _ (do let old ← Builtin.List.listItems (.ref s.heap.objs.size); Builtin.List.listUpdate (.ref s.heap.objs.size) (fun _ => #[]); letGo old.toList.reverse; Builtin.List.listExtendWith (.ref s.heap.objs.size) (.ref I) .none) _ _ s1
  refine wpAny_bind ?_
  unfold Builtin.List.listItems
  refine wpAny_bind (wpAny_seqItems hS1 rfl (wpAny_pure ?_))
  show wpAny _ _ (updateSeq s.heap.objs.size (fun _ => #[]) >>= fun _ => letGo (#[] : Array Value).toList.reverse >>= fun _ => Builtin.List.listExtendWith (.ref s.heap.objs.size) (.ref I) .none) _ _ s1
  refine wpAny_bind (wpAny_updateSeq hS1 rfl ?_)
  have hS₂ := Heap.get?_update_self (Obj.mapSeq (fun _ => (#[] : Array Value))) hS1 rfl
  have oth : ∀ b o, b ≠ s.heap.objs.size → s1.heap.get? b = some o → (s1.heap.update s.heap.objs.size (Obj.mapSeq (fun _ => (#[] : Array Value)))).get? b = some o :=
    fun b o hb e => (Heap.get?_update_other _ _ (Ne.symm hb)).trans e
  refine wpAny_bind (wpAny_letGo ?_)
  have hst₁' : St 0 s1 := hst₁
  refine extend_li W hT s.heap.objs.size .none _ (W.frame 0 s1 _ s1.toks hst₁' (Nat.le_refl _) fun b hb o e => oth b o (fun h => hSf (h ▸ hb)) e) hSf hI hS₂ (fun s' acc' c' hm hS' hacc => ⟨rfl, hQ s' acc' c' ?_ hS' hacc⟩) hn
  exact Moved.trans W.gtrans ((Moved.refl W.grefl).then_heap (Nat.le_refl _) fun b o hb e => oth b o (fun h => hb (h ▸ List.mem_cons_self)) e) hm

/-- list() of a list's iterator -/
theorem list_of_iter {h₀ : Heap} {L it l : Addr} {m : Str → Option Value} {news rest : List (Addr × Obj)} {k nl : Nat} {vs : Array Value} {Q : Value → Shared → Prop} (F : Fr h₀ L s.heap m) (N : News h₀ L s.heap news)
    (hi : (it, iterOf l k) ∈ news) (hs : ∀ p ∈ rest, p ∈ news) (hne : ∀ p ∈ rest, p.1 ≠ it) (hl : (l, listOf vs nl) ∈ rest) (hk : k ≤ vs.size) (hz : vs.size ≤ sizeLine) (H : HandL A rest)
    (h : ∀ D c h' tk, Fr h₀ L h' m → News h₀ L h' ((D, listOf (vs.toList.drop k).toArray c) :: rest) → (∀ p ∈ rest, p.1 < D) → Q (.ref D) { s with heap := h', toks := tk }) :
    wpAny (model prog w) A (call (.type "list") [.ref it]) Q E s := by
  have lt : ∀ p ∈ rest, p.1 < s.heap.objs.size := fun p hp => Heap.lt_size (N p (hs p hp)).1
  refine call_list_li (walks_iter (A := A.in1.in1) H hne hl hk) (fun i s st => ⟨_, st.1.choose_spec.1, st.1.choose_spec.2.1⟩) ⟨⟨_, (N _ hi).1, rfl, rfl⟩, fun p hp => (N p (hs p hp)).1⟩ (fun b hb => ?_) (.head _) (fun s' acc' c' hm hS' hacc => ?_) (Nat.le_trans (Nat.sub_le _ _) hz)
  · rcases List.mem_cons.mp hb with rfl | hb
    · exact Heap.lt_size (N _ hi).1
    · obtain ⟨p, hp, rfl⟩ := List.mem_map.mp hb
      exact lt p hp
  · obtain ⟨hs1, g1, d1, t1, o1⟩ := s'
    obtain ⟨m1, m2, m3, m4, m5⟩ := hm
    dsimp only at m1 m2 m3 m4 m5 hS'
    subst m2 m3 m4
    have keep : ∀ b o, b ≠ s.heap.objs.size → b ≠ it → s.heap.get? b = some o → hs1.get? b = some o := fun b o q1 q2 e => m1 b o (by simp [q1, q2]) (Heap.get?_push_of_some _ e)
    have hni : h₀.get? it = none := (N _ hi).2.2
    have F' : Fr h₀ L hs1 m := by
      obtain ⟨oL, es, ep, hL, r⟩ := F.ns
      refine ⟨⟨oL, es, ep, keep _ _ (Nat.ne_of_lt (Heap.lt_size hL)) (fun z => (N _ hi).2.1 z.symm) hL, r⟩, fun b o e => keep b o (Nat.ne_of_lt (Heap.lt_size (F.keep b o e))) (fun z => by rw [z, hni] at e; cases e) (F.keep b o e), F.above⟩
    have ea : acc' = (vs.toList.drop k).toArray := by
      refine Array.ext_getElem? fun j => ?_
      by_cases hj : j < acc'.size
      · have := hacc.2 j _ (Array.getElem?_eq_getElem hj)
        rw [Array.getElem?_eq_getElem hj, ← this]
        simp
      · have e1 : acc'[j]? = none := by simp; omega
        rw [e1]
        have := hacc.1
        symm
        simp
        omega
    subst ea
    have hnew : h₀.get? s.heap.objs.size = none := by
      cases q : h₀.get? s.heap.objs.size with
      | none => rfl
      | some o => exact absurd (Heap.lt_size (F.keep _ _ q)) (Nat.lt_irrefl _)
    exact h _ c' hs1 t1 F' (News.more F' (fun p hp => ⟨keep _ _ (Nat.ne_of_lt (lt p hp)) (hne p hp) (N p (hs p hp)).1, (N p (hs p hp)).2⟩) hS' (fun es n q => by cases q) hnew) lt
end

section
variable {prog : Program} {w : World} {A : Around} {E : Value → Shared → Prop} {s : Shared} {h₀ : Heap} {L l : Addr} {m : Str → Option Value} {news : List (Addr × Obj)} {vs : Array Value} {n : Nat}
theorem iter_of_list {Q : Value → Shared → Prop} (F : Fr h₀ L s.heap m) (N : News h₀ L s.heap news) (hl : (l, listOf vs n) ∈ news)
    (h : ∀ I h', Fr h₀ L h' m → News h₀ L h' ((I, iterOf l 0) :: news) → (∀ p ∈ news, p.1 < I) → Q (.ref I) { s with heap := h' }) : wpAny (model prog w) A (call (.builtin "iter") [.ref l]) Q E s := by
  refine call_function_entry (by decide +kernel) (by decide +kernel) kdk_entry_iter (kdk_args_iter _) ?_
  unfold Builtin.«iter»
  refine wpAny_bind (m := someArgs "iter" 1 2 _) (wpAny_of_eq (a := [Value.ref l]) (by first | rfl | kernel_rfl!) ?_)
  show wpAny _ _ (pyIter (.ref l) >>= _) _ _ _
  refine wpAny_bind (wpAny_pyIter_list (items := vs) ⟨_, (N _ hl).1, rfl, n, rfl⟩ ?_)
  exact wpAny_pure ⟨_, rfl, h _ _ (F.push _) (News.push F N _ rfl) fun q hq => Heap.lt_size (N q hq).1⟩
end
end Mine


set_option maxRecDepth 100000
namespace Mine

theorem typeCall_int_2 (a b : Value) : checkTypeCall "int" ⟨[a, b], []⟩ = pure () := by kernel_rfl
theorem newCall_int_2 (a b : Value) : checkBuiltinCall "int.__new__" ⟨[.type "int", a, b], []⟩ = pure () := by kernel_rfl

theorem init_3 (o a b : Value) : argsOk "object.__init__" ⟨[o, a, b], []⟩ := by kernel_rfl
/-- int.__new__ of a text and the base ten -/
theorem int_new_ten (x : Str) (u v : Tok) : Builtin.«int.__new__» ⟨[.type "int", .str x u, .int 10 v], []⟩ = ((int_private% "intFromText") (.str x u) (numTextOf x) 10 >>= fun r => ret r) := by kernel_rfl

theorem type_call_int (a b : Value) : Builtin.«type.__call__» ⟨[.type "int", a, b], []⟩ = (holding [.builtin "int.__new__"] (call (.builtin "int.__new__") [.type "int", a, b] []) >>= fun obj => do
  if !(← isInstance obj (.type "int")) then rule "type.call.new-gave-other-type"; return ← ret obj
  match ← holding [obj] (callSpecial? obj "__init__" [a, b] []) with
  | none => ret obj
  | some r =>
    if r != .none then
      rule "type.call.init-returned-value"
      raiseError "TypeError" s!"__init__() should return None, not '{← typeNameOf r}'"
    ret obj) := by kernel_rfl

def refuse (x : Str) (u : Tok) : Sem Value := do
  rule "int.__new__.invalid-literal"
  let shown ← pyRepr (.str x u)
  let refusal ← newExc (.type "ValueError") [← mkStr (((s!"invalid literal for int() with base {(10 : Nat)}: " : String) ++ (⟨shown.cps.extract 0 200⟩ : Str) : Str))]
  markTheRefusal ["int.__new__"] refusal
  raiseNew refusal

theorem from_text_bad (x : Str) (u : Tok) (text : List Nat) (hs : (text.takeWhile (· != 0)).length ≤ 640)
    (hr : (int_private% "readNumeral") 0 10 (text.takeWhile (· != 0)) = int_private% "Numeral.invalid" ∨ ∃ i, (int_private% "readNumeral") 0 10 (text.takeWhile (· != 0)) = (int_private% "Numeral.value") i ∧ ¬ ((text.takeWhile (· != 0)).length == text.length) = true) :
    (int_private% "intFromText") (.str x u) text 10 = refuse x u := by
  show (if _ then _ else _ : Sem Value) = _
  rw [if_pos hs]
  rcases hr with hr | ⟨i, hr, hn⟩
  · simp only [pure_bind, hr]
    rfl
  · simp only [pure_bind, hr, if_neg hn]
    rfl

section
variable {prog : Program} {w : World} {A : Around} {E : Value → Shared → Prop} {s : Shared} {Q : Value → Shared → Prop} {x : Str} {u : Tok}

theorem caller_any {Γ : PySem.Ctx} (h : Called Γ) (p : Pos) : pythonCodeMadeTheCall ["int.__new__"] (((Γ.code, p) :: Γ.below).map (·.1)) = false := by
  obtain ⟨c, hc, hi⟩ := h
  unfold pythonCodeMadeTheCall
  have : ((((Γ.code, p) :: Γ.below).map (·.1)).any fun c => match c with | .builtin "claim.caller" _ => true | _ => false) = true := by
    rw [List.any_eq_true]
    refine ⟨c, hc, ?_⟩
    unfold Code.isCaller at hi
    split at hi <;> simp_all
  refine Bool.and_eq_false_iff.mpr (.inl (Bool.and_eq_false_iff.mpr (.inl ?_)))
  exact congrArg (!·) this

theorem mark_called {e : Value} {Q : Unit → Shared → Prop} (h : Q () s) : wpC (model prog w) A (markTheRefusal ["int.__new__"] e) Q E s := fun Γ p hΓ hC => by
  unfold markTheRefusal
  rw [Sem.wp_bind']
  show Sem.wp _ Γ (.stack _) _ _ p s
  rw [Sem.wp_stack]
  show Sem.wp _ Γ (if pythonCodeMadeTheCall _ _ = true then _ else _) _ _ p s
  rw [caller_any hC p]
  exact h

theorem refused (hl : x.length ≤ 64) (hc : ∀ c ∈ x.cps.toList, c < 16 ^ 8) (hA : A.handled = none) (h : ∀ h' e tk', Heap.NewExc s.heap h' e "ValueError" → E (.ref e) { s with heap := h', toks := tk' }) : wpC (model prog w) A (refuse x u) Q E s := by
  have hr := StrLaws.reprText_len x hc
  unfold refuse
  refine wpC_bindL (wpAny_rule ?_)
  refine wpC_bindL (wpAny_pyRepr_str ?_ (fits (by omega)))
  refine wpC_bindL (wpAny_mkStr ?_ ?_)
  · refine wpC_bindL (wpAny_newExc_plain plainExc_ValueError fun h' e hm => ?_)
    refine wpC_bind (mark_called ?_)
    exact wpC_of_any (wpAny_raiseNew_none hA (h _ _ _ hm.newExc))
  · refine fits ?_
    rw [Str.length_append]
    have e1 : (Str.ofString (toString "invalid literal for int() with base " ++ toString (10 : Nat) ++ toString ": ")).length = 40 := by decide +kernel
    have e2 : (⟨(reprText x).cps.extract 0 200⟩ : Str).length ≤ 200 := by
      show ((reprText x).cps.extract 0 200).size ≤ 200
      rw [Array.size_extract]; omega
    refine Nat.le_trans (Nat.add_le_add (Nat.le_of_eq e1) e2) (by decide)

theorem codeC_call_builtin {id : String} {args : Args} {b : Builtin} {R : Result → Shared → Prop} (hq : plainId id = true) (hb : entryFor table id = some b) (hck : checkBuiltinCall id args = pure ())
    (h : wpC (model prog w) A.in1 (b args) (fun fin s' => match fin with | .done f => R (.ok f) s' | .again c' => c'.quiet = true ∧ codeC (model prog w) A c' R s') (fun e s' => R (.error e) s') s) :
    codeC (model prog w) A (.call (.builtin id) args) R s := by
  refine codeC_of_tree ?_
  show wpC _ A.in1 (do checkBuiltinCall id args; again (.builtin id args)) _ _ s
  rw [hck]
  refine wpC_bindL (wpAny_pure (wpC_of_any (wpAny_pure (And.intro (plainId_quiet hq args) (codeC_of_tree ?_)))))
  show wpC _ _ (match entryFor table id with | some b => b args | none => unsupported ((withoutEnding? id "#data").getD id)) _ _ s
  rw [hb, Around.under_plainId hq args]; exact h

theorem codeC_builtin {id : String} {args : Args} {b : Builtin} {R : Result → Shared → Prop} (hb : entryFor table id = some b)
    (h : wpC (model prog w) (A.under (.builtin id args)) (b args) (fun fin s' => match fin with | .done f => R (.ok f) s' | .again c' => c'.quiet = true ∧ codeC (model prog w) A c' R s') (fun e s' => R (.error e) s') s) :
    codeC (model prog w) A (.builtin id args) R s := by
  refine codeC_of_tree ?_
  show wpC _ _ (match entryFor table id with | some b => b args | none => unsupported ((withoutEnding? id "#data").getD id)) _ _ s
  rw [hb]; exact h

theorem int_call {v : Tok} {R : Result → Shared → Prop} (h : wpC (model prog w) A.in1 (call (.builtin "int.__new__") [.type "int", .str x u, .int 10 v] []) (fun _ _ => False) (fun e s' => R (.error e) s') s) :
    codeC (model prog w) A (.call (.type "int") ⟨[.str x u, .int 10 v], []⟩) R s := by
  refine codeC_of_tree ?_
  show wpC _ A.in1 (callAny (.type "int") _) _ _ s
  refine wpC_of_any (wpAny_pure ⟨Code.quiet_builtin _ (by decide +kernel), codeC_builtin F.entry_type_call ?_⟩)
  rw [Around.under_plain (weight_type_call_type "int" [.str x u, .int 10 v] []) (units_type_call_type "int" [.str x u, .int 10 v] [])]
  rw [type_call_int]
  exact wpC_bind (wpC_holding (wpC_mono h (fun _ _ q => q.elim) fun _ _ q => q))

theorem int_bad {v : Tok} (hl : x.length ≤ 64) (hc : ∀ c ∈ x.cps.toList, c < 16 ^ 8) (hn : PySem.intText? x = none) (hA : A.handled = none)
    (h : ∀ h' e tk', Heap.NewExc s.heap h' e "ValueError" → E (.ref e) { s with heap := h', toks := tk' }) : wpC (model prog w) A (call (.type "int") [.str x u, .int 10 v]) Q E s := by
  have hs : (numSeenOf x).length ≤ 640 := Nat.le_trans (seen_length x) (by omega)
  have hr : (int_private% "readNumeral") 0 10 (numSeenOf x) = int_private% "Numeral.invalid" ∨ ∃ i, (int_private% "readNumeral") 0 10 (numSeenOf x) = (int_private% "Numeral.value") i ∧ ¬ ((numSeenOf x).length == (numTextOf x).length) = true := by
    rcases read0 x hs with ⟨m, h1, -⟩ | ⟨-, h1⟩
    · rw [hn] at h1; cases h1
    · exact h1
  refine wpC_call (int_call (wpC_call (codeC_call_builtin (by decide +kernel) F.entry_int_new (newCall_int_2 _ _) ?_)))
  rw [int_new_ten, from_text_bad x u (numTextOf x) hs hr]
  exact wpC_bind (refused hl hc hA h)

theorem gives_ten {v : Tok} {n : Int} (hl : x.length ≤ 640) (hn : PySem.intText? x = some n) : Gives (Builtin.«int.__new__» ⟨[.type "int", .str x u, .int 10 v], []⟩) (.int n) :=
  .of_wp fun M A E s Q h => by
    have hs : (numSeenOf x).length ≤ 640 := Nat.le_trans (seen_length x) hl
    rw [int_new_ten]
    rcases read0 x hs with ⟨m, h1, h2, h3⟩ | ⟨h1, -⟩
    · rw [hn] at h1
      injection h1 with h1
      subst h1
      exact wpAny_bind (KIN.wp_text hs h3 h2 (wpAny_pure ⟨_, rfl, h⟩))
    · rw [hn] at h1; cases h1

theorem int_ok {v : Tok} {n : Int} (hl : x.length ≤ 640) (hn : PySem.intText? x = some n) (h : Q (.int n s.toks) { s with toks := s.toks + 1 }) : wpAny (model prog w) A (call (.type "int") [.str x u, .int 10 v]) Q E s :=
  callType_new F.called_int F.newNe_int (typeCall_int_2 _ _) (newCall_int_2 _ _) (fun obj => init_3 obj _ _) F.entry_int_new (gives_ten hl hn).meets (show (Made.int n).post _ s from ⟨rfl, h⟩)
end
end Mine


open PySem PySem.W PyProof.Rows
namespace Mine
set_option maxRecDepth 100000
set_option maxHeartbeats 8000000
/-- the part of the text that the walk may lean on -/
noncomputable def vw : Program := view PySem.Challenge.pw_dv0012_02 [1, 3, 4, 7, 8, 9]
abbrev lw : List Str := [Str.ofString "_binary_ops", Str.ofString "_c2py_ops", Str.ofString "_parse"]
abbrev rlw : OpenRow := PySem.Challenge.rw_dv0012_02.row
noncomputable abbrev xw : Shared → Bool := fun s => xlAt vw ([] : List (Str × WData)) s && recOk (RowW.records rlw.toRowW) s
local macro_rules | `(tactic| o_head $H) => `(tactic| (
  refine holds_both (q := vw) (loose := lw) (Xt := xw) (XP := XL vw ([] : List (Str × WData))) (Yf := Hook.obs $H) (Ya := Hook.val $H) (YP := Hook.says $H) (N := 1800) (Hook.of $H) (Hook.keeps $H)
    (fun s e => xl_of s (Bool.and_eq_true_iff.mp e).1) XL.keeps (by rfl) (by rfl) (by rfl) (fun s e => recFacts_of (Bool.and_eq_true_iff.mp e).2) (by rfl) (by first | assumption | decide +kernel) (by decide +kernel) ⟨rfl, rfl, rfl, rfl, rfl, by decide +kernel⟩ ?hw ?hc))
open_top hd0 for PySem.Challenge.rw_dv0012_02
theorem topOff : True := by
  w_top off
  trivial
theorem kAt (P : Params) : [2, 3, 6, 15, 17, 18, 20, 21, 31, 77, 78, 79, 81, 82, 84, 85, 86, 88, 89, 91, 92, 93, 95, 96, 98, 99, 100, 103, 104] = (hd0.heap_39 P).map (·.1) := by kernel_rfl
noncomputable abbrev hkw : Hook := kHook hd0.heap_39 [2, 3, 6, 15, 17, 18, 20, 21, 31, 77, 78, 79, 81, 82, 84, 85, 86, 88, 89, 91, 92, 93, 95, 96, 98, 99, 100, 103, 104] kAt
/-- the top's run, in one check of the kernel for each of the four kinds of world; the step function, its table and the looks by their quick twins -/
theorem left_ff (w : World) : OneW rlw.prog vw lw xw (Hook.obs hkw) (Hook.val hkw) 1800 ((w.withFollow "special-get-raises" false).withFollow "comprehension-iter-twice" false) := one_of (by
  unfold openEnds topFrom
  rw [PySem.W.Fast.te14082659384304107361, PySem.W.Fast.te14364793385576792824, PySem.W.Fast.te4187177175401517315]
  kernel_rfl)
theorem left_tf (w : World) : OneW rlw.prog vw lw xw (Hook.obs hkw) (Hook.val hkw) 1800 ((w.withFollow "special-get-raises" true).withFollow "comprehension-iter-twice" false) := one_of (by
  unfold openEnds topFrom
  rw [PySem.W.Fast.te14082659384304107361, PySem.W.Fast.te14364793385576792824, PySem.W.Fast.te4187177175401517315]
  kernel_rfl)
theorem left_ft (w : World) : OneW rlw.prog vw lw xw (Hook.obs hkw) (Hook.val hkw) 1800 ((w.withFollow "special-get-raises" false).withFollow "comprehension-iter-twice" true) := one_of (by
  unfold openEnds topFrom
  rw [PySem.W.Fast.te14082659384304107361, PySem.W.Fast.te14364793385576792824, PySem.W.Fast.te4187177175401517315]
  kernel_rfl)
theorem left_tt (w : World) : OneW rlw.prog vw lw xw (Hook.obs hkw) (Hook.val hkw) 1800 ((w.withFollow "special-get-raises" true).withFollow "comprehension-iter-twice" true) := one_of (by
  unfold openEnds topFrom
  rw [PySem.W.Fast.te14082659384304107361, PySem.W.Fast.te14364793385576792824, PySem.W.Fast.te4187177175401517315]
  kernel_rfl)
theorem left : LeftO rlw.prog vw lw xw (Hook.obs hkw) (Hook.val hkw) 1800 := left4 _ _ left_ff left_tf left_ft left_tt
theorem and_left {a b c : Prop} (h : a ∧ b → c) (x : a) (y : b) : c := h ⟨x, y⟩
def hd := and_left hd0 left
end Mine


set_option maxRecDepth 100000
set_option maxHeartbeats 8000000
namespace Mine
noncomputable abbrev PV : Program := vw
noncomputable abbrev LV : List Str := looseW vw [Str.ofString "_binary_ops", Str.ofString "_c2py_ops", Str.ofString "_parse"]
abbrev PR : Program := PySem.Challenge.pw_dv0012_02

/-- how a call came back -/
def Back (out : Out) (base h₀ : Heap) (env : Env) (outer : List Env) (L it l : Addr) (m : Str → Option Value) (k : Nat) (vs : Array Value) (ts : List Str) (rest : List (Addr × Obj)) (s : Shared) (Q E : Value → Shared → Prop) : Prop :=
  match out with
  | .ok t r => ∀ res t1 t2 tup h' tk', res.length + 16 * r.length + 16 ≤ 16 * ts.length → t.length ≤ 64 → r.length < ts.length → StrsAre (vs.toList.drop (k + (ts.length - r.length))) r → Fr h₀ L h' m → News h₀ L h' ((tup, tupOf [.str res t1, .str t t2]) :: (it, iterOf l (k + (ts.length - r.length))) :: rest) → Q (.ref tup) { s with heap := h', toks := tk' }
  | .err wd r => ∀ e t tk g h' tk', r.length < ts.length → Fr h₀ L g m → g.UpToSlots h' → RaisedX base (env :: outer) e t [.str wd tk] ((it, iterOf l (k + (ts.length - r.length))) :: rest) h' → E (.ref e) { s with heap := h', toks := tk' }

structure BaseOk (w : World) (mean : ExcName → Option Value) (mg mb : Str → Option Value) (base : Heap) : Prop where
  x : (hd0.heap_39 w.params).In base
  t : Top PV LV mean mg mb base

def PC (w : World) (n : Nat) : Prop := ∀ (pr : Int) (ts : List Str) (out : Out), Parse n pr ts out →
  ∀ (mean : ExcName → Option Value) (mg mb : Str → Option Value) (dp un : Nat) (gd : Option (List Code)) (cn : Str) (cs : Scope) (a : Addr) (ccd : Value) (cl : List (Str × Addr)) (outer : List Env) (A₀ : Around) (base h₀ : Heap) (L : Addr) (m : Str → Option Value)
    (it l : Addr) (k ne : Nat) (vs : Array Value) (rest : List (Addr × Obj)) (s : Shared) (args : List Value) (u : Tok) (Q E : Value → Shared → Prop),
    (args = [.ref it, .int pr u] ∨ (args = [.ref it] ∧ pr = -1)) → Below A₀ base outer h₀ → Fr h₀ L s.heap m → (hd0.heap_39 w.params).In h₀ → BaseOk w mean mg mb base → News h₀ L s.heap ((it, iterOf l k) :: rest) → (∀ p ∈ rest, p.1 ≠ it) → (l, listOf vs ne) ∈ rest →
    StrsAre (vs.toList.drop k) ts → Top PV LV mean mg mb h₀ → cs.kind = .function → dp + n + 5 < recursionLimit → un + 8 * n + 100 < cLine → (∀ t ∈ ts, t.length ≤ 64) → ts.length ≤ 80 →
    Back out base h₀ (envX cn cs L a ccd cl) outer L it l m k vs ts rest s Q E →
    wpC (model PR w) (ktrTop dp un gd cn cs L a ccd cl outer) (call (.ref 85) args) Q E s

theorem fill0 : (fun (_ : OpenLaw) (_ : Params → Frag) => True) PySem.Challenge.rw_dv0012_02 hd0.heap_39 := by k_fill; trivial
theorem opsMap {w : World} {h : Heap} (X : (hd0.heap_39 w.params).In h) : h.MapOf (strKind PR w) 31 opVal := by
  have q := mapOf_K (prog := PR) (w := w) X (a := 31) (by k_dflt k_is) (by k_keys)
  refine cast (congrArg _ (funext fun t => ?_)) q
  unfold opVal opLv opTab findBy
  rw [← Array.find?_toList]
  simp only [List.find?_cons, List.find?_nil, Value.isStrOf]
  repeat' split
  all_goals simp_all [opTk]

theorem c2pyMap {w : World} {h : Heap} (X : (hd0.heap_39 w.params).In h) : h.MapOf (strKind PR w) 77 c2py := by
  have q := mapOf_K (prog := PR) (w := w) X (a := 77) (by k_dflt k_is) (by k_keys)
  refine cast (congrArg _ (funext fun t => ?_)) q
  unfold c2py findBy
  rw [← Array.find?_toList]
  simp only [List.find?_cons, List.find?_nil, Value.isStrOf]
  repeat' split
  all_goals simp_all

theorem fill : (fun (_ : OpenLaw) (_ : Params → Frag) => True) PySem.Challenge.rw_dv0012_02 hd0.heap_39 := trivial
end Mine


set_option maxRecDepth 100000
set_option maxHeartbeats 8000000
namespace Mine
theorem fill1 : (fun (_ : OpenLaw) (_ : Params → Frag) => True) PySem.Challenge.rw_dv0012_02 hd0.heap_39 := by k_fill; trivial

local macro_rules | `(tactic| walk_at "call type:ValueError") => `(tactic| (k_dflt (refine' call_VE ?F ?N ?z ?_; (case F => k_asm); (case N => k_asm); (case z => exact Nat.le_of_ble_eq_true rfl)); intro e' b' h' F' N' ne' ke'; (try k_sweep)))

theorem error_call {w : World} {mean : ExcName → Option Value} {mg mb : Str → Option Value} {dp un : Nat} {gd : Option (List Code)} {hd' : Option Value} {cn : Str} {cs : Scope} {a : Addr} {ccd : Value} {cl : List (Str × Addr)} {outer : List Env} {A₀ : Around} {base h₀ : Heap} {L : Addr} {m : Str → Option Value}
    {news : List (Addr × Obj)} {s : Shared} {t : Str} {tk : Tok} {Q E : Value → Shared → Prop}
    (B : Below A₀ base outer h₀) (F : Fr h₀ L s.heap m) (X : (hd0.heap_39 w.params).In h₀) (N : News h₀ L s.heap news) (T : Top PV LV mean mg mb h₀) (hk : cs.kind = .function) (hdp : dp + 5 < recursionLimit) (hun : un + 100 < cLine) (hlen : t.length ≤ 100)
    (h : ∀ e b tw h' tk', Fr h₀ L h' m → News h₀ L h' ((e, excOf b) :: (b, tupOf [.str (errWords t) tw]) :: news) → (∀ p ∈ news, p.1 ≠ e ∧ p.1 ≠ b) → Q (.ref e) { s with heap := h', toks := tk' }) :
    wpAny (model PR w) { handled := hd', depth := dp, frames := some (envX cn cs L a ccd cl :: outer), guards := gd, units := un } (call (.ref 21) [.str t tk]) Q E s := by
  refine wpAny_call ?_
  k_dflt (refine' code_def (binds := [(Str.ofString "value", .str t tk)]) ?k1 ?k2 ?k3 ?k4 ?k5 ?kA ?kF ?kK ?k6 ?k7 ?k8 ?k9 ?kB ?_ ?c2 ?c3 ?c4 ?c5; (case kA => exact rfl); (case kF => exact rfl); (case kK => assumption); (case k1 => k_asm); (case k2 => k_asm); (case k3 => exact X); (case k4 => k_asm); (case k5 => exact T); (case k6 => k_is); (case k7 => k_is); (case k8 => (show dp < recursionLimit; omega)); (case k9 => exact BindsTo.of_eq rfl); (case c5 => decide); (case kB => exact locs rfl); (case c2 => exact rfl); (case c3 => exact rfl); (case c4 => exact rfl); k_whole; intro g' L' h' FG' F' N' B' X' T')
  dsimp only
  clear B X T N
  k_fold
  (iterate 7 walk1)
  · (iterate 12 walk1)
    refine call_VE (by k_asm) (by k_asm) (fits (by simp)) ?_
    intro e b h2 F2 N2 hne2 _
    k_unfold
    refine leaveK_ F2 N2 ?_
    intro kF kN
    rename ((t.length : Int) ≠ 0) => hl
    rw [← errWords_ne hl] at kN
    exact h e b _ _ _ kF kN hne2
  · (iterate 9 walk1)
    refine call_VE (by k_asm) (by k_asm) (fits (by simp)) ?_
    intro e b h2 F2 N2 hne2 _
    k_unfold
    refine leaveK_ F2 N2 ?_
    intro kF kN
    rename ((t.length : Int) = 0) => hl
    rw [← errWords_eq hl] at kN
    exact h e b _ _ _ kF kN hne2
end Mine


set_option maxRecDepth 100000
set_option maxHeartbeats 8000000
namespace Mine
theorem fill' : (fun (_ : OpenLaw) (_ : Params → Frag) => True) PySem.Challenge.rw_dv0012_02 hd0.heap_39 := by k_fill; trivial

local macro_rules | `(tactic| walk_at "call builtin:next") => `(tactic| (k_here; (with_reducible show wpAny _ _ (call (Value.builtin "next") [Value.ref _]) _ _ _); k_dflt (refine' next_list ?F ?N ?i ?s ?ne ?l ?x ?_; (case F => k_asm); (case N => k_asm); (case ne => assumption); (case i => k_mem); (case l => assumption); (case x => assumption); (case s => (intro p hp; first | exact hp | exact .tail _ hp | exact .tail _ (.tail _ hp) | exact .tail _ (.tail _ (.tail _ hp)))); k_whole); intro h' F' N'; (try k_sweep)))

local macro_rules | `(tactic| walk_at "exec While") => `(tactic| (refine halt ?_))

local macro_rules | `(tactic| walk_at "exec If") => `(tactic| ((with_reducible show wpAny _ _ (exec (Stmt.If _ _ _ (Pos.mk 49 _ _ _)) _) _ _ _); (with_reducible rename Gate 49 => gg); refine halt ?_))


local macro_rules | `(tactic| walk_at "le") => `(tactic| ((with_reducible show _ ≤ sizeLine); refine fits ?_; (try simp only [Str.length_append, len_empty, len_lp, len_rp, len_n, len_sp, len_if, len_else]); omega))

theorem exc_ne_tup {h : Heap} {e b b' : Addr} {vs : List Value} (h1 : h.get? e = some (excOf b)) (h2 : h.get? b' = some (tupOf vs)) : b' ≠ e := by
  rintro rfl
  rw [h1] at h2
  have := congrArg Obj.data (Option.some.inj h2)
  simp at this

theorem small_text {v : Int} (h0 : 0 ≤ v) (h9 : v < 1000) : (Str.ofString (toString v)).length ≤ 4 := by
  rw [PySem.ofString_length]
  exact int_text_length_le10 (k := 3) (by decide) (by omega)

local macro_rules | `(tactic| walk_at "compareOp In str ref") => `(tactic| ((with_reducible show wpAny _ _ (compareOp CmpOp.In (Value.str _ _) (Value.ref 31)) _ _ _); k_dflt (refine in_map (opsMap (Frag.In.keeps (by k_asm) (Fr.keep (by k_asm)))) (by decide) ?_)))
local macro_rules | `(tactic| walk_at "subscriptTail") => `(tactic| ((with_reducible show wpAny _ _ (subscriptTail _ _ (Value.ref 31) (Value.str _ _)) _ _ _); k_dflt (refine' item_map (opsMap (Frag.In.keeps (by k_asm) (Fr.keep (by k_asm)))) ?v ?_ ?s ?g; (case v => assumption); (case s => with_unfolding_all rfl); (case g => (intro _; with_unfolding_all rfl)))))
local macro_rules | `(tactic| walk_at "getMethod ref") => `(tactic| ((with_reducible show wpAny _ _ (getMethod (Value.ref 77) _ _) _ _ _); k_dflt (refine meth_map (c2pyMap (Frag.In.keeps (by k_asm) (Fr.keep (by k_asm)))) ?_)))
local macro_rules | `(tactic| walk_at "call builtin:dict.get") => `(tactic| ((with_reducible show wpAny _ _ (call (Value.builtin "dict.get") [Value.ref 77, _, _]) _ _ _); k_dflt (refine get_map (c2pyMap (Frag.In.keeps (by k_asm) (Fr.keep (by k_asm)))) (by decide) ?_)))

theorem adv {k a b c : Nat} (h1 : b < a) (h2 : c < b) : k + (a - b) + (b - c) = k + (a - c) := by omega
theorem dp_le {dp n c : Nat} (h : dp + (n + 1) + 5 < c) : dp + 1 + n + 5 < c := by omega
theorem un_le {un n c : Nat} (h : un + 8 * (n + 1) + 100 < c) : un + 3 + 8 * n + 100 < c := by omega
theorem dp_er {dp n c : Nat} (h : dp + (n + 1) + 5 < c) : dp + 1 + 5 < c := by omega
theorem un_er {un n c : Nat} (h : un + 8 * (n + 1) + 100 < c) : un + 3 + 100 < c := by omega
theorem le_of {a b c : Nat} (h : a < b) (h' : b ≤ c) : a ≤ c := by omega

theorem made_news {g h h' : Heap} {L e : Addr} {m : Str → Option Value} {vs : List Value} {news : List (Addr × Obj)} (hm : Heap.MadeExc h h' e "ValueError" vs) (F : Fr g L h m) (N : News g L h news) :
    ∃ b, Fr g L h' m ∧ News g L h' ((e, excOf b) :: (b, tupOf vs) :: news) ∧ ∀ p ∈ news, p.1 ≠ e ∧ p.1 ≠ b := by
  obtain ⟨t, he, htn, ht⟩ := hm.there
  have F' : Fr g L h' m := F.keeps hm.keeps
  have N' : News g L h' news := fun p hp => ⟨hm.keeps _ _ (N p hp).1, (N p hp).2⟩
  have fresh : ∀ b, h.get? b = none → g.get? b = none := fun b hb => by
    cases q : g.get? b with
    | none => rfl
    | some o => have := F.keep b o q; rw [hb] at this; cases this
  refine ⟨t, F', News.more F' (News.more F' N' ht (fun es n q => by cases q) (fresh t htn)) he (fun es n q => by cases q) (fresh e hm.new), fun p hp => ⟨fun q => ?_, fun q => ?_⟩⟩
  · have := (N p hp).1; rw [q, hm.new] at this; cases this
  · have := (N p hp).1; rw [q, htn] at this; cases this

theorem pc_succ {w : World} {n : Nat} (IH : PC w n) : PC w (n + 1) := by
  intro pr ts out hP mean mg mb dp un gd cn cs a ccd cl outer A₀ base h₀ L m it l k ne vs rest s args u Q E hargs B F X XB N hne hl hts T hk hdp hun hlen htl hback
  have hP' : ParseS (Parse n) pr ts out := hP
  clear hP
  refine wpC_call ?_
  k_dflt (refine' codeC_K (binds := [(Str.ofString "tokens", .ref it), (Str.ofString "priority", .int pr (if args.length = 2 then u else 267))]) ?k1 ?k2 ?k3 ?k4 ?k5 ?kA ?kF ?kK ?k6 ?k7 ?k8 ?k9 ?kB ?_ ?c2 ?c3 ?c4 ?c5; (case kA => exact rfl); (case kF => exact rfl); (case kK => assumption); (case k1 => k_asm); (case k2 => k_asm); (case k3 => exact X); (case k4 => k_asm); (case k5 => exact T); (case k6 => k_is); (case k7 => k_is); (case k8 => ktr_room); (case k9 => (rcases hargs with rfl | ⟨rfl, rfl⟩ <;> exact binds_K (by k_in) rfl (by k_is) rfl rfl rfl)); (case c5 => decide); (case kB => exact locs rfl); (case c2 => exact rfl); (case c3 => exact rfl); (case c4 => exact rfl); k_whole; intro g' L' h' FG' F' N' B' X' T')
  generalize (if args.length = 2 then u else 267) = u' at F' ⊢
  dsimp only
  clear B X T N
  obtain ⟨ts', hBang, hO⟩ : ∃ ts', Bangs ts ts' ∧ ((∃ wd r1, Opd (Parse n) ts' (some wd) r1 ∧ out = .err wd r1) ∨ (∃ t1 r1, Opd (Parse n) ts' none (t1 :: r1) ∧ Goes (Parse n) pr t1 r1 out)) := by
    cases hP' with
    | opd b o => exact ⟨_, b, .inl ⟨_, _, o, rfl⟩⟩
    | ops b o p => exact ⟨_, b, .inr ⟨_, _, o, .err p⟩⟩
    | all b o p q => exact ⟨_, b, .inr ⟨_, _, o, .ok p q⟩⟩
  clear hP'
  obtain ⟨t0, r0, hts0⟩ : ∃ t0 r0, ts = t0 :: r0 := by cases hBang <;> exact ⟨_, _, rfl⟩
  obtain ⟨tk0, hx0, hs0⟩ := strs_head (hts0 ▸ hts)
  refine wpC_named ?_
  intro qk ek hq he
  refine wpC_execs_consL ?_
  k_steps
  refine wpC_execs_consL ?_
  k_steps
  rename Fr g' L' _ _ => F0
  rename News g' L' _ _ => N0
  refine wpC_execs_consL (mid_cut (fun f s' => Halt (f = .next ∧ ∃ t r, ts' = t :: r ∧ t ≠ Str.ofString "!" ∧ PSt g' L' it l k vs ts rest pr u' s t r 16 s')) ?_ ?_)
--A{
  · refine whl_start 0 (whl_ind (fun b s' => ∃ t r, b = (t :: r).length ∧ Bangs (t :: r) ts' ∧ PSt g' L' it l k vs ts rest pr u' s t r 16 s') (t0 :: r0).length ?_ ?_ ?_)
    · have e1 : ts.length - r0.length = 1 := by rw [hts0, List.length_cons]; omega
      refine ⟨t0, r0, rfl, hts0 ▸ hBang, _, _, Str.ofString "", _, tk0, _, rfl, hlen t0 (by rw [hts0]; exact .head _), ?_, ?_, ?_, pin4 F0 rfl rfl rfl rfl, ?_⟩
      · rw [hts0, List.length_cons]; omega
      · rw [hts0, List.length_cons]; show 0 + _ + _ ≤ _; omega
      · rw [e1]; exact hs0
      · rw [e1]; exact N0
    · rw [he]; with_unfolding_all passes_own
    · clear F0 N0
      rintro b _ ⟨t, r, hb, hB, h1, tk1, res, rt, tt, x, rfl, htl1, hr, hres, hS, F1, N1⟩
      clear hx0 hs0
      k_steps
      cases hB with
      | nil hn =>
        refine WhlIf.no (by simpa using hn) ?_
        k_steps
        exact ⟨rfl, t, r, rfl, hn, _, _, res, rt, tt, x, rfl, htl1, hr, hres, hS, F1, N1⟩
      | cons hB' =>
        obtain ⟨t2, r2, hr2⟩ : ∃ t2 r2, r = t2 :: r2 := by cases hB' <;> exact ⟨_, _, rfl⟩
        subst hr2
        obtain ⟨tk2, hx2, hs2⟩ := strs_head hS
        refine WhlIf.yes rfl ?_
        k_steps
        rename Fr g' L' _ _ => F2
        rename News g' L' _ _ => N2
        have e2 : k + (ts.length - (t2 :: r2).length) + 1 = k + (ts.length - r2.length) := by rw [List.length_cons] at hr ⊢; omega
        refine ⟨(t2 :: r2).length, by rw [hb]; exact Nat.lt_succ_self _, t2, r2, rfl, hB', _, _, res ++ Str.ofString "not ", _, tk2, _, rfl, hlen t2 (strs_sub hts hS t2 (.head _)), ?_, ?_, e2 ▸ hs2, pin4 F2 rfl rfl rfl rfl, e2 ▸ N2⟩
        · rw [List.length_cons] at hr; omega
        · have e4 : (Str.ofString "not ").length = 4 := by decide
          rw [List.length_cons] at hres
          rw [Str.length_append]
          omega
--A}
  rintro _ s1 ⟨rfl, t, r, rfl, htn, h1, tk1, res, rt, tt, x, rfl, htl1, hr, hres, hS, F1, N1⟩
  clear hx0 hs0 F0 N0
  dsimp only
  refine wpC_execs_cons (wpC_cut (fun f s' => Halt (f = .next ∧ ∃ t' t1 r1, Goes (Parse n) pr t1 r1 out ∧ PSt g' L' it l k vs ts rest pr u' s t' (t1 :: r1) 8 s')) ?_ ?_)
--A{
  · rcases hO with ⟨wd, r1, hO, rfl⟩ | ⟨t1, r1, hO, hG⟩
    · cases hO with
      | unb hp hn =>
        replace hn := ne_bool' hn
        refine wpC_If ?_
        k_steps
        refine wpC_execs_cons (wpC_AssignTuple (wpC_callK F1 X' (topRead_of T') rfl rfl ?_))
        k_steps
        refine IH (-1) r _ hp mean mg mb (dp + 1) (un + 3) gd _ _ _ _ [] _ _ base g' L' _ it l (k + (ts.length - r.length)) ne vs rest _ _ 0 _ _ (Or.inr ⟨rfl, rfl⟩) B' F1 X' XB N1 hne hl hS T' rfl (dp_le hdp) (un_le hun) (fun t ht => hlen t (strs_sub hts hS t ht)) (le_of (by first | assumption | exact Nat.lt_trans (by assumption) hr) htl) ?_
        intro res2 t1 t2 tup h2 tk2 hb1 hb0 hb2 S2 F2 N2
        clear N1
        k_steps
        refine wpC_of_any ?_
        k_steps
        rename Fr g' L' _ _ => F6
        rename News g' L' _ _ => N6
        rename Heap.MadeExc _ _ _ _ _ => X7
        obtain ⟨b7, F7, N7, ne7⟩ := made_news X7 F6 N6
        rw [he]
        dsimp only
        refine leave_genX B' F7 N7 ne7 rfl rfl rfl rfl rfl rfl rfl (.inl rfl) ?_
        intro h9 R9 U9
        have e3 : k + (ts.length - r.length) + (r.length - r1.length) = k + (ts.length - r1.length) := adv (by first | assumption | exact Nat.lt_trans (by assumption) hr) (by assumption)
        exact hback _ _ _ _ _ _ (by first | assumption | exact Nat.lt_trans (by assumption) hr | omega) FG' U9 (e3 ▸ raisedX_sub (fun p hp => .tail _ hp) R9)
      | inner hp =>
        refine wpC_never (wpC_If ?_)
        k_steps
        refine wpC_execs_consE (wpC_AssignTuple (wpC_callK F1 X' (topRead_of T') rfl rfl ?_))
        k_steps
        refine IH (-1) r _ hp mean mg mb (dp + 1) (un + 3) gd _ _ _ _ [] _ _ base g' L' _ it l (k + (ts.length - r.length)) ne vs rest _ _ 0 _ _ (Or.inr ⟨rfl, rfl⟩) B' F1 X' XB N1 hne hl hS T' rfl (dp_le hdp) (un_le hun) (fun t ht => hlen t (strs_sub hts hS t ht)) (le_of (by first | assumption | exact Nat.lt_trans (by assumption) hr) htl) ?_
        intro e t1 tk2 g2 h2 tk3 hb2 F2 U2 R2
        rw [he]
        dsimp only
        refine leave_onX B' F2 R2 U2 ?_
        intro h3 R3 U3
        have e3 : k + (ts.length - r.length) + (r.length - r1.length) = k + (ts.length - r1.length) := adv (by first | assumption | exact Nat.lt_trans (by assumption) hr) (by assumption)
        exact hback _ _ _ _ _ _ (by first | assumption | exact Nat.lt_trans (by assumption) hr | omega) FG' U3 (e3 ▸ R3)
      | bad h1 h2 h3 hi =>
        replace h2 := ne_bool h2
        replace h3 := ne_bool h3
        refine wpC_never (wpC_If ?_)
        k_steps
        refine WhlIf.no h2 ?_
        refine wpC_execs_consE (wpC_If ?_)
        k_steps
        refine WhlIf.no h3 ?_
        refine wpC_execs_consE (wpC_Try ?_)
        refine wpC_execs_consE (wpC_AssignName ?_)
        rw [arm_eval_Call_Name']
        refine wpC_bindL ?_
        k_steps
        refine wpC_callType ?_
        k_steps
        refine int_bad htl1 hi.2 hi.1 rfl ?_
        intro h5 e5 tk5 hx5
        refine catch_own B' F1 N1 hx5 (topRead_of XB.t) ?_ (hE := by rw [he]; with_unfolding_all passes_own)
        intro g2 h6 oe ws B2 F2 N2 U2 hc2 hd2 hw2 nn2
        have X2 := XB.x.keeps B2.stays
        have T2 := XB.t.keeps B2.stays
        have hUU := U2
        clear U2
        refine wpAny_execs_cons ?_
        refine raise_from_none rfl ?_
        clear F1 N1 X' T' hx5
        k_steps
        refine error_call (dp := dp + 1) (un := un + 3) B2 F2 X2 N2 T2 rfl (dp_er hdp) (un_er hun) (Nat.le_trans htl1 (by decide)) ?_
        intro e7 b7 tw7 h7 tk7 F7 N7 ne7
        have hb7 : b7 ≠ e7 := exc_ne_tup (N7 _ (.head _)).1 (N7 _ (.tail _ (.head _))).1
        refine ⟨e7, b7, oe, ws, rfl, (N7 _ (.head _)).1, fun q => (ne7 _ (.head _)).1 q.symm, (N7 _ (.tail _ (.tail _ (.head _)))).1, hd2, hw2, ?_⟩
        intro h8 he8 sb8
        rw [he]
        dsimp only
        have F8 : Fr g2 L' h8 _ := F7.change sb8 (N7 _ (.head _)).2.1 (N7 _ (.head _)).2.2
        have N8 := News.setHead N7 (fun p hp => by
          rcases List.mem_cons.mp hp with rfl | hp
          · exact hb7
          · exact (ne7 p hp).1) sb8 he8
        refine leave_genX B2 F8 N8 (fun p hp => ne7 p hp) rfl rfl rfl rfl rfl rfl rfl (.inr ⟨_, _, _, rfl, .head _, hd2, hw2⟩) ?_
        intro h9 R9 U9
        exact hback _ _ _ _ _ _ (by first | assumption | exact Nat.lt_trans (by assumption) hr | omega) FG' (hUU.trans U9) (raisedX_sub (fun p hp => .tail _ hp) R9)
    · cases hO with
      | par hp =>
        refine wpC_If ?_
        k_steps
        refine wpC_execs_cons (wpC_AssignTuple (wpC_callK F1 X' (topRead_of T') rfl rfl ?_))
        k_steps
        refine IH (-1) r _ hp mean mg mb (dp + 1) (un + 3) gd _ _ _ _ [] _ _ base g' L' _ it l (k + (ts.length - r.length)) ne vs rest _ _ 0 _ _ (Or.inr ⟨rfl, rfl⟩) B' F1 X' XB N1 hne hl hS T' rfl (dp_le hdp) (un_le hun) (fun t ht => hlen t (strs_sub hts hS t ht)) (le_of (by first | assumption | exact Nat.lt_trans (by assumption) hr) htl) ?_
        intro res2 tk1' tk2' tup h2 tk2 hb1 hb0 hb2 S2 F2 N2
        clear N1
        k_steps
        refine wpC_of_any ?_
        k_steps
        rename Fr g' L' _ _ => F3
        rename News g' L' _ _ => N3
        have e3 : k + (ts.length - r.length) + (r.length - (t1 :: r1).length) = k + (ts.length - (t1 :: r1).length) := adv (by first | assumption | exact Nat.lt_trans (by assumption) hr) (by assumption)
        rw [e3] at N3 S2
        refine ⟨rfl, Str.ofString ")", t1, r1, hG, _, _, _, _, _, _, rfl, by decide, by omega, ?_, S2, pin4 F3 rfl rfl rfl rfl, news_sub N3 (fun p hp => .tail _ hp)⟩
        simp only [Str.length_append, len_empty, len_lp, len_rp]; omega
      | var =>
        refine wpC_of_any ?_
        k_steps
        rename Fr g' L' _ _ => F3
        rename News g' L' _ _ => N3
        refine ⟨rfl, Str.ofString "n", t1, r1, hG, _, _, _, _, _, _, rfl, by decide, hr, ?_, hS, pin4 F3 rfl rfl rfl rfl, N3⟩
        simp only [Str.length_append, len_empty, len_n]; omega
      | num h1 h2 h3 hi h0 h9 =>
        replace h2 := ne_bool h2
        replace h3 := ne_bool h3
        refine wpC_of_any ?_
        k_steps
        refine int_ok (Nat.le_trans htl1 (by decide)) hi ?_
        k_steps
        rename Fr g' L' _ _ => F3
        rename News g' L' _ _ => N3
        refine ⟨rfl, t, t1, r1, hG, _, _, _, _, _, _, rfl, htl1, hr, ?_, hS, pin4 F3 rfl rfl rfl rfl, news_sub N3 (fun p hp => .tail _ hp)⟩
        have q := small_text h0 h9
        simp only [Str.length_append]; omega
--A}
  rintro _ s2 ⟨rfl, t', t1, r1, hG, h2, tk2, res2, rt2, tt2, x2, rfl, -, hr2, hres2, hS2, F2, N2⟩
  obtain ⟨tk3, hx3, hs3⟩ := strs_head hS2
  clear F1 N1 hO
  dsimp only
  refine wpC_execs_consL ?_
  k_steps
  refine wpC_execs_consL ?_
  k_steps
  rename Fr g' L' _ _ => F0
  rename News g' L' _ _ => N0
  refine wpC_execs_cons (wpC_cut (fun f s' => Halt (f = .next ∧ ∃ t' r', Tail (Parse n) pr t' r' out ∧ PStJ g' L' it l k vs ts rest pr u' s t' r' 24 s')) ?_ ?_)
--A{
  · refine wpC_While (fun b s' => ∃ t r, b = r.length ∧ Goes (Parse n) pr t r out ∧ PStJ g' L' it l k vs ts rest pr u' s t r 24 s') r1.length ?_ ?_ ?_
    · have e1 : k + (ts.length - (t1 :: r1).length) + 1 = k + (ts.length - r1.length) := by rw [List.length_cons] at hr2 ⊢; omega
      rw [e1] at hs3 N0
      rw [List.length_cons] at hr2 hres2
      exact ⟨t1, r1, rfl, hG, _, _, res2, _, _, _, _, _, rfl, hlen t1 (strs_sub hts hS2 t1 (.head _)), by omega, by omega, hs3, pin5 F0 rfl rfl rfl rfl rfl, N0⟩
    · rw [he]; with_unfolding_all passes_own
    · clear hx3 hs3 hS2 hG F0 N0
      rintro b _ ⟨t, r, rfl, hG, h3, tk3, res, rt, tt, j, jt, x, rfl, htl1, hr, hres, hS, F3, N3⟩
      k_steps
      rcases goes_cases hG with ⟨ho, hT⟩ | ⟨i, ho, hi, hT⟩ | hgo
      · refine WhlIf.no (by rw [opVal_none ho]; rfl) ?_
        k_steps
        exact ⟨rfl, t, r, hT, _, _, res, rt, tt, j, jt, x, rfl, htl1, hr, hres, hS, F3, N3⟩
      · have hv := opVal_some ho
        refine WhlIf.yes (by rw [hv]; rfl) (wpC_of_any ?_)
        k_steps
        rename Fr g' L' _ _ => F4
        rename News g' L' _ _ => N4
        exact ⟨rfl, t, r, hT, _, _, res, _, _, j, _, _, rfl, htl1, hr, hres, hS, pin5 F4 rfl rfl rfl rfl rfl, N4⟩
      · obtain ⟨i, ho, hi⟩ : ∃ i, opLv t = some i ∧ pr ≤ i := by
          rcases hgo with ⟨i, t', r', ho, hi, -⟩ | ⟨i, wd, r', ho, hi, -⟩ <;> exact ⟨i, ho, hi⟩
        have hv := opVal_some ho
        obtain ⟨o, ot, hop, hol⟩ := c2py_len (tk := tt) (op_len ho).1
        refine WhlIf.yes (by rw [hv]; rfl) ?_
        refine wpC_execs_consL ?_
        k_steps
        refine wpC_execs_consL ?_
        k_steps
        rename Fr g' L' _ _ => F4
        rename News g' L' _ _ => N4
        refine wpC_execs_consL (mid_cut (fun f s' => Halt (f = .next ∧ ∃ h' tk res' rt' x', s' = { s with heap := h', toks := tk } ∧ res'.length ≤ res.length + 2 ∧ Fr g' L' h' (fun y => if y = Str.ofString "i" then some (.int i (opTk i)) else M5 it pr u' t tt res' rt' j jt x' y) ∧ News g' L' h' ((it, iterOf l (k + (ts.length - r.length))) :: rest))) ?_ ?_)
        · k_steps
          all_goals (
            rename Fr g' L' _ _ => F5
            rename News g' L' _ _ => N5
            refine ⟨rfl, _, _, _, _, _, rfl, ?_, pin (pin5 F5 rfl rfl rfl rfl rfl) rfl, news_sub N5 (fun p hp => by first | exact hp | exact .tail _ hp | exact .tail _ (.tail _ hp))⟩
            first | omega | (simp only [Str.length_append, len_lp, len_rp]; omega))
        rintro _ s5 ⟨rfl, h5, tk5, res5, rt5, x5, rfl, hres5, F5, N5⟩
        clear F4 N4
        dsimp only
        refine wpC_execs_consL ?_
        k_steps
        rename Fr g' L' _ _ => F6
        rename News g' L' _ _ => N6
        rw [hop] at F6
        refine wpC_execs_cons (wpC_AssignTuple (wpC_callK F6 X' (topRead_of T') rfl rfl ?_))
        k_steps
        rcases hgo with ⟨i', t', r', ho', -, hp, hG'⟩ | ⟨i', wd, r', ho', -, hp, rfl⟩
        all_goals (
          obtain rfl : i' = i := Option.some.inj (ho'.symm.trans ho)
          refine IH (i' + 1) r _ hp mean mg mb (dp + 1) (un + 3) gd _ _ _ _ [] _ _ base g' L' _ it l (k + (ts.length - r.length)) ne vs rest _ _ _ _ _ (Or.inl rfl) B' F6 X' XB N6 hne hl hS T' rfl (dp_le hdp) (un_le hun) (fun t ht => hlen t (strs_sub hts hS t ht)) (le_of (by first | assumption | exact Nat.lt_trans (by assumption) hr) htl) ?_)
        · intro res4 t4 t5 tup h5 tk5 hb1 hb0 hb2 S5 F5 N5
          clear N6
          k_steps
          refine wpC_of_any ?_
          k_steps
          rename Fr g' L' _ _ => F6
          rename News g' L' _ _ => N6
          have e3 : k + (ts.length - r.length) + (r.length - r'.length) = k + (ts.length - r'.length) := adv (by first | assumption | exact Nat.lt_trans (by assumption) hr) (by assumption)
          rw [e3] at S5 N6
          refine ⟨r'.length, hb2, t', r', rfl, hG', _, _, _, _, _, _, _, _, rfl, hb0, by omega, ?_, S5, pin5 F6 rfl rfl rfl rfl rfl, news_sub N6 (fun p hp => .tail _ hp)⟩
          simp only [Str.length_append, len_empty, len_sp, len_lp, len_rp]
          omega
        · intro e t1 tk2 g2 h2 tk3 hb2 F2 U2 R2
          rw [he]
          dsimp only
          refine leave_onX B' F2 R2 U2 ?_
          intro h3 R3 U3
          have e3 : k + (ts.length - r.length) + (r.length - r'.length) = k + (ts.length - r'.length) := adv (by first | assumption | exact Nat.lt_trans (by assumption) hr) (by assumption)
          exact hback _ _ _ _ _ _ (by first | assumption | exact Nat.lt_trans (by assumption) hr | omega) FG' U3 (e3 ▸ R3)
--A}
  rintro _ s3 ⟨rfl, t, r, hT, h3, tk3, res, rt, tt, j, jt, x, rfl, htl1, hr, hres, hS, F3, N3⟩
  clear hx3 hs3 hS2 F0 N0
  dsimp only
  refine wpC_execs_consL (mid_cut (fun f s' => Halt (f = .next ∧ PSt g' L' it l k vs ts rest pr u' s t r 20 s')) ?_ ?_)
--A{
  · k_steps
    all_goals (
      rename Fr g' L' _ _ => F4
      rename News g' L' _ _ => N4
      refine ⟨rfl, _, _, _, _, _, _, rfl, htl1, hr, ?_, hS, pin4 F4 rfl rfl rfl rfl, N4⟩
      first | omega | (simp only [Str.length_append, len_lp, len_rp]; omega))
--A}
  rintro _ s4 ⟨rfl, h4, tk4, res4, rt4, tt4, x4, rfl, -, -, hres4, -, F4, N4⟩
  clear F3 N3
  dsimp only
  refine wpC_execs_cons (wpC_cut (fun f s' => Halt (f = .next ∧ ∃ t1 r1, out = .ok t1 r1 ∧ PSt g' L' it l k vs ts rest pr u' s t1 r1 16 s')) ?_ ?_)
--A{
  · cases hT with
    | plain hq =>
      refine wpC_of_any ?_
      by_cases hq1 : t = Str.ofString "?"
      · have hq2 : ¬ pr ≤ 0 := fun q => hq ⟨hq1, q⟩
        subst hq1
        k_steps
        rename Fr g' L' _ _ => F5
        rename News g' L' _ _ => N5
        exact ⟨rfl, _, r, rfl, _, _, _, _, _, _, rfl, htl1, hr, by omega, hS, F5, N5⟩
      · replace hq1 := ne_bool hq1
        k_steps
        rename Fr g' L' _ _ => F5
        rename News g' L' _ _ => N5
        exact ⟨rfl, _, r, rfl, _, _, _, _, _, _, rfl, htl1, hr, by omega, hS, F5, N5⟩
    | ifErr hq hp =>
      refine wpC_never (wpC_If ?_)
      k_steps
      refine wpC_execs_consE (wpC_AssignTuple (wpC_callK F4 X' (topRead_of T') rfl rfl ?_))
      k_steps
      refine IH 0 r _ hp mean mg mb (dp + 1) (un + 3) gd _ _ _ _ [] _ _ base g' L' _ it l (k + (ts.length - r.length)) ne vs rest _ _ _ _ _ (Or.inl rfl) B' F4 X' XB N4 hne hl hS T' rfl (dp_le hdp) (un_le hun) (fun t ht => hlen t (strs_sub hts hS t ht)) (le_of (by first | assumption | exact Nat.lt_trans (by assumption) hr) htl) ?_
      intro e t1 tk2 g2 h2 tk3 hb2 F2 U2 R2
      rw [he]
      dsimp only
      refine leave_onX B' F2 R2 U2 ?_
      intro h3 R3 U3
      have e3 : ∀ q, q < r.length → k + (ts.length - r.length) + (r.length - q) = k + (ts.length - q) := fun q hq => adv hr hq
      exact hback _ _ _ _ _ _ (by first | assumption | exact Nat.lt_trans (by assumption) hr | omega) FG' U3 (e3 _ hb2 ▸ R3)
    | ifTok hq hp hn =>
      replace hn := ne_bool' hn
      refine wpC_never (wpC_If ?_)
      k_steps
      refine wpC_execs_cons (wpC_AssignTuple (wpC_callK F4 X' (topRead_of T') rfl rfl ?_))
      k_steps
      refine IH 0 r _ hp mean mg mb (dp + 1) (un + 3) gd _ _ _ _ [] _ _ base g' L' _ it l (k + (ts.length - r.length)) ne vs rest _ _ _ _ _ (Or.inl rfl) B' F4 X' XB N4 hne hl hS T' rfl (dp_le hdp) (un_le hun) (fun t ht => hlen t (strs_sub hts hS t ht)) (le_of (by first | assumption | exact Nat.lt_trans (by assumption) hr) htl) ?_
      intro res5 t5 t6 tup h5 tk5 hb1 hb0 hb2 S5 F5 N5
      clear N4
      k_steps
      refine wpC_execs_consE (wpC_of_any ?_)
      k_steps
      rename Fr g' L' _ _ => F6
      rename News g' L' _ _ => N6
      refine error_call (dp := dp + 1) (un := un + 3) B' F6 X' N6 T' rfl (dp_er hdp) (un_er hun) (Nat.le_trans hb0 (by decide)) ?_
      intro e7 b7 tw7 h7 tk7 F7 N7 ne7
      refine ⟨e7, _, _, "ValueError", _, _, PyProof.Rows.excClass_ValueError, rfl, (N7 _ (.head _)).1, rfl, rfl, rfl, ?_⟩
      rw [he]
      dsimp only
      refine leave_genX B' F7 N7 ne7 rfl rfl rfl rfl rfl rfl rfl (.inl rfl) ?_
      intro h9 R9 U9
      have e3 : ∀ q, q < r.length → k + (ts.length - r.length) + (r.length - q) = k + (ts.length - q) := fun q hq => adv hr hq
      exact hback _ _ _ _ _ _ (by first | assumption | exact Nat.lt_trans (by assumption) hr | omega) FG' U9 (e3 _ hb2 ▸ raisedX_sub (fun p hp => .tail _ hp) R9)
    | ifOk hq hp hp2 =>
      rename_i r2 t3 r3
      refine wpC_If ?_
      k_steps
      refine wpC_execs_cons (wpC_AssignTuple (wpC_callK F4 X' (topRead_of T') rfl rfl ?_))
      k_steps
      refine IH 0 r _ hp mean mg mb (dp + 1) (un + 3) gd _ _ _ _ [] _ _ base g' L' _ it l (k + (ts.length - r.length)) ne vs rest _ _ _ _ _ (Or.inl rfl) B' F4 X' XB N4 hne hl hS T' rfl (dp_le hdp) (un_le hun) (fun t ht => hlen t (strs_sub hts hS t ht)) (le_of (by first | assumption | exact Nat.lt_trans (by assumption) hr) htl) ?_
      intro res5 t5 t6 tup h5 tk5 hb1 hb0 hb2 S5 F5 N5
      clear N4
      k_steps
      refine wpC_execs_consL ?_
      k_steps
      rename Fr g' L' _ _ => F6
      rename News g' L' _ _ => N6
      have e3 : k + (ts.length - r.length) + (r.length - r2.length) = k + (ts.length - r2.length) := adv (by first | assumption | exact Nat.lt_trans (by assumption) hr) (by assumption)
      rw [e3] at S5 N6
      refine wpC_execs_cons (wpC_AssignTuple (wpC_callK F6 X' (topRead_of T') rfl rfl ?_))
      k_steps
      refine IH (-1) r2 _ hp2 mean mg mb (dp + 1) (un + 3) gd _ _ _ _ [] _ _ base g' L' _ it l (k + (ts.length - r2.length)) ne vs rest _ _ 0 _ _ (Or.inr ⟨rfl, rfl⟩) B' F6 X' XB (news_sub N6 (fun p hp => .tail _ hp)) hne hl S5 T' rfl (dp_le hdp) (un_le hun) (fun t ht => hlen t (strs_sub hts S5 t ht)) (le_of (by first | assumption | exact Nat.lt_trans (by assumption) hr) htl) ?_
      intro res7 t7 t8 tup2 h7 tk7 hb3 hb30 hb4 S7 F7 N7
      clear N6
      k_steps
      have e4 : k + (ts.length - r2.length) + (r2.length - r3.length) = k + (ts.length - r3.length) := adv (by first | assumption | exact Nat.lt_trans (by assumption) hr) (by assumption)
      rw [e4] at S7
      rename Fr g' L' _ _ => F7
      rename News g' L' _ _ => N7
      refine wpC_execs_consL (mid_cut (fun f s' => Halt (f = .next ∧ ∃ h' tk R rt x', s' = { s with heap := h', toks := tk } ∧ R.length = res5.length + 4 + res4.length + 6 + res7.length ∧ Fr g' L' h' (M4 it pr u' t3 t8 R rt x') ∧ News g' L' h' ((it, iterOf l (k + (ts.length - r3.length))) :: rest))) ?_ ?_)
      · k_steps
        rename Fr g' L' _ _ => F8
        rename News g' L' _ _ => N8
        rw [e4] at N8
        refine ⟨rfl, _, _, _, _, _, rfl, ?_, pin4 F8 rfl rfl rfl rfl, news_sub N8 (fun p hp => .tail _ hp)⟩
        simp only [Str.length_append, len_empty, len_if, len_else]
        omega
      rintro _ s8 ⟨rfl, h8, tk8, R8, rt8, x8, rfl, hR8, F8, N8⟩
      dsimp only
      refine wpC_of_any ?_
      clear F7 N7
      k_steps
      all_goals (
        rename Fr g' L' _ _ => F9
        rename News g' L' _ _ => N9
        refine ⟨rfl, t3, r3, rfl, _, _, _, _, _, _, rfl, hb30, by omega, ?_, S7, pin4 F9 rfl rfl rfl rfl, N9⟩
        first | omega | (simp only [Str.length_append, len_lp, len_rp]; omega))
    | ifBad hq hp hp2 =>
      rename_i r2 wd r3
      refine wpC_never (wpC_If ?_)
      k_steps
      refine wpC_execs_cons (wpC_AssignTuple (wpC_callK F4 X' (topRead_of T') rfl rfl ?_))
      k_steps
      refine IH 0 r _ hp mean mg mb (dp + 1) (un + 3) gd _ _ _ _ [] _ _ base g' L' _ it l (k + (ts.length - r.length)) ne vs rest _ _ _ _ _ (Or.inl rfl) B' F4 X' XB N4 hne hl hS T' rfl (dp_le hdp) (un_le hun) (fun t ht => hlen t (strs_sub hts hS t ht)) (le_of (by first | assumption | exact Nat.lt_trans (by assumption) hr) htl) ?_
      intro res5 t5 t6 tup h5 tk5 hb1 hb0 hb2 S5 F5 N5
      clear N4
      k_steps
      refine wpC_execs_consL ?_
      k_steps
      rename Fr g' L' _ _ => F6
      rename News g' L' _ _ => N6
      have e3 : k + (ts.length - r.length) + (r.length - r2.length) = k + (ts.length - r2.length) := adv (by first | assumption | exact Nat.lt_trans (by assumption) hr) (by assumption)
      rw [e3] at S5 N6
      refine wpC_execs_consE (wpC_AssignTuple (wpC_callK F6 X' (topRead_of T') rfl rfl ?_))
      k_steps
      refine IH (-1) r2 _ hp2 mean mg mb (dp + 1) (un + 3) gd _ _ _ _ [] _ _ base g' L' _ it l (k + (ts.length - r2.length)) ne vs rest _ _ 0 _ _ (Or.inr ⟨rfl, rfl⟩) B' F6 X' XB (news_sub N6 (fun p hp => .tail _ hp)) hne hl S5 T' rfl (dp_le hdp) (un_le hun) (fun t ht => hlen t (strs_sub hts S5 t ht)) (le_of (by first | assumption | exact Nat.lt_trans (by assumption) hr) htl) ?_
      intro e t1 tk2 g2 h2 tk3 hb4 F2 U2 R2
      rw [he]
      dsimp only
      refine leave_onX B' F2 R2 U2 ?_
      intro h3 R3 U3
      have e4 : k + (ts.length - r2.length) + (r2.length - r3.length) = k + (ts.length - r3.length) := adv (by first | assumption | exact Nat.lt_trans (by assumption) hr) (by assumption)
      exact hback _ _ _ _ _ _ (by first | assumption | exact Nat.lt_trans (by assumption) hr | omega) FG' U3 (e4 ▸ R3)
--A}
  rintro _ s5 ⟨rfl, t1, r1, rfl, h5, tk5, res5, rt5, tt5, x5, rfl, htl5, hr5, hres5, hS5, F5, N5⟩
  clear F4 N4
  dsimp only
  refine wpC_of_any ?_
  k_steps
  rw [hq]
  dsimp only
  rename Fr g' L' _ _ => F6
  rename News g' L' _ _ => N6
  refine leaveK_ F6 N6 ?_
  intro kF kN
  exact hback _ _ _ _ _ _ (by omega) htl5 hr5 hS5 kF kN

theorem pc_all {w : World} : ∀ n, PC w n
  | 0 => fun _ _ _ h => h.elim
  | n + 1 => pc_succ (pc_all n)
end Mine


set_option maxRecDepth 100000
namespace Mine
open NumText in
theorem drop_x : ∀ l : List Nat, ∃ l', (l ++ [120]).dropWhile blank = l' ++ [120]
  | [] => ⟨[], rfl⟩
  | c :: l => by
    rw [List.cons_append, List.dropWhile_cons]
    split
    · exact drop_x l
    · exact ⟨c :: l, rfl⟩
open NumText in
theorem core_x (r : List Nat) : ∃ r', core (120 :: r) = 120 :: r' := by
  obtain ⟨l', e⟩ := drop_x r.reverse
  refine ⟨l'.reverse, ?_⟩
  have q : core (120 :: r) = (((120 :: r).reverse).dropWhile blank).reverse := rfl
  rw [q, List.reverse_cons, e, List.reverse_append]
  rfl
open NumText in
theorem digits_x (r : List Nat) : digits? 10 (120 :: r) = none := rfl
theorem cps_x (t : Str) : (Str.ofString "x" ++ t).cps.toList = 120 :: t.cps.toList := by
  have e : (Str.ofString "x" ++ t).cps = (Str.ofString "x").cps ++ t.cps := rfl
  have e2 : (Str.ofString "x").cps = #[120] := by decide
  rw [e, e2]
  simp
open NumText in
theorem intText_x (t : Str) : PySem.intText? (Str.ofString "x" ++ t) = none := by
  have h1 : ∃ r, numTextOf (Str.ofString "x" ++ t) = 120 :: r := by
    unfold numTextOf
    rw [cps_x]
    split
    · exact ⟨_, rfl⟩
    · exact ⟨_, by simp [Unicode.numberText]; rfl⟩
  obtain ⟨r, h1⟩ := h1
  have h2 : numSeenOf (Str.ofString "x" ++ t) = 120 :: r.takeWhile (· != 0) := by
    unfold numSeenOf
    rw [h1, List.takeWhile_cons]
    rfl
  unfold PySem.intText?
  rw [h2]
  obtain ⟨r', h3⟩ := core_x (r.takeWhile (· != 0))
  rw [h3, digits_x]
  split <;> rfl

/-- a token that every reading refuses -/
structure GoodTok (t : Str) : Prop where
  bang : t ≠ Str.ofString "!"
  par : t ≠ Str.ofString "("
  var : t ≠ Str.ofString "n"
  ask : t ≠ Str.ofString "?"
  col : t ≠ Str.ofString ":"
  op : opLv t = none
  bad : Bad t

theorem good_x {t : Str} (hc : ∀ c ∈ t.cps.toList, c < 16 ^ 8) : GoodTok (Str.ofString "x" ++ t) := by
  have hd : ∀ s : Str, s.cps.toList.head? ≠ some 120 → Str.ofString "x" ++ t ≠ s := fun s h e => h (by rw [← e, cps_x]; rfl)
  refine ⟨hd _ (by decide), hd _ (by decide), hd _ (by decide), hd _ (by decide), hd _ (by decide), ?_, intText_x t, ?_⟩
  · unfold opLv
    rw [List.find?_eq_none.mpr]
    · rfl
    · intro p hp e
      have all : ∀ p ∈ opTab, p.1.cps.toList.head? ≠ some 120 := by decide
      exact hd p.1 (all p hp) (by simpa using (beq_iff_eq.mp e).symm)
  · intro c h
    rw [cps_x] at h
    rcases List.mem_cons.mp h with rfl | h
    · decide
    · exact hc c h
theorem bad_nil : Bad (Str.ofString "") := by
  refine ⟨by decide +kernel, fun c h => ?_⟩
  have e : (Str.ofString "").cps.toList = [] := by decide
  rw [e] at h; cases h
theorem good_nil : GoodTok (Str.ofString "") := ⟨by decide, by decide, by decide, by decide, by decide, by decide, bad_nil⟩

section
variable {t : Str} (G : GoodTok t) (r : List Str)
include G
theorem p_bad (n : Nat) (pr : Int) : Parse (n + 1) pr (t :: r) (.err (errWords t) r) := .opd (.nil G.bang) (.bad G.bang G.par G.var G.bad)
theorem p_end (n : Nat) (pr : Int) {u : Str} {v : Int} (h1 : u ≠ Str.ofString "!") (h2 : u ≠ Str.ofString "(") (h3 : u ≠ Str.ofString "n") (h4 : PySem.intText? u = some v) (h5 : 0 ≤ v) (h6 : v < 1000) : Parse (n + 1) pr (u :: t :: r) (.ok t r) :=
  .all (.nil h1) (.num h1 h2 h3 h4 h5 h6) (.stop G.op) (.plain fun q => G.ask q.1)
theorem p_7 (n : Nat) (pr : Int) : Parse (n + 1) pr (Str.ofString "7" :: t :: r) (.ok t r) := p_end G r n pr (v := 7) (by decide) (by decide) (by decide) (by decide +kernel) (by decide) (by decide)
theorem p_two : Parse 2 (-1) (Str.ofString "!" :: Str.ofString "(" :: t :: r) (.err (errWords t) r) := .opd (.cons (.nil (by decide))) (.inner (p_bad G r 0 (-1)))
theorem p_three : Parse 2 (-1) (Str.ofString "n" :: Str.ofString "+" :: t :: r) (.err (errWords t) r) := .ops (.nil (by decide)) .var (.fail (i := 5) (by decide) (by decide) (p_bad G r 0 _))
theorem p_four : Parse 2 (-1) (Str.ofString "n" :: Str.ofString "?" :: Str.ofString "7" :: t :: r) (.err (errWords t) r) :=
  .all (.nil (by decide)) .var (.stop (by decide)) (.ifTok (by decide) (p_7 G r 0 0) G.col)
theorem p_five : Parse 4 (-1) (Str.ofString "(" :: Str.ofString "0" :: Str.ofString "?" :: Str.ofString "n" :: Str.ofString "==" :: Str.ofString "7" :: t :: r) (.err (errWords t) r) :=
  .opd (.nil (by decide)) (.inner (.all (.nil (by decide)) (.num (v := 0) (by decide) (by decide) (by decide) (by decide +kernel) (by decide) (by decide)) (.stop (by decide)) (.ifTok (by decide)
    (.all (.nil (by decide)) .var (.step (i := 3) (by decide) (by decide) (p_7 G r 0 _) (.stop G.op)) (.plain fun q => G.ask q.1)) G.col)))
theorem p_one : Parse 1 (-1) (t :: r) (.err (errWords t) r) := p_bad G r 0 (-1)
end
end Mine


set_option maxRecDepth 100000
namespace Mine

/-- the law's tokens, and the end -/
inductive Tk where
  | n | d12 | d0 | xy | bang | plus | eqq | and | ask | col | lp | rp | fin
deriving DecidableEq

def Tk.s : Tk → Str
  | .n => Str.ofString "n" | .d12 => Str.ofString "12" | .d0 => Str.ofString "0" | .xy => Str.ofString "xy" | .bang => Str.ofString "!" | .plus => Str.ofString "+" | .eqq => Str.ofString "=="
  | .and => Str.ofString "&&" | .ask => Str.ofString "?" | .col => Str.ofString ":" | .lp => Str.ofString "(" | .rp => Str.ofString ")" | .fin => Str.ofString ""

def Tk.opd : Tk → Bool
  | .n | .d12 | .d0 => true
  | _ => false
def Tk.op : Tk → Bool
  | .plus | .eqq | .and => true
  | _ => false

/-- one walk from left to right up to the first refusal; opened: true a bracket, false a question -/
def auto : Bool → List Bool → List Tk → Out
  | _, _, [] => .ok (Str.ofString "") []
  | true, o, t :: r => if t.opd then auto false o r else if t = .bang then auto true o r else if t = .lp then auto true (true :: o) r else .err (errWords t.s) (r.map Tk.s)
  | false, o, t :: r => if t.op then auto true o r else if t = .ask then auto true (false :: o) r else
      match o with
      | true :: o' => if t = .rp then auto false o' r else .err unbal (r.map Tk.s)
      | false :: o' => if t = .col then auto true o' r else .err (errWords t.s) (r.map Tk.s)
      | [] => .ok t.s (r.map Tk.s)

theorem inj_s : ∀ {a b : Tk}, a.s = b.s → a = b := by
  intro a b
  cases a <;> cases b <;> first | (intro _; rfl) | (intro h; exact absurd h (by decide))
theorem s_ne {a b : Tk} (h : a ≠ b) : a.s ≠ b.s := fun e => h (inj_s e)
theorem op_lv : ∀ {t : Tk}, t.op = true → ∃ i, opLv t.s = some i ∧ 1 ≤ i ∧ i ≤ 5 := by
  intro t h
  cases t <;> first | (exact absurd h (by decide)) | (exact ⟨5, by decide, by decide, by decide⟩) | (exact ⟨3, by decide, by decide, by decide⟩) | (exact ⟨2, by decide, by decide, by decide⟩)
theorem no_lv : ∀ {t : Tk}, t.op = false → opLv t.s = none := by
  intro t h
  cases t <;> first | (exact absurd h (by decide)) | decide

def Fin (ts : List Tk) : Prop := ts.getLast? = some .fin
theorem fin_tail {t : Tk} {r : List Tk} (h : Fin (t :: r)) (ht : t ≠ .fin) : ∃ u r', r = u :: r' ∧ Fin r := by
  cases r with
  | nil => exact absurd (by simpa [Fin] using h) ht
  | cons u r' => exact ⟨u, r', rfl, by simpa [Fin] using h⟩

/-- where a call with this priority stops -/
def Stop (pr : Int) (t : Tk) : Prop := (∀ i, opLv t.s = some i → i < pr) ∧ (pr ≤ 0 → t ≠ .ask)

/-- what a parse of ts at a priority comes to, and the walk from left to right beside it -/
def Comes (P : Int → List Str → Out → Prop) (pr : Int) (ts : List Tk) : Prop :=
  (∃ wd r, P pr (ts.map Tk.s) (.err wd (List.map Tk.s r)) ∧ r.length < ts.length ∧ ∀ st, auto true st ts = .err wd (r.map Tk.s)) ∨
  (∃ t r, P pr (ts.map Tk.s) (.ok (Tk.s t) (List.map Tk.s r)) ∧ Stop pr t ∧ Fin (t :: r) ∧ (t :: r).length < ts.length ∧ ∀ st, auto true st ts = auto false st (t :: r))

def OpsC (P : Int → List Str → Out → Prop) (pr : Int) (t : Tk) (r : List Tk) : Prop :=
  (∃ wd r', Ops P pr t.s (r.map Tk.s) (.err wd (List.map Tk.s r')) ∧ r'.length ≤ r.length ∧ ∀ st, auto false st (t :: r) = .err wd (r'.map Tk.s)) ∨
  (∃ t' r', Ops P pr t.s (r.map Tk.s) (.ok (Tk.s t') (List.map Tk.s r')) ∧ (∀ i, opLv t'.s = some i → i < pr) ∧ Fin (t' :: r') ∧ r'.length ≤ r.length ∧ ∀ st, auto false st (t :: r) = auto false st (t' :: r'))

theorem ops_comes {P : Int → List Str → Out → Prop} {N : Nat} (ih : ∀ pr ts, pr ≤ 7 → ts.length ≤ N → Fin ts → Comes P pr ts) (pr : Int) (hpr : pr ≤ 7) :
    ∀ (k : Nat) (t : Tk) (r : List Tk), r.length ≤ k → r.length ≤ N → Fin (t :: r) → OpsC P pr t r := by
  intro k
  induction k with
  | zero =>
    intro t r hk hN hf
    have hr : r = [] := List.eq_nil_of_length_eq_zero (by omega)
    subst hr
    have ht : t = .fin := by simpa [Fin] using hf
    subst ht
    refine .inr ⟨.fin, [], .stop (by decide), ?_, hf, Nat.le_refl _, fun _ => rfl⟩
    intro i hi
    exact absurd hi (by rw [show opLv (Tk.s .fin) = none by decide]; intro q; cases q)
  | succ k hk =>
    intro t r hlen hN hf
    cases ho : t.op with
    | false => exact .inr ⟨t, r, .stop (no_lv ho), (fun i hi => by rw [no_lv ho] at hi; cases hi), hf, Nat.le_refl _, fun _ => rfl⟩
    | true =>
      obtain ⟨i, hi, h1, h5⟩ := op_lv ho
      by_cases hp : i < pr
      · exact .inr ⟨t, r, .low hi hp, (fun j hj => by rw [hi] at hj; cases hj; exact hp), hf, Nat.le_refl _, fun _ => rfl⟩
      · have ea : ∀ st, auto false st (t :: r) = auto true st r := fun st => by simp [auto, ho]
        obtain ⟨u, r', rfl, hf'⟩ := fin_tail hf (by intro e; subst e; cases ho)
        rcases ih (i + 1) (u :: r') (by omega) hN hf' with ⟨wd, r2, h, hl, hq⟩ | ⟨t2, r2, h, hs, hf2, hl, hq⟩
        · exact .inl ⟨wd, r2, .fail hi (by omega) h, by omega, fun st => (ea st).trans (hq st)⟩
        · have hl2 : r2.length + 1 < (u :: r').length := hl
          rcases hk t2 r2 (by omega) (by omega) hf2 with ⟨wd, r3, g, hl3, gq⟩ | ⟨t3, r3, g, gs, gf, hl3, gq⟩
          · exact .inl ⟨wd, r3, .step hi (by omega) h g, by omega, fun st => ((ea st).trans (hq st)).trans (gq st)⟩
          · exact .inr ⟨t3, r3, .step hi (by omega) h g, gs, gf, by omega, fun st => ((ea st).trans (hq st)).trans (gq st)⟩

def TailC (P : Int → List Str → Out → Prop) (pr : Int) (t : Tk) (r : List Tk) : Prop :=
  (∃ wd r', Tail P pr t.s (r.map Tk.s) (.err wd (List.map Tk.s r')) ∧ r'.length ≤ r.length ∧ ∀ st, auto false st (t :: r) = .err wd (r'.map Tk.s)) ∨
  (∃ t' r', Tail P pr t.s (r.map Tk.s) (.ok (Tk.s t') (List.map Tk.s r')) ∧ Stop pr t' ∧ Fin (t' :: r') ∧ r'.length ≤ r.length ∧ ∀ st, auto false st (t :: r) = auto false st (t' :: r'))

theorem stop_no {pr : Int} {t : Tk} (h : Stop pr t) (hp : pr ≤ 0) : t.op = false ∧ t ≠ .ask := by
  refine ⟨?_, h.2 hp⟩
  cases ho : t.op with
  | false => rfl
  | true =>
    obtain ⟨i, hi, h1, h5⟩ := op_lv ho
    have := h.1 i hi
    omega

theorem tail_comes {P : Int → List Str → Out → Prop} {N : Nat} (ih : ∀ pr ts, pr ≤ 7 → ts.length ≤ N → Fin ts → Comes P pr ts) (pr : Int) (t : Tk) (r : List Tk) (hN : r.length ≤ N) (hf : Fin (t :: r)) (hs : ∀ i, opLv t.s = some i → i < pr) : TailC P pr t r := by
  by_cases hc : t = .ask ∧ pr ≤ 0
  · obtain ⟨rfl, hp⟩ := hc
    obtain ⟨u, r', rfl, hf'⟩ := fin_tail hf (by decide)
    have ea : ∀ st, auto false st (.ask :: u :: r') = auto true (false :: st) (u :: r') := fun st => rfl
    rcases ih 0 (u :: r') (by decide) hN hf' with ⟨wd, r2, h, hl, hq⟩ | ⟨t2, r2, h, h2s, hf2, hl, hq⟩
    · exact .inl ⟨wd, r2, .ifErr hp h, by omega, fun st => (ea st).trans (hq _)⟩
    · have hl2 : r2.length + 1 < (u :: r').length := hl
      obtain ⟨no, na⟩ := stop_no h2s (by decide)
      by_cases hcol : t2 = .col
      · subst hcol
        obtain ⟨u2, r2', rfl, hf3⟩ := fin_tail hf2 (by decide)
        have eb : ∀ st, auto true (false :: st) (u :: r') = auto true st (u2 :: r2') := fun st => (hq _).trans rfl
        rcases ih (-1) (u2 :: r2') (by decide) (by omega) hf3 with ⟨wd, r3, g, gl, gq⟩ | ⟨t3, r3, g, gs, gf, gl, gq⟩
        · exact .inl ⟨wd, r3, .ifBad hp h g, by omega, fun st => ((ea st).trans (eb st)).trans (gq st)⟩
        · have gl2 : r3.length + 1 < (u2 :: r2').length := gl
          obtain ⟨no3, na3⟩ := stop_no gs (by decide)
          exact .inr ⟨t3, r3, .ifOk hp h g, ⟨(fun i hi => by rw [no_lv no3] at hi; cases hi), fun _ => na3⟩, gf, by omega, fun st => ((ea st).trans (eb st)).trans (gq st)⟩
      · refine .inl ⟨errWords t2.s, r2, .ifTok hp h (s_ne (b := .col) hcol), by omega, fun st => ((ea st).trans (hq _)).trans ?_⟩
        simp [auto, no, na, hcol]
  · refine .inr ⟨t, r, .plain fun q => hc ⟨inj_s (b := .ask) q.1, q.2⟩, ⟨hs, fun hp e => hc ⟨e, hp⟩⟩, hf, Nat.le_refl _, fun _ => rfl⟩

theorem behind_comes {P : Int → List Str → Out → Prop} {N : Nat} (ih : ∀ pr ts, pr ≤ 7 → ts.length ≤ N → Fin ts → Comes P pr ts) (pr : Int) (hpr : pr ≤ 7) {ts ts' : List Tk} {t : Tk} {r : List Tk} (hb : Bangs (ts.map Tk.s) (ts'.map Tk.s)) (ho : Opd P (ts'.map Tk.s) none ((t :: r).map Tk.s)) (hN : r.length ≤ N) (hf : Fin (t :: r)) (hl : (t :: r).length < ts.length)
    (ea : ∀ st, auto true st ts = auto false st (t :: r)) : Comes (ParseS P) pr ts := by
  have hl' : r.length + 1 < ts.length := hl
  rcases ops_comes ih pr hpr r.length t r (Nat.le_refl _) hN hf with ⟨wd, r2, h, h2, hq⟩ | ⟨t2, r2, h, hs, hf2, h2, hq⟩
  · exact .inl ⟨wd, r2, .ops hb ho h, by omega, fun st => (ea st).trans (hq st)⟩
  · rcases tail_comes ih pr t2 r2 (by omega) hf2 hs with ⟨wd, r3, g, g2, gq⟩ | ⟨t3, r3, g, gs, gf, g2, gq⟩
    · exact .inl ⟨wd, r3, .all hb ho h g, by omega, fun st => ((ea st).trans (hq st)).trans (gq st)⟩
    · exact .inr ⟨t3, r3, .all hb ho h g, gs, gf, by show r3.length + 1 < _; omega, fun st => ((ea st).trans (hq st)).trans (gq st)⟩

theorem bangs_of : ∀ (ts : List Tk), Fin ts → ∃ t r, Bangs (ts.map Tk.s) ((t :: r).map Tk.s) ∧ t ≠ .bang ∧ Fin (t :: r) ∧ (t :: r).length ≤ ts.length ∧ ∀ st, auto true st ts = auto true st (t :: r)
  | [], h => by cases h
  | t :: r, h => by
    by_cases hb : t = .bang
    · subst hb
      obtain ⟨u, r', rfl, hf⟩ := fin_tail h (by decide)
      obtain ⟨t2, r2, h1, h2, h3, h4, h5⟩ := bangs_of (u :: r') hf
      exact ⟨t2, r2, .cons h1, h2, h3, Nat.le_trans h4 (Nat.le_succ _), fun st => (h5 st ▸ rfl : auto true st (.bang :: u :: r') = _)⟩
    · exact ⟨t, r, .nil (s_ne (b := .bang) hb), hb, h, Nat.le_refl _, fun _ => rfl⟩

theorem bad_s : ∀ {t : Tk}, t.opd = false → t ≠ .bang → t ≠ .lp → Bad t.s := by
  intro t h1 h2 h3
  cases t
  all_goals first
    | exact absurd h1 (by decide)
    | exact absurd rfl h2
    | exact absurd rfl h3
    | exact ⟨by decide +kernel, fun c hc => List.all_eq_true.mp (show (Tk.s _).cps.toList.all (fun c => decide (c < 16 ^ 8)) = true by decide +kernel) c hc |> of_decide_eq_true⟩

theorem comes_all : ∀ (n : Nat) (pr : Int) (ts : List Tk), pr ≤ 7 → ts.length ≤ n → Fin ts → Comes (Parse n) pr ts
  | 0, pr, ts, _, hl, hf => by
    have : ts = [] := List.eq_nil_of_length_eq_zero (by omega)
    subst this; cases hf
  | n + 1, pr, ts, hpr, hl, hf => by
    have ih := comes_all n
    obtain ⟨t, r, hb, hnb, hft, hlt, hq⟩ := bangs_of ts hf
    have hlt' : r.length + 1 ≤ ts.length := hlt
    show Comes (ParseS (Parse n)) pr ts
    by_cases hop : t.opd = true
    · have ht : t ≠ .fin := by intro e; subst e; cases hop
      obtain ⟨u, r', rfl, hf'⟩ := fin_tail hft ht
      have hlt2 : r'.length + 1 + 1 ≤ ts.length := hlt'
      have ea : ∀ st, auto true st ts = auto false st (u :: r') := fun st => (hq st).trans (by simp [auto, hop])
      refine behind_comes ih pr hpr hb ?_ (by omega) hf' (by show r'.length + 1 < _; omega) ea
      cases t <;> first | exact absurd hop (by decide) | exact .var | exact .num (v := 12) (by decide) (by decide) (by decide) (by decide +kernel) (by decide) (by decide) | exact .num (v := 0) (by decide) (by decide) (by decide) (by decide +kernel) (by decide) (by decide)
    · have hop : t.opd = false := by simpa using hop
      by_cases hlp : t = .lp
      · subst hlp
        obtain ⟨u, r', rfl, hf'⟩ := fin_tail hft (by decide)
        have hlt2 : r'.length + 1 + 1 ≤ ts.length := hlt'
        have ea : ∀ st, auto true st ts = auto true (true :: st) (u :: r') := fun st => (hq st).trans rfl
        rcases ih (-1) (u :: r') (by decide) (by show r'.length + 1 ≤ _; omega) hf' with ⟨wd, r2, h, h2, gq⟩ | ⟨t2, r2, h, hs, hf2, h2, gq⟩
        · have h2' : r2.length < r'.length + 1 := h2
          exact .inl ⟨wd, r2, .opd hb (.inner h), by omega, fun st => (ea st).trans (gq _)⟩
        · have h2' : r2.length + 1 < r'.length + 1 := h2
          obtain ⟨no, na⟩ := stop_no hs (by decide)
          by_cases hrp : t2 = .rp
          · subst hrp
            obtain ⟨u3, r3, rfl, hf3⟩ := fin_tail hf2 (by decide)
            have h3' : r3.length + 1 + 1 < r'.length + 1 := h2'
            exact behind_comes ih pr hpr hb (.par h) (by omega) hf3 (by show r3.length + 1 < _; omega) fun st => ((ea st).trans (gq _)).trans rfl
          · refine .inl ⟨unbal, r2, .opd hb (.unb h (s_ne (b := .rp) hrp)), by omega, fun st => ((ea st).trans (gq _)).trans ?_⟩
            simp [auto, no, na, hrp]
      · refine .inl ⟨errWords t.s, r, .opd hb (.bad (s_ne (b := .bang) hnb) (s_ne (b := .lp) hlp) (s_ne (b := .n) fun e => by subst e; cases hop) (bad_s hop hnb hlp)), by omega, fun st => (hq st).trans ?_⟩
        simp [auto, hop, hnb, hlp]
end Mine


set_option maxRecDepth 100000
namespace Mine

/-- the walk's state: the open ones with the newest first -/
structure St where
  kept : List Tk
  told : List (Nat × Str)
  opened : List Bool
  due : Bool

def Tk.shuts (t : Tk) : Bool := !(t.op || decide (t = .ask) || decide (t = .rp))
def endWords : Str := errWords (Tk.s .fin)
def St.drop (S : St) (t : Tk) : St := { S with told := S.told ++ [(S.kept.length, errWords t.s)] }
def St.put (S : St) (t : Tk) : St :=
  if S.due = true then
    if t.opd = true then { S with kept := S.kept ++ [t], due := false }
    else if t = .bang then { S with kept := S.kept ++ [t] }
    else if t = .lp then { S with kept := S.kept ++ [t], opened := true :: S.opened }
    else S.drop t
  else if t.op = true then { S with kept := S.kept ++ [t], due := true }
  else if t = .ask then { S with kept := S.kept ++ [t], opened := false :: S.opened, due := true }
  else match S.opened with
    | true :: o => if t = .rp then { S with kept := S.kept ++ [t], opened := o, due := false } else S.drop t
    | false :: o => if t = .col then { S with kept := S.kept ++ [t], opened := o, due := true } else S.drop t
    | [] => S.drop t
def shutAll : List Bool → List Tk → List (Nat × Str) → List Bool × List Tk × List (Nat × Str)
  | true :: o, k, d => shutAll o (k ++ [.rp]) (d ++ [(k.length, unbal)])
  | o, k, d => (o, k, d)
def St.shut (S : St) : St := let r := shutAll S.opened S.kept S.told; { kept := r.2.1, told := r.2.2, opened := r.1, due := S.due }
def St.turn (S : St) (t : Tk) : St := (if S.due = false ∧ t.shuts = true then S.shut else S).put t
/-- one bracket shut -/
def St.pop (S : St) (o : List Bool) : St := { kept := S.kept ++ [.rp], told := S.told ++ [(S.kept.length, unbal)], opened := o, due := S.due }

theorem turn_pop {S : St} {t : Tk} {o : List Bool} (h1 : S.due = false) (h2 : S.opened = true :: o) (h3 : t.shuts = true) : S.turn t = (S.pop o).turn t := by
  unfold St.turn
  rw [if_pos ⟨h1, h3⟩, if_pos ⟨h1, h3⟩]
  unfold St.shut St.pop
  rw [h2]
  rfl
theorem turn_put {S : St} {t : Tk} (h : ¬ (S.due = false ∧ S.opened.head? = some true ∧ t.shuts = true)) : S.turn t = S.put t := by
  unfold St.turn
  split
  · rename_i q
    obtain ⟨kept, told, opened, due⟩ := S
    have : shutAll opened kept told = (opened, kept, told) := by
      cases opened with
      | nil => rfl
      | cons b o =>
        cases b with
        | false => rfl
        | true => exact absurd ⟨q.1, rfl, q.2⟩ h
    unfold St.shut
    rw [this]
  · rfl

/-- the end's turns -/
def endW : Nat → Bool → List Bool → List Tk → List (Nat × Str) → List Tk × List (Nat × Str)
  | 0, _, _, k, d => (k, d)
  | n + 1, true, o, k, d => endW n false o (k ++ [.n]) (d ++ [(k.length, endWords)])
  | _ + 1, false, [], k, d => (k, d)
  | n + 1, false, true :: o, k, d => endW n false o (k ++ [.rp]) (d ++ [(k.length, unbal)])
  | n + 1, false, false :: o, k, d => endW n true o (k ++ [.col]) (d ++ [(k.length, endWords)])
def bN (b : Bool) : Nat := if b then 1 else 0
def fuelE (due : Bool) (o : List Bool) : Nat := 2 * o.length + bN due + 1
theorem endW_more : ∀ (n m : Nat) (due : Bool) (o : List Bool) (k : List Tk) (d : List (Nat × Str)), fuelE due o ≤ n → fuelE due o ≤ m → endW n due o k d = endW m due o k d := by
  intro n
  induction n with
  | zero => intro m due o k d h; unfold fuelE at h; omega
  | succ n ih =>
    intro m due o k d h1 h2
    cases m with
    | zero => unfold fuelE at h2; omega
    | succ m =>
      unfold fuelE at h1 h2
      cases due with
      | true => exact ih m false o _ _ (by simp [fuelE, bN] at *; omega) (by simp [fuelE, bN] at *; omega)
      | false =>
        cases o with
        | nil => rfl
        | cons b o =>
          cases b with
          | true => exact ih m false o _ _ (by simp [fuelE, bN] at *; omega) (by simp [fuelE, bN] at *; omega)
          | false => exact ih m true o _ _ (by simp [fuelE, bN] at *; omega) (by simp [fuelE, bN] at *; omega)
def St.fin (S : St) : List Tk × List (Nat × Str) := endW (fuelE S.due S.opened) S.due S.opened S.kept S.told
theorem fin_due {S : St} (h : S.due = true) : S.fin = St.fin { S with kept := S.kept ++ [.n], told := S.told ++ [(S.kept.length, endWords)], due := false } := by
  obtain ⟨kept, told, opened, due⟩ := S
  subst h
  rfl
theorem fin_done {S : St} (h : S.due = false) (ho : S.opened = []) : S.fin = (S.kept, S.told) := by
  obtain ⟨kept, told, opened, due⟩ := S
  cases h; cases ho
  rfl
theorem fin_pop {S : St} {o : List Bool} (h : S.due = false) (ho : S.opened = true :: o) : S.fin = St.fin (S.pop o) := by
  obtain ⟨kept, told, opened, due⟩ := S
  cases h; cases ho
  exact endW_more _ _ false o _ _ (by simp [fuelE, bN] <;> omega) (Nat.le_refl _)
theorem fin_col {S : St} {o : List Bool} (h : S.due = false) (ho : S.opened = false :: o) : S.fin = St.fin { S with kept := S.kept ++ [.col], told := S.told ++ [(S.kept.length, endWords)], opened := o, due := true } := by
  obtain ⟨kept, told, opened, due⟩ := S
  cases h; cases ho
  exact endW_more _ _ true o _ _ (by simp [fuelE, bN] <;> omega) (Nat.le_refl _)
def St.rest (S : St) (rem : List Tk) : List Tk × List (Nat × Str) := (rem.foldl St.turn S).fin
theorem rest_cons (S : St) (t : Tk) (r : List Tk) : S.rest (t :: r) = (S.turn t).rest r := rfl

def lastOpd (k : List Tk) : Bool := match k.getLast? with | some t => t.opd || decide (t = .rp) | none => false
/-- what is kept is what the walk has read -/
structure Cfg (S : St) : Prop where
  run : ∀ x, auto true [] (S.kept ++ x) = auto S.due S.opened x
  last : lastOpd S.kept = !S.due
theorem last_snoc (k : List Tk) (t : Tk) : lastOpd (k ++ [t]) = (t.opd || decide (t = .rp)) := by unfold lastOpd; simp

def mend (row : List Tk) (p : Nat) (wd : Str) : List Tk :=
  if wd = unbal then row.take p ++ [.rp] ++ row.drop p else if wd ≠ endWords then row.take p ++ row.drop (p + 1) else if lastOpd row = true then row ++ [.col] else row ++ [.n]
def psi (S : St) (rem : List Tk) : Nat := 3 * rem.length + 2 * S.opened.length + bN S.due

/-- one refusal -/
structure Step (S : St) (rem : List Tk) (S' : St) (rem' : List Tk) (out : Out) : Prop where
  cfg : Cfg S'
  out : ∃ wd r, r.length ≤ (S.kept ++ rem).length ∧ (out = .err wd (List.map Tk.s r) ∨ ∃ t, t ≠ Tk.fin ∧ out = .ok t.s (List.map Tk.s r) ∧ wd = errWords t.s) ∧ S'.told = S.told ++ [((S.kept ++ rem).length - r.length, wd)] ∧ mend (S.kept ++ rem) ((S.kept ++ rem).length - r.length) wd = S'.kept ++ rem' ∧ PyData.strOk wd = true
  same : S'.rest rem' = S.rest rem
  less : psi S' rem' < psi S rem
  nofin : Tk.fin ∉ rem'
  nokept : Tk.fin ∉ S'.kept
  size : (S'.kept ++ rem').length ≤ (S.kept ++ rem).length + 1

theorem words_ne : ∀ {t : Tk}, t ≠ .fin → errWords t.s ≠ unbal ∧ errWords t.s ≠ endWords ∧ PyData.strOk (errWords t.s) = true := by
  intro t h
  cases t <;> first | exact absurd rfl h | exact ⟨by decide +kernel, by decide +kernel, by decide +kernel⟩
theorem end_ne : endWords ≠ unbal := by decide +kernel
theorem mend_drop {k r : List Tk} {t : Tk} (h : t ≠ .fin) : mend (k ++ t :: r) ((k ++ t :: r).length - (r ++ [Tk.fin]).length) (errWords t.s) = k ++ r := by
  obtain ⟨h1, h2, -⟩ := words_ne h
  have e : (k ++ t :: r).length - (r ++ [Tk.fin]).length = k.length := by simp <;> omega
  unfold mend
  rw [if_neg h1, if_pos h2, e]
  simp
theorem drop_step {S : St} {t : Tk} {r : List Tk} (hC : Cfg S) (ht : t ≠ .fin) (hr : Tk.fin ∉ r) (hk : Tk.fin ∉ S.kept) (hp : S.turn t = S.drop t) {out : Out} (ho : out = .err (errWords t.s) (List.map Tk.s (r ++ [Tk.fin])) ∨ out = .ok t.s (List.map Tk.s (r ++ [Tk.fin]))) : Step S (t :: r) (S.drop t) r out where
  cfg := ⟨hC.run, hC.last⟩
  out := by
    refine ⟨errWords t.s, r ++ [Tk.fin], by simp, ?_, ?_, mend_drop ht, (words_ne ht).2.2⟩
    · rcases ho with ho | ho
      · exact .inl ho
      · exact .inr ⟨t, ht, ho, rfl⟩
    · have e : (S.kept ++ t :: r).length - (r ++ [Tk.fin]).length = S.kept.length := by simp <;> omega
      rw [e]; rfl
  same := by rw [rest_cons, hp]
  less := by show 3 * r.length + 2 * S.opened.length + bN S.due < 3 * (r.length + 1) + 2 * S.opened.length + bN S.due; omega
  nofin := hr
  nokept := hk
  size := by simp [St.drop] <;> omega

theorem step_words : ∀ (rem : List Tk) (S : St), Cfg S → Tk.fin ∉ rem → Tk.fin ∉ S.kept →
    (auto true [] ((S.kept ++ rem) ++ [Tk.fin]) = .ok (Tk.s .fin) [] ∧ S.rest rem = (S.kept ++ rem, S.told)) ∨ ∃ S' rem', Step S rem S' rem' (auto true [] ((S.kept ++ rem) ++ [Tk.fin])) := by
  intro rem
  induction rem with
  | nil =>
    intro S hC _ hk
    rw [List.append_nil, hC.run]
    have hrest : S.rest [] = S.fin := rfl
    cases hd : S.due with
    | true =>
      refine .inr ⟨_, [], ⟨fun x => ?_, by rw [last_snoc]; rfl⟩, ⟨endWords, [], by simp, .inl ?_, ?_, ?_, by decide +kernel⟩, (fin_due hd).symm.trans hrest.symm, ?_, by simp, ?_, ?_⟩
      · show auto true [] (S.kept ++ [Tk.n] ++ x) = auto false S.opened x
        rw [List.append_assoc, hC.run, hd]
        rfl
      · rfl
      · simp
      · unfold mend
        rw [if_neg end_ne, if_neg (fun h => h rfl), List.append_nil, hC.last, hd]
        simp
      · simp [psi, hd, bN]
      · simpa using hk
      · simp
    | false =>
      cases ho : S.opened with
      | nil => exact .inl ⟨rfl, by rw [hrest, fin_done hd ho]⟩
      | cons b o =>
        cases b with
        | true =>
          refine .inr ⟨S.pop o, [], ⟨fun x => ?_, ?_⟩, ⟨unbal, [], by simp, .inl ?_, ?_, ?_, by decide +kernel⟩, (fin_pop hd ho).symm.trans hrest.symm, ?_, by simp, ?_, ?_⟩
          · show auto true [] (S.kept ++ [Tk.rp] ++ x) = auto S.due o x
            rw [List.append_assoc, hC.run, hd, ho]
            rfl
          · show lastOpd (S.kept ++ [Tk.rp]) = !S.due
            rw [last_snoc, hd]; rfl
          · rfl
          · simp [St.pop]
          · unfold mend
            rw [if_pos rfl]
            simp [St.pop]
          · simp [psi, hd, ho, bN, St.pop] <;> omega
          · simpa [St.pop] using hk
          · simp [St.pop]
        | false =>
          refine .inr ⟨_, [], ⟨fun x => ?_, by rw [last_snoc]; rfl⟩, ⟨endWords, [], by simp, .inl ?_, ?_, ?_, by decide +kernel⟩, (fin_col hd ho).symm.trans hrest.symm, ?_, by simp, ?_, ?_⟩
          · show auto true [] (S.kept ++ [Tk.col] ++ x) = auto true o x
            rw [List.append_assoc, hC.run, hd, ho]
            rfl
          · rfl
          · simp
          · unfold mend
            rw [if_neg end_ne, if_neg (fun h => h rfl), List.append_nil, hC.last, hd]
            simp
          · simp [psi, hd, ho, bN] <;> omega
          · simpa using hk
          · simp
  | cons t r ih =>
    intro S hC hnf hk
    have ht : t ≠ .fin := fun e => hnf (e ▸ .head _)
    have hr : Tk.fin ∉ r := fun h => hnf (.tail _ h)
    have e1 : S.kept ++ t :: r ++ [Tk.fin] = S.kept ++ (t :: (r ++ [Tk.fin])) := by simp
    have er : ∀ S' : St, S'.kept = S.kept ++ [t] → S'.kept ++ r = S.kept ++ t :: r := fun S' h => by rw [h]; simp
    -- a token that is taken
    have acc : ∀ S' : St, S.turn t = S' → S'.kept = S.kept ++ [t] → S'.told = S.told → (∀ x, auto S.due S.opened (t :: x) = auto S'.due S'.opened x) → (t.opd || decide (t = .rp)) = !S'.due → psi S' r ≤ psi S (t :: r) → ((auto true [] (S.kept ++ t :: r ++ [Tk.fin]) = .ok (Tk.s .fin) [] ∧ S.rest (t :: r) = (S.kept ++ t :: r, S.told)) ∨ ∃ S' rem', Step S (t :: r) S' rem' (auto true [] (S.kept ++ t :: r ++ [Tk.fin]))) := fun S' hturn hkept htold hrun hlast hpsi => by
      have hC' : Cfg S' := ⟨fun x => by rw [hkept, List.append_assoc]; exact (hC.run _).trans (hrun x), by rw [hkept, last_snoc]; exact hlast⟩
      have hk' : Tk.fin ∉ S'.kept := by rw [hkept]; simp [hk, Ne.symm ht]
      have hih := ih S' hC' hr hk'
      rw [er S' hkept] at hih
      rcases hih with ⟨h1, h2⟩ | ⟨S2, rem2, hs⟩
      · exact Or.inl ⟨h1, by rw [rest_cons, hturn, h2, htold]⟩
      · refine Or.inr ⟨S2, rem2, hs.cfg, ?_, ?_, Nat.lt_of_lt_of_le hs.less hpsi, hs.nofin, hs.nokept, ?_⟩
        · have := hs.out
          rw [er S' hkept, htold] at this
          exact this
        · rw [rest_cons, hturn]; exact hs.same
        · have := hs.size
          rw [er S' hkept] at this
          exact this
    cases hd : S.due with
    | true =>
      have hput : S.turn t = S.put t := turn_put fun q => by rw [hd] at q; cases q.1
      have hput2 : S.put t = if t.opd = true then { S with kept := S.kept ++ [t], due := false } else if t = .bang then { S with kept := S.kept ++ [t] } else if t = .lp then { S with kept := S.kept ++ [t], opened := true :: S.opened } else S.drop t := by
        unfold St.put; rw [if_pos hd]
      by_cases h1 : t.opd = true
      · refine acc _ (hput.trans (hput2.trans (if_pos h1))) rfl rfl (fun x => ?_) ?_ ?_
        · rw [hd]; simp [auto, h1]
        · simp [h1]
        · simp [psi, hd, bN] <;> omega
      · have h1' : t.opd = false := by simpa using h1
        rw [if_neg h1] at hput2
        by_cases h2 : t = .bang
        · rw [if_pos h2] at hput2
          subst h2
          refine acc _ (hput.trans hput2) rfl rfl (fun x => ?_) ?_ ?_
          · show auto S.due S.opened (.bang :: x) = auto S.due S.opened x
            rw [hd]; rfl
          · show _ = !S.due
            rw [hd]; rfl
          · simp [psi] <;> omega
        · rw [if_neg h2] at hput2
          by_cases h3 : t = .lp
          · rw [if_pos h3] at hput2
            subst h3
            refine acc _ (hput.trans hput2) rfl rfl (fun x => ?_) ?_ ?_
            · show auto S.due S.opened (.lp :: x) = auto S.due (true :: S.opened) x
              rw [hd]; rfl
            · show _ = !S.due
              rw [hd]; rfl
            · simp [psi] <;> omega
          · rw [if_neg h3] at hput2
            refine .inr ⟨S.drop t, r, drop_step hC ht hr hk (hput.trans hput2) (.inl ?_)⟩
            rw [e1, hC.run, hd]
            simp [auto, h1', h2, h3]
    | false =>
      have hput2 : S.put t = if t.op = true then { S with kept := S.kept ++ [t], due := true } else if t = .ask then { S with kept := S.kept ++ [t], opened := false :: S.opened, due := true } else match S.opened with
          | true :: o => if t = .rp then { S with kept := S.kept ++ [t], opened := o, due := false } else S.drop t
          | false :: o => if t = .col then { S with kept := S.kept ++ [t], opened := o, due := true } else S.drop t
          | [] => S.drop t := by
        unfold St.put; rw [if_neg (by rw [hd]; decide)]
      by_cases h1 : t.op = true
      · rw [if_pos h1] at hput2
        have hput : S.turn t = S.put t := turn_put fun q => by have := q.2.2; simp [Tk.shuts, h1] at this
        refine acc _ (hput.trans hput2) rfl rfl (fun x => ?_) ?_ ?_
        · rw [hd]; simp [auto, h1]
        · cases t <;> first | (exact absurd h1 (by decide)) | rfl
        · simp [psi, hd, bN] <;> omega
      · have h1' : t.op = false := by simpa using h1
        rw [if_neg h1] at hput2
        by_cases h2 : t = .ask
        · rw [if_pos h2] at hput2
          subst h2
          have hput : S.turn .ask = S.put .ask := turn_put fun q => by have := q.2.2; simp [Tk.shuts] at this
          refine acc _ (hput.trans hput2) rfl rfl (fun x => ?_) rfl ?_
          · rw [hd]; rfl
          · simp [psi, hd, bN] <;> omega
        · rw [if_neg h2] at hput2
          cases ho : S.opened with
          | nil =>
            rw [ho] at hput2
            have hput : S.turn t = S.put t := turn_put fun q => by have := q.2.1; rw [ho] at this; cases this
            refine .inr ⟨S.drop t, r, drop_step hC ht hr hk (hput.trans hput2) (.inr ?_)⟩
            rw [e1, hC.run, hd, ho]
            simp [auto, h1', h2]
          | cons b o =>
            cases b with
            | true =>
              rw [ho] at hput2
              by_cases h3 : t = .rp
              · subst h3
                have hput : S.turn .rp = S.put .rp := turn_put fun q => by have := q.2.2; simp [Tk.shuts] at this
                refine acc _ (hput.trans (hput2.trans (if_pos rfl))) rfl rfl (fun x => ?_) rfl ?_
                · rw [hd, ho]; rfl
                · simp [psi, hd, ho, bN] <;> omega
              · have hs : t.shuts = true := by simp [Tk.shuts, h1', h2, h3]
                refine .inr ⟨S.pop o, t :: r, ⟨fun x => ?_, ?_⟩, ⟨unbal, r ++ [Tk.fin], by simp, .inl ?_, ?_, ?_, by decide +kernel⟩, ?_, ?_, hnf, ?_, ?_⟩
                · show auto true [] (S.kept ++ [Tk.rp] ++ x) = auto S.due o x
                  rw [List.append_assoc, hC.run, hd, ho]
                  rfl
                · show lastOpd (S.kept ++ [Tk.rp]) = !S.due
                  rw [last_snoc, hd]; rfl
                · rw [e1, hC.run, hd, ho]
                  simp [auto, h1', h2, h3]
                · have e : (S.kept ++ t :: r).length - (r ++ [Tk.fin]).length = S.kept.length := by simp <;> omega
                  rw [e]; rfl
                · have e : (S.kept ++ t :: r).length - (r ++ [Tk.fin]).length = S.kept.length := by simp <;> omega
                  unfold mend
                  rw [if_pos rfl, e]
                  simp [St.pop]
                · rw [rest_cons, rest_cons, turn_pop hd ho hs]
                · simp [psi, hd, ho, bN, St.pop] <;> omega
                · simpa [St.pop] using hk
                · simp [St.pop] <;> omega
            | false =>
              rw [ho] at hput2
              have hput : S.turn t = S.put t := turn_put fun q => by have := q.2.1; rw [ho] at this; cases this
              by_cases h3 : t = .col
              · subst h3
                refine acc _ (hput.trans (hput2.trans (if_pos rfl))) rfl rfl (fun x => ?_) rfl ?_
                · rw [hd, ho]; rfl
                · simp [psi, hd, ho, bN] <;> omega
              · refine .inr ⟨S.drop t, r, drop_step hC ht hr hk (hput.trans (hput2.trans (if_neg h3))) (.inl ?_)⟩
                rw [e1, hC.run, hd, ho]
                simp [auto, h1', h2, h3]

/-- the answer as data -/
def toldData (d : List (Nat × Str)) : List PyData := d.map fun p => .list [.int (p.1 : Int), .str p.2]
def resData (r : List Tk × List (Nat × Str)) : PyData := .list [.list (r.1.map fun t => .str t.s), .list (toldData r.2)]

/-- what the parser comes to on a row -/
theorem parse_row (n : Nat) (ts : List Tk) (hl : (ts ++ [Tk.fin]).length ≤ n) : Parse n (-1) ((ts ++ [Tk.fin]).map Tk.s) (auto true [] (ts ++ [Tk.fin])) := by
  rcases comes_all n (-1) (ts ++ [Tk.fin]) (by decide) hl (by simp [Fin]) with ⟨wd, r, h, _, hq⟩ | ⟨t, r, h, hs, hf, _, hq⟩
  · rw [hq []]; exact h
  · rw [hq []]
    obtain ⟨no, na⟩ := stop_no hs (by decide)
    have : auto false [] (t :: r) = .ok t.s (r.map Tk.s) := by simp [auto, no, na]
    rw [this]; exact h
end Mine


set_option maxRecDepth 100000
namespace Mine
theorem ints_get {vs : List Value} {ns : List Int} (h : IntsAre vs ns) {i : Nat} {v : Value} (e : vs.toArray[i]? = some v) : ∃ n t, v = .int n t := by
  rw [List.getElem?_toArray] at e
  induction h generalizing i with
  | nil => cases e
  | cons n t _ ih =>
    cases i with
    | zero => cases e; exact ⟨_, _, rfl⟩
    | succ i => exact ih e
theorem ints_len {vs : List Value} {ns : List Int} (h : IntsAre vs ns) : vs.length = ns.length := by
  induction h with
  | nil => rfl
  | cons _ _ _ ih => simp [ih]

theorem strs_len {vs : List Value} {ns : List Str} (h : StrsAre vs ns) : vs.length = ns.length := by
  induction h with
  | nil => rfl
  | cons _ _ _ ih => simp [ih]
theorem strs_get {vs : List Value} {ns : List Str} (h : StrsAre vs ns) {i : Nat} {v : Value} (e : vs.toArray[i]? = some v) : ∃ n t, v = .str n t ∧ ns[i]? = some n := by
  rw [List.getElem?_toArray] at e
  induction h generalizing i with
  | nil => cases e
  | cons n t _ ih =>
    cases i with
    | zero => cases e; exact ⟨_, _, rfl, rfl⟩
    | succ i => exact ih e
theorem strs_at {vs : List Value} {ns : List Str} (h : StrsAre vs ns) {i : Nat} {n : Str} (e : ns[i]? = some n) : ∃ t, vs[i]? = some (.str n t) := by
  induction h generalizing i with
  | nil => cases e
  | cons n t _ ih =>
    cases i with
    | zero => cases e; exact ⟨_, rfl⟩
    | succ i => exact ih e
theorem take_snoc {α : Type} {l : List α} {i : Nat} {a : α} (e : l[i]? = some a) : l.take (i + 1) = l.take i ++ [a] := by
  rw [List.take_add_one, e]; rfl

/-- a name holds a text, the ledger stands -/
def MidW (s₁ : Shared) (L D2 : Addr) (x : Str) (P : Str → Prop) (news : List (Addr × Obj)) (f : Flow) (s' : Shared) : Prop :=
  f = .next ∧ ∃ (h : Heap) (tk : Nat) (u : Str) (wt : Tok) (mm : Str → Option Value), s' = { s₁ with heap := h, toks := tk } ∧ P u ∧ mm (Str.ofString "texts") = some (.ref D2) ∧ Fr s₁.heap L h (fun y => if y = x then some (.str u wt) else mm y) ∧ News s₁.heap L h news

/-- the errors of some texts, each its own -/
structure Errs (zs : List Value) (ts : List Str) (el : List (Addr × Obj)) : Prop where
  len : zs.length = ts.length
  is : ∀ (i : Nat) t, ts[i]? = some t → ∃ e b tw, zs[i]? = some (.ref e) ∧ (e, excOf b) ∈ el ∧ (b, tupOf [.str (errWords t) tw]) ∈ el
  ne : ∀ (i j : Nat) e, zs[i]? = some (.ref e) → zs[j]? = some (.ref e) → i = j
  kind : ∀ p ∈ el, ∀ v, p.2.data ≠ .cell v
theorem Errs.nil : Errs [] [] [] := ⟨rfl, fun i t h => by simp at h, fun i j e h => by simp at h, fun _ h => nomatch h⟩
theorem Errs.snoc {zs : List Value} {ts : List Str} {el : List (Addr × Obj)} {e b : Addr} {t : Str} {tw : Tok} (x : Errs zs ts el) (ne : ∀ p ∈ el, p.1 ≠ e ∧ p.1 ≠ b) :
    Errs (zs ++ [.ref e]) (ts ++ [t]) ((e, excOf b) :: (b, tupOf [.str (errWords t) tw]) :: el) := by
  have old : ∀ (i : Nat) (e' : Addr), zs[i]? = some (Value.ref e') → e' ≠ e := fun (i : Nat) (e' : Addr) h q => by
    have hi : i < ts.length := by rw [← x.len]; exact (List.getElem?_eq_some_iff.mp h).1
    obtain ⟨e2, b2, tw2, h1, h2, h3⟩ := x.is i _ (List.getElem?_eq_getElem hi)
    rw [h] at h1; cases h1
    exact (ne _ h2).1 q
  refine ⟨by simp [x.len], fun i u h => ?_, fun i j e' h1 h2 => ?_, fun p hp v => ?_⟩
  · rcases Nat.lt_or_ge i ts.length with hi | hi
    · rw [List.getElem?_append_left hi] at h
      obtain ⟨e2, b2, tw2, h1, h2, h3⟩ := x.is i u h
      exact ⟨e2, b2, tw2, by rw [List.getElem?_append_left (by rw [x.len]; exact hi)]; exact h1, .tail _ (.tail _ h2), .tail _ (.tail _ h3)⟩
    · rw [List.getElem?_append_right hi] at h
      have : i - ts.length = 0 := by
        rcases Nat.eq_zero_or_pos (i - ts.length) with q | q
        · exact q
        · rw [List.getElem?_eq_none (by simp; omega)] at h; cases h
      rw [this] at h; cases h
      exact ⟨e, b, tw, by rw [List.getElem?_append_right (by rw [x.len]; exact hi), x.len, this]; rfl, .head _, .tail _ (.head _)⟩
  · have key : ∀ k, (zs ++ [Value.ref e])[k]? = some (.ref e') → (k < zs.length ∧ zs[k]? = some (.ref e')) ∨ (k = zs.length ∧ e' = e) := fun k h => by
      rcases Nat.lt_or_ge k zs.length with hk | hk
      · rw [List.getElem?_append_left hk] at h; exact .inl ⟨hk, h⟩
      · rw [List.getElem?_append_right hk] at h
        have : k - zs.length = 0 := by
          rcases Nat.eq_zero_or_pos (k - zs.length) with q | q
          · exact q
          · rw [List.getElem?_eq_none (by simp; omega)] at h; cases h
        rw [this] at h; cases h
        exact .inr ⟨by omega, rfl⟩
    rcases key i h1 with ⟨a1, a2⟩ | ⟨a1, a2⟩ <;> rcases key j h2 with ⟨b1, b2⟩ | ⟨b1, b2⟩
    · exact x.ne i j e' a2 b2
    · exact absurd b2 (old i e' a2)
    · exact absurd a2 (old j e' b2)
    · omega
  · rcases List.mem_cons.mp hp with rfl | hp
    · intro q; cases q
    · rcases List.mem_cons.mp hp with rfl | hp
      · intro q; cases q
      · exact x.kind p hp v

section
variable {prog : Program} {w : World} {A : Around} {E : Value → Shared → Prop} {s : Shared} {h₀ : Heap} {L l : Addr} {m : Str → Option Value} {news : List (Addr × Obj)} {vs : List Value} {n : Nat}
theorem len_news {Q : Value → Shared → Prop} (N : News h₀ L s.heap news) (hm : (l, listOf vs.toArray n) ∈ news) (hz : vs.length ≤ 1000) (h : ∀ tk u, Q (.int (vs.length : Int) tk) { s with toks := u }) :
    wpAny (model prog w) A (call (.builtin "len") [.ref l]) Q E s := by
  refine call_len_list (N.isList hm) (by simp; omega) ?_
  simpa using h _ _
theorem item_news {value slice : PySem.Expr} {i : Nat} {u : Tok} {v : Value} {Q : Value → Shared → Prop} (N : News h₀ L s.heap news) (hm : (l, listOf vs.toArray n) ∈ news) (hx : vs[i]? = some v) (hz : i < 1000) (h : Q v s)
    (hs : subscripted slice false (.ref l) (.int (i : Int) u) = operate [.ref l, .int (i : Int) u] (getItem (.ref l) (.int (i : Int) u))) (hg : ∀ r, letTemporaryGo value (.ref l) r = pure ()) :
    wpAny (model prog w) A (subscriptTail value slice (.ref l) (.int (i : Int) u)) Q E s :=
  item_list (N.isList hm) (by omega) (by omega) (by simpa using hx) h hs hg

theorem ne_same {a b : Value} {d : PyData} {as bs : List Addr} {Q : Value → Shared → Prop} (ra : Reads s.heap a d as) (rb : Reads s.heap b d bs) (hd : SeqAt.shaped d = true) (hu : A.units + 64 < cLine) (h : Q (.bool false) s) : wpAny (model prog w) A (compareOp .NotEq a b) Q E s :=
  ne_dataH ra rb hd hd hu (by rw [SeqAt.eqv_refl d (SeqAt.canLay_of_shaped hd)]; exact h)
theorem eq_same {a b : Value} {d : PyData} {as bs : List Addr} {Q : Value → Shared → Prop} (ra : Reads s.heap a d as) (rb : Reads s.heap b d bs) (hd : SeqAt.shaped d = true) (hu : A.units + 64 < cLine) (h : Q (.bool true) s) : wpAny (model prog w) A (compareOp .Eq a b) Q E s :=
  eq_dataH ra rb hd hd hu (by rw [SeqAt.eqv_refl d (SeqAt.canLay_of_shaped hd)]; exact h)
theorem reads_strs {h : Heap} {vs : List Value} {xs : List Str} (hs : StrsAre vs xs) : ReadsAll h vs (xs.map .str) [] := by
  induction hs with
  | nil => exact .nil
  | cons x t _ ih => exact readsAll_cons_val (.str x t) ih
theorem reads_one {h : Heap} {x : Str} {t : Tok} (N : News h₀ L h news) (hm : (l, listOf #[.str x t] n) ∈ news) : Reads h (.ref l) (.list [.str x]) [l] :=
  reads_list_at (N _ hm).1 rfl rfl (reads_strs (.cons x t .nil))
theorem reads_two {h : Heap} {a b : Addr} {x y : Str} {t u : Tok} {n₁ n₂ : Nat} (N : News h₀ L h news) (hm : (l, listOf #[.ref a, .ref b] n) ∈ news) (ha : (a, listOf #[.str x t] n₁) ∈ news) (hb : (b, listOf #[.str y u] n₂) ∈ news) :
    ∃ as, Reads h (.ref l) (.list [.list [.str x], .list [.str y]]) as :=
  ⟨_, reads_list_at (N _ hm).1 rfl rfl (.cons (reads_one N ha) (.cons (reads_one N hb) .nil))⟩
end
abbrev ledOf {h₀ h : Heap} {L : Addr} {news : List (Addr × Obj)} (_ : News h₀ L h news) : List (Addr × Obj) := news
abbrev frOf {h₀ h : Heap} {L : Addr} {m : Str → Option Value} (_ : Fr h₀ L h m) : Str → Option Value := m
/-- the five beginnings -/
theorem five_of {h₀ h : Heap} {L l1 l2 l3 l4 l5 lz : Addr} {a1 a2 b1 b2 c1 c2 c3 d1 d2 d3 d4 d5 d6 : Tok} {rest : List (Addr × Obj)} {u : Str}
    (N : News h₀ L h ((lz, listOf #[.ref l1, .ref l2, .ref l3, .ref l4, .ref l5] 0) :: (l5, listOf #[.str (Str.ofString "(") d1, .str (Str.ofString "0") d2, .str (Str.ofString "?") d3, .str (Str.ofString "n") d4, .str (Str.ofString "==") d5, .str (Str.ofString "7") d6] 0) ::
      (l4, listOf #[.str (Str.ofString "n") c1, .str (Str.ofString "?") c2, .str (Str.ofString "7") c3] 0) :: (l3, listOf #[.str (Str.ofString "n") b1, .str (Str.ofString "+") b2] 0) :: (l2, listOf #[.str (Str.ofString "!") a1, .str (Str.ofString "(") a2] 0) :: (l1, listOf #[] 0) :: rest)) (G : GoodTok u) :
    ∀ (i : Nat) v, [Value.ref l1, .ref l2, .ref l3, .ref l4, .ref l5][i]? = some v → ∃ la va toks n, v = .ref la ∧ (la, listOf (List.toArray va) 0) ∈ ledOf N ∧ StrsAre va toks ∧ n ≤ 20 ∧ Parse n (-1) ((toks ++ [u]) ++ [Str.ofString "behind"]) (.err (errWords u) [Str.ofString "behind"]) ∧ (∀ t ∈ toks, t.length ≤ 64) ∧ toks.length ≤ 6 := by
  intro i v h
  match i, h with
  | 0, h => cases h; exact ⟨l1, [], [], 1, rfl, .tail _ (.tail _ (.tail _ (.tail _ (.tail _ (.head _))))), .nil, by decide, p_one G _, by decide, by decide⟩
  | 1, h => cases h; exact ⟨l2, _, _, 2, rfl, .tail _ (.tail _ (.tail _ (.tail _ (.head _)))), .cons _ _ (.cons _ _ .nil), by decide, p_two G _, by decide, by decide⟩
  | 2, h => cases h; exact ⟨l3, _, _, 2, rfl, .tail _ (.tail _ (.tail _ (.head _))), .cons _ _ (.cons _ _ .nil), by decide, p_three G _, by decide, by decide⟩
  | 3, h => cases h; exact ⟨l4, _, _, 2, rfl, .tail _ (.tail _ (.head _)), .cons _ _ (.cons _ _ (.cons _ _ .nil)), by decide, p_four G _, by decide, by decide⟩
  | 4, h => cases h; exact ⟨l5, _, _, 4, rfl, .tail _ (.head _), .cons _ _ (.cons _ _ (.cons _ _ (.cons _ _ (.cons _ _ (.cons _ _ .nil))))), by decide, p_five G _, by decide, by decide⟩
  | i + 5, h => simp at h
theorem mem_rot {α : Type} {p a b c d e : α} {el : List α} (hp : p ∈ a :: b :: c :: d :: e :: el) : p ∈ e :: a :: b :: c :: d :: el := by
  simp only [List.mem_cons] at hp ⊢
  rcases hp with h | h | h | h | h | h
  · exact .inr (.inl h)
  · exact .inr (.inr (.inl h))
  · exact .inr (.inr (.inr (.inl h)))
  · exact .inr (.inr (.inr (.inr (.inl h))))
  · exact .inl h
  · exact .inr (.inr (.inr (.inr (.inr h))))
theorem strOk_of {t : Str} (h : ∀ c ∈ t.cps.toList, c < 1114112) : PyData.strOk t = true := by
  unfold PyData.strOk
  rw [Array.all_eq_true_iff_forall_mem]
  intro c hc
  exact decide_eq_true (h c (Array.mem_toList_iff.mpr hc))
theorem strOk_words {t : Str} (h : ∀ c ∈ t.cps.toList, c < 1114112) : PyData.strOk (errWords t) = true := by
  unfold errWords
  split
  · decide +kernel
  · refine strOk_of fun c hc => ?_
    have e : (Str.ofString "unexpected token in plural form: " ++ t).cps = (Str.ofString "unexpected token in plural form: ").cps ++ t.cps := rfl
    rw [e, Array.toList_append] at hc
    rcases List.mem_append.mp hc with hc | hc
    · exact of_decide_eq_true (List.all_eq_true.mp (show (Str.ofString "unexpected token in plural form: ").cps.toList.all (fun c => decide (c < 1114112)) = true by decide) c hc)
    · exact h c hc
theorem shaped_one {x : Str} (h : PyData.strOk x = true) : SeqAt.shaped (.list [.str x]) = true := by
  simp [SeqAt.shaped, PyData.canLay0, PyData.canLayAll0, PyData.depth, PyData.depthAll, h]
theorem shaped_two {x y : Str} (h : PyData.strOk x = true) (h' : PyData.strOk y = true) : SeqAt.shaped (.list [.list [.str x], .list [.str y]]) = true := by
  simp [SeqAt.shaped, PyData.canLay0, PyData.canLayAll0, PyData.depth, PyData.depthAll, h, h']
end Mine


set_option maxRecDepth 100000
namespace Mine
section
variable {prog : Program} {w : World} {A : Around} {E : Value → Shared → Prop} {s : Shared} {env : Env} {body : List Stmt} {Q : Flow → Shared → Prop} {h₀ : Heap} {L : Addr}

theorem fr_but {I : Addr} {h h' : Heap} {m : Str → Option Value} (F : Fr h₀ L h m) (hL : I ≠ L) (hn : h₀.get? I = none) (k : ∀ b o, b ∉ [I] → h.get? b = some o → h'.get? b = some o) : Fr h₀ L h' m := by
  have k' : ∀ b o, b ≠ I → h.get? b = some o → h'.get? b = some o := fun b o hb e => k b o (by simpa using hb) e
  exact ⟨F.ns.at' fun o e => k' L o (Ne.symm hL) e, fun b o e => k' b o (fun z => by rw [z, hn] at e; cases e) (F.keep b o e), F.above⟩
theorem news_but {I : Addr} {h h' : Heap} {nx : List (Addr × Obj)} (N : News h₀ L h nx) (ne : ∀ p ∈ nx, p.1 ≠ I) (k : ∀ b o, b ∉ [I] → h.get? b = some o → h'.get? b = some o) : News h₀ L h' nx :=
  fun p hp => ⟨k _ _ (by simpa using ne p hp) (N p hp).1, (N p hp).2⟩

/-- where a turn's suite must come to -/
def TurnTo (h₀ : Heap) (L : Addr) (s : Shared) (I : Addr) (oI : Obj) (J : (Str → Option Value) → List (Addr × Obj) → Prop) (s' : Shared) : Prop :=
  ∃ m nx h tk, s' = { s with heap := h, toks := tk } ∧ J m nx ∧ Fr h₀ L h m ∧ News h₀ L h ((I, oI) :: nx) ∧ (∀ p ∈ nx, p.1 ≠ I)

/-- a for's turns by an invariant over the turn's number, the frame and the ledger -/
def TurnsC (prog : Program) (w : World) (A : Around) (env : Env) (target : PySem.Expr) (body : List Stmt) (Q : Flow → Shared → Prop) (E : Value → Shared → Prop) (it : Value) (s₃ : Shared) : Prop :=
  ∃ (I : Nat → Shared → Prop) (b : Nat), I b s₃ ∧
      ∀ b s, I b s → wpAny (model prog w) A (pyNext it) (fun o s₄ => match o with
        | none => Q .next s₄
        | some v => wpAny (model prog w) A (letOwnedTupleGo target it v) (fun _ s₅ => wpAny (model prog w) A (assign target env v) (fun _ s₆ =>
          wpC (model prog w) A (execs body env) (fun f s₇ => match f with | .next => Halt (∃ b', b' < b ∧ I b' s₇) | .cont => Halt (∃ b', b' < b ∧ I b' s₇) | .brk => Q .next s₇ | .ret v => Q (.ret v) s₇) E s₆) E s₅) E s₄) E s

theorem turns_inv {I : Addr} {fp : List Addr} {n : Nat} {P : Nat → Value → Prop} {St : Nat → Heap → Prop} {x : Str} {np : Pos} (W : Walks prog w A I fp [I] n P St) (J : Nat → (Str → Option Value) → List (Addr × Obj) → Prop)
    (hob : ∀ i h, St i h → ∃ o, h.get? I = some o) (hst : ∀ i h h' o m nx, St i h → h.get? I = some o → h'.get? I = some o → J i m nx → News h₀ L h' nx → St i h')
    (hL : I ≠ L) (hn : h₀.get? I = none) {m₀ : Str → Option Value} {news : List (Addr × Obj)} (F : Fr h₀ L s.heap m₀) (N : News h₀ L s.heap news) (ne : ∀ p ∈ news, p.1 ≠ I) (st : St 0 s.heap) (hj : J 0 m₀ news)
    (done : ∀ m nx h tk, J n m nx → Fr h₀ L h m → News h₀ L h nx → Q .next { s with heap := h, toks := tk })
    (turn : ∀ i v m nx h tk oI, i < n → P i v → J i m nx → Fr h₀ L h m → News h₀ L h ((I, oI) :: nx) → (∀ p ∈ nx, p.1 ≠ I) →
      wpAny (model prog w) A (storeName env x v) (fun _ s₆ => wpC (model prog w) A (execs body env) (fun f s₇ => match f with
        | .next => Halt (TurnTo h₀ L s I oI (J (i + 1)) s₇) | .cont => Halt (TurnTo h₀ L s I oI (J (i + 1)) s₇) | .brk => Q .next s₇ | .ret v => Q (.ret v) s₇) E s₆) E { s with heap := h, toks := tk }) :
    TurnsC prog w A env (.Name x np) body Q E (.ref I) s := by
  refine ⟨fun b s' => ∃ i m nx h tk, s' = { s with heap := h, toks := tk } ∧ b = n - i ∧ i ≤ n ∧ J i m nx ∧ Fr h₀ L h m ∧ News h₀ L h nx ∧ St i h ∧ (∀ p ∈ nx, p.1 ≠ I), n, ⟨0, m₀, news, s.heap, s.toks, rfl, rfl, Nat.zero_le _, hj, F, N, st, ne⟩, ?_⟩
  rintro b _ ⟨i, m, nx, h, tk, rfl, rfl, hi, hJ, F1, N1, st1, ne1⟩
  rcases Nat.lt_or_ge i n with hlt | hge
  · refine W.item i _ _ _ hlt st1 fun v h' tk' hP st' k => ?_
    show wpAny _ A (pure ()) _ _ _
    refine wpAny_pure ?_
    refine wpAny_assign_Name ?_
    obtain ⟨oI, ho⟩ := hob _ _ st'
    have F2 := fr_but F1 hL hn k
    have N2 : News h₀ L h' ((I, oI) :: nx) := fun p hp => by
      rcases List.mem_cons.mp hp with rfl | hp
      · exact ⟨ho, hL, hn⟩
      · exact news_but N1 ne1 k p hp
    refine wpAny_mono (turn i v m nx h' tk' oI hlt hP hJ F2 N2 ne1) (fun _ s₆ h6 => ?_) fun _ _ e => e
    refine wpC_mono h6 (fun f s₇ h7 => ?_) fun _ _ e => e
    have key : TurnTo h₀ L s I oI (J (i + 1)) s₇ → ∃ b', b' < n - i ∧ ∃ i m nx h tk, s₇ = { s with heap := h, toks := tk } ∧ b' = n - i ∧ i ≤ n ∧ J i m nx ∧ Fr h₀ L h m ∧ News h₀ L h nx ∧ St i h ∧ (∀ p ∈ nx, p.1 ≠ I) := by
      rintro ⟨m2, nx2, h2, tk2, rfl, hJ2, F3, N3, ne3⟩
      have N3' : News h₀ L h2 nx2 := fun p hp => N3 p (.tail _ hp)
      exact ⟨n - (i + 1), by omega, i + 1, m2, nx2, h2, tk2, rfl, rfl, hlt, hJ2, F3, N3', hst _ _ _ _ _ _ st' ho (N3 _ (.head _)).1 hJ2 N3', ne3⟩
    cases f with
    | next => exact key h7
    | cont => exact key h7
    | brk => exact h7
    | ret v => exact h7
  · obtain rfl : i = n := by omega
    refine W.done _ _ _ st1 fun h' tk' k => ?_
    exact done m nx h' tk' hJ (fr_but F1 hL hn k) (news_but N1 ne1 k)

/-- a for over a list of the ledger -/
theorem iter_listC {l : Addr} {vs : List Value} {nl : Nat} {x : Str} {np : Pos} (J : Nat → (Str → Option Value) → List (Addr × Obj) → Prop) (hh : A.handled = none) {m₀ : Str → Option Value} {news : List (Addr × Obj)} (F : Fr h₀ L s.heap m₀) (N : News h₀ L s.heap news)
    (hl : (l, listOf vs.toArray nl) ∈ news) (hJl : ∀ i m nx, J i m nx → (l, listOf vs.toArray nl) ∈ nx) (hj : J 0 m₀ news)
    (done : ∀ m nx h tk, J vs.length m nx → Fr h₀ L h m → News h₀ L h nx → Q .next { s with heap := h, toks := tk })
    (turn : ∀ I i v m nx h tk oI, i < vs.length → vs[i]? = some v → J i m nx → Fr h₀ L h m → News h₀ L h ((I, oI) :: nx) → (∀ p ∈ nx, p.1 ≠ I) →
      wpAny (model prog w) A (storeName env x v) (fun _ s₆ => wpC (model prog w) A (execs body env) (fun f s₇ => match f with
        | .next => Halt (TurnTo h₀ L s I oI (J (i + 1)) s₇) | .cont => Halt (TurnTo h₀ L s I oI (J (i + 1)) s₇) | .brk => Q .next s₇ | .ret v => Q (.ret v) s₇) E s₆) E { s with heap := h, toks := tk }) :
    wpAny (model prog w) A (pyIter (.ref l)) (fun it s₂ => TurnsC prog w A env (.Name x np) body Q E it s₂) E s := by
  have hls : s.heap.IsList l vs.toArray := N.isList hl
  refine wpAny_pyIter_list hls ?_
  have hlt : l < s.heap.objs.size := Heap.lt_size (N _ hl).1
  have hn : h₀.get? s.heap.objs.size = none := by
    cases q : h₀.get? s.heap.objs.size with
    | none => rfl
    | some o => exact absurd (Heap.lt_size (F.keep _ _ q)) (Nat.lt_irrefl _)
  have hL : s.heap.objs.size ≠ L := fun e => absurd F.ns.lt (e ▸ Nat.lt_irrefl _)
  refine turns_inv (Walks.list hh s.heap.objs.size l (Nat.ne_of_lt hlt) vs.toArray) J (fun i h st => ⟨_, st.1.choose_spec.1⟩) ?_ hL hn (F.push _) (fun p hp => ⟨Heap.get?_push_of_some _ (N p hp).1, (N p hp).2⟩) (fun p hp => Nat.ne_of_lt (Heap.lt_size (N p hp).1)) ⟨⟨_, Heap.get?_push_size _ rfl, rfl, rfl⟩, hls.at fun o e => Heap.get?_push_of_some _ e⟩ hj ?_ ?_
  · intro i h h' o m nx st ho ho' hJ N'
    refine ⟨st.1.at fun o2 e => ?_, N'.isList (hJl i m nx hJ)⟩
    rw [ho] at e; cases e; exact ho'
  · intro m nx h tk hJ F' N'
    exact done m nx h tk (by simpa using hJ) F' N'
  · intro i v m nx h tk oI hi hP hJ F' N' ne'
    exact turn _ i v m nx h tk oI (by simpa using hi) (by simpa using hP) hJ F' N' ne'

/-- a for over a range by ones -/
theorem iter_rangeC {r : Addr} {a b : Int} {t u v : Tok} {n : Nat} {x : Str} {np : Pos} (J : Nat → (Str → Option Value) → List (Addr × Obj) → Prop) (hh : A.handled = none) {m₀ : Str → Option Value} {news : List (Addr × Obj)} (F : Fr h₀ L s.heap m₀) (N : News h₀ L s.heap news)
    (hr : IsRange s.heap r a b 1 t u v) (hsmall : Builtin.Range.small a b 1 = true) (hsz : Builtin.Range.rangeSize a b 1 = (n : Int)) (hj : J 0 m₀ news)
    (done : ∀ m nx h tk, J n m nx → Fr h₀ L h m → News h₀ L h nx → Q .next { s with heap := h, toks := tk })
    (turn : ∀ I i v m nx h tk oI, i < n → (∃ t, v = .int (a + (i : Int)) t) → J i m nx → Fr h₀ L h m → News h₀ L h ((I, oI) :: nx) → (∀ p ∈ nx, p.1 ≠ I) →
      wpAny (model prog w) A (storeName env x v) (fun _ s₆ => wpC (model prog w) A (execs body env) (fun f s₇ => match f with
        | .next => Halt (TurnTo h₀ L s I oI (J (i + 1)) s₇) | .cont => Halt (TurnTo h₀ L s I oI (J (i + 1)) s₇) | .brk => Q .next s₇ | .ret v => Q (.ret v) s₇) E s₆) E { s with heap := h, toks := tk }) :
    wpAny (model prog w) A (pyIter (.ref r)) (fun it s₂ => TurnsC prog w A env (.Name x np) body Q E it s₂) E s := by
  refine wpAny_pyIter_range hr hsmall ?_
  have hn : h₀.get? s.heap.objs.size = none := by
    cases q : h₀.get? s.heap.objs.size with
    | none => rfl
    | some o => exact absurd (Heap.lt_size (F.keep _ _ q)) (Nat.lt_irrefl _)
  have hL : s.heap.objs.size ≠ L := fun e => absurd F.ns.lt (e ▸ Nat.lt_irrefl _)
  refine turns_inv (LCg.range_walks hh a n) J (fun i h st => ⟨_, st⟩) ?_ hL hn (F.push _) (fun p hp => ⟨Heap.get?_push_of_some _ (N p hp).1, (N p hp).2⟩) (fun p hp => Nat.ne_of_lt (Heap.lt_size (N p hp).1)) (by show IsRangeIter _ _ _ _ _; rw [hsz]; simpa using Heap.get?_push_size _ rfl) hj ?_ ?_
  · intro i h h' o m nx st ho ho' hJ N'
    have st' : h.get? s.heap.objs.size = some _ := st
    rw [ho] at st'; cases st'; exact ho'
  · intro m nx h tk hJ F' N'
    exact done m nx h tk hJ F' N'
  · intro i v m nx h tk oI hi hP hJ F' N' ne'
    exact turn _ i v m nx h tk oI hi hP hJ F' N' ne'

/-- a store into a cell of the ledger -/
theorem store_cell {cn : Str} {cs : Scope} {a c : Addr} {ccd : Value} {cl : List (Str × Addr)} {x : Str} {v : Value} {v₀ : Option Value} {o : Obj} {m : Str → Option Value} {rest : List (Addr × Obj)} {Qu : Unit → Shared → Prop} (F : Fr h₀ L s.heap m) (N : News h₀ L s.heap ((c, o) :: rest)) (ne : ∀ p ∈ rest, p.1 ≠ c)
    (hc : cl.lookup x = some c) (hd : o.data = .cell v₀) (h : ∀ h' o', Fr h₀ L h' m → News h₀ L h' ((c, o') :: rest) → o'.data = .cell (some v) → Qu () { s with heap := h' })
    (hk : cs.kind = .function := by rfl) (hx : (envX cn cs L a ccd cl).kindOf x = some .cell := by rfl) : wpAny (model prog w) A (storeName (envX cn cs L a ccd cl) x v) Qu E s := by
  have hmem := N (c, o) (.head _)
  refine wpAny_storeName_cell hk hx hc ⟨o, hmem.1, hd⟩ fun h' hv hs => ?_
  obtain ⟨o', ho', hd'⟩ := hv
  have k : ∀ b o, b ∉ [c] → s.heap.get? b = some o → h'.get? b = some o := fun b o hb e => (hs.2 b (by simpa using hb)).trans e
  refine h h' o' (fr_but F hmem.2.1 hmem.2.2 k) (fun p hp => ?_) hd'
  rcases List.mem_cons.mp hp with rfl | hp
  · exact ⟨ho', hmem.2⟩
  · exact news_but (fun p hp => N p (.tail _ hp)) ne k p hp

theorem wpC_ForT {pos : Pos} {target iter : PySem.Expr} (hE : PassesOwn (model prog w) A env E)
    (h : wpAny (model prog w) A (eval iter env) (fun x s₁ => wpAny (model prog w) A (pyIter x) (fun it s₃ => TurnsC prog w A env target body Q E it s₃) E s₁) E s)
    (hf : ∀ x, foldedSetIterable iter env x = pure x := by intro x; rfl) :
    wpC (model prog w) A (exec (.For target iter body [] pos) env) Q E s := wpC_For hE (wpAny_mono h (fun x s₁ h1 => by rw [hf]; exact wpAny_pure h1) fun _ _ e => e)
end
end Mine


set_option maxRecDepth 100000
namespace Mine
section
variable {prog : Program} {w : World} {A : Around} {E : Value → Shared → Prop} {s : Shared} {env : Env} {body : List Stmt} {Q : Flow → Shared → Prop} {g₀ : Heap} {L : Addr}
/-- where a turn's suite must come to, on a ground of its own -/
def TurnToG (L : Addr) (s : Shared) (I : Addr) (oI : Obj) (J : Heap → (Str → Option Value) → List (Addr × Obj) → Prop) (s' : Shared) : Prop :=
  ∃ g m nx h tk, s' = { s with heap := h, toks := tk } ∧ J g m nx ∧ Fr g L h m ∧ News g L h ((I, oI) :: nx) ∧ (∀ p ∈ nx, p.1 ≠ I)

theorem turns_invG {I : Addr} {fp : List Addr} {n : Nat} {P : Nat → Value → Prop} {St : Nat → Heap → Prop} {x : Str} {np : Pos} (W : Walks prog w A I fp [I] n P St) (J : Nat → Heap → (Str → Option Value) → List (Addr × Obj) → Prop)
    (hob : ∀ i h, St i h → ∃ o, h.get? I = some o) (hst : ∀ i h h' o, St i h → h.get? I = some o → h'.get? I = some o → St i h')
    {m₀ : Str → Option Value} {news : List (Addr × Obj)} {o₀ : Obj} (F : Fr g₀ L s.heap m₀) (N : News g₀ L s.heap ((I, o₀) :: news)) (ne : ∀ p ∈ news, p.1 ≠ I) (st : St 0 s.heap) (hj : J 0 g₀ m₀ news)
    (done : ∀ g m nx h tk, J n g m nx → Fr g L h m → News g L h nx → Q .next { s with heap := h, toks := tk })
    (turn : ∀ i v g m nx h tk oI, i < n → P i v → J i g m nx → Fr g L h m → News g L h ((I, oI) :: nx) → (∀ p ∈ nx, p.1 ≠ I) →
      wpAny (model prog w) A (storeName env x v) (fun _ s₆ => wpC (model prog w) A (execs body env) (fun f s₇ => match f with
        | .next => Halt (TurnToG L s I oI (J (i + 1)) s₇) | .cont => Halt (TurnToG L s I oI (J (i + 1)) s₇) | .brk => Q .next s₇ | .ret v => Q (.ret v) s₇) E s₆) E { s with heap := h, toks := tk }) :
    TurnsC prog w A env (.Name x np) body Q E (.ref I) s := by
  refine ⟨fun b s' => ∃ i g m nx h tk oI, s' = { s with heap := h, toks := tk } ∧ b = n - i ∧ i ≤ n ∧ J i g m nx ∧ Fr g L h m ∧ News g L h ((I, oI) :: nx) ∧ St i h ∧ (∀ p ∈ nx, p.1 ≠ I), n, ⟨0, g₀, m₀, news, s.heap, s.toks, o₀, rfl, rfl, Nat.zero_le _, hj, F, N, st, ne⟩, ?_⟩
  rintro b _ ⟨i, g, m, nx, h, tk, o1, rfl, rfl, hi, hJ, F1, N1, st1, ne1⟩
  have hL := (N1 _ (.head _)).2.1
  have hn := (N1 _ (.head _)).2.2
  have Nx : News g L h nx := fun p hp => N1 p (.tail _ hp)
  rcases Nat.lt_or_ge i n with hlt | hge
  · refine W.item i _ _ _ hlt st1 fun v h' tk' hP st' k => ?_
    show wpAny _ A (pure ()) _ _ _
    refine wpAny_pure ?_
    refine wpAny_assign_Name ?_
    obtain ⟨oI, ho⟩ := hob _ _ st'
    have F2 := fr_but F1 hL hn k
    have N2 : News g L h' ((I, oI) :: nx) := fun p hp => by
      rcases List.mem_cons.mp hp with rfl | hp
      · exact ⟨ho, hL, hn⟩
      · exact news_but Nx ne1 k p hp
    refine wpAny_mono (turn i v g m nx h' tk' oI hlt hP hJ F2 N2 ne1) (fun _ s₆ h6 => ?_) fun _ _ e => e
    refine wpC_mono h6 (fun f s₇ h7 => ?_) fun _ _ e => e
    have key : TurnToG L s I oI (J (i + 1)) s₇ → ∃ b', b' < n - i ∧ ∃ i g m nx h tk oI, s₇ = { s with heap := h, toks := tk } ∧ b' = n - i ∧ i ≤ n ∧ J i g m nx ∧ Fr g L h m ∧ News g L h ((I, oI) :: nx) ∧ St i h ∧ (∀ p ∈ nx, p.1 ≠ I) := by
      rintro ⟨g2, m2, nx2, h2, tk2, rfl, hJ2, F3, N3, ne3⟩
      exact ⟨n - (i + 1), by omega, i + 1, g2, m2, nx2, h2, tk2, oI, rfl, rfl, hlt, hJ2, F3, N3, hst _ _ _ _ st' ho (N3 _ (.head _)).1, ne3⟩
    cases f with
    | next => exact key h7
    | cont => exact key h7
    | brk => exact h7
    | ret v => exact h7
  · obtain rfl : i = n := by omega
    refine W.done _ _ _ st1 fun h' tk' k => ?_
    exact done g m nx h' tk' hJ (fr_but F1 hL hn k) (news_but Nx ne1 k)

/-- a for over a range by ones, the ground of each turn its own -/
theorem iter_rangeG {r : Addr} {a b : Int} {t u v : Tok} {n : Nat} {x : Str} {np : Pos} (J : Nat → Heap → (Str → Option Value) → List (Addr × Obj) → Prop) (hh : A.handled = none) {m₀ : Str → Option Value} {news : List (Addr × Obj)} (F : Fr g₀ L s.heap m₀) (N : News g₀ L s.heap news)
    (hr : IsRange s.heap r a b 1 t u v) (hsmall : Builtin.Range.small a b 1 = true) (hsz : Builtin.Range.rangeSize a b 1 = (n : Int)) (hj : J 0 g₀ m₀ news)
    (done : ∀ g m nx h tk, J n g m nx → Fr g L h m → News g L h nx → Q .next { s with heap := h, toks := tk })
    (turn : ∀ I i v g m nx h tk oI, i < n → (∃ t, v = .int (a + (i : Int)) t) → J i g m nx → Fr g L h m → News g L h ((I, oI) :: nx) → (∀ p ∈ nx, p.1 ≠ I) →
      wpAny (model prog w) A (storeName env x v) (fun _ s₆ => wpC (model prog w) A (execs body env) (fun f s₇ => match f with
        | .next => Halt (TurnToG L s I oI (J (i + 1)) s₇) | .cont => Halt (TurnToG L s I oI (J (i + 1)) s₇) | .brk => Q .next s₇ | .ret v => Q (.ret v) s₇) E s₆) E { s with heap := h, toks := tk }) :
    wpAny (model prog w) A (pyIter (.ref r)) (fun it s₂ => TurnsC prog w A env (.Name x np) body Q E it s₂) E s := by
  refine wpAny_pyIter_range hr hsmall ?_
  have hn : g₀.get? s.heap.objs.size = none := by
    cases q : g₀.get? s.heap.objs.size with
    | none => rfl
    | some o => exact absurd (Heap.lt_size (F.keep _ _ q)) (Nat.lt_irrefl _)
  have hL : s.heap.objs.size ≠ L := fun e => absurd F.ns.lt (e ▸ Nat.lt_irrefl _)
  refine turns_invG (o₀ := { cls := .type "range_iterator", data := .fields #[rawInt a, rawInt (Builtin.Range.rangeSize a b 1), rawInt 1] }) (LCg.range_walks hh a n) J (fun i h st => ⟨_, st⟩) (fun i h h' o st ho ho' => ?_) (F.push _) (fun p hp => ?_) (fun p hp => Nat.ne_of_lt (Heap.lt_size (N p hp).1)) (by show IsRangeIter _ _ _ _ _; rw [hsz]; simpa using Heap.get?_push_size _ rfl) hj ?_ ?_
  · have st' : h.get? s.heap.objs.size = some _ := st
    rw [ho] at st'; cases st'; exact ho'
  · rcases List.mem_cons.mp hp with rfl | hp
    · exact ⟨Heap.get?_push_size _ rfl, hL, hn⟩
    · exact ⟨Heap.get?_push_of_some _ (N p hp).1, (N p hp).2⟩
  · intro g m nx h tk hJ F' N'
    exact done g m nx h tk hJ F' N'
  · intro i v g m nx h tk oI hi hP hJ F' N' ne'
    exact turn _ i v g m nx h tk oI hi hP hJ F' N' ne'
end
end Mine


set_option maxRecDepth 100000
namespace Mine
section
variable {prog : Program} {w : World} {A : Around} {E : Value → Shared → Prop} {s : Shared} {env : Env} {body orelse : List Stmt} {Q : Flow → Shared → Prop}

/-- an if whose test compares what a call gives back -/
theorem wpC_IfCmp {l r : PySem.Expr} {op : CmpOp} {cpos pos : Pos} (h : wpC (model prog w) A (eval l env) (fun a s₁ => wpAny (model prog w) A (eval r env) (fun b s₂ => wpAny (model prog w) A (compareOp op a b) (fun c s₃ => wpAny (model prog w) A (truthy c)
      (fun b s₄ => WhlIf b (wpC (model prog w) A (execs body env) Q E s₄) (wpC (model prog w) A (execs orelse env) Q E s₄)) E s₃) E s₂) E s₁) E s)
    (hm : behindInMarks op r = false := by with_unfolding_all rfl) : wpC (model prog w) A (exec (.If (.Compare l [op] [r] cpos) body orelse pos) env) Q E s := by
  rw [exec_If, isTrue_Compare1, markedBehindIn_of_false hm]
  refine wpC_bindL (wpAny_standAt (wpC_bind (wpC_bind (wpC_mono h (fun a s₁ h₁ => ?_) fun _ _ x => x))))
  refine wpC_bindL (wpAny_holding (wpAny_mono h₁ (fun b s₂ h₂ => ?_) fun _ _ x => x))
  refine wpC_bindL (wpAny_standAt ?_)
  have hop : wpAny (model prog w) A (operate [a, b] (compareOp op a b)) (fun c s₃ => wpAny (model prog w) A (truthy c)
      (fun b s₄ => WhlIf b (wpC (model prog w) A (execs body env) Q E s₄) (wpC (model prog w) A (execs orelse env) Q E s₄)) E s₃) E s₂ := fun Γ p hΓ => by
    rw [Sem.wp_operate]; exact h₂ Γ _ hΓ
  refine wpC_bindL (wpAny_mono hop (fun c s₃ h₃ => ?_) fun _ _ x => x)
  refine wpC_of_any (wpAny_holding (wpAny_mono h₃ (fun b s₄ h₄ => ?_) fun _ _ x => x))
  unfold WhlIf at h₄
  cases b with
  | true => rw [if_pos rfl] at h₄ ⊢; exact h₄
  | false => rw [if_neg Bool.false_ne_true] at h₄ ⊢; exact h₄

/-- a call of a def of the text by its name, where names are captured -/
theorem wpC_callX {K : Frag} {h₁ : Heap} {L a f : Addr} {m mg mb : Str → Option Value} {cn : Str} {cs : Scope} {ccd : Value} {cl : List (Str × Addr)} {p : Program} {loose : List Str} {x : Str} {np cpos : Pos} {e : PySem.Expr} {rest : List PySem.Expr} {Qv : Value → Shared → Prop}
    (F : Fr h₁ L s.heap m) (X : K.In h₁) (T : TopRead p loose mg mb h₁) (hn : nsIn K mainGlobals x = some (some (.ref f))) (hf : fnIn K f = true)
    (h : wpAny (model prog w) A (spliced (backTo cpos (starEach (e :: rest) (envX cn cs L a ccd cl)))) (fun vs s₁ => K.In s₁.heap ∧ wpC (model prog w) A (call (.ref f) vs) Qv E s₁) E s)
    (hk : cs.kind = .function := by rfl) (hx : (envX cn cs L a ccd cl).kindOf x = some .globalImplicit := by rfl) (hd : (x == ("__debug__" : Str)) = false := by decide)
    (he : starEach (e :: rest) (envX cn cs L a ccd cl) = (false, eval e (envX cn cs L a ccd cl)) :: starEach rest (envX cn cs L a ccd cl) := by rfl) (hplain : (backTo cpos (starEach rest (envX cn cs L a ccd cl))).any (·.1) = false := by rfl) :
    wpC (model prog w) A (eval (.Call (.Name x np) (e :: rest) [] cpos) (envX cn cs L a ccd cl)) Qv E s := by
  rw [arm_eval_Call_Name']
  refine wpC_bindL (nameX_K F X T hn ?_ hk hx hd)
  unfold callWith
  rw [he] at h ⊢
  refine wpC_bindL (wpAny_holding (evalArgs_plain (wpAny_mono h (fun vs s₁ h₁ => ?_) fun _ _ x => x)))
  refine wpC_bindL (wpAny_standAt ?_)
  obtain ⟨hK, hc⟩ := h₁
  have hs : ((backTo cpos ((false, eval e (envX cn cs L a ccd cl)) :: starEach rest (envX cn cs L a ccd cl))).any fun x => x.fst) = false := by
    show (false || (backTo cpos (starEach rest (envX cn cs L a ccd cl))).any (·.1)) = false
    rw [hplain]; rfl
  simp only [backToKw, keywordEach, List.map_nil, List.any_nil, Bool.or_false, hs]
  have Lk : Looks (model prog w) s₁.heap (keeperOf (.ref f)) .frame := by
    unfold fnIn at hf
    split at hf
    · rename_i q
      exact (Looks.ld (part := none) (hK _ _ q)).andThen .now
    · cases hf
  refine wpC_bindL (Lk.here ?_)
  show wpC _ A (if (backTo cpos ((false, eval e (envX cn cs L a ccd cl)) :: starEach rest (envX cn cs L a ccd cl))).length + 2 * ([] : List (Option Str × Sem Value)).length > 30 then _ else _) Qv E s₁
  have tail : ∀ {t : Sem Value}, wpC (model prog w) A t Qv E s₁ → wpC (model prog w) A (t >>= fun r => holding [r] point >>= fun _ => pure r) Qv E s₁ :=
    fun ht => wpC_bindR (wpC_mono ht (fun r s₂ hr => wpAny_bind (wpAny_holding (wpAny_point (wpAny_pure hr)))) fun _ _ x => x)
  split
  · exact tail hc
  · exact tail (by unfold callMarked; exact wpC_keep hc)
end
end Mine


set_option maxRecDepth 100000
namespace Mine
section
variable {prog : Program} {w : World} {A : Around} {E : Value → Shared → Prop} {s : Shared} {h₀ : Heap} {L D : Addr} {m : Str → Option Value} {news : List (Addr × Obj)} {vs : List Value} {n : Nat} {x y : Value} {Q : Value → Shared → Prop}

theorem append_in (F : Fr h₀ L s.heap m) (N : News h₀ L s.heap news) (hm : (D, listOf vs.toArray n) ∈ news) (rest : List (Addr × Obj)) (hs : ∀ p ∈ rest, p ∈ news) (ne : ∀ p ∈ rest, p.1 ≠ D) (hz : vs.length ≤ 1000)
    (h : ∀ h', Fr h₀ L h' m → News h₀ L h' ((D, listOf (vs ++ [x]).toArray (n + 1)) :: rest) → Q .none { s with heap := h' }) : wpAny (model prog w) A (call (.builtin "list.append") [.ref D, x]) Q E s := by
  have N' : News h₀ L s.heap ((D, listOf vs.toArray n) :: rest) := news_sub N fun p hp => by
    rcases List.mem_cons.mp hp with rfl | hp
    · exact hm
    · exact hs p hp
  refine append_K F N' (.head ne) (fun h' F' N2 => h h' F' ?_) (Nat.le_trans (by simpa using hz) (by decide))
  simpa using N2
theorem pop_in {p : List Value} (F : Fr h₀ L s.heap m) (N : News h₀ L s.heap news) (hm : (D, listOf (p ++ [y]).toArray n) ∈ news) (rest : List (Addr × Obj)) (hs : ∀ q ∈ rest, q ∈ news) (ne : ∀ q ∈ rest, q.1 ≠ D) (hz : p.length ≤ 1000)
    (h : ∀ h', Fr h₀ L h' m → News h₀ L h' ((D, listOf p.toArray (n + 1)) :: rest) → Q y { s with heap := h' }) : wpAny (model prog w) A (call (.builtin "list.pop") [.ref D]) Q E s := by
  have N' : News h₀ L s.heap ((D, listOf (p ++ [y]).toArray n) :: rest) := news_sub N fun q hq => by
    rcases List.mem_cons.mp hq with rfl | hq
    · exact hm
    · exact hs q hq
  exact kl_pop F N' (by simpa using kpa_last y p) (.head ne) (by simp; exact Nat.le_trans (show p.length + 1 ≤ 1001 by omega) (by decide)) h
end

section
variable {prog : Program} {w : World} {A : Around} {E : Value → Shared → Prop} {s : Shared} {h₀ : Heap} {L l : Addr} {m : Str → Option Value} {news : List (Addr × Obj)} {vs zs : List Value} {n : Nat} {Q : Value → Shared → Prop} {value slice : PySem.Expr} {ops : List Value} {u : Tok}
theorem slice_last {h : Heap} {gs : Array GenState} {d : Shared} {tk : Nat} (F : Fr h₀ L h m) (N : News h₀ L h news) (hm : (l, listOf vs.toArray n) ∈ news) (e : vs.drop (vs.length - 1) = zs) (hz : vs.length ≤ 1000)
    (k : ∀ D h', Fr h₀ L h' m → News h₀ L h' ((D, listOf zs.toArray 0) :: news) → (∀ p ∈ news, p.1 < D) → Q (.ref D) ⟨h', gs, d.drawn, tk, d.os⟩)
    (hs : subscripted slice false (.ref l) (.ref h.objs.size) = operate ops (getItem (.ref l) (.ref h.objs.size))) (ht : ∀ r, letTemporaryGo value (.ref l) r = pure ()) :
    wpAny (model prog w) A (subscriptTail value slice (.ref l) (.ref h.objs.size)) Q E ⟨h.push { cls := .type "slice", data := .fields #[.int (-1) u, .none, .none] }, gs, d.drawn, tk, d.os⟩ := by
  refine kmk_slice3_lit (s := ⟨h, gs, d.drawn, tk, d.os⟩) F N (N.isList hm) (.int _ _) .none .none (by decide) ?_ k hs ht (Nat.le_trans (by simpa using hz) (by decide))
  have := slicePick_last vs.toArray 1 (Nat.le_refl _)
  rw [show (some (-((1 : Nat) : Int))) = some (-1) from rfl] at this
  rw [this]
  simpa using e
end

/-- where the walk stands in a turn -/
def WMid (g' : Heap) (L' : Addr) (s : Shared) (I : Addr) (oI : Obj) (A : St → (Str → Option Value) → List (Addr × Obj) → Prop) (tv : Value) (P : St → Prop) (s' : Shared) : Prop :=
  ∃ S m nx h tk, s' = { s with heap := h, toks := tk } ∧ m (Str.ofString "token") = some tv ∧ P S ∧ A S m nx ∧ Fr g' L' h m ∧ News g' L' h ((I, oI) :: nx) ∧ (∀ p ∈ nx, p.1 ≠ I)

theorem unhalt {p : Prop} (h : p) : Halt p := h
def bS : Bool → Str | true => Str.ofString "(" | false => Str.ofString "?"

theorem lay_strs : ∀ {xs : List Str}, xs.all PyData.strOk = true → PyData.canLayAll0 (xs.map .str) = true
  | [], _ => rfl
  | x :: xs, h => by
    have h' : PyData.strOk x = true ∧ xs.all PyData.strOk = true := by simpa using h
    simp [PyData.canLayAll0, PyData.canLay0, h'.1, lay_strs h'.2]
theorem any_strs (xs : List Str) (x : Str) : (xs.map PyData.str).any (fun y => PyData.eqv y (.str x)) = xs.any (fun y => y == x) := by
  rw [List.any_map]
  rfl
section
variable {prog : Program} {w : World} {A : Around} {E : Value → Shared → Prop} {s : Shared} {h₀ : Heap} {L l : Addr} {news : List (Addr × Obj)} {vs : List Value} {xs : List Str} {x : Str} {tk : Tok} {n : Nat} {Q : Value → Shared → Prop}
theorem notIn_strs (N : News h₀ L s.heap news) (hm : (l, listOf vs.toArray n) ∈ news) (hS : StrsAre vs xs) (hok : xs.all PyData.strOk = true) (hx : PyData.strOk x = true) (hu : A.units + 64 < cLine) (h : Q (.bool (!(xs.any fun y => y == x))) s) :
    wpAny (model prog w) A (compareOp .NotIn (.str x tk) (.ref l)) Q E s :=
  SeqAt.notIn_list_reads (reads_list_at (N _ hm).1 rfl rfl (reads_strs hS)) (.str x tk) (lay_strs hok) hx (by
    have h1 : min (PyData.depthAll (xs.map .str)) (PyData.depth (.str x)) ≤ PyData.depth (.str x) := Nat.min_le_right _ _
    have h2 : PyData.depth (.str x) ≤ 1 := by simp [PyData.depth]
    omega) (by rw [any_strs]; exact h)
theorem in_strs (N : News h₀ L s.heap news) (hm : (l, listOf vs.toArray n) ∈ news) (hS : StrsAre vs xs) (hok : xs.all PyData.strOk = true) (hx : PyData.strOk x = true) (hu : A.units + 64 < cLine) (h : Q (.bool (xs.any fun y => y == x)) s) :
    wpAny (model prog w) A (compareOp .In (.str x tk) (.ref l)) Q E s :=
  SeqAt.in_list_reads (reads_list_at (N _ hm).1 rfl rfl (reads_strs hS)) (.str x tk) (lay_strs hok) hx (by
    have h1 : min (PyData.depthAll (xs.map .str)) (PyData.depth (.str x)) ≤ PyData.depth (.str x) := Nat.min_le_right _ _
    have h2 : PyData.depth (.str x) ≤ 1 := by simp [PyData.depth]
    omega) (by rw [any_strs]; exact h)
end
theorem ok_s : ∀ t : Tk, PyData.strOk t.s = true := by intro t; cases t <;> decide +kernel
def l5 : List Str := [Str.ofString "+", Str.ofString "==", Str.ofString "&&", Str.ofString "?", Str.ofString ")"]
theorem l5_ok : l5.all PyData.strOk = true := by decide +kernel
theorem l5_shuts : ∀ t : Tk, (!(l5.any fun y => y == t.s)) = t.shuts := by intro t; cases t <;> decide +kernel

/-- what was told, in the ledger -/
inductive ToldAre (tl : List (Addr × Obj)) : List Value → List (Nat × Str) → Prop
  | nil : ToldAre tl [] []
  | cons {a : Addr} {p : Nat × Str} {t u : Tok} {n : Nat} {vs : List Value} {d : List (Nat × Str)} : (a, listOf #[.int (p.1 : Int) t, .str p.2 u] n) ∈ tl → ToldAre tl vs d → ToldAre tl (.ref a :: vs) (p :: d)
theorem ToldAre.mono {tl tl' : List (Addr × Obj)} {vs : List Value} {d : List (Nat × Str)} (h : ToldAre tl vs d) (hs : ∀ p ∈ tl, p ∈ tl') : ToldAre tl' vs d := by
  induction h with
  | nil => exact .nil
  | cons hm _ ih => exact .cons (hs _ hm) ih
theorem ToldAre.snoc {tl : List (Addr × Obj)} {vs : List Value} {d : List (Nat × Str)} {a : Addr} {p : Nat × Str} {t u : Tok} {n : Nat} (h : ToldAre tl vs d) (hm : (a, listOf #[.int (p.1 : Int) t, .str p.2 u] n) ∈ tl) : ToldAre tl (vs ++ [.ref a]) (d ++ [p]) := by
  induction h with
  | nil => exact .cons hm .nil
  | cons hm' _ ih => exact .cons hm' ih
theorem ToldAre.len {tl : List (Addr × Obj)} {vs : List Value} {d : List (Nat × Str)} (h : ToldAre tl vs d) : vs.length = d.length := by
  induction h with
  | nil => rfl
  | cons _ _ ih => simp [ih]
theorem ToldAre.reads {h₀ h : Heap} {L : Addr} {tl : List (Addr × Obj)} {vs : List Value} {d : List (Nat × Str)} (N : News h₀ L h tl) (x : ToldAre tl vs d) : ∃ as, ReadsAll h vs (toldData d) as := by
  induction x with
  | nil => exact ⟨_, .nil⟩
  | @cons a p t u n vs d hm _ ih =>
    obtain ⟨as, ih⟩ := ih
    exact ⟨_, .cons (reads_list_at (N _ hm).1 rfl rfl (.cons (.int _ _) (.cons (.str _ _) .nil))) ih⟩

theorem strs_map_snoc {vs : List Value} {f : Tk → Str} {k : List Tk} {t : Tk} {tk : Tok} (h : StrsAre vs (k.map f)) : StrsAre (vs ++ [.str (f t) tk]) ((k ++ [t]).map f) := by
  rw [List.map_append]
  exact h.append' (.cons _ _ .nil)
theorem strs_unsnoc {vs : List Value} {xs : List Str} {x : Str} (h : StrsAre vs (xs ++ [x])) : ∃ p t, vs = p ++ [.str x t] ∧ StrsAre p xs := by
  induction xs generalizing vs with
  | nil =>
    cases h with
    | cons _ t h => cases h; exact ⟨[], t, rfl, .nil⟩
  | cons y ys ih =>
    cases h with
    | cons _ t h =>
      obtain ⟨p, u, rfl, hp⟩ := ih h
      exact ⟨.str y t :: p, u, rfl, .cons _ _ hp⟩

/-- the walk's names and lists -/
structure WNm (K T O : Addr) (due : Bool) (m : Str → Option Value) : Prop where
  k : m (Str.ofString "kept") = some (.ref K)
  t : m (Str.ofString "told") = some (.ref T)
  o : m (Str.ofString "opened") = some (.ref O)
  d : m (Str.ofString "due") = some (.bool due)
structure WSt (K T O : Addr) (news : List (Addr × Obj)) (S : St) (kv tv ov : List Value) (tl : List (Addr × Obj)) : Prop where
  k : StrsAre kv (S.kept.map Tk.s)
  o : StrsAre ov (S.opened.reverse.map bS)
  t : ToldAre tl tv S.told
  ne : ∀ p ∈ tl ++ news, p.1 ≠ K ∧ p.1 ≠ T ∧ p.1 ≠ O
/-- the ledger of the walk -/
abbrev wLed (K T O : Addr) (kv tv ov : List Value) (nk nt no : Nat) (rest : List (Addr × Obj)) : List (Addr × Obj) := (K, listOf kv.toArray nk) :: (T, listOf tv.toArray nt) :: (O, listOf ov.toArray no) :: rest
def WAt (K T O : Addr) (news : List (Addr × Obj)) (S : St) (m : Str → Option Value) (nx : List (Addr × Obj)) : Prop :=
  WNm K T O S.due m ∧ ∃ kv tv ov nk nt no tl, WSt K T O news S kv tv ov tl ∧ nx = wLed K T O kv tv ov nk nt no (tl ++ news)

/-- a bound that no turn raises -/
def bnd (S : St) (n : Nat) : Nat := S.kept.length + S.told.length + 8 * n + 4 * S.opened.length + 2 * bN S.due
theorem bnd_pop {S : St} {o : List Bool} {n : Nat} (ho : S.opened = true :: o) : bnd (S.pop o) n ≤ bnd S n := by
  unfold bnd St.pop
  rw [ho]
  simp
  omega
theorem bnd_put {S : St} {t : Tk} {n : Nat} : bnd (S.put t) n ≤ bnd S (n + 1) := by
  obtain ⟨kept, told, opened, due⟩ := S
  unfold St.put St.drop bnd
  cases due
  · simp only [Bool.false_eq_true, if_false]
    split
    · simp [bN]; omega
    · split
      · simp [bN]; omega
      · cases opened with
        | nil => simp; omega
        | cons b o =>
          cases b
          · dsimp only
            split
            · simp [bN]; omega
            · simp; omega
          · dsimp only
            split
            · simp [bN]; omega
            · simp; omega
  · simp only [if_true]
    repeat' split
    all_goals (simp [bN]; try omega)
/-- a token kept -/
def Tk.opens : Tk → Option Bool | .lp => some true | .ask => some false | _ => none
def St.add (S : St) (t : Tk) : St := { S with kept := S.kept ++ [t], opened := match t.opens with | some b => b :: S.opened | none => S.opened }
/-- what the chain of ifs comes to -/
def ChainTo (g' : Heap) (L' : Addr) (s : Shared) (I : Addr) (oI : Obj) (A : St → (Str → Option Value) → List (Addr × Obj) → Prop) (tv : Value) (S : St) (t : Tk) (f : Flow) (s' : Shared) : Prop :=
  (f = .cont ∧ TurnTo g' L' s I oI (A (S.put t)) s') ∨ (f = .next ∧ WMid g' L' s I oI A tv (fun S2 => S2.kept.length = S.kept.length ∧ S2.opened.length ≤ S.opened.length ∧ S.put t = S2.add t) s')
def lA : List Str := [Str.ofString "n", Str.ofString "12", Str.ofString "0", Str.ofString "!", Str.ofString "("]
def lB : List Str := [Str.ofString "!", Str.ofString "("]
def lC : List Str := [Str.ofString "+", Str.ofString "==", Str.ofString "&&", Str.ofString "?"]
def lD : List Str := [Str.ofString "(", Str.ofString "?"]
theorem lA_ok : lA.all PyData.strOk = true := by decide +kernel
theorem lB_ok : lB.all PyData.strOk = true := by decide +kernel
theorem lC_ok : lC.all PyData.strOk = true := by decide +kernel
theorem lD_ok : lD.all PyData.strOk = true := by decide +kernel
theorem lA_in : ∀ t : Tk, (lA.any fun y => y == t.s) = (t.opd || decide (t = .bang) || decide (t = .lp)) := by intro t; cases t <;> decide +kernel
theorem lB_in : ∀ t : Tk, (lB.any fun y => y == t.s) = (decide (t = .bang) || decide (t = .lp)) := by intro t; cases t <;> decide +kernel
theorem lC_in : ∀ t : Tk, (lC.any fun y => y == t.s) = (t.op || decide (t = .ask)) := by intro t; cases t <;> decide +kernel
theorem lD_in : ∀ t : Tk, (lD.any fun y => y == t.s) = t.opens.isSome := by intro t; cases t <;> decide +kernel
section
variable {prog : Program} {w : World} {A : Around} {E : Value → Shared → Prop} {s : Shared} {g : Heap} {L K T O : Addr} {m : Str → Option Value} {pre news tl : List (Addr × Obj)} {kv tv ov : List Value} {nk nt no : Nat} {x y : Value} {Q : Value → Shared → Prop}
/-- append to kept -/
theorem kept_in (F : Fr g L s.heap m) (N : News g L s.heap (pre ++ wLed K T O kv tv ov nk nt no (tl ++ news))) (hp : ∀ p ∈ pre, p.1 ≠ K) (hKT : K < T) (hKO : K < O) (hn : ∀ p ∈ tl ++ news, p.1 ≠ K) (hz : kv.length ≤ 1000)
    (h : ∀ h', Fr g L h' m → News g L h' (pre ++ wLed K T O (kv ++ [x]) tv ov (nk + 1) nt no (tl ++ news)) → Q .none { s with heap := h' }) : wpAny (model prog w) A (call (.builtin "list.append") [.ref K, x]) Q E s := by
  refine append_in F N (List.mem_append_right _ (.head _)) (pre ++ (T, listOf tv.toArray nt) :: (O, listOf ov.toArray no) :: (tl ++ news)) ?_ ?_ hz (fun h' F' N' => h h' F' (news_sub N' ?_))
  · intro p q
    rcases List.mem_append.mp q with q | q
    · exact List.mem_append_left _ q
    · exact List.mem_append_right _ (.tail _ q)
  · intro p q
    rcases List.mem_append.mp q with q | q
    · exact hp p q
    · rcases List.mem_cons.mp q with rfl | q
      · exact Nat.ne_of_gt hKT
      · rcases List.mem_cons.mp q with rfl | q
        · exact Nat.ne_of_gt hKO
        · exact hn p q
  · intro p q
    rcases List.mem_append.mp q with q | q
    · exact .tail _ (List.mem_append_left _ q)
    · rcases List.mem_cons.mp q with rfl | q
      · exact .head _
      · exact .tail _ (List.mem_append_right _ q)
/-- append to told, of a new list -/
theorem told_in {X : Addr} {oX : Obj} (F : Fr g L s.heap m) (N : News g L s.heap ((X, oX) :: (pre ++ wLed K T O kv tv ov nk nt no (tl ++ news)))) (hp : ∀ p ∈ pre, p.1 ≠ T) (hX : X ≠ T) (hKT : K < T) (hTO : T < O) (hn : ∀ p ∈ tl ++ news, p.1 ≠ T) (hz : tv.length ≤ 1000)
    (h : ∀ h', Fr g L h' m → News g L h' (pre ++ wLed K T O kv (tv ++ [.ref X]) ov nk (nt + 1) no (((X, oX) :: tl) ++ news)) → Q .none { s with heap := h' }) : wpAny (model prog w) A (call (.builtin "list.append") [.ref T, .ref X]) Q E s := by
  refine append_in F N (.tail _ (List.mem_append_right _ (.tail _ (.head _)))) ((X, oX) :: (pre ++ (K, listOf kv.toArray nk) :: (O, listOf ov.toArray no) :: (tl ++ news))) ?_ ?_ hz (fun h' F' N' => h h' F' (news_sub N' ?_))
  · intro p q
    rcases List.mem_cons.mp q with rfl | q
    · exact .head _
    · rcases List.mem_append.mp q with q | q
      · exact .tail _ (List.mem_append_left _ q)
      · rcases List.mem_cons.mp q with rfl | q
        · exact .tail _ (List.mem_append_right _ (.head _))
        · exact .tail _ (List.mem_append_right _ (.tail _ (.tail _ q)))
  · intro p q
    rcases List.mem_cons.mp q with rfl | q
    · exact hX
    · rcases List.mem_append.mp q with q | q
      · exact hp p q
      · rcases List.mem_cons.mp q with rfl | q
        · exact Nat.ne_of_lt hKT
        · rcases List.mem_cons.mp q with rfl | q
          · exact Nat.ne_of_gt hTO
          · exact hn p q
  · intro p q
    rcases List.mem_append.mp q with q | q
    · exact .tail _ (.tail _ (List.mem_append_left _ q))
    · rcases List.mem_cons.mp q with rfl | q
      · exact .tail _ (.tail _ (List.mem_append_right _ (.head _)))
      · rcases List.mem_cons.mp q with rfl | q
        · exact .head _
        · rcases List.mem_cons.mp q with rfl | q
          · exact .tail _ (.tail _ (List.mem_append_right _ (.tail _ (.head _))))
          · rcases List.mem_cons.mp q with rfl | q
            · exact .tail _ (.head _)
            · exact .tail _ (.tail _ (List.mem_append_right _ (.tail _ (.tail _ q))))
theorem opened_rest (hKO : K < O) (hTO : T < O) (hp : ∀ p ∈ pre, p.1 ≠ O) (hn : ∀ p ∈ tl ++ news, p.1 ≠ O) :
    (∀ p ∈ pre ++ (K, listOf kv.toArray nk) :: (T, listOf tv.toArray nt) :: (tl ++ news), p ∈ pre ++ wLed K T O kv tv ov nk nt no (tl ++ news)) ∧ ∀ p ∈ pre ++ (K, listOf kv.toArray nk) :: (T, listOf tv.toArray nt) :: (tl ++ news), p.1 ≠ O := by
  refine ⟨fun p q => ?_, fun p q => ?_⟩
  · rcases List.mem_append.mp q with q | q
    · exact List.mem_append_left _ q
    · rcases List.mem_cons.mp q with rfl | q
      · exact List.mem_append_right _ (.head _)
      · rcases List.mem_cons.mp q with rfl | q
        · exact List.mem_append_right _ (.tail _ (.head _))
        · exact List.mem_append_right _ (.tail _ (.tail _ (.tail _ q)))
  · rcases List.mem_append.mp q with q | q
    · exact hp p q
    · rcases List.mem_cons.mp q with rfl | q
      · exact Nat.ne_of_lt hKO
      · rcases List.mem_cons.mp q with rfl | q
        · exact Nat.ne_of_lt hTO
        · exact hn p q
theorem opened_back {o : Obj} {p : Addr × Obj} (q : p ∈ pre ++ (K, listOf kv.toArray nk) :: (T, listOf tv.toArray nt) :: (O, o) :: (tl ++ news)) : p ∈ (O, o) :: (pre ++ (K, listOf kv.toArray nk) :: (T, listOf tv.toArray nt) :: (tl ++ news)) := by
  rcases List.mem_append.mp q with q | q
  · exact .tail _ (List.mem_append_left _ q)
  · rcases List.mem_cons.mp q with rfl | q
    · exact .tail _ (List.mem_append_right _ (.head _))
    · rcases List.mem_cons.mp q with rfl | q
      · exact .tail _ (List.mem_append_right _ (.tail _ (.head _)))
      · rcases List.mem_cons.mp q with rfl | q
        · exact .head _
        · exact .tail _ (List.mem_append_right _ (.tail _ (.tail _ q)))
/-- append to opened -/
theorem push_in (F : Fr g L s.heap m) (N : News g L s.heap (pre ++ wLed K T O kv tv ov nk nt no (tl ++ news))) (hp : ∀ p ∈ pre, p.1 ≠ O) (hKO : K < O) (hTO : T < O) (hn : ∀ p ∈ tl ++ news, p.1 ≠ O) (hz : ov.length ≤ 1000)
    (h : ∀ h', Fr g L h' m → News g L h' (pre ++ wLed K T O kv tv (ov ++ [x]) nk nt (no + 1) (tl ++ news)) → Q .none { s with heap := h' }) : wpAny (model prog w) A (call (.builtin "list.append") [.ref O, x]) Q E s :=
  append_in F N (List.mem_append_right _ (.tail _ (.tail _ (.head _)))) _ (opened_rest hKO hTO hp hn).1 (opened_rest (ov := ov) (no := no) hKO hTO hp hn).2 hz (fun h' F' N' => h h' F' (news_sub N' fun _ q => opened_back q))
/-- pop of opened -/
theorem popo_in {pv : List Value} (F : Fr g L s.heap m) (N : News g L s.heap (pre ++ wLed K T O kv tv (pv ++ [y]) nk nt no (tl ++ news))) (hp : ∀ p ∈ pre, p.1 ≠ O) (hKO : K < O) (hTO : T < O) (hn : ∀ p ∈ tl ++ news, p.1 ≠ O) (hz : pv.length ≤ 1000)
    (h : ∀ h', Fr g L h' m → News g L h' (pre ++ wLed K T O kv tv pv nk nt (no + 1) (tl ++ news)) → Q y { s with heap := h' }) : wpAny (model prog w) A (call (.builtin "list.pop") [.ref O]) Q E s :=
  pop_in F N (List.mem_append_right _ (.tail _ (.tail _ (.head _)))) _ (opened_rest hKO hTO hp hn).1 (opened_rest (ov := pv ++ [y]) (no := no) hKO hTO hp hn).2 hz (fun h' F' N' => h h' F' (news_sub N' fun _ q => opened_back q))
end
section
variable {K T O : Addr} {news tl : List (Addr × Obj)} {kv tv ov : List Value} {kp : List Tk} {td : List (Nat × Str)} {op : List Bool} {du : Bool}
theorem WSt.due {d : Bool} (W : WSt K T O news ⟨kp, td, op, du⟩ kv tv ov tl) : WSt K T O news ⟨kp, td, op, d⟩ kv tv ov tl := ⟨W.k, W.o, W.t, W.ne⟩
theorem WSt.keep (W : WSt K T O news ⟨kp, td, op, du⟩ kv tv ov tl) (t : Tk) (tk : Tok) : WSt K T O news ⟨kp ++ [t], td, op, du⟩ (kv ++ [.str t.s tk]) tv ov tl := ⟨strs_map_snoc W.k, W.o, W.t, W.ne⟩
theorem WSt.tell (W : WSt K T O news ⟨kp, td, op, du⟩ kv tv ov tl) {X : Addr} {wd : Str} {t u : Tok} {n : Nat} (hX : X ≠ K ∧ X ≠ T ∧ X ≠ O) : WSt K T O news ⟨kp, td ++ [(kp.length, wd)], op, du⟩ kv (tv ++ [.ref X]) ov ((X, listOf #[.int (kp.length : Int) t, .str wd u] n) :: tl) :=
  ⟨W.k, W.o, (W.t.mono (fun _ hp => .tail _ hp)).snoc (p := (kp.length, wd)) (.head _), fun p hp => by
    rcases List.mem_cons.mp hp with rfl | hp
    · exact hX
    · exact W.ne p hp⟩
theorem WSt.push (W : WSt K T O news ⟨kp, td, op, du⟩ kv tv ov tl) (b : Bool) (tk : Tok) : WSt K T O news ⟨kp, td, b :: op, du⟩ kv tv (ov ++ [.str (bS b) tk]) tl := ⟨W.k, by
  rw [List.reverse_cons, List.map_append]
  exact StrsAre.append' W.o (.cons _ _ .nil), W.t, W.ne⟩
theorem WSt.pops {b : Bool} {bt : Tok} (W : WSt K T O news ⟨kp, td, b :: op, du⟩ kv tv (ov ++ [.str (bS b) bt]) tl) : WSt K T O news ⟨kp, td, op, du⟩ kv tv ov tl := ⟨W.k, by
  have q := W.o
  rw [List.reverse_cons, List.map_append] at q
  obtain ⟨p, u, e, hp⟩ := strs_unsnoc (x := bS b) q
  have e' := List.append_inj' e rfl
  rw [e'.1]; exact hp, W.t, W.ne⟩
end
theorem put_due {S : St} {t : Tk} (h : S.due = true) (hc : (t.opd || decide (t = .bang) || decide (t = .lp)) = true) : S.put t = St.add { S with due := (decide (t = .bang) || decide (t = .lp)) } t := by
  obtain ⟨kept, told, opened, due⟩ := S
  cases h
  cases t <;> first | rfl | cases hc
theorem put_drop1 {S : St} {t : Tk} (h : S.due = true) (hc : (t.opd || decide (t = .bang) || decide (t = .lp)) = false) : S.put t = S.drop t := by
  obtain ⟨kept, told, opened, due⟩ := S
  cases h
  cases t <;> first | rfl | cases hc
theorem put_op {S : St} {t : Tk} (h : S.due = false) (hc : (t.op || decide (t = .ask)) = true) : S.put t = St.add { S with due := true } t := by
  obtain ⟨kept, told, opened, due⟩ := S
  cases h
  cases t <;> first | rfl | cases hc
theorem put_nil {S : St} {t : Tk} (h : S.due = false) (hc : (t.op || decide (t = .ask)) = false) (ho : S.opened = []) : S.put t = S.drop t := by
  obtain ⟨kept, told, opened, due⟩ := S
  cases h; cases ho
  cases t <;> first | rfl | cases hc
/-- what shuts an opened one -/
def shutS : Bool → Str | true => Str.ofString ")" | false => Str.ofString ":"
theorem put_shut {S : St} {t : Tk} {b : Bool} {o : List Bool} (h : S.due = false) (ho : S.opened = b :: o) (he : (t.s == shutS b) = true) : S.put t = St.add { S with opened := o, due := !b } t := by
  obtain ⟨kept, told, opened, due⟩ := S
  cases h; cases ho
  cases b <;> cases t <;> first | rfl | exact absurd he (by decide +kernel)
theorem put_drop2 {S : St} {t : Tk} {b : Bool} {o : List Bool} (h : S.due = false) (hc : (t.op || decide (t = .ask)) = false) (ho : S.opened = b :: o) (he : (t.s == shutS b) = false) : S.put t = S.drop t := by
  obtain ⟨kept, told, opened, due⟩ := S
  cases h; cases ho
  cases b <;> cases t <;> first | (exfalso; revert he; decide +kernel) | (exfalso; revert hc; decide) | rfl
theorem led_ne {K T O I : Addr} {kv tv ov : List Value} {nk nt no : Nat} {r : List (Addr × Obj)} (hK : I ≠ K) (hT : I ≠ T) (hO : I ≠ O) (h : ∀ p ∈ r, p.1 ≠ I) : ∀ p ∈ wLed K T O kv tv ov nk nt no r, p.1 ≠ I := fun p q => by
  rcases List.mem_cons.mp q with rfl | q
  · exact Ne.symm hK
  · rcases List.mem_cons.mp q with rfl | q
    · exact Ne.symm hT
    · rcases List.mem_cons.mp q with rfl | q
      · exact Ne.symm hO
      · exact h p q
theorem ne_of_led {K T O I : Addr} {kv tv ov : List Value} {nk nt no : Nat} {r : List (Addr × Obj)} (h : ∀ p ∈ wLed K T O kv tv ov nk nt no r, p.1 ≠ I) : I ≠ K ∧ I ≠ T ∧ I ≠ O ∧ ∀ p ∈ r, p.1 ≠ I :=
  ⟨Ne.symm (h _ (.head _)), Ne.symm (h _ (.tail _ (.head _))), Ne.symm (h _ (.tail _ (.tail _ (.head _)))), fun p q => h p (.tail _ (.tail _ (.tail _ q)))⟩
theorem cons_ne {I X : Addr} {o : Obj} {tl news : List (Addr × Obj)} (h : ∀ p ∈ tl ++ news, p.1 ≠ I) (hX : X ≠ I) : ∀ p ∈ ((X, o) :: tl) ++ news, p.1 ≠ I := fun p q => by
  rcases List.mem_cons.mp q with rfl | q
  · exact hX
  · exact h p q
theorem one_ne {I K : Addr} {o : Obj} (h : I ≠ K) : ∀ p ∈ [(I, o)], p.1 ≠ K := fun p q => by
  rw [List.mem_singleton.mp q]; exact h
theorem words_of : ∀ {t : Tk}, t ≠ .fin → Str.ofString "unexpected token in plural form: " ++ t.s = errWords t.s := by
  intro t h
  cases t <;> first | exact absurd rfl h | decide +kernel
theorem len_s : ∀ t : Tk, t.s.length ≤ 2 := by intro t; cases t <;> decide
theorem depth_strs : ∀ xs : List Str, PyData.depthAll (xs.map .str) ≤ 1
  | [] => by simp [PyData.depthAll]
  | x :: xs => by
    have := depth_strs xs
    simp [PyData.depthAll, PyData.depth]
    omega
theorem shaped_strs {xs : List Str} (h : xs.all PyData.strOk = true) : SeqAt.shaped (.list (xs.map .str)) = true := by
  have h1 := lay_strs h
  have h2 := depth_strs xs
  unfold SeqAt.shaped
  rw [Bool.and_eq_true]
  refine ⟨by simpa [PyData.canLay0] using h1, decide_eq_true ?_⟩
  simp [PyData.depth]
  omega
theorem ok_bS (l : List Bool) : (l.map bS).all PyData.strOk = true := by
  rw [List.all_map, List.all_eq_true]
  intro b _
  cases b <;> decide +kernel
theorem eqv_nil {xs : List PyData} (h : xs ≠ []) : PyData.eqv (.list xs) (.list []) = false := by
  cases xs with
  | nil => exact absurd rfl h
  | cons x xs => simp [PyData.eqv, PyData.eqvAll]
section
variable {prog : Program} {w : World} {A : Around} {E : Value → Shared → Prop} {s : Shared} {h₀ : Heap} {L l b : Addr} {news : List (Addr × Obj)} {vs : List Value} {xs : List Str} {n nb : Nat} {Q : Value → Shared → Prop}
theorem ne_nil_in (N : News h₀ L s.heap news) (hm : (l, listOf vs.toArray n) ∈ news) (hb : (b, listOf #[] nb) ∈ news) (hS : StrsAre vs xs) (hok : xs.all PyData.strOk = true) (hx : xs ≠ []) (hu : A.units + 64 < cLine) (h : Q (.bool true) s) :
    wpAny (model prog w) A (compareOp .NotEq (.ref l) (.ref b)) Q E s :=
  ne_dataH (reads_list_at (N _ hm).1 rfl rfl (reads_strs hS)) (reads_list_at (N _ hb).1 rfl rfl .nil) (shaped_strs hok) (by decide +kernel) hu (by
    rw [eqv_nil (by simpa using hx)]; exact h)
theorem no_nil_in (N : News h₀ L s.heap news) (hm : (l, listOf #[] n) ∈ news) (hb : (b, listOf #[] nb) ∈ news) (hu : A.units + 64 < cLine) (h : Q (.bool false) s) :
    wpAny (model prog w) A (compareOp .NotEq (.ref l) (.ref b)) Q E s :=
  ne_dataH (reads_list_at (N _ hm).1 rfl rfl .nil) (reads_list_at (N _ hb).1 rfl rfl .nil) (by decide +kernel) (by decide +kernel) hu h
end
section
variable {prog : Program} {w : World} {A : Around} {E : Value → Shared → Prop} {s : Shared} {h₀ : Heap} {L l : Addr} {news : List (Addr × Obj)} {n : Nat} {Q : Value → Shared → Prop}
theorem item_last_in {value slice : PySem.Expr} {u : Tok} {p : List Value} {y : Value} (N : News h₀ L s.heap news) (hm : (l, listOf (p ++ [y]).toArray n) ∈ news) (h : Q y s)
    (hs : subscripted slice false (.ref l) (.int (-1) u) = operate [.ref l, .int (-1) u] (getItem (.ref l) (.int (-1) u))) (hg : ∀ r, letTemporaryGo value (.ref l) r = pure ()) :
    wpAny (model prog w) A (subscriptTail value slice (.ref l) (.int (-1) u)) Q E s :=
  subscriptTail_builtin (N.isList hm).typeIs slot_list_getitem.lookup (wpAny_getItem_list_neg (N.isList hm) (by decide) (by simp; omega) (by decide) (by
    have e : (-1 + (((p ++ [y]).toArray.size : Nat) : Int)).toNat = p.length := by simp; omega
    rw [e]
    simp) h) hs hg
end
theorem fold_turn {row : List Tk} {i : Nat} {t : Tk} {S S' : St} (ht : row[i]? = some t) (hS : S = (row.take i).foldl St.turn ⟨[], [], [], true⟩) (htu : S'.turn t = S.turn t) (hput : S'.turn t = S'.put t) : S'.put t = (row.take (i + 1)).foldl St.turn ⟨[], [], [], true⟩ := by
  rw [← hput, htu, hS, take_snoc ht, List.foldl_append]
  rfl
theorem bnd_turn {S : St} {t : Tk} {n i : Nat} (h : bnd S (n - i) ≤ 130) (hi : i < n) : bnd (S.put t) (n - (i + 1)) ≤ 130 := by
  have e : n - i = (n - (i + 1)) + 1 := by omega
  rw [e] at h
  exact Nat.le_trans bnd_put h
theorem add_none {S : St} {t : Tk} (h : t.opens = none) : S.add t = ⟨S.kept ++ [t], S.told, S.opened, S.due⟩ := by unfold St.add; rw [h]
theorem add_some {S : St} {t : Tk} {b : Bool} (h : t.opens = some b) : S.add t = ⟨S.kept ++ [t], S.told, b :: S.opened, S.due⟩ := by unfold St.add; rw [h]
theorem opens_s {t : Tk} {b : Bool} (h : t.opens = some b) : t.s = bS b := by cases t <;> cases h <;> rfl
/-- where the walk stands behind the row -/
def WEnd (g' : Heap) (L' : Addr) (s : Shared) (A : St → (Str → Option Value) → List (Addr × Obj) → Prop) (P : St → Prop) (s' : Shared) : Prop :=
  ∃ S m nx h tk, s' = { s with heap := h, toks := tk } ∧ P S ∧ A S m nx ∧ Fr g' L' h m ∧ News g' L' h nx
theorem end_words : endWords = Str.ofString "unexpected end of plural form" := by decide +kernel
section
variable {kp : List Tk} {td : List (Nat × Str)} {op : List Bool} {o : List Bool}
theorem end_due : fuelE false op < fuelE true op ∧ St.fin ⟨kp, td, op, true⟩ = St.fin ⟨kp ++ [.n], td ++ [(kp.length, endWords)], op, false⟩ ∧ bnd ⟨kp ++ [.n], td ++ [(kp.length, endWords)], op, false⟩ 0 ≤ bnd ⟨kp, td, op, true⟩ 0 :=
  ⟨by simp [fuelE, bN], fin_due rfl, by simp [bnd, bN]; omega⟩
theorem end_pop : fuelE false o < fuelE false (true :: o) ∧ St.fin ⟨kp, td, true :: o, false⟩ = St.fin ⟨kp ++ [.rp], td ++ [(kp.length, unbal)], o, false⟩ ∧ bnd ⟨kp ++ [.rp], td ++ [(kp.length, unbal)], o, false⟩ 0 ≤ bnd ⟨kp, td, true :: o, false⟩ 0 :=
  ⟨by simp [fuelE, bN]; try omega, fin_pop rfl rfl, by simp [bnd, bN]; omega⟩
theorem end_col : fuelE true o < fuelE false (false :: o) ∧ St.fin ⟨kp, td, false :: o, false⟩ = St.fin ⟨kp ++ [.col], td ++ [(kp.length, endWords)], o, true⟩ ∧ bnd ⟨kp ++ [.col], td ++ [(kp.length, endWords)], o, true⟩ 0 ≤ bnd ⟨kp, td, false :: o, false⟩ 0 :=
  ⟨by simp [fuelE, bN]; try omega, fin_col rfl rfl, by simp [bnd, bN]; omega⟩
end
theorem reads_res {h₀ h : Heap} {L K T O D : Addr} {news tl : List (Addr × Obj)} {S : St} {kv tv ov : List Value} {nk nt no n : Nat} (N : News h₀ L h ((D, listOf #[.ref K, .ref T] n) :: wLed K T O kv tv ov nk nt no (tl ++ news))) (W : WSt K T O news S kv tv ov tl) :
    ∃ as, Reads h (.ref D) (resData (S.kept, S.told)) as := by
  obtain ⟨as, ht⟩ := W.t.reads (fun p hp => N p (.tail _ (.tail _ (.tail _ (.tail _ (List.mem_append_left _ hp))))))
  have hk := reads_strs (h := h) W.k
  rw [List.map_map] at hk
  exact ⟨_, reads_list_at (N _ (.head _)).1 rfl rfl (.cons (reads_list_at (N _ (.tail _ (.head _))).1 rfl rfl hk) (.cons (reads_list_at (N _ (.tail _ (.tail _ (.head _)))).1 rfl rfl ht) .nil))⟩
theorem rest_fin {row : List Tk} {S S' : St} (hS : S = row.foldl St.turn ⟨[], [], [], true⟩) (hf : S'.fin = S.fin) (h1 : S'.due = false) (h2 : S'.opened = []) : St.rest ⟨[], [], [], true⟩ row = (S'.kept, S'.told) := by
  rw [← fin_done h1 h2, hf, hS]
  rfl
end Mine


set_option maxRecDepth 100000
namespace Mine
section
variable {M : Model} {A : Around} {E : Value → Shared → Prop} {s : Shared} {env : Env}
theorem wpC_Subscript {value slice : PySem.Expr} {pos : Pos} {Q : Value → Shared → Prop}
    (h : wpC M A (eval value env) (fun o s₁ => wpAny M A (eval slice env) (fun i s₂ => wpAny M A (subscriptTail value slice o i) Q E s₂) E s₁) E s) : wpC M A (eval (.Subscript value slice pos) env) Q E s := by
  rw [eval_Subscript]
  exact wpC_bindR (wpC_mono h (fun o s₁ h₁ => wpAny_bind (wpAny_holding (wpAny_mono h₁ (fun i s₂ h₂ => wpAny_bind (wpAny_standAt h₂)) fun _ _ x => x))) fun _ _ x => x)
/-- what the handlers stand on -/
theorem wpC_raising {α : Type} {t : Sem α} {Q : α → Shared → Prop} (mid : Value → Shared → Prop) (h : wpC M A t Q mid s) (k : ∀ e s', mid e s' → E e s') : wpC M A t Q E s := wpC_mono h (fun _ _ x => x) k
theorem wpC_raisingE {A₀ : Around} {α : Type} {t : Sem α} {Q : α → Shared → Prop} (mid : Env → Value → Shared → Prop) (h : wpC M (A₀.deeper env) t Q (mid env) s) (k : ∀ e s', mid env e s' → E e s') : wpC M (A₀.deeper env) t Q E s := wpC_mono h (fun _ _ x => x) k
end

section
variable {prog : Program} {w : World} {A : Around} {E : Value → Shared → Prop} {s : Shared} {h₀ : Heap} {L l : Addr} {m : Str → Option Value} {news : List (Addr × Obj)} {vs : List Value} {n p : Nat} {Q : Value → Shared → Prop} {value slice : PySem.Expr} {ops : List Value} {u : Tok}
theorem slice_upto {h : Heap} {gs : Array GenState} {d : Shared} {tk : Nat} (F : Fr h₀ L h m) (N : News h₀ L h news) (hm : (l, listOf vs.toArray n) ∈ news) (hz : vs.length ≤ 1000)
    (k : ∀ D h', Fr h₀ L h' m → News h₀ L h' ((D, listOf (vs.take p).toArray 0) :: news) → (∀ q ∈ news, q.1 < D) → Q (.ref D) ⟨h', gs, d.drawn, tk, d.os⟩)
    (hs : subscripted slice false (.ref l) (.ref h.objs.size) = operate ops (getItem (.ref l) (.ref h.objs.size))) (ht : ∀ r, letTemporaryGo value (.ref l) r = pure ()) :
    wpAny (model prog w) A (subscriptTail value slice (.ref l) (.ref h.objs.size)) Q E ⟨h.push { cls := .type "slice", data := .fields #[.none, .int (p : Int) u, .none] }, gs, d.drawn, tk, d.os⟩ := by
  refine kmk_slice3_lit (s := ⟨h, gs, d.drawn, tk, d.os⟩) F N (N.isList hm) .none (.int _ _) .none (by decide) ?_ k hs ht (Nat.le_trans (by simpa using hz) (by decide))
  rw [slicePick_upto' vs.toArray p]
theorem slice_from {h : Heap} {gs : Array GenState} {d : Shared} {tk : Nat} (F : Fr h₀ L h m) (N : News h₀ L h news) (hm : (l, listOf vs.toArray n) ∈ news) (hz : vs.length ≤ 1000)
    (k : ∀ D h', Fr h₀ L h' m → News h₀ L h' ((D, listOf (vs.drop p).toArray 0) :: news) → (∀ q ∈ news, q.1 < D) → Q (.ref D) ⟨h', gs, d.drawn, tk, d.os⟩)
    (hs : subscripted slice false (.ref l) (.ref h.objs.size) = operate ops (getItem (.ref l) (.ref h.objs.size))) (ht : ∀ r, letTemporaryGo value (.ref l) r = pure ()) :
    wpAny (model prog w) A (subscriptTail value slice (.ref l) (.ref h.objs.size)) Q E ⟨h.push { cls := .type "slice", data := .fields #[.int (p : Int) u, .none, .none] }, gs, d.drawn, tk, d.os⟩ := by
  refine kmk_slice3_lit (s := ⟨h, gs, d.drawn, tk, d.os⟩) F N (N.isList hm) (.int _ _) .none .none (by decide) ?_ k hs ht (Nat.le_trans (by simpa using hz) (by decide))
  rw [slicePick_from' vs.toArray p]
end

/-- what a turn of the words' loop stands on -/
structure W2St (news : List (Addr × Obj)) (row : List Tk) (i : Nat) (S : St) (rem : List Tk) (R T : Addr) (rv tv : List Value) (tl : List (Addr × Obj)) : Prop where
  cfg : Cfg S
  nr : Tk.fin ∉ rem
  nk : Tk.fin ∉ S.kept
  rest : S.rest rem = St.rest ⟨[], [], [], true⟩ row
  psi : psi S rem + i ≤ 3 * row.length + 1
  size : (S.kept ++ rem).length ≤ row.length + i
  told : S.told.length ≤ i
  rows : StrsAre rv ((S.kept ++ rem).map Tk.s)
  tolds : ToldAre tl tv S.told
  ne : R ≠ T ∧ ∀ p ∈ tl ++ news, p.1 ≠ T
def W2At (A₀ : Around) (base g₀ : Heap) (outer : List Env) (news : List (Addr × Obj)) (row : List Tk) (i : Nat) (g : Heap) (m : Str → Option Value) (nx : List (Addr × Obj)) : Prop :=
  Below A₀ base outer g ∧ Dicts outer g ∧ NsKept outer g₀ g ∧ ∃ S rem R T rv tv nr nt tl, W2St news row i S rem R T rv tv tl ∧ m (Str.ofString "row") = some (.ref R) ∧ m (Str.ofString "told") = some (.ref T) ∧
    nx = (R, listOf rv.toArray nr) :: (T, listOf tv.toArray nt) :: (tl ++ news)
/-- an error under way: a callee's, or this frame's own -/
def Thrown (base g : Heap) (env : Env) (outer : List Env) (L : Addr) (P : (Str → Option Value) → Prop) (wd : Str) (news : List (Addr × Obj)) (s : Shared) (e : Value) (s' : Shared) : Prop :=
  ∃ m ea t h' tk tw, P m ∧ e = .ref ea ∧ s' = { s with heap := h', toks := tk } ∧ (∀ q ∈ news, g.get? q.1 = none) ∧
    ((∃ h, Fr g L h m ∧ h.UpToSlots h' ∧ RaisedX base (env :: outer) ea t [.str wd tw] news h') ∨
     ∃ oe ot ws nt, Fr g L h' m ∧ News g L h' ((ea, oe) :: (t, ot) :: news) ∧ (∀ p ∈ news, p.1 ≠ ea ∧ p.1 ≠ t) ∧ oe.cls = .type "ValueError" ∧ oe.data = .fields ws ∧ ws[0]? = some (.ref t) ∧ ws[1]? = some .none ∧ ws[2]? = some .none ∧ ot.cls = .type "tuple" ∧ ot.data = .seq [Value.str wd tw].toArray nt)
section
variable {prog : Program} {w : World} {A₀ : Around} {E : Value → Shared → Prop} {s s' : Shared} {base g : Heap} {outer : List Env} {L a : Addr} {ev : Value} {name : Str} {scope : Scope} {cd : Value} {P : (Str → Option Value) → Prop}
  {wd n : Str} {b₀ : Stmt} {suite : List Stmt} {pos np : Pos} {rest : List ExceptHandler} {Q : Flow → Shared → Prop} {news : List (Addr × Obj)}
  {p : Program} {loose : List Str} {mg mb : Str → Option Value}
theorem catch_any (hT : Thrown base g (envOf name scope L a cd) outer L P wd news s ev s') (K : Below A₀ base outer g) (hD : Dicts outer g) (TB : TopRead p loose mg mb base)
    (k : ∀ m e t tw g' h' oe ot ws ctx tk, P m → Below A₀ base outer g' → Fr g' L h' (fun y => if y = n then some (.ref e) else m y) → News g' L h' ((e, oe) :: (t, ot) :: (ctx ++ news)) → Got ((e, oe) :: (t, ot) :: (ctx ++ news)) e t (.type "ValueError") [.str wd tw] → NsKept outer g g' → Dicts outer g' → (∀ p ∈ news, p.1 ≠ e ∧ p.1 ≠ t) →
      oe.data = .fields ws → ((ctx = [] ∧ ws[2]? = some .none) ∨ ∃ cx o1 ws1, ctx = [(cx, o1)] ∧ ws[2]? = some (.ref cx) ∧ o1.data = .fields ws1 ∧ ws1[2]? = some .none) →
      wpAny (model prog w) ((A₀.deeper (envOf name scope L a cd)).mark (some (.ref e))) (execs (b₀ :: suite) (envOf name scope L a cd))
        (fun f s₄ => wpAny (model prog w) (A₀.deeper (envOf name scope L a cd)) (do bindName (envOf name scope L a cd) n .none; unbindBehindTheSuite (envOf name scope L a cd) n pos) (fun _ s₅ => Q f s₅) E s₄)
        (AsSuiteRaised (model prog w) ((A₀.deeper (envOf name scope L a cd)).mark (some (.ref e))) (envOf name scope L a cd) n pos (notedBy (model prog w) ((A₀.deeper (envOf name scope L a cd)).mark (some (.ref e))) (envOf name scope L a cd) (cameBackBy (model prog w) (A₀.deeper (envOf name scope L a cd)) (envOf name scope L a cd) E)))
        { s with heap := h', toks := tk })
    (h1 : Str.ofString "ValueError" ∉ startupNames := by decide +kernel) (h2 : Str.ofString "ValueError" ∉ loose := by decide +kernel) (h3 : Str.ofString "ValueError" ∉ (recsOf p).map (·.name) := by decide +kernel) (h4 : Str.ofString "ValueError" ∉ (litsOf p).map (·.1) := by decide +kernel) (h4c : Str.ofString "ValueError" ∉ (clssOf p loose).map (·.name) := by decide +kernel)
    (hk : scope.kind = .function := by rfl) (hlo : (envOf name scope L a cd).kindOf n = some .local := by rfl) (hxx : (envOf name scope L a cd).kindOf (Str.ofString "ValueError") = some .globalImplicit := by rfl) :
    wpAny (model prog w) (A₀.deeper (envOf name scope L a cd)) (noteFrame ev (envOf name scope L a cd))
      (fun _ s₂ => wpAny (model prog w) (A₀.deeper (envOf name scope L a cd)) (setFlight ev none) (fun _ s₃ =>
        wpAny (model prog w) (A₀.deeper (envOf name scope L a cd)) (handleBy ev (envOf name scope L a cd) (.ExceptHandler (some (.Name (Str.ofString "ValueError") np)) (some n) (b₀ :: suite) pos :: rest)) Q E s₃) E s₂) E s' := by
  obtain ⟨m, e, t, h', tk, tw, hP, rfl, rfl, hn0, hx⟩ := hT
  rcases hx with ⟨h, F, hsm, R⟩ | ⟨oe, ot, ws, nt, F, N, hne, hcl, hd, h0, h1', h2', htc, htd⟩
  · exact catch_calleeX K F hsm R hn0 hD TB (fun g' h' oe ot ws ctx tk => k m e t tw g' h' oe ot ws ctx tk hP) h1 h2 h3 h4 h4c hk hlo hxx
  · exact catch_genX K F N hne hcl hd h0 h1' h2' htc htd hD TB (fun g' h' oe ot ws ctx tk => k m e t tw g' h' oe ot ws ctx tk hP) h1 h2 h3 h4 h4c hk hlo hxx
end
section
variable {prog : Program} {w : World} {A : Around} {E : Value → Shared → Prop} {s : Shared} {h₀ : Heap} {L a b : Addr} {m : Str → Option Value} {news : List (Addr × Obj)} {xs ys : List Value} {n n' : Nat}
theorem cat_lists {Q : Value → Shared → Prop} (F : Fr h₀ L s.heap m) (N : News h₀ L s.heap news) (ha : (a, listOf xs.toArray n) ∈ news) (hb : (b, listOf ys.toArray n') ∈ news) (hz : xs.length + ys.length ≤ sizeLine)
    (h : ∀ D h', Fr h₀ L h' m → News h₀ L h' ((D, listOf (xs ++ ys).toArray 0) :: news) → (∀ p ∈ news, p.1 < D) → Q (.ref D) { s with heap := h' }) : wpAny (model prog w) A (binaryOp .Add (.ref a) (.ref b)) Q E s := by
  refine add_arrays (its := xs.toArray) (its2 := ys.toArray) F N (N.isList ha) (N.isList hb) (fun h' F' N' => ?_) (by simpa using hz)
  exact h _ h' F' (by simpa using N') fun p hp => Heap.lt_size (N p hp).1
end
section
variable {prog : Program} {w : World} {A : Around} {E : Value → Shared → Prop} {s : Shared} {h₀ : Heap} {L l : Addr} {news : List (Addr × Obj)} {Q : Value → Shared → Prop}
theorem tup_is {h : Heap} {vs : List Value} (N : News h₀ L h news) (hm : (l, tupOf vs) ∈ news) : IsTup h l vs.toArray := ⟨_, (N _ hm).1, rfl, _, rfl⟩
theorem item_tup_in {value slice : PySem.Expr} {vs : List Value} {k : Int} {j : Nat} {u : Tok} {x : Str} {tk : Tok} (ht : IsTup s.heap l vs.toArray) (hlo : -(2 ^ 63) ≤ k) (hhi : k < 2 ^ 63) (hj : seqIndex? k vs.toArray.size = some j) (hx : vs.toArray[j]? = some (.str x tk)) (h : Q (.str x tk) s)
    (hs : subscripted slice false (.ref l) (.int k u) = operate [.ref l, .int k u] (getItem (.ref l) (.int k u))) :
    wpAny (model prog w) A (subscriptTail value slice (.ref l) (.int k u)) Q E s :=
  subscriptTail_builtin_flat ht.typeIs slot_tuple_getitem.lookup (getItem_tuple ht hlo hhi hj hx ⟨(fun _ q => by cases q), h⟩) hs
end
theorem reads_row {h₀ h : Heap} {L R T D : Addr} {led tl : List (Addr × Obj)} {k : List Tk} {d : List (Nat × Str)} {rv tv : List Value} {nr nt n : Nat} (N : News h₀ L h led) (hD : (D, listOf #[.ref R, .ref T] n) ∈ led) (hR : (R, listOf rv.toArray nr) ∈ led) (hT : (T, listOf tv.toArray nt) ∈ led) (ht : ∀ p ∈ tl, p ∈ led)
    (hk : StrsAre rv (k.map Tk.s)) (hd : ToldAre tl tv d) : ∃ as, Reads h (.ref D) (resData (k, d)) as := by
  obtain ⟨as, h1⟩ := hd.reads (fun p hp => N p (ht p hp))
  have h2 := reads_strs (h := h) hk
  rw [List.map_map] at h2
  exact ⟨_, reads_list_at (N _ hD).1 rfl rfl (.cons (reads_list_at (N _ hR).1 rfl rfl h2) (.cons (reads_list_at (N _ hT).1 rfl rfl h1) .nil))⟩
theorem fin_ne : ∀ {t : Tk}, t ≠ .fin → (t.s == Str.ofString "") = false := by
  intro t h
  cases t <;> first | exact absurd rfl h | decide
theorem drop_len {rv : List Value} {v : Value} {ks r : List Tk} (h : rv.length = ks.length) (hr : r.length ≤ ks.length) : ((rv ++ [v]).toArray.toList.drop (0 + (((ks ++ [Tk.fin]).map Tk.s).length - (r.map Tk.s).length))).length = r.length := by
  simp
  omega
theorem drop_le {rv : List Value} {v : Value} {ks r : List Tk} (h : rv.length = ks.length) : 0 + (((ks ++ [Tk.fin]).map Tk.s).length - (r.map Tk.s).length) ≤ (rv ++ [v]).toArray.size := by
  simp
  omega
theorem W2St.next {news tl : List (Addr × Obj)} {row rem rem2 : List Tk} {i n pl : Nat} {S S2 : St} {R T R2 X : Addr} {rv tv rv2 : List Value} {out : Out} {wd : Str} {t1 t2 : Tok} (W : W2St news row i S rem R T rv tv tl) (hst : Step S rem S2 rem2 out) (ht : S2.told = S.told ++ [(pl, wd)])
    (hr : StrsAre rv2 ((S2.kept ++ rem2).map Tk.s)) (hX : X ≠ T) (hR : R2 ≠ T) : W2St news row (i + 1) S2 rem2 R2 T rv2 (tv ++ [.ref X]) ((X, listOf #[.int (pl : Int) t1, .str wd t2] n) :: tl) where
  cfg := hst.cfg
  nr := hst.nofin
  nk := hst.nokept
  rest := hst.same.trans W.rest
  psi := by have := hst.less; have := W.psi; omega
  size := by have := hst.size; have := W.size; omega
  told := by rw [ht, List.length_append]; exact Nat.succ_le_succ W.told
  rows := hr
  tolds := by rw [ht]; exact (W.tolds.mono (fun _ hp => .tail _ hp)).snoc (p := (pl, wd)) (.head _)
  ne := ⟨hR, cons_ne W.ne.2 hX⟩
def lLast : List PyData := [.list [.str (Str.ofString "n")], .list [.str (Str.ofString "12")], .list [.str (Str.ofString "0")], .list [.str (Str.ofString ")")]]
theorem last_in (ks : List Tk) : (lLast.any fun y => PyData.eqv y (.list (((ks.drop (ks.length - 1)).map Tk.s).map .str))) = lastOpd ks := by
  rcases List.eq_nil_or_concat ks with rfl | ⟨k, t, rfl⟩
  · decide +kernel
  · rw [List.concat_eq_append, last_snoc]
    have e : (k ++ [t]).drop ((k ++ [t]).length - 1) = [t] := by simp
    rw [e]
    cases t <;> decide +kernel
theorem ok_map (ks : List Tk) : (ks.map Tk.s).all PyData.strOk = true := by
  rw [List.all_map, List.all_eq_true]
  intro t _
  exact ok_s t
theorem strs_take {vs : List Value} {xs : List Str} (h : StrsAre vs xs) (n : Nat) : StrsAre (vs.take n) (xs.take n) := by
  induction h generalizing n with
  | nil => simp; exact .nil
  | cons x t _ ih => cases n with
    | zero => exact .nil
    | succ n => exact .cons x t (ih n)
theorem mend_shut {ks : List Tk} {p : Nat} {wd : Str} (h : wd = unbal) : mend ks p wd = ks.take p ++ [.rp] ++ ks.drop p := by unfold mend; rw [if_pos h]
theorem mend_out {ks : List Tk} {p : Nat} {wd : Str} (h : wd ≠ unbal) (h2 : wd ≠ endWords) : mend ks p wd = ks.take p ++ ks.drop (p + 1) := by unfold mend; rw [if_neg h, if_pos h2]
theorem mend_col {ks : List Tk} {p : Nat} (h : lastOpd ks = true) : mend ks p endWords = ks ++ [.col] := by unfold mend; rw [if_neg end_ne, if_neg (fun q => q rfl), if_pos h]
theorem mend_n {ks : List Tk} {p : Nat} (h : lastOpd ks = false) : mend ks p endWords = ks ++ [.n] := by unfold mend; rw [if_neg end_ne, if_neg (fun q => q rfl), if_neg (by rw [h]; decide)]
theorem rows_shut {rv : List Value} {ks : List Tk} {p : Nat} {t : Tok} (h : StrsAre rv (ks.map Tk.s)) : StrsAre (rv.take p ++ [.str (Str.ofString ")") t] ++ rv.drop p) ((ks.take p ++ [Tk.rp] ++ ks.drop p).map Tk.s) := by
  rw [List.map_append, List.map_append, List.map_take, List.map_drop]
  exact ((strs_take h p).append' (.cons _ _ .nil)).append' (strs_drop h p)
theorem rows_out {rv : List Value} {ks : List Tk} {p : Nat} (h : StrsAre rv (ks.map Tk.s)) : StrsAre (rv.take p ++ rv.drop (p + 1)) ((ks.take p ++ ks.drop (p + 1)).map Tk.s) := by
  rw [List.map_append, List.map_take, List.map_drop]
  exact (strs_take h p).append' (strs_drop h (p + 1))
theorem rows_more {rv : List Value} {ks : List Tk} {u : Tk} {t : Tok} (h : StrsAre rv (ks.map Tk.s)) : StrsAre (rv ++ [.str u.s t]) ((ks ++ [u]).map Tk.s) := strs_map_snoc h
section
variable {prog : Program} {w : World} {A : Around} {E : Value → Shared → Prop} {s : Shared} {h₀ : Heap} {L l D a b c d : Addr} {news : List (Addr × Obj)} {ks : List Tk} {zs : List Value} {n n1 n2 n3 n4 nD : Nat} {t1 t2 t3 t4 : Tok} {Q : Value → Shared → Prop}
/-- the row's last token among those that end an operand -/
theorem in_last_in (N : News h₀ L s.heap news) (hD : (D, listOf zs.toArray nD) ∈ news) (hl : (l, listOf #[.ref a, .ref b, .ref c, .ref d] n) ∈ news) (ha : (a, listOf #[.str (Str.ofString "n") t1] n1) ∈ news) (hb : (b, listOf #[.str (Str.ofString "12") t2] n2) ∈ news) (hc : (c, listOf #[.str (Str.ofString "0") t3] n3) ∈ news)
    (hd : (d, listOf #[.str (Str.ofString ")") t4] n4) ∈ news) (hz : StrsAre zs ((ks.drop (ks.length - 1)).map Tk.s)) (hu : A.units + 10 < cLine) (h : Q (.bool (lastOpd ks)) s) : wpAny (model prog w) A (compareOp .In (.ref D) (.ref l)) Q E s := by
  refine SeqAt.in_list_reads (xs := lLast) (reads_list_at (N _ hl).1 rfl rfl (.cons (reads_one N ha) (.cons (reads_one N hb) (.cons (reads_one N hc) (.cons (reads_one N hd) .nil))))) (reads_list_at (N _ hD).1 rfl rfl (reads_strs hz)) (by decide +kernel) (SeqAt.canLay_of_shaped (shaped_strs (ok_map _))) ?_ (by rw [last_in]; exact h)
  have h1 : PyData.depthAll lLast ≤ 3 := by decide +kernel
  have h2 : ∀ x, min (PyData.depthAll lLast) x ≤ 3 := fun x => Nat.le_trans (Nat.min_le_left _ _) h1
  exact Nat.lt_of_le_of_lt (Nat.add_le_add_left (h2 _) _) (by omega)
theorem last_strs {rv : List Value} (h : StrsAre rv (ks.map Tk.s)) (hl : rv.length = ks.length) : StrsAre (rv.drop (rv.length - 1)) ((ks.drop (ks.length - 1)).map Tk.s) := by
  rw [hl, List.map_drop]
  exact strs_drop h _
end
end Mine


set_option maxRecDepth 100000
set_option maxHeartbeats 8000000
namespace Mine
theorem fillK : (fun (_ : OpenLaw) (_ : Params → Frag) => True) PySem.Challenge.rw_dv0012_02 hd0.heap_39 := by k_fill; trivial
local macro_rules | `(tactic| walk_at "pyIter") => `(tactic| (refine halt ?_))
local macro_rules | `(tactic| walk_at "pyIter ref") => `(tactic| (refine halt ?_))
local macro_rules | `(tactic| walk_at "subscriptTail") => `(tactic| (refine halt ?_))
local macro_rules | `(tactic| walk_at "subscriptTail Name Slice ref ref") => `(tactic| (refine halt ?_))
local macro_rules | `(tactic| walk_at "call builtin:list.append") => `(tactic| (refine halt ?_))
local macro_rules | `(tactic| walk_at "call builtin:list.pop") => `(tactic| (refine halt ?_))
local macro_rules | `(tactic| walk_at "compareOp NotEq ref ref") => `(tactic| (refine halt ?_))
local macro_rules | `(tactic| walk_at "compareOp Eq ref ref") => `(tactic| (refine halt ?_))
local macro_rules | `(tactic| walk_at "compareOp In str ref") => `(tactic| (refine halt ?_))
local macro_rules | `(tactic| walk_at "compareOp NotIn str ref") => `(tactic| (refine halt ?_))
local macro_rules | `(tactic| walk_at "GO") => `(tactic| (repeat ((fail_if_success (with_reducible show Halt _)); (fail_if_success (dsimp only; with_reducible show Halt _)); walk1)); (try dsimp only))
local macro_rules | `(tactic| walk_at "GO") => `(tactic| (repeat ((fail_if_success (with_reducible show Halt _)); walk1)))
local macro_rules | `(tactic| walk_at "DICTITEM") => `(tactic| (k_dflt (refine' item_strTab_split_any ?k1 ?k2 ?k3 ?k4 ?k5; (case k1 => k_tabat); (case k2 => exact rfl); (case k4 => (intro e; exact Bool.noConfusion (Eq.trans (Eq.symm (by with_unfolding_all rfl : Option.isSome _ = true)) (congrArg Option.isSome e)))); (case k5 => with_unfolding_all rfl); k_whole)))
local macro_rules | `(tactic| walk_at "call builtin:len") => `(tactic| (refine halt ?_))

theorem walk_call {w : World} {mean : ExcName → Option Value} {mg mb : Str → Option Value} {dp un : Nat} {gd : Option (List Code)} {cn : Str} {cs : Scope} {a : Addr} {ccd : Value} {cl : List (Str × Addr)} {base : Heap} {L : Addr} {m : Str → Option Value}
    {news : List (Addr × Obj)} {s : Shared} {l0 : Addr} {n0 : Nat} {vs0 : List Value} {row : List Tk} {Q E : Value → Shared → Prop}
    (F : Fr base L s.heap m) (XB : BaseOk w mean mg mb base) (N : News base L s.heap news) (hl0 : (l0, listOf vs0.toArray n0) ∈ news) (hS : StrsAre vs0 (row.map Tk.s)) (hz : row.length ≤ 16) (hnf : Tk.fin ∉ row)
    (hk : cs.kind = .function) (hdp : dp + 40 < recursionLimit) (hun : un + 400 < cLine)
    (h : ∀ D as h' tk', Fr base L h' m → News base L h' news → Reads h' (.ref D) (resData (St.rest ⟨[], [], [], true⟩ row)) as → Q (.ref D) { s with heap := h', toks := tk' }) :
    wpC (model PR w) (ktrTop dp un gd cn cs L a ccd cl []) (call (.ref 99) [.ref l0]) Q E s := by
  have X := XB.x
  have T := XB.t
  have K0 := below_caller base
  refine wpC_call ?_
  k_dflt (refine' codeC_Kr (binds := [(Str.ofString "row", .ref l0)]) ?k1 ?k2 ?k3 ?k4 ?k5 ?kA ?kF ?kK ?k6 ?k7 ?k8 ?k9 ?kB ?_ ?c2 ?c3 ?c4 ?c5; (case kA => exact rfl); (case kF => exact rfl); (case kK => assumption); (case k1 => exact K0); (case k2 => k_asm); (case k3 => exact X); (case k4 => k_asm); (case k5 => exact T); (case k6 => k_is); (case k7 => k_is); (case k8 => (show dp < recursionLimit; omega)); (case k9 => exact BindsTo.of_eq rfl); (case c5 => decide); (case kB => exact locs rfl); (case c2 => exact rfl); (case c3 => exact rfl); (case c4 => exact rfl); k_whole; intro g' L' h' FG' F' N' B' X' T' st')
  dsimp only
  clear K0 X T F N
  refine wpC_named ?_
  intro qk ek hq he
  refine wpC_execs_consL ?_
  k_steps
  refine wpC_execs_consL ?_
  k_steps
  refine wpC_execs_cons ?_
  refine wpC_ForT ?hE ?_ ?hf
  case hf => intro x; rfl
  case hE => (rw [he]; exact PySem.PassesOwn.leaving)
  iterate 2 walk1
  refine unhalt ?_
  rename Fr g' L' _ _ => F1
  rename News g' L' _ _ => N1
  obtain ⟨K, T, O, hnm, hKT, hKO, hTO, hlt, N2⟩ : ∃ K T O, WNm K T O true (frOf F1) ∧ K < T ∧ K < O ∧ T < O ∧ (∀ p ∈ news, p.1 < K) ∧ News g' L' _ (wLed K T O [] [] [] 0 0 0 news) := by
    rename (∀ p ∈ news, _) => l1
    rename (_ < _ ∧ _ < _ ∧ AllLt _ news) => l3
    refine ⟨_, _, _, ⟨rfl, rfl, rfl, rfl⟩, ‹_ ∧ AllLt _ news›.1, l3.2.1, l3.1, l1, news_sub N1 ?_⟩
    intro p hp
    simp only [List.mem_cons] at hp ⊢
    rcases hp with h | h | h | h
    · exact .inr (.inr (.inr (.inl h)))
    · exact .inr (.inr (.inl h))
    · exact .inr (.inl h)
    · exact .inr (.inr (.inr (.inr h)))
  clear N1
  have hvl : vs0.length = row.length := by have := strs_len hS; simpa using this
  refine iter_listC (fun i m nx => ∃ S : St, S = (row.take i).foldl St.turn ⟨[], [], [], true⟩ ∧ bnd S (row.length - i) ≤ 130 ∧ WAt K T O news S m nx) rfl F1 N2 (.tail _ (.tail _ (.tail _ hl0))) ?_ ?_ ?_ ?_
  · rintro i m nx ⟨S, -, -, -, kv, tv, ov, nk, nt, no, tl, -, rfl⟩
    exact .tail _ (.tail _ (.tail _ (List.mem_append_right _ hl0)))
  · refine ⟨_, rfl, ?_, hnm, [], [], [], 0, 0, 0, [], ⟨.nil, .nil, .nil, ?_⟩, rfl⟩
    · simp [bnd, bN]; omega
    · intro p hp
      have q := hlt p hp
      exact ⟨Nat.ne_of_lt q, Nat.ne_of_lt (Nat.lt_trans q hKT), Nat.ne_of_lt (Nat.lt_trans q hKO)⟩
  · rintro m1 nx h1 tk1 ⟨S, hSf, hb, hn1, kv, tv, ov, nk, nt, no, tl, W1, rfl⟩ F3 N3
    rw [hvl, List.take_length] at hSf
    rw [hvl, Nat.sub_self] at hb
    have F4 := pin (pin (pin (pin F3 hn1.k) (x := Str.ofString "told") hn1.t) (x := Str.ofString "opened") hn1.o) (x := Str.ofString "due") hn1.d
    clear F3 F1 N2 hnm
    refine wpC_execs_cons (wpC_cut (fun f s' => Halt (f = .next ∧ WEnd g' L' s (WAt K T O news) (fun S' => S'.due = false ∧ S'.opened = [] ∧ S'.fin = S.fin) s')) ?_ ?_)
    · refine wpC_While (fun b s' => WEnd g' L' s (WAt K T O news) (fun S' => b = fuelE S'.due S'.opened ∧ S'.fin = S.fin ∧ bnd S' 0 ≤ 130) s') (fuelE S.due S.opened)
        ⟨S, _, _, _, _, rfl, ⟨rfl, rfl, hb⟩, ⟨⟨rfl, rfl, rfl, rfl⟩, kv, tv, ov, nk, nt, no, tl, W1, rfl⟩, F4, N3⟩ (by rw [he]; exact PySem.PassesOwn.leaving) ?_
      clear F4 N3 W1
      rintro b _ ⟨S', m2, nx, h2, tk2, rfl, ⟨rfl, hfin, hb2⟩, ⟨hn2, kv2, tv2, ov2, nk2, nt2, no2, tl2, W2, rfl⟩, F6, N6⟩
      have F7 := pin (pin (pin (pin F6 hn2.k) (x := Str.ofString "told") hn2.t) (x := Str.ofString "opened") hn2.o) (x := Str.ofString "due") hn2.d
      clear F6
      obtain ⟨kp, td, op, du⟩ := S'
      have ekl : kv2.length = kp.length := by have := strs_len W2.k; simpa using this
      have etl := W2.t.len
      have eol : ov2.length = op.length := by have := strs_len W2.o; simpa using this
      have hkz : kp.length ≤ 200 ∧ td.length ≤ 200 ∧ op.length ≤ 200 := by simp [bnd] at hb2; omega
      have nK : ∀ p ∈ tl2 ++ news, p.1 ≠ K := fun p hp => (W2.ne p hp).1
      have nT : ∀ p ∈ tl2 ++ news, p.1 ≠ T := fun p hp => (W2.ne p hp).2.1
      have nO : ∀ p ∈ tl2 ++ news, p.1 ≠ O := fun p hp => (W2.ne p hp).2.2
      cases du with
      | true =>
        walk_at "GO"
        refine wpC_of_any ?_
        walk_at "GO"
        refine unhalt ?_
        rename Fr g' L' _ _ => F8
        rename News g' L' _ (wLed K T O _ _ _ _ _ _ _) => N8
        refine len_news N8 (.head _) (by omega) ?_
        intro tk9 u9
        rw [ekl]
        walk_at "GO"
        refine unhalt ?_
        rename Fr g' L' _ _ => F10
        rename News g' L' _ ((_, W.listOf #[Value.int _ _, Value.str _ _] _) :: _) => N10
        rename_i X h10 lt10
        refine told_in (pre := []) F10 N10 (fun _ q => nomatch q) (Nat.ne_of_gt lt10.2.1) hKT hTO nT (etl ▸ Nat.le_trans hkz.2.1 (show 200 ≤ 1000 by decide)) ?_
        intro h11 F11 N11
        walk_at "GO"
        refine unhalt ?_
        refine kept_in (pre := []) F11 N11 (fun _ q => nomatch q) hKT hKO (cons_ne nK (Nat.ne_of_gt lt10.1)) (ekl ▸ Nat.le_trans hkz.1 (show 200 ≤ 1000 by decide)) ?_
        intro h12 F12 N12
        walk_at "GO"
        rename Fr g' L' _ _ => F13
        rename News g' L' _ _ => N13
        exact ⟨_, (end_due (kp := kp) (td := td) (op := op)).1, ⟨kp ++ [.n], td ++ [(kp.length, endWords)], op, false⟩, _, _, _, _, rfl, ⟨rfl, (end_due (kp := kp) (td := td) (op := op)).2.1.symm.trans hfin, Nat.le_trans (end_due (kp := kp) (td := td) (op := op)).2.2 hb2⟩, ⟨⟨rfl, rfl, rfl, rfl⟩, _, _, _, _, _, _, _, WSt.due (((WSt.tell W2 ⟨Nat.ne_of_gt lt10.1, Nat.ne_of_gt lt10.2.1, Nat.ne_of_gt lt10.2.2.1⟩)).keep .n _), rfl⟩, F13, N13⟩
      | false =>
        walk_at "GO"
        refine unhalt ?_
        rename News g' L' _ ((_, W.listOf #[] 0) :: _) => N7
        cases op with
        | nil =>
          cases W2.o
          refine no_nil_in N7 (.tail _ (.tail _ (.tail _ (.head _)))) (.head _) (by show un + _ + 64 < cLine; omega) ?_
          have N9 := news_sub (news' := wLed K T O kv2 tv2 [] nk2 nt2 no2 (tl2 ++ news)) N7 (fun p hp => .tail _ hp)
          clear N7
          walk_at "GO"
          rename Fr g' L' _ _ => F10
          exact ⟨rfl, ⟨kp, td, [], false⟩, _, _, _, _, rfl, ⟨rfl, rfl, hfin⟩, ⟨⟨rfl, rfl, rfl, rfl⟩, _, _, _, _, _, _, _, W2, rfl⟩, F10, N9⟩
        | cons b o =>
          obtain ⟨pv, bt, rfl, hpv⟩ := strs_unsnoc (x := bS b) (xs := o.reverse.map bS) (vs := ov2) (by have := W2.o; simpa using this)
          have hpl : pv.length = o.length := by have := strs_len hpv; simpa using this
          refine ne_nil_in N7 (.tail _ (.tail _ (.tail _ (.head _)))) (.head _) W2.o (ok_bS _) (by simp) (by show un + _ + 64 < cLine; omega) ?_
          have N9 := news_sub (news' := wLed K T O kv2 tv2 (pv ++ [.str (bS b) bt]) nk2 nt2 no2 (tl2 ++ news)) N7 (fun p hp => .tail _ hp)
          clear N7
          walk_at "GO"
          refine wpC_of_any ?_
          walk_at "GO"
          refine unhalt ?_
          rename Fr g' L' _ _ => F10
          cases b with
          | true =>
            refine popo_in (y := .str (Str.ofString "(") bt) (pre := []) F10 N9 (fun _ q => nomatch q) hKO hTO nO (hpl ▸ Nat.le_trans (Nat.le_of_lt hkz.2.2) (show 200 ≤ 1000 by decide)) ?_
            intro h11 F11 N11
            change News g' L' h11 (wLed K T O kv2 tv2 pv nk2 nt2 (no2 + 1) (tl2 ++ news)) at N11
            clear F10 N9
            walk_at "GO"
            refine unhalt ?_
            rename Fr g' L' _ _ => F8
            rename News g' L' _ (wLed K T O _ _ _ _ _ _ _) => N8
            refine len_news N8 (.head _) (by omega) ?_
            intro tk9 u9
            rw [ekl]
            walk_at "GO"
            refine unhalt ?_
            rename Fr g' L' _ _ => F10
            rename News g' L' _ ((_, W.listOf #[Value.int _ _, Value.str _ _] _) :: _) => N10
            rename_i X h10 lt10
            refine told_in (pre := []) F10 N10 (fun _ q => nomatch q) (Nat.ne_of_gt lt10.2.1) hKT hTO nT (etl ▸ Nat.le_trans hkz.2.1 (show 200 ≤ 1000 by decide)) ?_
            intro h11 F11 N11
            walk_at "GO"
            refine unhalt ?_
            refine kept_in (pre := []) F11 N11 (fun _ q => nomatch q) hKT hKO (cons_ne nK (Nat.ne_of_gt lt10.1)) (ekl ▸ Nat.le_trans hkz.1 (show 200 ≤ 1000 by decide)) ?_
            intro h12 F12 N12
            walk_at "GO"
            rename Fr g' L' _ _ => F13
            rename News g' L' _ _ => N13
            exact ⟨_, (end_pop (kp := kp) (td := td) (o := o)).1, ⟨kp ++ [.rp], td ++ [(kp.length, unbal)], o, false⟩, _, _, _, _, rfl, ⟨rfl, (end_pop (kp := kp) (td := td) (o := o)).2.1.symm.trans hfin, Nat.le_trans (end_pop (kp := kp) (td := td) (o := o)).2.2 hb2⟩, ⟨⟨rfl, rfl, rfl, rfl⟩, _, _, _, _, _, _, _, WSt.due (((WSt.tell (WSt.pops W2) ⟨Nat.ne_of_gt lt10.1, Nat.ne_of_gt lt10.2.1, Nat.ne_of_gt lt10.2.2.1⟩)).keep .rp _), rfl⟩, F13, N13⟩
          | false =>
            refine popo_in (y := .str (Str.ofString "?") bt) (pre := []) F10 N9 (fun _ q => nomatch q) hKO hTO nO (hpl ▸ Nat.le_trans (Nat.le_of_lt hkz.2.2) (show 200 ≤ 1000 by decide)) ?_
            intro h11 F11 N11
            change News g' L' h11 (wLed K T O kv2 tv2 pv nk2 nt2 (no2 + 1) (tl2 ++ news)) at N11
            clear F10 N9
            walk_at "GO"
            refine unhalt ?_
            rename Fr g' L' _ _ => F8
            rename News g' L' _ (wLed K T O _ _ _ _ _ _ _) => N8
            refine len_news N8 (.head _) (by omega) ?_
            intro tk9 u9
            rw [ekl]
            walk_at "GO"
            refine unhalt ?_
            rename Fr g' L' _ _ => F10
            rename News g' L' _ ((_, W.listOf #[Value.int _ _, Value.str _ _] _) :: _) => N10
            rename_i X h10 lt10
            refine told_in (pre := []) F10 N10 (fun _ q => nomatch q) (Nat.ne_of_gt lt10.2.1) hKT hTO nT (etl ▸ Nat.le_trans hkz.2.1 (show 200 ≤ 1000 by decide)) ?_
            intro h11 F11 N11
            walk_at "GO"
            refine unhalt ?_
            refine kept_in (pre := []) F11 N11 (fun _ q => nomatch q) hKT hKO (cons_ne nK (Nat.ne_of_gt lt10.1)) (ekl ▸ Nat.le_trans hkz.1 (show 200 ≤ 1000 by decide)) ?_
            intro h12 F12 N12
            walk_at "GO"
            rename Fr g' L' _ _ => F13
            rename News g' L' _ _ => N13
            exact ⟨_, (end_col (kp := kp) (td := td) (o := o)).1, ⟨kp ++ [.col], td ++ [(kp.length, endWords)], o, true⟩, _, _, _, _, rfl, ⟨rfl, (end_col (kp := kp) (td := td) (o := o)).2.1.symm.trans hfin, Nat.le_trans (end_col (kp := kp) (td := td) (o := o)).2.2 hb2⟩, ⟨⟨rfl, rfl, rfl, rfl⟩, _, _, _, _, _, _, _, WSt.due (((WSt.tell (WSt.pops W2) ⟨Nat.ne_of_gt lt10.1, Nat.ne_of_gt lt10.2.1, Nat.ne_of_gt lt10.2.2.1⟩)).keep .col _), rfl⟩, F13, N13⟩
    · rintro _ _ ⟨rfl, S', m2, nx, h2, tk2, rfl, ⟨hdu, hop, hfin⟩, ⟨hn2, kv2, tv2, ov2, nk2, nt2, no2, tl2, W2, rfl⟩, F6, N6⟩
      dsimp only
      have F7 := pin (pin (pin (pin F6 hn2.k) (x := Str.ofString "told") hn2.t) (x := Str.ofString "opened") hn2.o) (x := Str.ofString "due") hn2.d
      clear F6
      refine wpC_of_any ?_
      walk_at "GO"
      rw [hq]
      dsimp only
      rename Fr g' L' _ _ => F8
      rename News g' L' _ (_ :: _) => N8
      obtain ⟨kF, kN⟩ := back_ground st' FG' FG'.ns F8 N8
      obtain ⟨as, hR⟩ := reads_res kN W2
      rw [← rest_fin hSf hfin hdu hop] at hR
      exact h _ as _ _ kF (news_sub kN fun p hp => .tail _ (.tail _ (.tail _ (.tail _ (List.mem_append_right _ hp))))) hR
  · rintro I i v m1 nx h1 tk1 oI hi hv ⟨S, hSf, hb, hn1, kv, tv, ov, nk, nt, no, tl, W1, rfl⟩ F3 N3 ne3
    obtain ⟨t, ht⟩ : ∃ t, row[i]? = some t := ⟨_, List.getElem?_eq_getElem (by omega)⟩
    obtain ⟨_, ttk, rfl, e3⟩ := strs_get hS (i := i) (v := v) (by simpa using hv)
    rw [List.getElem?_map, ht] at e3
    cases e3
    clear hnm F1 N2
    have F4 := pin (pin (pin (pin F3 hn1.k) (x := Str.ofString "told") hn1.t) (x := Str.ofString "opened") hn1.o) (x := Str.ofString "due") hn1.d
    clear F3
    walk1
    rename Fr g' L' _ _ => F5
    rename News g' L' _ _ => N5
    refine wpC_named ?_
    intro qt et hqt het
    refine wpC_execs_cons (wpC_cut (fun f s' => Halt (f = .next ∧ WMid g' L' s I oI (WAt K T O news) (.str t.s ttk) (fun S' => S'.turn t = S.turn t ∧ ¬ (S'.due = false ∧ S'.opened.head? = some true ∧ t.shuts = true) ∧ bnd S' (row.length - i) ≤ 130) s')) ?_ ?_)
    · refine wpC_While (fun b s' => WMid g' L' s I oI (WAt K T O news) (.str t.s ttk) (fun S' => b = S'.opened.length ∧ S'.turn t = S.turn t ∧ bnd S' (row.length - i) ≤ 130) s') S.opened.length
        ⟨S, _, _, _, _, rfl, rfl, ⟨rfl, rfl, hb⟩, ⟨⟨rfl, rfl, rfl, rfl⟩, kv, tv, ov, nk, nt, no, tl, W1, rfl⟩, F5, N5, ne3⟩ (by rw [het, he]; exact PySem.PassesOwn.leaving) ?_
      clear F5 N5 ne3 W1
      rintro b _ ⟨S', m2, nx, h2, tk2, rfl, hm2, ⟨rfl, htu, hb2⟩, ⟨hn2, kv2, tv2, ov2, nk2, nt2, no2, tl2, W2, rfl⟩, F6, N6, ne6⟩
      have F7 := pin (pin (pin (pin (pin F6 hn2.k) (x := Str.ofString "told") hn2.t) (x := Str.ofString "opened") hn2.o) (x := Str.ofString "due") hn2.d) (x := Str.ofString "token") hm2
      clear F6
      obtain ⟨kp, td, op, du⟩ := S'
      have hol : ov2.length ≤ 1000 := by
        have e1 := strs_len W2.o
        simp [bnd] at hb2 e1
        omega
      cases du with
      | true =>
        iterate 9 walk1
        exact ⟨rfl, _, _, _, _, _, rfl, rfl, ⟨htu, fun q => (by cases q.1), hb2⟩, ⟨⟨rfl, rfl, rfl, rfl⟩, kv2, tv2, ov2, nk2, nt2, no2, tl2, W2, rfl⟩, F7, N6, ne6⟩
      | false =>
        walk_at "GO"
        refine unhalt ?_
        cases op with
        | nil =>
          cases W2.o
          refine' slice_last (d := s) F7 N6 (.tail _ (.tail _ (.tail _ (.head _)))) (rfl : _ = []) hol ?_ ?hs ?ht
          case hs => with_unfolding_all rfl
          case ht => (intro _; with_unfolding_all rfl)
          intro D8 h8 F8 N8 lt8
          clear lt8
          walk_at "GO"
          refine unhalt ?_
          rename News g' L' _ _ => N9
          rename Fr g' L' _ _ => F9
          refine eq_dataH (reads_list_at (N9 _ (.tail _ (.head _))).1 rfl rfl .nil) (reads_one N9 (.head _)) (by decide +kernel) (by decide +kernel) (by show un + _ + 64 < cLine; omega) ?_
          walk_at "GO"
          exact ⟨rfl, _, _, _, _, _, rfl, rfl, ⟨htu, fun q => (by cases q.2.1), hb2⟩, ⟨⟨rfl, rfl, rfl, rfl⟩, kv2, tv2, [], nk2, nt2, no2, tl2, W2, rfl⟩, F9, news_sub N9 (fun p hp => .tail _ (.tail _ hp)), ne6⟩
        | cons b o =>
          obtain ⟨pv, bt, rfl, hpv⟩ := strs_unsnoc (x := bS b) (xs := o.reverse.map bS) (vs := ov2) (by have := W2.o; simpa using this)
          refine' slice_last (d := s) F7 N6 (.tail _ (.tail _ (.tail _ (.head _)))) (zs := [.str (bS b) bt]) (by simp) hol ?_ ?hs ?ht
          case hs => with_unfolding_all rfl
          case ht => (intro _; with_unfolding_all rfl)
          intro D8 h8 F8 N8 lt8
          clear lt8
          walk_at "GO"
          refine unhalt ?_
          rename News g' L' _ _ => N9
          rename Fr g' L' _ _ => F9
          cases b with
          | false =>
            refine eq_dataH (reads_one N9 (.tail _ (.head _))) (reads_one N9 (.head _)) (by decide +kernel) (by decide +kernel) (by show un + _ + 64 < cLine; omega) ?_
            rw [show PyData.eqv (.list [.str (bS false)]) (.list [.str (Str.ofString "(")]) = false by decide +kernel]
            walk_at "GO"
            exact ⟨rfl, _, _, _, _, _, rfl, rfl, ⟨htu, fun q => (by cases q.2.1), hb2⟩, ⟨⟨rfl, rfl, rfl, rfl⟩, kv2, tv2, _, nk2, nt2, no2, tl2, W2, rfl⟩, F9, news_sub N9 (fun p hp => .tail _ (.tail _ hp)), ne6⟩
          | true =>
            refine eq_dataH (reads_one N9 (.tail _ (.head _))) (reads_one N9 (.head _)) (by decide +kernel) (by decide +kernel) (by show un + _ + 64 < cLine; omega) ?_
            rw [show PyData.eqv (.list [.str (bS true)]) (.list [.str (Str.ofString "(")]) = true by decide +kernel]
            have N10 := news_sub (news' := (I, oI) :: wLed K T O kv2 tv2 (pv ++ [.str (bS true) bt]) nk2 nt2 no2 (tl2 ++ news)) N9 (fun p hp => .tail _ (.tail _ hp))
            clear N9
            walk_at "GO"
            refine unhalt ?_
            rename News g' L' _ _ => N11
            refine notIn_strs (xs := l5) N11 (.head _) (.cons _ _ (.cons _ _ (.cons _ _ (.cons _ _ (.cons _ _ .nil))))) l5_ok (ok_s t) (by show un + _ + 64 < cLine; omega) ?_
            rw [l5_shuts]
            cases hsh : t.shuts with
            | false =>
              walk_at "GO"
              rename Fr g' L' _ _ => F12
              exact ⟨rfl, _, _, _, _, _, rfl, rfl, ⟨htu, fun q => (by cases q.2.2), hb2⟩, ⟨⟨rfl, rfl, rfl, rfl⟩, kv2, tv2, _, nk2, nt2, no2, tl2, W2, rfl⟩, F12, news_sub N11 (fun p hp => .tail _ hp), ne6⟩
            | true =>
              have N12 := news_sub (news' := (I, oI) :: wLed K T O kv2 tv2 (pv ++ [.str (bS true) bt]) nk2 nt2 no2 (tl2 ++ news)) N11 (fun p hp => .tail _ hp)
              clear N11
              have ekl : kv2.length = kp.length := by have := strs_len W2.k; simpa using this
              have etl := W2.t.len
              have hkz : kp.length ≤ 200 ∧ td.length ≤ 200 := by simp [bnd] at hb2; omega
              walk_at "GO"
              refine wpC_of_any ?_
              walk_at "GO"
              refine unhalt ?_
              refine len_news N12 (.tail _ (.head _)) (by omega) ?_
              intro tk13 u13
              rw [ekl]
              walk_at "GO"
              refine unhalt ?_
              rename Fr g' L' _ _ => F14
              rename News g' L' _ ((_, W.listOf #[Value.int _ _, Value.str _ _] _) :: _) => N14
              rename_i X h14 lt14
              have aX : ∀ p ∈ tl2 ++ news, p.1 < X := tb_ltOf lt14.2.2.2.2
              have nT : ∀ p ∈ tl2 ++ news, p.1 ≠ T := fun p hp => (W2.ne p hp).2.1
              have nK : ∀ p ∈ tl2 ++ news, p.1 ≠ K := fun p hp => (W2.ne p hp).1
              have nO : ∀ p ∈ tl2 ++ news, p.1 ≠ O := fun p hp => (W2.ne p hp).2.2
              have IK : I ≠ K := Ne.symm (ne6 _ (.head _))
              have IT : I ≠ T := Ne.symm (ne6 _ (.tail _ (.head _)))
              have IO : I ≠ O := Ne.symm (ne6 _ (.tail _ (.tail _ (.head _))))
              obtain ⟨ut, hut⟩ : ∃ ut, (X, listOf #[.int (kp.length : Int) tk13, .str unbal ut] 0) ∈ ledOf N14 := ⟨_, .head _⟩
              refine append_in F14 N14 (.tail _ (.tail _ (.tail _ (.head _)))) ((X, listOf #[.int (kp.length : Int) tk13, .str unbal ut] 0) :: (I, oI) :: (K, listOf kv2.toArray nk2) :: (O, listOf (pv ++ [Value.str (bS true) bt]).toArray no2) :: (tl2 ++ news)) ?_ ?_ (by rw [etl]; exact Nat.le_trans hkz.2 (by decide)) ?_
              · intro p hp
                rcases List.mem_cons.mp hp with rfl | hp
                · exact hut
                simp only [List.mem_cons] at hp ⊢
                rcases hp with h | h | h | h
                · exact .inr (.inl h)
                · exact .inr (.inr (.inl h))
                · exact .inr (.inr (.inr (.inr (.inl h))))
                · exact .inr (.inr (.inr (.inr (.inr h))))
              · intro p hp
                rcases List.mem_cons.mp hp with rfl | hp
                · exact Nat.ne_of_gt lt14.2.2.1
                rcases List.mem_cons.mp hp with rfl | hp
                · exact IT
                rcases List.mem_cons.mp hp with rfl | hp
                · exact Nat.ne_of_lt hKT
                rcases List.mem_cons.mp hp with rfl | hp
                · exact Nat.ne_of_gt hTO
                · exact nT p hp
              intro h15 F15 N15
              clear hut F14 N14
              walk_at "GO"
              refine unhalt ?_
              refine append_in F15 N15 (.tail _ (.tail _ (.tail _ (.head _)))) ((T, listOf (tv2 ++ [Value.ref X]).toArray (nt2 + 1)) :: (X, listOf #[.int (kp.length : Int) tk13, .str unbal ut] 0) :: (I, oI) :: (O, listOf (pv ++ [Value.str (bS true) bt]).toArray no2) :: (tl2 ++ news)) ?_ ?_ (by omega) ?_
              · intro p hp
                simp only [List.mem_cons] at hp ⊢
                rcases hp with h | h | h | h | h
                · exact .inl h
                · exact .inr (.inl h)
                · exact .inr (.inr (.inl h))
                · exact .inr (.inr (.inr (.inr (.inl h))))
                · exact .inr (.inr (.inr (.inr (.inr h))))
              · intro p hp
                rcases List.mem_cons.mp hp with rfl | hp
                · exact Nat.ne_of_gt hKT
                rcases List.mem_cons.mp hp with rfl | hp
                · exact Nat.ne_of_gt lt14.2.1
                rcases List.mem_cons.mp hp with rfl | hp
                · exact IK
                rcases List.mem_cons.mp hp with rfl | hp
                · exact Nat.ne_of_gt hKO
                · exact nK p hp
              intro h16 F16 N16
              clear F15 N15
              walk_at "GO"
              refine unhalt ?_
              obtain ⟨pt, hpt⟩ : ∃ pt, (K, listOf (kv2 ++ [Value.str (Str.ofString ")") pt]).toArray (nk2 + 1)) ∈ ledOf N16 := ⟨_, .head _⟩
              refine pop_in F16 N16 (.tail _ (.tail _ (.tail _ (.tail _ (.head _))))) ((K, listOf (kv2 ++ [Value.str (Str.ofString ")") pt]).toArray (nk2 + 1)) :: (T, listOf (tv2 ++ [Value.ref X]).toArray (nt2 + 1)) :: (X, listOf #[.int (kp.length : Int) tk13, .str unbal ut] 0) :: (I, oI) :: (tl2 ++ news)) ?_ ?_ (by simp at hol; omega) ?_
              · intro p hp
                rcases List.mem_cons.mp hp with rfl | hp
                · exact hpt
                simp only [List.mem_cons] at hp ⊢
                rcases hp with h | h | h | h
                · exact .inr (.inl h)
                · exact .inr (.inr (.inl h))
                · exact .inr (.inr (.inr (.inl h)))
                · exact .inr (.inr (.inr (.inr (.inr h))))
              · intro p hp
                rcases List.mem_cons.mp hp with rfl | hp
                · exact Nat.ne_of_lt hKO
                rcases List.mem_cons.mp hp with rfl | hp
                · exact Nat.ne_of_lt hTO
                rcases List.mem_cons.mp hp with rfl | hp
                · exact Nat.ne_of_gt lt14.2.2.2.1
                rcases List.mem_cons.mp hp with rfl | hp
                · exact IO
                · exact nO p hp
              intro h17 F17 N17
              clear hpt F16 N16
              walk_at "GO"
              refine unhalt ?_
              refine ⟨o.length, by simp, (⟨kp, td, true :: o, false⟩ : St).pop o, _, _, _, _, rfl, rfl, ⟨rfl, (turn_pop rfl rfl hsh).symm.trans htu, Nat.le_trans (bnd_pop rfl) hb2⟩, ⟨⟨rfl, rfl, rfl, rfl⟩, kv2 ++ [Value.str (Tk.s .rp) pt], tv2 ++ [.ref X], pv, nk2 + 1, nt2 + 1, no2 + 1, (X, listOf #[.int (kp.length : Int) tk13, .str unbal ut] 0) :: tl2, ⟨strs_map_snoc W2.k, hpv, (W2.t.mono (fun p hp => .tail _ hp)).snoc (p := (kp.length, unbal)) (.head _), ?_⟩, rfl⟩, F17, news_sub N17 ?_, ?_⟩
              · intro p hp
                rcases List.mem_cons.mp hp with rfl | hp
                · exact ⟨Nat.ne_of_gt lt14.2.1, Nat.ne_of_gt lt14.2.2.1, Nat.ne_of_gt lt14.2.2.2.1⟩
                · exact W2.ne p hp
              · intro p hp
                simp only [List.mem_cons, List.cons_append] at hp ⊢
                rcases hp with h | h | h | h | h | h
                · exact .inr (.inr (.inr (.inr (.inl h))))
                · exact .inr (.inl h)
                · exact .inr (.inr (.inl h))
                · exact .inl h
                · exact .inr (.inr (.inr (.inl h)))
                · exact .inr (.inr (.inr (.inr (.inr h))))
              · intro p hp
                rcases List.mem_cons.mp hp with rfl | hp
                · exact Ne.symm IK
                rcases List.mem_cons.mp hp with rfl | hp
                · exact Ne.symm IT
                rcases List.mem_cons.mp hp with rfl | hp
                · exact Ne.symm IO
                rcases List.mem_cons.mp hp with rfl | hp
                · exact Nat.ne_of_gt lt14.1
                · exact ne6 _ (.tail _ (.tail _ (.tail _ hp)))
    · rintro _ _ ⟨rfl, S', m2, nx, h2, tk2, rfl, hm2, ⟨htu, hno, hb2⟩, ⟨hn2, kv2, tv2, ov2, nk2, nt2, no2, tl2, W2, rfl⟩, F6, N6, ne6⟩
      dsimp only
      have F7 := pin (pin (pin (pin (pin F6 hn2.k) (x := Str.ofString "told") hn2.t) (x := Str.ofString "opened") hn2.o) (x := Str.ofString "due") hn2.d) (x := Str.ofString "token") hm2
      clear F6 F5 N5 ne3 W1
      have hput := turn_put hno
      refine wpC_execs_cons (wpC_cut (fun f s' => Halt (ChainTo g' L' s I oI (WAt K T O news) (.str t.s ttk) S' t f s')) ?_ ?_)
      · obtain ⟨kp, td, op, du⟩ := S'
        refine wpC_of_any ?_
        obtain ⟨IK, IT, IO, nI⟩ := ne_of_led ne6
        have htf : t ≠ .fin := fun q => hnf (q ▸ List.mem_of_getElem? ht)
        have ekl : kv2.length = kp.length := by have := strs_len W2.k; simpa using this
        have htl := len_s t
        have etl := W2.t.len
        have eol : ov2.length = op.length := by have := strs_len W2.o; simpa using this
        have hkz : kp.length ≤ 200 ∧ td.length ≤ 200 ∧ op.length ≤ 200 := by simp [bnd] at hb2; omega
        have nK : ∀ p ∈ tl2 ++ news, p.1 ≠ K := fun p hp => (W2.ne p hp).1
        have nT : ∀ p ∈ tl2 ++ news, p.1 ≠ T := fun p hp => (W2.ne p hp).2.1
        have nO : ∀ p ∈ tl2 ++ news, p.1 ≠ O := fun p hp => (W2.ne p hp).2.2
        cases du with
        | true =>
          walk_at "GO"
          refine unhalt ?_
          rename News g' L' _ _ => N8
          refine in_strs (xs := lA) N8 (.head _) (.cons _ _ (.cons _ _ (.cons _ _ (.cons _ _ (.cons _ _ .nil))))) lA_ok (ok_s t) (by show un + _ + 64 < cLine; omega) ?_
          rw [lA_in]
          have N9 := news_sub (news' := (I, oI) :: wLed K T O kv2 tv2 ov2 nk2 nt2 no2 (tl2 ++ news)) N8 (fun p hp => .tail _ hp)
          clear N8
          cases hc : (t.opd || decide (t = .bang) || decide (t = .lp)) with
          | true =>
            walk_at "GO"
            refine unhalt ?_
            rename News g' L' _ (_ :: (I, oI) :: _) => N10
            refine in_strs (xs := lB) N10 (.head _) (.cons _ _ (.cons _ _ .nil)) lB_ok (ok_s t) (by show un + _ + 64 < cLine; omega) ?_
            rw [lB_in]
            walk_at "GO"
            rename Fr g' L' _ _ => F11
            rename News g' L' _ (_ :: (I, oI) :: _) => N11
            exact .inr ⟨rfl, ⟨kp, td, op, decide (t = .bang) || decide (t = .lp)⟩, _, _, _, _, rfl, rfl, ⟨rfl, Nat.le_refl _, put_due rfl hc⟩, ⟨⟨rfl, rfl, rfl, rfl⟩, _, _, _, _, _, _, _, W2.due, rfl⟩, F11, news_sub N11 (fun p hp => .tail _ hp), ne6⟩
          | false =>
            walk_at "GO"
            refine unhalt ?_
            rename Fr g' L' _ _ => F10
            refine len_news N9 (.tail _ (.head _)) (by omega) ?_
            intro tk13 u13
            rw [ekl]
            walk_at "GO"
            refine unhalt ?_
            rename Fr g' L' _ _ => F14
            rename News g' L' _ ((_, W.listOf #[Value.int _ _, Value.str _ _] _) :: _) => N14
            rename_i X h14 lt14
            rw [words_of htf] at N14
            refine told_in (pre := [(I, oI)]) F14 N14 (one_ne IT) (Nat.ne_of_gt lt14.2.2.1) hKT hTO nT (etl ▸ Nat.le_trans hkz.2.1 (show 200 ≤ 1000 by decide)) ?_
            intro h15 F15 N15
            walk_at "GO"
            exact .inl ⟨rfl, _, _, _, _, rfl, (by rw [put_drop1 rfl hc]; exact ⟨⟨rfl, rfl, rfl, rfl⟩, _, _, _, _, _, _, _, W2.tell ⟨Nat.ne_of_gt lt14.2.1, Nat.ne_of_gt lt14.2.2.1, Nat.ne_of_gt lt14.2.2.2.1⟩, rfl⟩), F15, N15, led_ne IK IT IO (cons_ne nI (Nat.ne_of_gt lt14.1))⟩
        | false =>
          walk_at "GO"
          refine unhalt ?_
          rename News g' L' _ (_ :: (I, oI) :: _) => N8
          refine in_strs (xs := lC) N8 (.head _) (.cons _ _ (.cons _ _ (.cons _ _ (.cons _ _ .nil)))) lC_ok (ok_s t) (by show un + _ + 64 < cLine; omega) ?_
          rw [lC_in]
          have N9 := news_sub (news' := (I, oI) :: wLed K T O kv2 tv2 ov2 nk2 nt2 no2 (tl2 ++ news)) N8 (fun p hp => .tail _ hp)
          clear N8
          cases hc : (t.op || decide (t = .ask)) with
          | true =>
            walk_at "GO"
            rename Fr g' L' _ _ => F11
            rename News g' L' _ ((I, oI) :: _) => N11
            exact .inr ⟨rfl, ⟨kp, td, op, true⟩, _, _, _, _, rfl, rfl, ⟨rfl, Nat.le_refl _, put_op rfl hc⟩, ⟨⟨rfl, rfl, rfl, rfl⟩, _, _, _, _, _, _, _, W2.due, rfl⟩, F11, N11, ne6⟩
          | false =>
            walk_at "GO"
            refine unhalt ?_
            rename News g' L' _ ((_, W.listOf #[] 0) :: _) => N10
            cases op with
            | nil =>
              cases W2.o
              refine no_nil_in N10 (.tail _ (.tail _ (.tail _ (.tail _ (.head _))))) (.head _) (by show un + _ + 64 < cLine; omega) ?_
              have N9 := news_sub (news' := (I, oI) :: wLed K T O kv2 tv2 [] nk2 nt2 no2 (tl2 ++ news)) N10 (fun p hp => .tail _ hp)
              clear N10
              walk_at "GO"
              refine unhalt ?_
              rename Fr g' L' _ _ => F10
              refine len_news N9 (.tail _ (.head _)) (by omega) ?_
              intro tk13 u13
              rw [ekl]
              walk_at "GO"
              refine unhalt ?_
              rename Fr g' L' _ _ => F14
              rename News g' L' _ ((_, W.listOf #[Value.int _ _, Value.str _ _] _) :: _) => N14
              rename_i X h14 lt14
              rw [words_of htf] at N14
              refine told_in (pre := [(I, oI)]) F14 N14 (one_ne IT) (Nat.ne_of_gt lt14.2.2.1) hKT hTO nT (etl ▸ Nat.le_trans hkz.2.1 (show 200 ≤ 1000 by decide)) ?_
              intro h15 F15 N15
              walk_at "GO"
              exact .inl ⟨rfl, _, _, _, _, rfl, (by rw [put_nil rfl hc rfl]; exact ⟨⟨rfl, rfl, rfl, rfl⟩, _, _, _, _, _, _, _, W2.tell ⟨Nat.ne_of_gt lt14.2.1, Nat.ne_of_gt lt14.2.2.1, Nat.ne_of_gt lt14.2.2.2.1⟩, rfl⟩), F15, N15, led_ne IK IT IO (cons_ne nI (Nat.ne_of_gt lt14.1))⟩
            | cons b o =>
              obtain ⟨pv, bt, rfl, hpv⟩ := strs_unsnoc (x := bS b) (xs := o.reverse.map bS) (vs := ov2) (by have := W2.o; simpa using this)
              refine ne_nil_in N10 (.tail _ (.tail _ (.tail _ (.tail _ (.head _))))) (.head _) W2.o (ok_bS _) (by simp) (by show un + _ + 64 < cLine; omega) ?_
              have N9 := news_sub (news' := (I, oI) :: wLed K T O kv2 tv2 (pv ++ [.str (bS b) bt]) nk2 nt2 no2 (tl2 ++ news)) N10 (fun p hp => .tail _ hp)
              clear N10
              have hpl : pv.length = o.length := by have := strs_len hpv; simpa using this
              cases b with
              | true =>
                walk_at "GO"
                refine unhalt ?_
                rename News g' L' _ (_ :: (I, oI) :: _) => N12
                refine' item_last_in N12 (.tail _ (.tail _ (.tail _ (.tail _ (.head _))))) ?_ ?hs ?ht
                case hs => with_unfolding_all rfl
                case ht => (intro _; with_unfolding_all rfl)
                rw [show bS true = Str.ofString "(" from rfl]
                walk_at "DICTITEM"
                intro dv edv v fv
                obtain rfl : dv = .str (shutS true) := Option.some.inj (edv.symm.trans (by with_unfolding_all rfl))
                dict_open fv
                clear edv fv
                rename News g' L' _ (_ :: (I, oI) :: _) => N13
                have N9 := news_sub (news' := (I, oI) :: wLed K T O kv2 tv2 (pv ++ [.str (bS true) bt]) nk2 nt2 no2 (tl2 ++ news)) N13 (fun p hp => .tail _ hp)
                clear N13
                walk_at "GO"
                · refine unhalt ?_
                  rename ((_ == shutS _) = true) => he
                  rename Fr g' L' _ _ => F13
                  refine popo_in (y := .str (Str.ofString "(") bt) (pre := [(I, oI)]) F13 N9 (one_ne IO) hKO hTO nO (hpl ▸ Nat.le_trans (Nat.le_of_lt hkz.2.2) (show 200 ≤ 1000 by decide)) ?_
                  intro h15 F15 N15
                  walk_at "GO"
                  rename Fr g' L' _ _ => F16
                  rename News g' L' _ _ => N16
                  exact .inr ⟨rfl, ⟨kp, td, o, !true⟩, _, _, _, _, rfl, rfl, ⟨rfl, Nat.le_succ _, put_shut rfl rfl he⟩, ⟨⟨rfl, rfl, rfl, rfl⟩, _, _, _, _, _, _, _, WSt.due (WSt.pops W2), rfl⟩, F16, N16, led_ne IK IT IO nI⟩
                · rename ((_ == shutS _) = false) => he
                  walk_at "GO"
                  refine unhalt ?_
                  rename Fr g' L' _ _ => F10
                  refine len_news N9 (.tail _ (.head _)) (by omega) ?_
                  intro tk13 u13
                  rw [ekl]
                  walk_at "GO"
                  refine unhalt ?_
                  rename Fr g' L' _ _ => F14
                  rename News g' L' _ ((_, W.listOf #[Value.int _ _, Value.str _ _] _) :: _) => N14
                  rename_i X h14 lt14
                  rw [words_of htf] at N14
                  refine told_in (pre := [(I, oI)]) F14 N14 (one_ne IT) (Nat.ne_of_gt lt14.2.2.1) hKT hTO nT (etl ▸ Nat.le_trans hkz.2.1 (show 200 ≤ 1000 by decide)) ?_
                  intro h15 F15 N15
                  walk_at "GO"
                  exact .inl ⟨rfl, _, _, _, _, rfl, (by rw [put_drop2 rfl hc rfl he]; exact ⟨⟨rfl, rfl, rfl, rfl⟩, _, _, _, _, _, _, _, W2.tell ⟨Nat.ne_of_gt lt14.2.1, Nat.ne_of_gt lt14.2.2.1, Nat.ne_of_gt lt14.2.2.2.1⟩, rfl⟩), F15, N15, led_ne IK IT IO (cons_ne nI (Nat.ne_of_gt lt14.1))⟩
              | false =>
                walk_at "GO"
                refine unhalt ?_
                rename News g' L' _ (_ :: (I, oI) :: _) => N12
                refine' item_last_in N12 (.tail _ (.tail _ (.tail _ (.tail _ (.head _))))) ?_ ?hs ?ht
                case hs => with_unfolding_all rfl
                case ht => (intro _; with_unfolding_all rfl)
                rw [show bS false = Str.ofString "?" from rfl]
                walk_at "DICTITEM"
                intro dv edv v fv
                obtain rfl : dv = .str (shutS false) := Option.some.inj (edv.symm.trans (by with_unfolding_all rfl))
                dict_open fv
                clear edv fv
                rename News g' L' _ (_ :: (I, oI) :: _) => N13
                have N9 := news_sub (news' := (I, oI) :: wLed K T O kv2 tv2 (pv ++ [.str (bS false) bt]) nk2 nt2 no2 (tl2 ++ news)) N13 (fun p hp => .tail _ hp)
                clear N13
                walk_at "GO"
                · refine unhalt ?_
                  rename ((_ == shutS _) = true) => he
                  rename Fr g' L' _ _ => F13
                  refine popo_in (y := .str (Str.ofString "?") bt) (pre := [(I, oI)]) F13 N9 (one_ne IO) hKO hTO nO (hpl ▸ Nat.le_trans (Nat.le_of_lt hkz.2.2) (show 200 ≤ 1000 by decide)) ?_
                  intro h15 F15 N15
                  walk_at "GO"
                  rename Fr g' L' _ _ => F16
                  rename News g' L' _ _ => N16
                  exact .inr ⟨rfl, ⟨kp, td, o, !false⟩, _, _, _, _, rfl, rfl, ⟨rfl, Nat.le_succ _, put_shut rfl rfl he⟩, ⟨⟨rfl, rfl, rfl, rfl⟩, _, _, _, _, _, _, _, WSt.due (WSt.pops W2), rfl⟩, F16, N16, led_ne IK IT IO nI⟩
                · rename ((_ == shutS _) = false) => he
                  walk_at "GO"
                  refine unhalt ?_
                  rename Fr g' L' _ _ => F10
                  refine len_news N9 (.tail _ (.head _)) (by omega) ?_
                  intro tk13 u13
                  rw [ekl]
                  walk_at "GO"
                  refine unhalt ?_
                  rename Fr g' L' _ _ => F14
                  rename News g' L' _ ((_, W.listOf #[Value.int _ _, Value.str _ _] _) :: _) => N14
                  rename_i X h14 lt14
                  rw [words_of htf] at N14
                  refine told_in (pre := [(I, oI)]) F14 N14 (one_ne IT) (Nat.ne_of_gt lt14.2.2.1) hKT hTO nT (etl ▸ Nat.le_trans hkz.2.1 (show 200 ≤ 1000 by decide)) ?_
                  intro h15 F15 N15
                  walk_at "GO"
                  exact .inl ⟨rfl, _, _, _, _, rfl, (by rw [put_drop2 rfl hc rfl he]; exact ⟨⟨rfl, rfl, rfl, rfl⟩, _, _, _, _, _, _, _, W2.tell ⟨Nat.ne_of_gt lt14.2.1, Nat.ne_of_gt lt14.2.2.1, Nat.ne_of_gt lt14.2.2.2.1⟩, rfl⟩), F15, N15, led_ne IK IT IO (cons_ne nI (Nat.ne_of_gt lt14.1))⟩
      · have hb3 := bnd_turn (t := t) hb2 (show i < row.length by omega)
        have hfold := fold_turn ht hSf htu hput
        rintro f s3 (⟨rfl, hT⟩ | ⟨rfl, S2, m3, nx, h3, tk3, rfl, hm3, ⟨hk3, ho3, hadd⟩, ⟨hn3, kv3, tv3, ov3, nk3, nt3, no3, tl3, W3, rfl⟩, F8, N8, ne8⟩)
        · obtain ⟨m3, nx, h3, tk3, rfl, hA, F8, N8, ne8⟩ := hT
          dsimp only
          rw [hqt]
          exact ⟨m3, nx, h3, tk3, rfl, ⟨_, hfold, hb3, hA⟩, F8, N8, ne8⟩
        · dsimp only
          have F9 := pin (pin (pin (pin (pin F8 hn3.k) (x := Str.ofString "told") hn3.t) (x := Str.ofString "opened") hn3.o) (x := Str.ofString "due") hn3.d) (x := Str.ofString "token") hm3
          clear F8
          obtain ⟨kp, td, op, du⟩ := S2
          obtain ⟨IK, IT, IO, nI⟩ := ne_of_led ne8
          have nK : ∀ p ∈ tl3 ++ news, p.1 ≠ K := fun p hp => (W3.ne p hp).1
          have nO : ∀ p ∈ tl3 ++ news, p.1 ≠ O := fun p hp => (W3.ne p hp).2.2
          have hkz : kv3.length ≤ 1000 ∧ ov3.length ≤ 1000 := by
            have e1 := strs_len W3.k
            have e2 := strs_len W3.o
            simp [bnd] at hb2 e1 e2 hk3 ho3
            omega
          refine wpC_of_any ?_
          walk_at "GO"
          refine unhalt ?_
          refine kept_in (pre := [(I, oI)]) F9 N8 (one_ne IK) hKT hKO nK hkz.1 ?_
          intro h10 F10 N10
          walk_at "GO"
          refine unhalt ?_
          rename News g' L' _ (_ :: (I, oI) :: _) => N11
          refine in_strs (xs := lD) N11 (.head _) (.cons _ _ (.cons _ _ .nil)) lD_ok (ok_s t) (by show un + _ + 64 < cLine; omega) ?_
          rw [lD_in]
          have N12 := news_sub (news' := (I, oI) :: wLed K T O (kv3 ++ [Value.str t.s ttk]) tv3 ov3 (nk3 + 1) nt3 no3 (tl3 ++ news)) N11 (fun p hp => .tail _ hp)
          clear N11
          cases hto : t.opens with
          | none =>
            rw [show (none : Option Bool).isSome = false from rfl]
            walk_at "GO"
            rename Fr g' L' _ _ => F13
            rw [hqt]
            exact ⟨_, _, _, _, rfl, ⟨_, hfold, hb3, (by rw [hadd, add_none hto]; exact ⟨⟨rfl, rfl, rfl, rfl⟩, _, _, _, _, _, _, _, W3.keep t ttk, rfl⟩)⟩, F13, N12, led_ne IK IT IO nI⟩
          | some b =>
            rw [show (some b).isSome = true from rfl]
            walk_at "GO"
            refine unhalt ?_
            rename Fr g' L' _ _ => F13
            refine push_in (pre := [(I, oI)]) F13 N12 (one_ne IO) hKO hTO nO hkz.2 ?_
            intro h14 F14 N14
            walk_at "GO"
            rw [hqt]
            have W4 := (W3.keep t ttk).push b ttk
            rw [← opens_s hto] at W4
            exact ⟨_, _, _, _, rfl, ⟨_, hfold, hb3, (by rw [hadd, add_some hto]; exact ⟨⟨rfl, rfl, rfl, rfl⟩, _, _, _, _, _, _, _, W4, rfl⟩)⟩, F14, N14, led_ne IK IT IO nI⟩
end Mine


set_option maxRecDepth 100000
set_option maxHeartbeats 8000000
namespace Mine
theorem fillW : (fun (_ : OpenLaw) (_ : Params → Frag) => True) PySem.Challenge.rw_dv0012_02 hd0.heap_39 := by k_fill; trivial
local macro_rules | `(tactic| walk_at "pyIter") => `(tactic| (refine halt ?_))
local macro_rules | `(tactic| walk_at "pyIter ref") => `(tactic| (refine halt ?_))
local macro_rules | `(tactic| walk_at "subscriptTail") => `(tactic| (refine halt ?_))
local macro_rules | `(tactic| walk_at "subscriptTail Name Slice ref ref") => `(tactic| (refine halt ?_))
local macro_rules | `(tactic| walk_at "call builtin:list.append") => `(tactic| (refine halt ?_))
local macro_rules | `(tactic| walk_at "compareOp NotEq ref ref") => `(tactic| (refine halt ?_))
local macro_rules | `(tactic| walk_at "compareOp Eq ref ref") => `(tactic| (refine halt ?_))
local macro_rules | `(tactic| walk_at "compareOp In ref ref") => `(tactic| (refine halt ?_))
local macro_rules | `(tactic| walk_at "binaryOp Add ref ref") => `(tactic| (refine halt ?_))
local macro_rules | `(tactic| walk_at "call builtin:len") => `(tactic| (refine halt ?_))
local macro_rules | `(tactic| walk_at "call type:list") => `(tactic| (refine halt ?_))
local macro_rules | `(tactic| walk_at "call type:type") => `(tactic| (refine halt ?_))
local macro_rules | `(tactic| walk_at "getAttr ref") => `(tactic| (refine halt ?_))
local macro_rules | `(tactic| walk_at "call ref") => `(tactic| (refine halt ?_))
local macro_rules | `(tactic| walk_at "call builtin:iter") => `(tactic| (refine halt ?_))
local macro_rules | `(tactic| walk_at "bind") => `(tactic| (k_here; (with_reducible show wpAny _ _ (do bindName (envOf _ _ _ _ _) _ Value.none; unbindBehindTheSuite (envOf _ _ _ _ _) _ _) _ _ _); refine halt ?_))
local macro_rules | `(tactic| walk_at "GO") => `(tactic| (repeat ((fail_if_success (with_reducible show Halt _)); walk1)))

theorem words_call {w : World} {mean : ExcName → Option Value} {mg mb : Str → Option Value} {dp un : Nat} {gd : Option (List Code)} {cn : Str} {cs : Scope} {a : Addr} {ccd : Value} {cl : List (Str × Addr)} {base : Heap} {L : Addr} {m : Str → Option Value}
    {news : List (Addr × Obj)} {s : Shared} {l0 : Addr} {n0 : Nat} {vs0 : List Value} {row : List Tk} {Q E : Value → Shared → Prop}
    (pcs : ∀ n, PC w n) (F : Fr base L s.heap m) (XB : BaseOk w mean mg mb base) (N : News base L s.heap news) (hl0 : (l0, listOf vs0.toArray n0) ∈ news) (hS : StrsAre vs0 (row.map Tk.s)) (hz : row.length ≤ 16) (hnf : Tk.fin ∉ row)
    (hk : cs.kind = .function) (hdp : dp + 100 < recursionLimit) (hun : un + 1000 < cLine)
    (h : ∀ D led h' tk', Fr base L h' m → News base L h' (led ++ news) → (∀ h'', News base L h'' led → ∃ as, Reads h'' (.ref D) (resData (St.rest ⟨[], [], [], true⟩ row)) as) → Q (.ref D) { s with heap := h', toks := tk' }) :
    wpC (model PR w) (ktrTop dp un gd cn cs L a ccd cl []) (call (.ref 92) [.ref l0]) Q E s := by
  have X := XB.x
  have T := XB.t
  have K0 := below_caller base
  refine wpC_call ?_
  k_dflt (refine' codeC_Kr (binds := [(Str.ofString "row", .ref l0)]) ?k1 ?k2 ?k3 ?k4 ?k5 ?kA ?kF ?kK ?k6 ?k7 ?k8 ?k9 ?kB ?_ ?c2 ?c3 ?c4 ?c5; (case kA => exact rfl); (case kF => exact rfl); (case kK => assumption); (case k1 => exact K0); (case k2 => k_asm); (case k3 => exact X); (case k4 => k_asm); (case k5 => exact T); (case k6 => k_is); (case k7 => k_is); (case k8 => (show dp < recursionLimit; omega)); (case k9 => exact BindsTo.of_eq rfl); (case c5 => decide); (case kB => exact locs rfl); (case c2 => exact rfl); (case c3 => exact rfl); (case c4 => exact rfl); k_whole; intro g' L' h' FG' F' N' B' X' T' st')
  dsimp only
  have hDb : Dicts [envX cn cs L a ccd cl] g' := by
    intro b hb
    simp only [List.filterMap_cons, List.filterMap_nil, List.mem_singleton] at hb
    obtain ⟨o, es, n, ho, hd, _⟩ := FG'.ns
    refine ⟨o, es, n, ?_, hd⟩
    subst hb
    exact ho
  have hvl : vs0.length = row.length := by have := strs_len hS; simpa using this
  clear K0 X T F N
  refine wpC_named ?_
  intro qk ek hq he
  refine wpC_execs_consL ?_
  walk_at "GO"
  refine wpC_execs_cons ?_
  refine wpC_ForT ?hE ?_ ?hf
  case hf => intro x; rfl
  case hE => (rw [he]; exact PySem.PassesOwn.leaving)
  walk_at "GO"
  refine unhalt ?_
  rename Fr g' L' _ _ => F1
  rename News g' L' _ _ => N1
  refine len_news N1 (List.mem_cons_of_mem _ hl0) (by omega) ?_
  intro tk2 u2
  rw [hvl]
  walk_at "GO"
  refine unhalt ?_
  rename IsRange _ _ _ _ _ _ _ _ => hR
  rename Fr g' L' _ _ => F2
  rename News g' L' _ _ => N2
  obtain ⟨T0, hmT, lT0, N3⟩ : ∃ T0, frOf F2 (Str.ofString "told") = some (.ref T0) ∧ (∀ p ∈ news, p.1 ≠ T0) ∧ News g' L' _ ((l0, listOf vs0.toArray n0) :: (T0, listOf (List.toArray []) 0) :: ([] ++ news)) := by
    rename (∀ p ∈ news, p.1 < _) => lt0
    refine ⟨_, rfl, fun p hp => Nat.ne_of_lt (lt0 p hp), news_sub N2 ?_⟩
    intro p hp
    rcases List.mem_cons.mp hp with rfl | hp
    · exact .tail _ hl0
    · exact hp
  refine iter_rangeG (n := 4 * row.length + 4) (W2At (ktrTop dp un gd cn cs L a ccd cl []) base g' [envX cn cs L a ccd cl] news row) rfl F2 N3 hR (small_one (by omega) (by omega) (by omega) (by omega)) (by rw [rangeSize_one]; split <;> omega) ?_ ?_ ?_
  · refine ⟨B', hDb, NsKept.refl, ⟨[], [], [], true⟩, row, l0, T0, vs0, [], n0, 0, [], ⟨⟨fun x => rfl, rfl⟩, hnf, (fun q => nomatch q), rfl, ?_, ?_, Nat.le_refl _, hS, .nil, lT0 _ hl0, lT0⟩, rfl, hmT, rfl⟩
    · simp [psi, bN]
    · simp
  · rintro g1 m1 nx h1 tk1 ⟨-, -, -, S, rem, R, T, rv, tv, nr, nt, tl, W1, -⟩ F3 N4
    have := W1.psi
    omega
  · rintro I i v g1 m1 nx h1 tk1 oI hi ⟨ti, rfl⟩ ⟨B1, D1, K1, S, rem, R, T, rv, tv, nr, nt, tl, W1, hmr, hmt, rfl⟩ F3 N4 ne3
    clear hR N3 hmT F2 N2 B' X' T' hDb
    have X1 := XB.x.keeps B1.stays
    have T1 := XB.t.keeps B1.stays
    have hsz : (S.kept ++ rem).length ≤ 65 := by
      have q1 := W1.psi
      have q2 := W1.size
      omega
    have hrl : rv.length = (S.kept ++ rem).length := by have := strs_len W1.rows; simpa using this
    have F4 := pin (pin F3 hmr) (x := Str.ofString "told") hmt
    clear F3
    walk1
    refine wpC_named ?_
    intro qt et hqt het
    refine wpC_execs_consL ?_
    walk_at "GO"
    refine unhalt ?_
    rename Fr g1 L' _ _ => F5
    rename News g1 L' _ (_ :: (I, oI) :: _) => N5
    refine cat_lists F5 N5 (.tail _ (.tail _ (.head _))) (.head _) (Nat.le_trans (show _ ≤ 100 by simp; omega) (by decide)) ?_
    intro D6 h6 F6 N6 lt6
    clear F5 N5
    walk_at "GO"
    refine unhalt ?_
    refine iter_of_list F6 N6 (.head _) ?_
    intro it h7 F7 N7 lt7
    walk_at "GO"
    rename Fr g1 L' _ _ => F8
    rename News g1 L' _ ((it, _) :: _) => N7'
    have N8 := news_sub (news' := (it, iterOf D6 0) :: (D6, listOf (rv ++ [Value.str (Str.ofString "") _]).toArray 0) :: (I, oI) :: (R, listOf rv.toArray nr) :: (T, listOf tv.toArray nt) :: (tl ++ news)) N7' (by
      intro p hp
      simp only [List.mem_cons] at hp ⊢
      rcases hp with h | h | h
      · exact .inl h
      · exact .inr (.inl h)
      · exact .inr (.inr (.inr h)))
    clear N7'
    have hS9 : StrsAre (rv ++ [Value.str (Str.ofString "") (tk1 + 1)]) (((S.kept ++ rem) ++ [Tk.fin]).map Tk.s) := by
      rw [List.map_append]
      exact W1.rows.append' (.cons _ _ .nil)
    have hP := parse_row 70 (S.kept ++ rem) (by simp at hsz ⊢; omega)
    have hlen : ∀ t ∈ ((S.kept ++ rem) ++ [Tk.fin]).map Tk.s, t.length ≤ 64 := by
      intro t ht
      obtain ⟨u, -, rfl⟩ := List.mem_map.mp ht
      exact Nat.le_trans (len_s u) (by decide)
    have hne8 : ∀ p ∈ (D6, listOf (rv ++ [Value.str (Str.ofString "") (tk1 + 1)]).toArray 0) :: (I, oI) :: (R, listOf rv.toArray nr) :: (T, listOf tv.toArray nt) :: (tl ++ news), p.1 ≠ it := by
      intro p hp
      refine Nat.ne_of_lt (lt7 p ?_)
      rcases List.mem_cons.mp hp with rfl | hp
      · exact .head _
      · exact .tail _ (.tail _ hp)
    clear lt6 lt7
    have hl80 : (((S.kept ++ rem) ++ [Tk.fin]).map Tk.s).length ≤ 80 := by simp at hsz ⊢; omega
    rcases step_words rem S W1.cfg W1.nr W1.nk with ⟨hauto, hrest⟩ | ⟨S2, rem2, hst⟩
    · rw [hauto] at hP
      refine wpC_execs_cons (wpC_Try ?_)
      refine wpC_execs_cons (wpC_AssignName (wpC_Subscript (wpC_callK F8 X1 (topRead_of T1) rfl rfl ?_)))
      k_steps
      refine pcs 70 (-1) _ _ hP mean mg mb _ _ _ _ _ _ _ _ _ _ base g1 L' _ it D6 0 0 _ _ _ _ 0 _ _ (Or.inr ⟨rfl, rfl⟩) B1 F8 X1 XB N8 hne8 (.head _) hS9 T1 rfl ?_ ?_ hlen hl80 ?_
      · show dp + 1 + 70 + 5 < recursionLimit
        omega
      · show un + 3 + 8 * 70 + 100 < cLine
        omega
      intro res t1 t2 tup h9 tk9 hb1 hb0 hb2 S9 F9 N9
      walk_at "GO"
      refine unhalt ?_
      refine' item_tup_in (tup_is N9 (.head _)) (by decide) (by decide) (j := 1) (by rfl) rfl ?_ ?hs
      case hs => with_unfolding_all rfl
      walk_at "GO"
      refine wpC_of_any ?_
      walk_at "GO"
      rw [hqt]
      dsimp only
      rw [hq]
      dsimp only
      rename Fr g1 L' _ _ => Fz
      rename News g1 L' _ (_ :: _) => Nz
      obtain ⟨kF, kN⟩ := back_ground B1.stays FG' (K1 L (by simp [envX]) m FG'.ns) Fz Nz
      rw [← W1.rest, hrest] at h
      refine h _ ((_, listOf #[.ref R, .ref T] 0) :: (R, listOf rv.toArray nr) :: (T, listOf tv.toArray nt) :: tl) _ _ kF (news_sub kN ?_) (fun h'' N'' => reads_row (tl := tl) N'' (.head _) (.tail _ (.head _)) (.tail _ (.tail _ (.head _))) (fun p hp => .tail _ (.tail _ (.tail _ hp))) W1.rows W1.tolds)
      intro p hp
      rcases List.mem_cons.mp hp with rfl | hp
      · exact .head _
      · rcases List.mem_cons.mp hp with rfl | hp
        · exact .tail _ (.tail _ (.tail _ (.tail _ (.tail _ (.head _)))))
        · rcases List.mem_cons.mp hp with rfl | hp
          · exact .tail _ (.tail _ (.tail _ (.tail _ (.tail _ (.tail _ (.head _))))))
          · exact .tail _ (.tail _ (.tail _ (.tail _ (.tail _ (.tail _ (.tail _ hp))))))
    · obtain ⟨wd, r, hrl2, hout, htold, hmend, hok⟩ := hst.out
      refine' wpC_execs_cons (wpC_Try (wpC_raisingE (fun env0 => Thrown base g1 env0 [envX cn cs L a ccd cl] L' (fun mm => mm (Str.ofString "row") = some (.ref R) ∧ mm (Str.ofString "told") = some (.ref T) ∧ mm (Str.ofString "source") = some (.ref it)) wd
        ((it, iterOf D6 (0 + ((((S.kept ++ rem) ++ [Tk.fin]).map Tk.s).length - (r.map Tk.s).length))) :: (D6, listOf (rv ++ [Value.str (Str.ofString "") (tk1 + 1)]).toArray 0) :: (I, oI) :: (R, listOf rv.toArray nr) :: (T, listOf tv.toArray nt) :: (tl ++ news)) s) ?kbody ?kcatch))
      case kbody =>
        refine wpC_execs_cons (wpC_AssignName (wpC_Subscript (wpC_callK F8 X1 (topRead_of T1) rfl rfl ?_)))
        k_steps
        rcases hout with hout | ⟨t, htf, hout, rfl⟩
        all_goals (
          rw [hout] at hP
          refine pcs 70 (-1) _ _ hP mean mg mb _ _ _ _ _ _ _ _ _ _ base g1 L' _ it D6 0 0 _ _ _ _ 0 _ _ (Or.inr ⟨rfl, rfl⟩) B1 F8 X1 XB N8 hne8 (.head _) hS9 T1 rfl (show dp + 1 + 70 + 5 < recursionLimit by omega) (show un + 3 + 8 * 70 + 100 < cLine by omega) hlen hl80 ?_)
        · intro e t tk g2 h2 tk3 hb2 F2 U2 R2
          refine ⟨_, e, t, h2, _, tk, ⟨rfl, rfl, rfl⟩, rfl, rfl, ?_, .inl ⟨_, F2, U2, R2⟩⟩
          intro q hq'
          rcases List.mem_cons.mp hq' with rfl | hq'
          · exact (N8 _ (.head _)).2.2
          · exact (N8 _ (.tail _ hq')).2.2
        · intro res t1 t2 tup h9 tk9 hb1 hb0 hb2 S9 F9 N9
          walk_at "GO"
          refine unhalt ?_
          refine' item_tup_in (tup_is N9 (.head _)) (by decide) (by decide) (j := 1) (by rfl) rfl ?_ ?hs
          case hs => with_unfolding_all rfl
          walk_at "GO"
          have hte := fin_ne htf
          refine wpC_of_any ?_
          walk_at "GO"
          refine unhalt ?_
          rename Fr g1 L' _ _ => Fy
          rename News g1 L' _ ((tup, _) :: _) => Ny
          refine error_call (dp := dp + 1) (un := un + 3) B1 Fy X1 Ny T1 rfl (by omega) (by omega) (Nat.le_trans hb0 (by decide)) ?_
          intro e7 b7 tw7 h10 tk10 F10 N10 ne10
          walk_at "GO"
          refine ⟨e7, _, _, "ValueError", _, _, PyProof.Rows.excClass_ValueError, rfl, (N10 _ (.head _)).1, rfl, rfl, rfl, ?_⟩
          refine ⟨_, e7, b7, h10, _, tw7, ⟨rfl, rfl, rfl⟩, rfl, rfl, fun q hq' => (N10 _ (.tail _ (.tail _ (.tail _ hq')))).2.2, .inr ⟨excOf b7, tupOf [.str (errWords t.s) tw7], _, _, F10, news_sub N10 ?_, fun p hp => ne10 p (.tail _ hp), rfl, rfl, rfl, rfl, rfl, rfl, rfl⟩⟩
          intro p hp
          rcases List.mem_cons.mp hp with rfl | hp
          · exact .head _
          · rcases List.mem_cons.mp hp with rfl | hp
            · exact .tail _ (.head _)
            · exact .tail _ (.tail _ (.tail _ hp))
      case kcatch =>
        intro e s' hT
        refine catch_any hT B1 D1 (topRead_of XB.t) ?_
        intro m2 e t tw g3 h3 oe ot ws ctx tk3 ⟨hm1, hm2, hm3⟩ B3 F3 N3 G3 K3 D3 ne3 hoe hctx
        clear hT F8 N8 X1 T1 B1 D1
        have X3 := XB.x.keeps B3.stays
        have T3 := XB.t.keeps B3.stays
        walk_at "GO"
        refine unhalt ?_
        rename News g3 L' _ ((e, oe) :: _) => N4
        refine type_got N4 G3 rfl ?_
        walk_at "GO"
        refine unhalt ?_
        refine args_got_builtin PySem.F.attr_ValueError N4 G3 ?_
        walk_at "GO"
        refine unhalt ?_
        refine' item_tup_in (Got.isTup N4 G3) (by decide) (by decide) (j := 0) (by rfl) rfl ?_ ?hs
        case hs => with_unfolding_all rfl
        walk_at "GO"
        refine unhalt ?_
        rename Fr g3 L' _ _ => F5
        rename News g3 L' _ ((e, oe) :: _) => N5
        refine name_goes_keeps F5 N5 ?_
        intro h6 v6 F6 N6
        clear F5 N5 G3
        dsimp only
        have F7 := pin (pin (pin (pin F6 (x := Str.ofString "row") (v := .ref R) hm1) (x := Str.ofString "told") (v := .ref T) hm2) (x := Str.ofString "source") (v := .ref it) hm3) (x := Str.ofString "words") (v := .str wd tw) rfl
        have N7 := news_sub N6 (news' := (it, iterOf D6 (0 + ((((S.kept ++ rem) ++ [Tk.fin]).map Tk.s).length - (r.map Tk.s).length))) :: (D6, listOf (rv ++ [Value.str (Str.ofString "") (tk1 + 1)]).toArray 0) :: (I, oI) :: (R, listOf rv.toArray nr) :: (T, listOf tv.toArray nt) :: (tl ++ news)) (fun p hp => .tail _ (.tail _ (List.mem_append_right _ hp)))
        clear F6 N6 hctx hoe ne3
        refine wpC_execs_consL ?_
        walk_at "GO"
        refine unhalt ?_
        refine len_news N7 (.tail _ (.tail _ (.tail _ (.head _)))) (by omega) ?_
        intro tk8 u8
        rw [hrl]
        walk_at "GO"
        refine unhalt ?_
        rename Fr g3 L' _ _ => F8
        refine list_of_iter (vs := (rv ++ [Value.str (Str.ofString "") (tk1 + 1)]).toArray) F8 N7 (.head _) (fun p hp => .tail _ hp) hne8 (.head _) (drop_le hrl) (Nat.le_trans (show _ ≤ 100 by simp; omega) (by decide)) (.inl rfl) ?_
        intro D9 c9 h9 tk9 F9 N9 lt9
        clear F8 N7
        walk_at "GO"
        refine unhalt ?_
        refine len_news N9 (.head _) (by simp; omega) ?_
        intro tk10 u10
        rw [drop_len hrl hrl2]
        walk_at "GO"
        rename Fr g3 L' _ _ => F10
        rename News g3 L' _ ((D9, _) :: _) => N10
        rw [show ((((S.kept ++ rem).length : Nat) : Int) - (r.length : Int)) = (((S.kept ++ rem).length - r.length : Nat) : Int) from (Int.ofNat_sub hrl2).symm] at F10
        obtain ⟨pl, hpl⟩ : ∃ pl, pl = (S.kept ++ rem).length - r.length := ⟨_, rfl⟩
        rw [← hpl] at F10 htold hmend
        have N11 := news_sub N10 (news' := (I, oI) :: (R, listOf rv.toArray nr) :: (T, listOf tv.toArray nt) :: (tl ++ news)) (fun p hp => .tail _ (.tail _ hp))
        clear N10 lt9
        have IR : I ≠ R := Ne.symm (ne3 _ (.head _))
        have IT : I ≠ T := Ne.symm (ne3 _ (.tail _ (.head _)))
        have nI : ∀ p ∈ tl ++ news, p.1 ≠ I := fun p hp => ne3 p (.tail _ (.tail _ hp))
        have htz : tv.length ≤ 1000 := by
          have q1 := W1.tolds.len
          have q2 := W1.told
          omega
        refine wpC_execs_consL ?_
        walk_at "GO"
        refine unhalt ?_
        rename Fr g3 L' _ _ => F12
        rename News g3 L' _ ((_, W.listOf #[Value.int _ _, Value.str _ _] _) :: _) => N12
        rename_i XA h12 lt12
        obtain ⟨tp, hX⟩ : ∃ tp, (XA, listOf #[.int (pl : Int) tp, .str wd tw] 0) ∈ ledOf N12 := ⟨_, .head _⟩
        refine append_in F12 N12 (.tail _ (.tail _ (.tail _ (.head _)))) ((XA, listOf #[.int (pl : Int) tp, .str wd tw] 0) :: (I, oI) :: (R, listOf rv.toArray nr) :: (tl ++ news)) ?_ ?_ htz ?_
        · intro p hp
          rcases List.mem_cons.mp hp with rfl | hp
          · exact hX
          · rcases List.mem_cons.mp hp with rfl | hp
            · exact .tail _ (.head _)
            · rcases List.mem_cons.mp hp with rfl | hp
              · exact .tail _ (.tail _ (.head _))
              · exact .tail _ (.tail _ (.tail _ (.tail _ hp)))
        · intro p hp
          rcases List.mem_cons.mp hp with rfl | hp
          · exact Nat.ne_of_gt lt12.2.2.1
          · rcases List.mem_cons.mp hp with rfl | hp
            · exact IT
            · rcases List.mem_cons.mp hp with rfl | hp
              · exact W1.ne.1
              · exact W1.ne.2 p hp
        intro h13 F13 N13
        have XI : XA ≠ I := Nat.ne_of_gt lt12.1
        have XT : XA ≠ T := Nat.ne_of_gt lt12.2.2.1
        clear hX F12 N12
        walk_at "GO"
        rename Fr g3 L' _ _ => F14
        have hrz : rv.length ≤ 1000 := hrl ▸ Nat.le_trans hsz (by decide)
        have hfin : ∀ (mm : Str → Option Value) (h' : Heap) (tk' : Nat) (led : List (Addr × Obj)) (R2 : Addr) (rv2 : List Value) (nr2 : Nat), Fr g3 L' h' mm → News g3 L' h' led → (R2, listOf rv2.toArray nr2) ∈ led → (∀ p ∈ (T, listOf (tv ++ [Value.ref XA]).toArray (nt + 1)) :: (XA, listOf #[.int (pl : Int) tp, .str wd tw] 0) :: (I, oI) :: (tl ++ news), p ∈ led) →
            mm (Str.ofString "row") = some (.ref R2) → mm (Str.ofString "told") = some (.ref T) → T < R2 → I < R2 → StrsAre rv2 ((mend (S.kept ++ rem) pl wd).map Tk.s) → qt .next { s with heap := h', toks := tk' } := by
          intro mm h' tk' led R2 rv2 nr2 Fe NN hR2 hsub e1 e2 e4 e5 e3
          rw [hqt]
          refine ⟨g3, mm, _, h', tk', rfl, ⟨B3, D3, K1.trans K3, S2, rem2, R2, T, rv2, tv ++ [.ref XA], nr2, nt + 1, _, W1.next (t1 := tp) (t2 := tw) (n := 0) hst htold (hmend ▸ e3) XT (Nat.ne_of_gt e4), e1, e2, rfl⟩, Fe, news_sub NN ?_, ?_⟩
          · intro p hp
            rcases List.mem_cons.mp hp with rfl | hp
            · exact hsub _ (.tail _ (.tail _ (.head _)))
            · rcases List.mem_cons.mp hp with rfl | hp
              · exact hR2
              · rcases List.mem_cons.mp hp with rfl | hp
                · exact hsub _ (.head _)
                · rcases List.mem_cons.mp hp with rfl | hp
                  · exact hsub _ (.tail _ (.head _))
                  · exact hsub _ (.tail _ (.tail _ (.tail _ hp)))
          · intro p hp
            rcases List.mem_cons.mp hp with rfl | hp
            · exact Nat.ne_of_gt e5
            · rcases List.mem_cons.mp hp with rfl | hp
              · exact Ne.symm IT
              · rcases List.mem_cons.mp hp with rfl | hp
                · exact XI
                · exact nI p hp
        clear hP hS9 hlen hne8 hout
        refine wpC_of_any ?_
        by_cases hw : wd = unbal
        · have b1 : (wd == Str.ofString "unbalanced parenthesis in plural form") = true := by rw [hw]; exact beq_self_eq_true _
          walk_at "GO"
          refine unhalt ?_
          refine' slice_upto (d := s) (p := pl) F14 N13 (.tail _ (.tail _ (.tail _ (.head _)))) hrz ?_ ?hs ?ht
          case hs => with_unfolding_all rfl
          case ht => (intro _; with_unfolding_all rfl)
          intro D1 h15 F15 N15 lt15
          walk_at "GO"
          refine unhalt ?_
          rename Fr g3 L' _ _ => F16
          rename News g3 L' _ (_ :: (D1, _) :: _) => N16
          refine cat_lists F16 N16 (.tail _ (.head _)) (.head _) (Nat.le_trans (show _ ≤ 1002 by simp; omega) (by decide)) ?_
          intro D2 h17 F17 N17 lt17
          clear F16 N16
          walk_at "GO"
          refine unhalt ?_
          rename Fr g3 L' _ _ => F18
          refine' slice_from (d := s) (p := pl) F18 N17 (.tail _ (.tail _ (.tail _ (.tail _ (.tail _ (.tail _ (.head _))))))) hrz ?_ ?hs ?ht
          case hs => with_unfolding_all rfl
          case ht => (intro _; with_unfolding_all rfl)
          intro D3 h19 F19 N19 lt19
          clear F18 N17
          walk_at "GO"
          refine unhalt ?_
          refine cat_lists F19 N19 (.tail _ (.head _)) (.head _) (Nat.le_trans (show _ ≤ 3003 by simp; omega) (by decide)) ?_
          intro D4 h20 F20 N20 lt20
          clear F19 N19
          walk_at "GO"
          rename Fr g3 L' _ _ => F21
          rename News g3 L' _ ((D4, _) :: _) => N21
          refine hfin _ _ _ _ D4 _ _ F21 N21 (.head _) ?_ rfl rfl (lt20 _ (.tail _ (.tail _ (.tail _ (.tail _ (.head _)))))) (lt20 _ (.tail _ (.tail _ (.tail _ (.tail _ (.tail _ (.tail _ (.head _)))))))) (by rw [mend_shut hw]; exact rows_shut W1.rows)
          intro p hp
          rcases List.mem_cons.mp hp with rfl | hp
          · exact .tail _ (.tail _ (.tail _ (.tail _ (.tail _ (.head _)))))
          · rcases List.mem_cons.mp hp with rfl | hp
            · exact .tail _ (.tail _ (.tail _ (.tail _ (.tail _ (.tail _ (.head _))))))
            · rcases List.mem_cons.mp hp with rfl | hp
              · exact .tail _ (.tail _ (.tail _ (.tail _ (.tail _ (.tail _ (.tail _ (.head _)))))))
              · exact .tail _ (.tail _ (.tail _ (.tail _ (.tail _ (.tail _ (.tail _ (.tail _ (.tail _ (hp)))))))))
        · have b1 : (wd == Str.ofString "unbalanced parenthesis in plural form") = false := ne_bool hw
          by_cases hw2 : wd = endWords
          · have b2 : (wd != Str.ofString "unexpected end of plural form") = false := by rw [hw2, end_words]; decide
            walk_at "GO"
            refine unhalt ?_
            refine' slice_last (d := s) F14 N13 (.tail _ (.tail _ (.tail _ (.head _)))) rfl hrz ?_ ?hs ?ht
            case hs => with_unfolding_all rfl
            case ht => (intro _; with_unfolding_all rfl)
            intro D1 h15 F15 N15 lt15
            walk_at "GO"
            refine unhalt ?_
            rename News g3 L' _ ((_, W.listOf #[Value.ref _, Value.ref _, Value.ref _, Value.ref _] _) :: _) => N16
            refine in_last_in (ks := S.kept ++ rem) N16 (.tail _ (.tail _ (.tail _ (.tail _ (.tail _ (.head _)))))) (.head _) (.tail _ (.tail _ (.tail _ (.tail _ (.head _))))) (.tail _ (.tail _ (.tail _ (.head _)))) (.tail _ (.tail _ (.head _))) (.tail _ (.head _)) (last_strs W1.rows hrl) (by show un + _ + 10 < cLine; omega) ?_
            cases hl : lastOpd (S.kept ++ rem) with
            | true =>
              walk_at "GO"
              refine unhalt ?_
              rename Fr g3 L' _ _ => F19
              rename News g3 L' _ (_ :: (_, W.listOf #[Value.ref _, Value.ref _, Value.ref _, Value.ref _] _) :: _) => N19
              refine cat_lists F19 N19 (.tail _ (.tail _ (.tail _ (.tail _ (.tail _ (.tail _ (.tail _ (.tail _ (.tail _ (.tail _ (.head _))))))))))) (.head _) (Nat.le_trans (show _ ≤ 1002 by simp; omega) (by decide)) ?_
              intro D4 h20 F20 N20 lt20
              clear F19 N19
              walk_at "GO"
              rename Fr g3 L' _ _ => F21
              rename News g3 L' _ ((D4, _) :: _) => N21
              refine hfin _ _ _ _ D4 _ _ F21 N21 (.head _) ?_ rfl rfl (lt20 _ (.tail _ (.tail _ (.tail _ (.tail _ (.tail _ (.tail _ (.tail _ (.head _))))))))) (lt20 _ (.tail _ (.tail _ (.tail _ (.tail _ (.tail _ (.tail _ (.tail _ (.tail _ (.tail _ (.head _))))))))))) (by rw [hw2, mend_col hl]; exact rows_more (u := .col) W1.rows)
              intro p hp
              rcases List.mem_cons.mp hp with rfl | hp
              · exact .tail _ (.tail _ (.tail _ (.tail _ (.tail _ (.tail _ (.tail _ (.tail _ (.head _))))))))
              · rcases List.mem_cons.mp hp with rfl | hp
                · exact .tail _ (.tail _ (.tail _ (.tail _ (.tail _ (.tail _ (.tail _ (.tail _ (.tail _ (.head _)))))))))
                · rcases List.mem_cons.mp hp with rfl | hp
                  · exact .tail _ (.tail _ (.tail _ (.tail _ (.tail _ (.tail _ (.tail _ (.tail _ (.tail _ (.tail _ (.head _))))))))))
                  · exact .tail _ (.tail _ (.tail _ (.tail _ (.tail _ (.tail _ (.tail _ (.tail _ (.tail _ (.tail _ (.tail _ (.tail _ (hp))))))))))))
            | false =>
              walk_at "GO"
              refine unhalt ?_
              rename Fr g3 L' _ _ => F19
              rename News g3 L' _ (_ :: (_, W.listOf #[Value.ref _, Value.ref _, Value.ref _, Value.ref _] _) :: _) => N19
              refine cat_lists F19 N19 (.tail _ (.tail _ (.tail _ (.tail _ (.tail _ (.tail _ (.tail _ (.tail _ (.tail _ (.tail _ (.head _))))))))))) (.head _) (Nat.le_trans (show _ ≤ 1002 by simp; omega) (by decide)) ?_
              intro D4 h20 F20 N20 lt20
              clear F19 N19
              walk_at "GO"
              rename Fr g3 L' _ _ => F21
              rename News g3 L' _ ((D4, _) :: _) => N21
              refine hfin _ _ _ _ D4 _ _ F21 N21 (.head _) ?_ rfl rfl (lt20 _ (.tail _ (.tail _ (.tail _ (.tail _ (.tail _ (.tail _ (.tail _ (.head _))))))))) (lt20 _ (.tail _ (.tail _ (.tail _ (.tail _ (.tail _ (.tail _ (.tail _ (.tail _ (.tail _ (.head _))))))))))) (by rw [hw2, mend_n hl]; exact rows_more (u := .n) W1.rows)
              intro p hp
              rcases List.mem_cons.mp hp with rfl | hp
              · exact .tail _ (.tail _ (.tail _ (.tail _ (.tail _ (.tail _ (.tail _ (.tail _ (.head _))))))))
              · rcases List.mem_cons.mp hp with rfl | hp
                · exact .tail _ (.tail _ (.tail _ (.tail _ (.tail _ (.tail _ (.tail _ (.tail _ (.tail _ (.head _)))))))))
                · rcases List.mem_cons.mp hp with rfl | hp
                  · exact .tail _ (.tail _ (.tail _ (.tail _ (.tail _ (.tail _ (.tail _ (.tail _ (.tail _ (.tail _ (.head _))))))))))
                  · exact .tail _ (.tail _ (.tail _ (.tail _ (.tail _ (.tail _ (.tail _ (.tail _ (.tail _ (.tail _ (.tail _ (.tail _ (hp))))))))))))
          · have b2 : (wd != Str.ofString "unexpected end of plural form") = true := ne_bool' (end_words ▸ hw2)
            walk_at "GO"
            refine unhalt ?_
            refine' slice_upto (d := s) (p := pl) F14 N13 (.tail _ (.tail _ (.tail _ (.head _)))) hrz ?_ ?hs ?ht
            case hs => with_unfolding_all rfl
            case ht => (intro _; with_unfolding_all rfl)
            intro D1 h15 F15 N15 lt15
            walk_at "GO"
            refine unhalt ?_
            rename Fr g3 L' _ _ => F18
            refine' slice_from (d := s) (p := pl + 1) F18 N15 (.tail _ (.tail _ (.tail _ (.tail _ (.head _))))) hrz ?_ ?hs ?ht
            case hs => with_unfolding_all rfl
            case ht => (intro _; with_unfolding_all rfl)
            intro D3 h19 F19 N19 lt19
            clear F18 N15
            walk_at "GO"
            refine unhalt ?_
            refine cat_lists F19 N19 (.tail _ (.head _)) (.head _) (Nat.le_trans (show _ ≤ 2002 by simp; omega) (by decide)) ?_
            intro D4 h20 F20 N20 lt20
            clear F19 N19
            walk_at "GO"
            rename Fr g3 L' _ _ => F21
            rename News g3 L' _ ((D4, _) :: _) => N21
            refine hfin _ _ _ _ D4 _ _ F21 N21 (.head _) ?_ rfl rfl (lt20 _ (.tail _ (.tail _ (.head _)))) (lt20 _ (.tail _ (.tail _ (.tail _ (.tail _ (.head _)))))) (by rw [mend_out hw hw2]; exact rows_out W1.rows)
            intro p hp
            rcases List.mem_cons.mp hp with rfl | hp
            · exact .tail _ (.tail _ (.tail _ (.head _)))
            · rcases List.mem_cons.mp hp with rfl | hp
              · exact .tail _ (.tail _ (.tail _ (.tail _ (.head _))))
              · rcases List.mem_cons.mp hp with rfl | hp
                · exact .tail _ (.tail _ (.tail _ (.tail _ (.tail _ (.head _)))))
                · exact .tail _ (.tail _ (.tail _ (.tail _ (.tail _ (.tail _ (.tail _ (hp)))))))
end Mine


set_option maxRecDepth 100000
namespace Mine
section
variable {M : Model} {A : Around} {E : Value → Shared → Prop} {s : Shared} {env : Env} {Q : Flow → Shared → Prop}
theorem wpC_pure' {α : Type} {a : α} {Q : α → Shared → Prop} (h : Q a s) : wpC M A (pure a) Q E s := wpC_of_any (wpAny_pure h)
/-- a return of what two calls compare to -/
theorem wpC_ReturnCmp {l r : PySem.Expr} {op : CmpOp} {cpos pos : Pos} (h : wpC M A (eval l env) (fun a s₁ => wpC M A (eval r env) (fun b s₂ => wpAny M A (compareOp op a b) (fun v => Q (.ret v)) E s₂) E s₁) E s)
    (hm : behindInMarks op r = false := by with_unfolding_all rfl) : wpC M A (exec (.Return (some (.Compare l [op] [r] cpos)) pos) env) Q E s := by
  rw [exec_Return_some, eval_Compare1, markedBehindIn_of_false hm]
  refine wpC_bindL (wpAny_standAt (wpC_bind (wpC_bind (wpC_mono h (fun a s₁ h₁ => ?_) fun _ _ x => x))))
  refine wpC_bind (wpC_holding (wpC_mono h₁ (fun b s₂ h₂ => ?_) fun _ _ x => x))
  refine wpC_bindL (wpAny_standAt ?_)
  have hop : wpAny M A (operate [a, b] (compareOp op a b)) (fun v => Q (.ret v)) E s₂ := fun Γ p hΓ => by
    rw [Sem.wp_operate]; exact h₂ Γ _ hΓ
  exact wpC_of_any (wpAny_mono hop (fun v s₃ h₃ => wpC_pure' h₃) fun _ _ x => x)
end

def okT (d : List (Nat × Str)) : Prop := ∀ p ∈ d, PyData.strOk p.2 = true
theorem ok_snoc {d : List (Nat × Str)} {n : Nat} {wd : Str} (h : okT d) (hw : PyData.strOk wd = true) : okT (d ++ [(n, wd)]) := fun p hp => by
  rcases List.mem_append.mp hp with hp | hp
  · exact h p hp
  · rw [List.mem_singleton.mp hp]; exact hw
theorem ok_unbal : PyData.strOk unbal = true := by decide +kernel
theorem ok_end : PyData.strOk endWords = true := by decide +kernel
theorem ok_words : ∀ t : Tk, PyData.strOk (errWords t.s) = true := by intro t; cases t <;> decide +kernel
theorem ok_shutAll : ∀ (o : List Bool) (k : List Tk) (d : List (Nat × Str)), okT d → okT (shutAll o k d).2.2
  | [], _, _, h => h
  | false :: _, _, _, h => h
  | true :: o, k, d, h => ok_shutAll o _ _ (ok_snoc h ok_unbal)
theorem ok_put {S : St} (t : Tk) (h : okT S.told) : okT (S.put t).told := by
  have hd : okT (S.drop t).told := ok_snoc h (ok_words t)
  unfold St.put
  repeat' split
  all_goals first | exact h | exact hd
theorem ok_turn {S : St} (t : Tk) (h : okT S.told) : okT (S.turn t).told := by
  unfold St.turn
  refine ok_put t ?_
  split
  · exact ok_shutAll _ _ _ h
  · exact h
theorem ok_endW : ∀ (n : Nat) (du : Bool) (o : List Bool) (k : List Tk) (d : List (Nat × Str)), okT d → okT (endW n du o k d).2
  | 0, _, _, _, _, h => h
  | n + 1, true, o, k, d, h => ok_endW n false o _ _ (ok_snoc h ok_end)
  | n + 1, false, [], k, d, h => h
  | n + 1, false, true :: o, k, d, h => ok_endW n false o _ _ (ok_snoc h ok_unbal)
  | n + 1, false, false :: o, k, d, h => ok_endW n true o _ _ (ok_snoc h ok_end)
theorem ok_fold : ∀ (row : List Tk) (S : St), okT S.told → okT (row.foldl St.turn S).told
  | [], _, h => h
  | t :: r, S, h => ok_fold r (S.turn t) (ok_turn t h)
theorem ok_rest {S : St} (row : List Tk) (h : okT S.told) : okT (S.rest row).2 := ok_endW _ _ _ _ _ (ok_fold row S h)
theorem lay_told : ∀ {d : List (Nat × Str)}, okT d → PyData.canLayAll0 (toldData d) = true
  | [], _ => rfl
  | p :: d, h => by
    have h1 := h p (.head _)
    have h2 : PyData.canLayAll0 (toldData d) = true := lay_told fun q hq => h q (.tail _ hq)
    show (PyData.canLay0 (.list [.int (p.1 : Int), .str p.2]) && PyData.canLayAll0 (toldData d)) = true
    rw [h2]
    simp [PyData.canLay0, PyData.canLayAll0, h1]
theorem depth_told : ∀ d : List (Nat × Str), PyData.depthAll (toldData d) ≤ 3
  | [] => by simp [toldData, PyData.depthAll]
  | p :: d => by
    have := depth_told d
    have e : toldData (p :: d) = .list [.int (p.1 : Int), .str p.2] :: toldData d := rfl
    rw [e]
    simp [PyData.depthAll, PyData.depth]
    omega
theorem ok_map2 (ks : List Tk) : (ks.map Tk.s).all PyData.strOk = true := by
  rw [List.all_map, List.all_eq_true]
  intro t _
  exact ok_s t
theorem shaped_res {r : List Tk × List (Nat × Str)} (h : okT r.2) : SeqAt.shaped (resData r) = true := by
  have e : (r.1.map fun t => PyData.str t.s) = (r.1.map Tk.s).map .str := by rw [List.map_map]; rfl
  have h1 := lay_strs (ok_map2 r.1)
  have h2 := depth_strs (r.1.map Tk.s)
  have h3 := lay_told h
  have h4 := depth_told r.2
  unfold SeqAt.shaped resData
  rw [e, Bool.and_eq_true]
  generalize (r.1.map Tk.s).map PyData.str = xs at h1 h2 ⊢
  generalize toldData r.2 = ys at h3 h4 ⊢
  refine ⟨by simp [PyData.canLay0, PyData.canLayAll0, h1, h3], decide_eq_true ?_⟩
  simp [PyData.depth, PyData.depthAll]
  omega
section
variable {prog : Program} {w : World} {A : Around} {E : Value → Shared → Prop} {s : Shared} {h₀ : Heap} {L l : Addr} {news : List (Addr × Obj)} {n : Nat} {Q : Value → Shared → Prop}
/-- one of the law's tokens -/
theorem tok_item {value slice : PySem.Expr} {i : Int} {u t0 t1 t2 t3 t4 t5 t6 t7 t8 t9 t10 t11 : Tok} (N : News h₀ L s.heap news) (hm : (l, listOf [.str (Str.ofString "n") t0, .str (Str.ofString "12") t1, .str (Str.ofString "0") t2, .str (Str.ofString "xy") t3, .str (Str.ofString "!") t4, .str (Str.ofString "+") t5, .str (Str.ofString "==") t6, .str (Str.ofString "&&") t7, .str (Str.ofString "?") t8, .str (Str.ofString ":") t9, .str (Str.ofString "(") t10, .str (Str.ofString ")") t11].toArray n) ∈ news) (h0 : 0 ≤ i) (h1 : i < 12) (h : ∀ t : Tk, t ≠ .fin → ∀ tk, Q (.str t.s tk) s)
    (hs : subscripted slice false (.ref l) (.int i u) = operate [.ref l, .int i u] (getItem (.ref l) (.int i u))) (hg : ∀ r, letTemporaryGo value (.ref l) r = pure ()) :
    wpAny (model prog w) A (subscriptTail value slice (.ref l) (.int i u)) Q E s := by
  obtain ⟨k, rfl⟩ : ∃ k : Nat, i = (k : Int) := ⟨i.toNat, by omega⟩
  have hk : k = 0 ∨ k = 1 ∨ k = 2 ∨ k = 3 ∨ k = 4 ∨ k = 5 ∨ k = 6 ∨ k = 7 ∨ k = 8 ∨ k = 9 ∨ k = 10 ∨ k = 11 := by omega
  rcases hk with rfl | rfl | rfl | rfl | rfl | rfl | rfl | rfl | rfl | rfl | rfl | rfl
  · exact item_news N hm (i := 0) rfl (by decide) (h .n (by decide) t0) hs hg
  · exact item_news N hm (i := 1) rfl (by decide) (h .d12 (by decide) t1) hs hg
  · exact item_news N hm (i := 2) rfl (by decide) (h .d0 (by decide) t2) hs hg
  · exact item_news N hm (i := 3) rfl (by decide) (h .xy (by decide) t3) hs hg
  · exact item_news N hm (i := 4) rfl (by decide) (h .bang (by decide) t4) hs hg
  · exact item_news N hm (i := 5) rfl (by decide) (h .plus (by decide) t5) hs hg
  · exact item_news N hm (i := 6) rfl (by decide) (h .eqq (by decide) t6) hs hg
  · exact item_news N hm (i := 7) rfl (by decide) (h .and (by decide) t7) hs hg
  · exact item_news N hm (i := 8) rfl (by decide) (h .ask (by decide) t8) hs hg
  · exact item_news N hm (i := 9) rfl (by decide) (h .col (by decide) t9) hs hg
  · exact item_news N hm (i := 10) rfl (by decide) (h .lp (by decide) t10) hs hg
  · exact item_news N hm (i := 11) rfl (by decide) (h .rp (by decide) t11) hs hg
end
end Mine


set_option maxRecDepth 100000
set_option maxHeartbeats 8000000
namespace Mine
local macro_rules | `(tactic| walk_at "CompSrc") => `(tactic| (refine halt ?_))
local macro_rules | `(tactic| walk_at "CompSrcT") => `(tactic| (refine halt ?_))
local macro_rules | `(tactic| walk_at "pyIter") => `(tactic| (refine halt ?_))
local macro_rules | `(tactic| walk_at "pyIter ref") => `(tactic| (refine halt ?_))
local macro_rules | `(tactic| walk_at "call builtin:len") => `(tactic| (refine halt ?_))
local macro_rules | `(tactic| walk_at "subscriptTail") => `(tactic| (k_here; (with_reducible show wpAny _ _ (subscriptTail _ _ (Value.ref _) (Value.int _ _)) _ _ _); refine halt ?_))
local macro_rules | `(tactic| walk_at "compareOp Eq ref ref") => `(tactic| (refine halt ?_))
local macro_rules | `(tactic| walk_at "call ref") => `(tactic| (refine halt ?_))

theorem l2 : PySem.Challenge.rw_dv0012_02.Holds := hd (by
  k_fill
  intro w s₀ s₁ mg mb G Y fa o pm cd doc dV kV ho hdd hcd hD hmg hg args vals as hpre hlay hrd hwl hlo
  have KX := kIn_of Y
  refine Ground.open G ?_
  intro T B D TE TW
  wrow_args hpre hlay hrd hwl hlo
  clear TE TW D B
  have he := Dflts.none hD rfl
  subst he
  have hk := Dflts.noKw hD
  subst hk
  dsimp only [docDef] at hdd
  refine wpC_call (codeC_topC (binds := [(Str.ofString "script", .ref _)]) ho hdd (Top.nolimit T) hcd (by decide) rfl (kinds_of (by kinds_ok)) (by decide) ?_ rfl rfl rfl)
  intro h₁ tk cells F N CA
  have hY := CellsAre.one CA
  obtain ⟨o', hE', d1'⟩ := hY
  subst hE'
  clear CA
  have K0 := below_caller s₁.heap
  clear hdd hD ho
  refine wpC_named ?_
  intro qk ek hq he
  refine wpC_execs_consL ?_
  k_steps
  refine wpC_execs_consL ?_
  k_steps
  refine unhalt ?_
  rename Fr s₁.heap s₁.heap.objs.size _ _ => F1
  rename News s₁.heap s₁.heap.objs.size _ _ => N1
  rename IntsAre _ (_ ++ [6, 10, 0, 8]) => hI1
  rename (_ = min 12 _) => hmin
  have hz1 := ints_len hI1
  rw [List.length_append, hmin] at hz1
  refine LCg.CompSrc.ledger rfl F1 N1 (.head _) (Nat.le_trans (show _ ≤ 100 by simp; simp at hz1; omega) (by decide)) ?_
  intro gg
  refine comp_inv (fun i ys nw => nw = _ ∧ ys.length = i ∧ ∃ ts : List Tk, StrsAre ys (ts.map Tk.s) ∧ Tk.fin ∉ ts) ⟨rfl, rfl, [], .nil, fun h => nomatch h⟩ ?_ ?_
  · rintro ys _ ⟨rfl, hl1, ts, hS1, hT1⟩
    unfold LCg.FinA
    intro D2 h2 tk2 F2 N2 o2
    dsimp only
    clear F1 N1
    have ez : ts.length ≤ 16 := by
      have e1 := strs_len hS1
      simp at hz1 hl1 e1
      omega
    have N3 := news_sub N2 (news' := [(D2, LCg.lst ys)]) (fun p hp => by
      rw [List.mem_singleton.mp hp]; exact .head _)
    clear N2 o2 hI1 hmin hl1 hz1
    refine wpC_execs_cons (wpC_ReturnCmp ?_)
    refine wpC_callX F2 KX (topRead_of T) rfl rfl ?_
    k_steps
    refine words_call pc_all F2 ⟨KX, T⟩ N3 (.head _) hS1 ez hT1 rfl (by decide) (by decide) ?_
    intro D4 led h4 tk4 F4 N4 R4
    clear F2 N3
    refine wpC_callX F4 KX (topRead_of T) rfl rfl ?_
    k_steps
    refine walk_call F4 ⟨KX, T⟩ N4 (List.mem_append_right _ (.head _)) hS1 ez hT1 rfl (by decide) (by decide) ?_
    intro D6 as6 h6 tk6 F6 N6 R6
    obtain ⟨as4, R5⟩ := R4 _ (news_sub N6 fun p hp => List.mem_append_left _ hp)
    refine eq_same R5 R6 (shaped_res (ok_rest ts (fun _ h => nomatch h))) (Nat.le_of_ble_eq_true rfl) ?_
    rw [hq]
    dsimp only
    refine GoodW.toG (goodW_bool F6 hg ?_ ?_)
    · exact raisesW_false (by wrow_none_raised)
    · refine postW_of (by wrow_shape) (by wtm_val) rfl
  · rintro i ys _ v J oJ C oC D3 m3 h3 tk3 E3 hi ⟨rfl, hl1, ts, hS1, hT1⟩ hv hC hx F3 N3 off3 ne3
    obtain ⟨n3, t3, rfl⟩ := ints_get hI1 hv
    clear F1 N1
    k_steps
    refine unhalt ?_
    refine' tok_item N3 (.tail _ (.tail _ (.tail _ (.tail _ (.tail _ (.tail _ (.head _))))))) (Int.fmod_nonneg_of_pos _ (by decide)) (Int.fmod_lt_of_pos _ (by decide)) ?_ ?hs ?hg
    case hs => with_unfolding_all rfl
    case hg => (intro _; with_unfolding_all rfl)
    intro t htf ttk
    dsimp only
    refine LCg.CompEnd.intro F3 N3 _ (fun p hp => hp) off3 (.inr ⟨_, .head _, rfl, _, rfl⟩) ⟨rfl, by simp [hl1], ts ++ [t], strs_map_snoc hS1, ?_⟩
    intro hm
    rcases List.mem_append.mp hm with hm | hm
    · exact hT1 hm
    · exact htf (List.mem_singleton.mp hm).symm)
end Mine


theorem PySem.Challenge.cw_dv0012_02_holds : PySem.Challenge.rw_dv0012_02.Holds :=
  Mine.l2
