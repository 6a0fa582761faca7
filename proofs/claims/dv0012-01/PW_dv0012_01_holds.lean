import PyProof.Rows.All
import Wide.All
import OpenK.AllK
import Wide.FinOn
import Lean
import PySem.Challenge.RW_dv0012_01
set_option Elab.async false
set_option linter.all false

open PySem PySem.W PyProof.Rows PySem.Calls PySem.Spec
set_option maxRecDepth 100000
namespace Mine

abbrev iterOf (l : Addr) (k : Nat) : Obj := { cls := .type "list_iterator", data := .fields #[.ref l, .int k 0] }
abbrev tupOf (vs : List Value) : Obj := { cls := .type "tuple", data := .seq vs.toArray }

theorem news_sub {h₀ h : Heap} {L : Addr} {news news' : List (Addr × Obj)} (N : News h₀ L h news) (hs : ∀ p ∈ news', p ∈ news) : News h₀ L h news' := fun p hp => N p (hs p hp)

section
variable {prog : Program} {w : World} {A : Around} {E : Value → Shared → Prop} {s : Shared} {h₀ : Heap} {L it l : Addr} {m : Str → Option Value} {news rest : List (Addr × Obj)} {k n : Nat} {vs : Array Value} {v : Value}

theorem news_iter (F : Fr h₀ L s.heap m) (N : News h₀ L s.heap news) (hi : (it, iterOf l k) ∈ news) (hs : ∀ p ∈ rest, p ∈ news) (hne : ∀ p ∈ rest, p.1 ≠ it) (j : Int) :
    Fr h₀ L (s.heap.update it (Obj.mapFields (·.setIfInBounds 1 (rawInt j)))) m ∧ News h₀ L (s.heap.update it (Obj.mapFields (·.setIfInBounds 1 (rawInt j)))) ((it, { cls := .type "list_iterator", data := .fields #[.ref l, .int j 0] }) :: rest) := by
  have N' : News h₀ L s.heap ([] ++ (it, iterOf l k) :: rest) := fun p hp => by
    rcases List.mem_cons.mp hp with rfl | hp
    · exact N _ hi
    · exact N _ (hs p hp)
  exact news_upd F N' (fun _ h => nomatch h) hne rfl rfl

theorem next_list {Q : Value → Shared → Prop} (F : Fr h₀ L s.heap m) (N : News h₀ L s.heap news) (hi : (it, iterOf l k) ∈ news) (hs : ∀ p ∈ rest, p ∈ news) (hne : ∀ p ∈ rest, p.1 ≠ it)
    (hl : (l, listOf vs n) ∈ rest) (hx : vs[k]? = some v)
    (h : ∀ h', Fr h₀ L h' m → News h₀ L h' ((it, iterOf l (k + 1)) :: rest) → Q v { s with heap := h' }) :
    wpAny (model prog w) A (call (.builtin "next") [.ref it]) Q E s := by
  have ho := (N _ hi).1
  have hol := (N _ (hs _ hl)).1
  have hit : s.heap.IsListIter it l k := ⟨_, ho, rfl, rfl⟩
  refine call_function_entry (by decide +kernel) (by decide +kernel) kdk_entry_next (kdk_args_next _) ?_
  unfold Builtin.«next»
  refine wpAny_bind (m := someArgs "next" 1 2 _) (wpAny_of_eq (a := [Value.ref it]) (by first | rfl | kernel_rfl!) ?_)
  dsimp only
  refine wpAny_bind (wpAny_specialOf (name := Str.ofString "__next__") hit.typeIs slot_listiter_next.lookup ?_)
  refine wpAny_ite_split (fun hab => absurd hab (by decide)) (fun _ => ?_)
  refine wpAny_bind (wpAny_callSpecial?_slot (name := Str.ofString "__next__") hit.typeIs slot_listiter_next
    (wpAny_call_entry slot_listiter_next hit.typeIs entry_listiter_next ?_ (args_listiter_next _)))
  show wpAny _ _ (field (.ref it) 0 >>= _) _ _ s
  refine wpAny_bind (wpAny_field ho rfl (x := .ref l) rfl ?_)
  show wpAny _ _ (if (Value.ref l == Value.none) = true then _ else _) _ _ s
  rw [if_neg (show ¬ ((Value.ref l == Value.none) = true) from Bool.false_ne_true)]
  show wpAny _ _ (field (.ref it) 1 >>= _) _ _ s
  refine wpAny_bind (wpAny_field ho rfl (x := .int k 0) rfl ?_)
  show wpAny _ _ (seqItems? (.ref l) >>= _) _ _ s
  refine wpAny_bind (wpAny_seqItems hol rfl ?_)
  simp only [Int.toNat_natCast, hx]
  obtain ⟨F', N'⟩ := news_iter (s := s) F N hi hs hne ((k : Int) + 1)
  refine wpAny_bind (wpAny_setField ho rfl (by simp) (wpAny_pure ⟨v, rfl, wpAny_pure ⟨_, rfl, h _ F' ?_⟩⟩))
  exact N'
end
end Mine


set_option maxRecDepth 100000
namespace Mine

/-- what a call of the parser comes to: a lookahead token, or an error's words; the tokens left -/
inductive Out where
  | ok (t : Str) (rest : List Str)
  | err (wd : Str) (rest : List Str)

def errWords (t : Str) : Str := if t = Str.ofString "" then Str.ofString "unexpected end of plural form" else Str.ofString "unexpected token in plural form: " ++ t
def unbal : Str := Str.ofString "unbalanced parenthesis in plural form"

def opTab : List (Str × Int) := [(Str.ofString "||", 1), (Str.ofString "&&", 2), (Str.ofString "==", 3), (Str.ofString "!=", 3), (Str.ofString "<", 4), (Str.ofString ">", 4), (Str.ofString "<=", 4), (Str.ofString ">=", 4),
  (Str.ofString "+", 5), (Str.ofString "-", 5), (Str.ofString "*", 6), (Str.ofString "/", 6), (Str.ofString "%", 6)]
def opLv (t : Str) : Option Int := (opTab.find? fun p => p.1 == t).map (·.2)

def opTk (i : Int) : Tok := if i = 1 then 211 else if i = 2 then 216 else if i = 3 then 221 else if i = 4 then 228 else if i = 5 then 239 else 246
def opVal (t : Str) : Option Value := (opLv t).map fun i => .int i (opTk i)
def c2py (t : Str) : Option Value :=
  if t = Str.ofString "||" then some (.str (Str.ofString "or") 257)
  else if t = Str.ofString "&&" then some (.str (Str.ofString "and") 259)
  else if t = Str.ofString "/" then some (.str (Str.ofString "//") 261)
  else none
theorem c2py_len {t : Str} {tk : Tok} (h : t.length ≤ 3) : ∃ o ot, (c2py t).getD (.str t tk) = .str o ot ∧ o.length ≤ 3 := by
  unfold c2py
  split
  · exact ⟨_, _, rfl, by decide⟩
  · split
    · exact ⟨_, _, rfl, by decide⟩
    · split
      · exact ⟨_, _, rfl, by decide⟩
      · exact ⟨_, _, rfl, h⟩
theorem op_len {t : Str} {i : Int} (h : opLv t = some i) : t.length ≤ 3 ∧ 1 ≤ i ∧ i ≤ 6 := by
  have all : ∀ p ∈ opTab, p.1.length ≤ 3 ∧ 1 ≤ p.2 ∧ p.2 ≤ 6 := by decide
  unfold opLv at h
  obtain ⟨p, hp, rfl⟩ := Option.map_eq_some_iff.mp h
  have e : p.1 = t := by simpa using List.find?_some hp
  exact e ▸ all p (List.mem_of_find?_eq_some hp)

/-- int(t, 10) refuses -/
def Bad (t : Str) : Prop := PySem.intText? t = none ∧ ∀ c ∈ t.cps.toList, c < 16 ^ 8

inductive Opd (P : Int → List Str → Out → Prop) : List Str → Option Str → List Str → Prop
  | par {ts r} : P (-1) ts (.ok (Str.ofString ")") r) → Opd P (Str.ofString "(" :: ts) none r
  | unb {ts r t} : P (-1) ts (.ok t r) → t ≠ Str.ofString ")" → Opd P (Str.ofString "(" :: ts) (some unbal) r
  | inner {ts r wd} : P (-1) ts (.err wd r) → Opd P (Str.ofString "(" :: ts) (some wd) r
  | var {ts} : Opd P (Str.ofString "n" :: ts) none ts
  | num {ts t v} : t ≠ Str.ofString "!" → t ≠ Str.ofString "(" → t ≠ Str.ofString "n" → PySem.intText? t = some v → 0 ≤ v → v < 1000 → Opd P (t :: ts) none ts
  | bad {ts t} : t ≠ Str.ofString "!" → t ≠ Str.ofString "(" → t ≠ Str.ofString "n" → Bad t → Opd P (t :: ts) (some (errWords t)) ts

/-- the marks ahead of an operand -/
inductive Bangs : List Str → List Str → Prop
  | nil {t ts} : t ≠ Str.ofString "!" → Bangs (t :: ts) (t :: ts)
  | cons {ts ts'} : Bangs ts ts' → Bangs (Str.ofString "!" :: ts) ts'

inductive Ops (P : Int → List Str → Out → Prop) (pr : Int) : Str → List Str → Out → Prop
  | stop {t r} : opLv t = none → Ops P pr t r (.ok t r)
  | low {t r i} : opLv t = some i → i < pr → Ops P pr t r (.ok t r)
  | step {t r i t' r' out} : opLv t = some i → pr ≤ i → P (i + 1) r (.ok t' r') → Ops P pr t' r' out → Ops P pr t r out
  | fail {t r i wd r'} : opLv t = some i → pr ≤ i → P (i + 1) r (.err wd r') → Ops P pr t r (.err wd r')

inductive Tail (P : Int → List Str → Out → Prop) (pr : Int) : Str → List Str → Out → Prop
  | plain {t r} : ¬ (t = Str.ofString "?" ∧ pr ≤ 0) → Tail P pr t r (.ok t r)
  | ifErr {r wd r2} : pr ≤ 0 → P 0 r (.err wd r2) → Tail P pr (Str.ofString "?") r (.err wd r2)
  | ifTok {r t2 r2} : pr ≤ 0 → P 0 r (.ok t2 r2) → t2 ≠ Str.ofString ":" → Tail P pr (Str.ofString "?") r (.err (errWords t2) r2)
  | ifOk {r r2 t3 r3} : pr ≤ 0 → P 0 r (.ok (Str.ofString ":") r2) → P (-1) r2 (.ok t3 r3) → Tail P pr (Str.ofString "?") r (.ok t3 r3)
  | ifBad {r r2 wd r3} : pr ≤ 0 → P 0 r (.ok (Str.ofString ":") r2) → P (-1) r2 (.err wd r3) → Tail P pr (Str.ofString "?") r (.err wd r3)

inductive ParseS (P : Int → List Str → Out → Prop) (pr : Int) : List Str → Out → Prop
  | opd {ts ts' wd r} : Bangs ts ts' → Opd P ts' (some wd) r → ParseS P pr ts (.err wd r)
  | ops {ts ts' t r wd r'} : Bangs ts ts' → Opd P ts' none (t :: r) → Ops P pr t r (.err wd r') → ParseS P pr ts (.err wd r')
  | all {ts ts' t r t' r' out} : Bangs ts ts' → Opd P ts' none (t :: r) → Ops P pr t r (.ok t' r') → Tail P pr t' r' out → ParseS P pr ts out

/-- behind an operand -/
inductive Goes (P : Int → List Str → Out → Prop) (pr : Int) (t : Str) (r : List Str) : Out → Prop
  | err {wd r'} : Ops P pr t r (.err wd r') → Goes P pr t r (.err wd r')
  | ok {t' r' out} : Ops P pr t r (.ok t' r') → Tail P pr t' r' out → Goes P pr t r out

def Parse : Nat → Int → List Str → Out → Prop
  | 0 => fun _ _ _ => False
  | n + 1 => fun pr ts out => ParseS (Parse n) pr ts out

theorem goes_cases {P : Int → List Str → Out → Prop} {pr : Int} {t : Str} {r : List Str} {out : Out} (h : Goes P pr t r out) :
    (opLv t = none ∧ Tail P pr t r out) ∨ (∃ i, opLv t = some i ∧ i < pr ∧ Tail P pr t r out) ∨ (∃ i t' r', opLv t = some i ∧ pr ≤ i ∧ P (i + 1) r (.ok t' r') ∧ Goes P pr t' r' out) ∨
    (∃ i wd r', opLv t = some i ∧ pr ≤ i ∧ P (i + 1) r (.err wd r') ∧ out = .err wd r') := by
  cases h with
  | err h => cases h with
    | step a b c d => exact .inr (.inr (.inl ⟨_, _, _, a, b, c, .err d⟩))
    | fail a b c => exact .inr (.inr (.inr ⟨_, _, _, a, b, c, rfl⟩))
  | ok h q => cases h with
    | stop a => exact .inl ⟨a, q⟩
    | low a b => exact .inr (.inl ⟨_, a, b, q⟩)
    | step a b c d => exact .inr (.inr (.inl ⟨_, _, _, a, b, c, .ok d q⟩))
theorem opVal_some {t : Str} {i : Int} (h : opLv t = some i) : opVal t = some (.int i (opTk i)) := by unfold opVal; rw [h]; rfl
theorem opVal_none {t : Str} (h : opLv t = none) : opVal t = none := by unfold opVal; rw [h]; rfl

theorem strs_fun {l : List Value} {a b : List Str} (h : StrsAre l a) (h' : StrsAre l b) : a = b := by
  induction h generalizing b with
  | nil => cases h'; rfl
  | cons y t _ ih => cases h' with | cons _ _ h'' => rw [ih h'']
theorem strs_drop {l : List Value} {a : List Str} (h : StrsAre l a) (i : Nat) : StrsAre (l.drop i) (a.drop i) := by
  induction h generalizing i with
  | nil => cases i <;> exact .nil
  | cons y t h ih => cases i with
    | zero => exact .cons y t h
    | succ i => exact ih i
theorem strs_sub {vs : Array Value} {k : Nat} {ts r : List Str} (h : StrsAre (vs.toList.drop k) ts) (h' : StrsAre (vs.toList.drop (k + (ts.length - r.length))) r) : ∀ t ∈ r, t ∈ ts := by
  have q := strs_drop h (ts.length - r.length)
  rw [List.drop_drop] at q
  rw [strs_fun h' q]
  exact fun t ht => List.mem_of_mem_drop ht
theorem errWords_ne {t : Str} (h : (t.length : Int) ≠ 0) : errWords t = Str.ofString "unexpected token in plural form: " ++ t := by
  unfold errWords
  rw [if_neg]
  intro e; subst e; exact h rfl
theorem errWords_eq {t : Str} (h : (t.length : Int) = 0) : errWords t = Str.ofString "unexpected end of plural form" := by
  unfold errWords
  rw [if_pos]
  obtain ⟨c⟩ := t
  have : c.size = 0 := by have h' : (c.size : Int) = 0 := h; omega
  have e : c = #[] := Array.eq_empty_of_size_eq_zero this
  rw [e]; decide
theorem ne_bool {t u : Str} (h : t ≠ u) : (t == u) = false := by simpa using h
theorem ne_bool' {t u : Str} (h : t ≠ u) : (t != u) = true := by simpa using h
theorem news_drop2 {h₀ h : Heap} {L : Addr} {x y : Addr × Obj} {r : List (Addr × Obj)} (N : News h₀ L h (x :: y :: r)) : News h₀ L h (x :: r) := fun p hp => by
  rcases List.mem_cons.mp hp with rfl | hp
  · exact N _ (.head _)
  · exact N _ (.tail _ (.tail _ hp))
theorem fits {n : Nat} (h : n ≤ 100000) : n ≤ sizeLine := by rw [sizeLine_eq]; omega
theorem len_empty : Str.empty.length = 0 := rfl
theorem len_lp : (Str.ofString "(").length = 1 := by decide
theorem len_rp : (Str.ofString ")").length = 1 := by decide
theorem len_n : (Str.ofString "n").length = 1 := by decide
theorem len_sp : (Str.ofString " ").length = 1 := by decide
theorem len_if : (Str.ofString " if ").length = 4 := by decide
theorem len_else : (Str.ofString " else ").length = 6 := by decide

theorem bangs_suffix {ts ts' : List Str} (h : Bangs ts ts') : ∃ t r, ts' = t :: r ∧ t ≠ Str.ofString "!" ∧ ts'.length ≤ ts.length := by
  induction h with
  | nil h => exact ⟨_, _, rfl, h, Nat.le_refl _⟩
  | cons _ ih => obtain ⟨t, r, e, hn, hl⟩ := ih; exact ⟨t, r, e, hn, by rw [List.length_cons]; omega⟩

/-- the parser's frame: the four names that every part of it reads, and the rest -/
abbrev M4 (it : Addr) (pr : Int) (u : Tok) (t : Str) (tt : Tok) (res : Str) (rt : Tok) (x : Str → Option Value) : Str → Option Value := fun y =>
  if y = Str.ofString "nexttok" then some (.str t tt) else if y = Str.ofString "result" then some (.str res rt) else if y = Str.ofString "tokens" then some (.ref it) else if y = Str.ofString "priority" then some (.int pr u) else x y

abbrev M5 (it : Addr) (pr : Int) (u : Tok) (t : Str) (tt : Tok) (res : Str) (rt : Tok) (j : Int) (jt : Tok) (x : Str → Option Value) : Str → Option Value := fun y =>
  if y = Str.ofString "j" then some (.int j jt) else M4 it pr u t tt res rt x y

/-- where the parser stands: t in hand, r behind it; c: what its text may still grow -/
def PSt (g : Heap) (L it l : Addr) (k : Nat) (vs : Array Value) (ts : List Str) (rest : List (Addr × Obj)) (pr : Int) (u : Tok) (s₀ : Shared) (t : Str) (r : List Str) (c : Nat) (s' : Shared) : Prop :=
  ∃ h' tk res rt tt x, s' = { s₀ with heap := h', toks := tk } ∧ t.length ≤ 64 ∧ r.length < ts.length ∧ res.length + 16 * r.length + c ≤ 16 * ts.length ∧ StrsAre (vs.toList.drop (k + (ts.length - r.length))) r ∧
    Fr g L h' (M4 it pr u t tt res rt x) ∧ News g L h' ((it, iterOf l (k + (ts.length - r.length))) :: rest)
def PStJ (g : Heap) (L it l : Addr) (k : Nat) (vs : Array Value) (ts : List Str) (rest : List (Addr × Obj)) (pr : Int) (u : Tok) (s₀ : Shared) (t : Str) (r : List Str) (c : Nat) (s' : Shared) : Prop :=
  ∃ h' tk res rt tt j jt x, s' = { s₀ with heap := h', toks := tk } ∧ t.length ≤ 64 ∧ r.length < ts.length ∧ res.length + 16 * r.length + c ≤ 16 * ts.length ∧ StrsAre (vs.toList.drop (k + (ts.length - r.length))) r ∧
    Fr g L h' (M5 it pr u t tt res rt j jt x) ∧ News g L h' ((it, iterOf l (k + (ts.length - r.length))) :: rest)

theorem strs_head {vs : Array Value} {k : Nat} {t : Str} {r : List Str} (h : StrsAre (vs.toList.drop k) (t :: r)) : ∃ tk, vs[k]? = some (.str t tk) ∧ StrsAre (vs.toList.drop (k + 1)) r := by
  cases hd : vs.toList.drop k with
  | nil => rw [hd] at h; cases h
  | cons v vr =>
    rw [hd] at h
    have h1 : vs.toList[k]? = some v := by rw [← List.head?_drop, hd]; rfl
    have h2 : vs.toList.drop (k + 1) = vr := by rw [← List.drop_drop, hd]; rfl
    cases h with
    | cons y tk h' => exact ⟨tk, by rw [← Array.getElem?_toList]; exact h1, by rw [h2]; exact h'⟩

theorem pin {g h : Heap} {L : Addr} {m : Str → Option Value} {x : Str} {v : Value} (F : Fr g L h m) (e : m x = some v) : Fr g L h (fun y => if y = x then some v else m y) := by
  have : (fun y => if y = x then some v else m y) = m := funext fun y => by
    by_cases hy : y = x
    · rw [if_pos hy, hy, e]
    · rw [if_neg hy]
  rw [this]; exact F

theorem pin4 {g h : Heap} {L it : Addr} {m : Str → Option Value} {pr : Int} {u tt rt : Tok} {t res : Str} (F : Fr g L h m) (e1 : m (Str.ofString "nexttok") = some (.str t tt)) (e2 : m (Str.ofString "result") = some (.str res rt))
    (e3 : m (Str.ofString "tokens") = some (.ref it)) (e4 : m (Str.ofString "priority") = some (.int pr u)) : Fr g L h (M4 it pr u t tt res rt m) := by
  have : M4 it pr u t tt res rt m = m := funext fun y => by
    unfold M4
    split
    · rename_i h; rw [h, e1]
    · split
      · rename_i h; rw [h, e2]
      · split
        · rename_i h; rw [h, e3]
        · split
          · rename_i h; rw [h, e4]
          · rfl
  rw [this]; exact F

theorem pin5 {g h : Heap} {L it : Addr} {m : Str → Option Value} {pr j : Int} {u tt rt jt : Tok} {t res : Str} (F : Fr g L h m) (e0 : m (Str.ofString "j") = some (.int j jt)) (e1 : m (Str.ofString "nexttok") = some (.str t tt)) (e2 : m (Str.ofString "result") = some (.str res rt))
    (e3 : m (Str.ofString "tokens") = some (.ref it)) (e4 : m (Str.ofString "priority") = some (.int pr u)) : Fr g L h (M5 it pr u t tt res rt j jt m) :=
  pin (pin4 F e1 e2 e3 e4) (by
    unfold M4
    rw [if_neg (by decide), if_neg (by decide), if_neg (by decide), if_neg (by decide)]
    exact e0)

theorem raisedK_sub {base h : Heap} {l : List Env} {e t : Addr} {cls : Value} {vs : List Value} {news news' : List (Addr × Obj)} (hs : ∀ p ∈ news', p ∈ news) (R : RaisedK base l e cls t vs news h) : RaisedK base l e cls t vs news' h := by
  obtain ⟨⟨B, h1, h2, h3⟩, h4⟩ := R
  exact ⟨⟨B, h1, fun q hq => h2 q (hs q hq), h3⟩, h4⟩

section
variable {prog : Program} {w : World} {A : Around} {E : Value → Shared → Prop} {s : Shared} {env : Env} {test : PySem.Expr} {body orelse : List Stmt} {Q : Flow → Shared → Prop}

theorem exec_cut {st : Stmt} {rest : List Stmt} (mid : Shared → Prop) (h1 : wpAny (model prog w) A (exec st env) (fun f s' => f = .next ∧ mid s') E s) (h2 : ∀ s', mid s' → wpAny (model prog w) A (execs rest env) Q E s') :
    wpAny (model prog w) A (execs (st :: rest) env) Q E s := by
  refine wpAny_execs_cons (wpAny_mono h1 (fun f s' h => ?_) fun _ _ x => x)
  obtain ⟨rfl, hm⟩ := h
  exact h2 s' hm

structure Gate (n : Nat) : Prop where
def Halt (p : Prop) : Prop := p
theorem halt {p : Prop} (h : Halt p) : p := h
theorem mid_cut {α : Type} {M : Model} {t : Sem α} {Q' : α → Shared → Prop} (mid : α → Shared → Prop) (h1 : wpAny M A t mid E s) (h2 : ∀ f s', mid f s' → Q' f s') : wpAny M A t Q' E s := wpAny_mono h1 h2 fun _ _ x => x

section
variable {d : Addr} {f : Str → Option Value} {x : Str} {t : Tok} {v dflt : Value}
theorem in_map {Q : Value → Shared → Prop} (hm : s.heap.MapOf (strKind prog w) d f) (lo : (d == sysModules) = false) (h : Q (.bool (f x).isSome) { s with toks := s.toks + 1 }) : wpAny (model prog w) A (compareOp .In (.str x t) (.ref d)) Q E s :=
  wpAny_in_of (strKind_is prog w x t) lo hm h
theorem item_map {value slice : PySem.Expr} {Q : Value → Shared → Prop} (hm : s.heap.MapOf (strKind prog w) d f) (hv : f x = some v) (h : Q v { s with toks := s.toks + 1 })
    (hs : subscripted slice false (.ref d) (.str x t) = operate [.ref d, .str x t] (getItem (.ref d) (.str x t))) (hg : ∀ r, letTemporaryGo value (.ref d) r = pure ()) :
    wpAny (model prog w) A (subscriptTail value slice (.ref d) (.str x t)) Q E s :=
  subscriptTail_builtin hm.typeIs slot_dict_getitem.lookup (wpAny_getItem_of (strKind_is prog w x t) hm hv h) hs hg
theorem meth_map {pl : Sem Bool} {Q : Value × List Value → Shared → Prop} (hm : s.heap.MapOf (strKind prog w) d f) (h : Q (.builtin "dict.get", [.ref d]) s) : wpAny (model prog w) A (getMethod (.ref d) (Str.ofString "get") pl) Q E s :=
  getMethod_builtin hm.typeIs PySem.F.plainAttrs_dict PySem.F.slot_dict_get PySem.F.type_dict_get hm.noDict h
theorem get_map {Q : Value → Shared → Prop} (hm : s.heap.MapOf (strKind prog w) d f) (lo : (d == sysModules) = false) (h : Q ((f x).getD dflt) { s with toks := s.toks + 1 }) : wpAny (model prog w) A (call (.builtin "dict.get") [.ref d, .str x t, dflt]) Q E s :=
  call_meetsIn PySem.F.slot_dict_get hm.typeIs PySem.F.entry_dict_get (PySem.F.args_dict_get_3 _ _ _) (meets_dict_get_default (strKind prog w) d (strKind_is prog w x t) lo dflt) ⟨_, hm, h⟩
end

abbrev excOf (a : Addr) : Obj := { cls := .type "ValueError", data := .fields #[.ref a, .none, .none, .none, .bool false, .none] }

theorem call_VE {h₀ : Heap} {L : Addr} {m : Str → Option Value} {news : List (Addr × Obj)} {rest : List Value} {Q : Value → Shared → Prop} (F : Fr h₀ L s.heap m) (N : News h₀ L s.heap news) (hz : rest.length ≤ sizeLine)
    (h : ∀ e b h', Fr h₀ L h' m → News h₀ L h' ((e, excOf b) :: (b, tupOf rest) :: news) → (∀ p ∈ news, p.1 ≠ e ∧ p.1 ≠ b) → (∀ a o, s.heap.get? a = some o → h'.get? a = some o) → Q (.ref e) { s with heap := h' }) : wpAny (model prog w) A (call (.type "ValueError") rest) Q E s := by
  obtain ⟨hp, g, d, tk, os⟩ := s
  refine wpAny_call_exc PySem.F.excCall_ValueError (hrest := hz) fun h' e hm => ?_
  obtain ⟨t, he, htn, ht⟩ := hm.there
  have F' : Fr h₀ L h' m := F.keeps hm.keeps
  have N' : News h₀ L h' news := fun p hp => ⟨hm.keeps _ _ (N p hp).1, (N p hp).2⟩
  have fresh : ∀ b, hp.get? b = none → h₀.get? b = none := fun b hb => by
    cases q : h₀.get? b with
    | none => rfl
    | some o => have := F.keep b o q; rw [hb] at this; cases this
  refine h e t h' F' (News.more F' (News.more F' N' ht (fun es n q => by cases q) (fresh t htn)) he (fun es n q => by cases q) (fresh e hm.new)) (fun p hp => ⟨fun q => ?_, fun q => ?_⟩) hm.keeps
  · have := (N p hp).1; rw [q, hm.new] at this; cases this
  · have := (N p hp).1; rw [q, htn] at this; cases this

theorem whl_ind {k : Nat} (I : Nat → Shared → Prop) (b : Nat) (h0 : I b s) (hE : PassesOwn (model prog w) A env E)
    (step : ∀ b s, I b s → wpAny (model prog w) A (isTrue test env (eval test env)) (fun bl s₂ => WhlIf bl (wpAny (model prog w) A (execs body env) (fun f s₃ => match f with | .next => Halt (∃ b', b' < b ∧ I b' s₃) | .cont => Halt (∃ b', b' < b ∧ I b' s₃) | .brk => Q .next s₃ | .ret v => Q (.ret v) s₃) E s₂)
      (wpAny (model prog w) A (execs orelse env) Q E s₂)) E s) : WhlRest prog w A E env test body orelse Q k s := by
  have key : ∀ n b s, b < n → I b s → WhlRest prog w A E env test body orelse Q k s := by
    intro n
    induction n with
    | zero => intro b s hb; omega
    | succ n ih =>
      intro b s hb hI
      refine whl_turn (k := k) hE (wpAny_mono (step b s hI) (fun bl s₂ h₂ => ?_) fun _ _ x => x)
      cases bl with
      | false => exact .no rfl (by unfold WhlIf at h₂; rw [if_neg Bool.false_ne_true] at h₂; exact h₂)
      | true =>
        refine .yes rfl ?_
        unfold WhlIf at h₂
        rw [if_pos rfl] at h₂
        refine wpAny_mono h₂ (fun f s₃ h₄ => ?_) fun _ _ x => x
        cases f with
        | next => obtain ⟨b', hb', hI'⟩ := h₄; exact ih b' s₃ (by omega) hI'
        | cont => obtain ⟨b', hb', hI'⟩ := h₄; exact ih b' s₃ (by omega) hI'
        | brk => exact h₄
        | ret v => exact h₄
  exact key (b + 1) b s (by omega) h0
end
end Mine


set_option maxRecDepth 100000
namespace Mine

/-- the part of h that lies where g's objects lie -/
def regr (g h : Heap) : Heap := ⟨Array.ofFn (n := g.objs.size) fun i => if (g.get? i).isSome then (h.objs[i.1]?).getD { cls := .none, data := .freed } else { cls := .none, data := .freed }, h.life⟩
theorem regr_size (g h : Heap) : (regr g h).objs.size = g.objs.size := by simp [regr]
theorem regr_at {g h : Heap} {b : Addr} (hb : b < g.objs.size) : (regr g h).objs[b]? = some (if (g.get? b).isSome then (h.objs[b]?).getD { cls := .none, data := .freed } else { cls := .none, data := .freed }) := by
  unfold regr
  rw [Array.getElem?_ofFn, dif_pos hb]
theorem regr_get {g h : Heap} {b : Addr} {o o' : Obj} (e : g.get? b = some o) (e' : h.get? b = some o') : (regr g h).get? b = some o' := by
  obtain ⟨h1, h2⟩ := Heap.get?_some_iff.mp e'
  refine Heap.get?_some_iff.mpr ⟨?_, h2⟩
  rw [regr_at (Heap.lt_size e), e, h1]; rfl
theorem regr_of {g h : Heap} {b : Addr} {o' : Obj} (e : (regr g h).get? b = some o') : (∃ o, g.get? b = some o) ∧ h.get? b = some o' := by
  obtain ⟨h1, h2⟩ := Heap.get?_some_iff.mp e
  have hb : b < g.objs.size := by have := Heap.lt_size e; rw [regr_size] at this; exact this
  rw [regr_at hb] at h1
  cases q : g.get? b with
  | none => rw [q] at h1; cases h1; cases h2
  | some o =>
    refine ⟨⟨o, rfl⟩, ?_⟩
    rw [q] at h1
    cases q2 : h.objs[b]? with
    | none => rw [q2] at h1; cases h1; cases h2
    | some o2 => rw [q2] at h1; cases h1; exact Heap.get?_some_iff.mpr ⟨q2, h2⟩
theorem regr_none {g h : Heap} {b : Addr} (e : g.get? b = none) : (regr g h).get? b = none := by
  cases q : (regr g h).get? b with
  | none => rfl
  | some o => obtain ⟨⟨o', h1⟩, _⟩ := regr_of q; rw [e] at h1; cases h1

section
variable {A : Around} {base g h h' : Heap} {outer : List Env} {L : Addr} {m : Str → Option Value} {news : List (Addr × Obj)}

theorem frame_apart (K : Below A base outer g) (F : Fr g L h m) {b : Addr} {o : Obj} (e : base.get? b = some o) : b ∉ L :: outer.filterMap (·.frame) := by
  intro hm
  rcases List.mem_cons.mp hm with rfl | hm
  · exact absurd (Heap.lt_size (K.stays _ _ e)) (Nat.not_lt_of_le F.above)
  · rw [(K.frames.mem hm).1] at e; cases e
theorem news_apart (K : Below A base outer g) (N : News g L h news) {p : Addr × Obj} (hp : p ∈ news) : p.1 ∉ L :: outer.filterMap (·.frame) := by
  intro hm
  rcases List.mem_cons.mp hm with q | hm
  · exact (N p hp).2.1 q
  · obtain ⟨o, ho, _⟩ := (K.frames.mem hm).2
    rw [(N p hp).2.2] at ho; cases ho

/-- a new ground, where the frames' slots have been turned -/
theorem reground (K : Below A base outer g) (F : Fr g L h m) (N : News g L h news) (stay : ∀ b o, h.get? b = some o → b ∉ L :: outer.filterMap (·.frame) → h'.get? b = some o) (up : h.UpToSlots h') :
    Below A base outer (regr g h') ∧ Fr (regr g h') L h' m ∧ News (regr g h') L h' news ∧ g.UpToSlots (regr g h') := by
  have stB : base.StaysIn (regr g h') := fun b o e => regr_get (K.stays b o e) (stay b o (F.keep b o (K.stays b o e)) (frame_apart K F e))
  refine ⟨⟨K.stack, stB, K.frames.of_keeps fun b o e hn => ?_⟩, ⟨up.ns F.ns, fun b o e => (regr_of e).2, by rw [regr_size]; exact F.above⟩, fun p hp => ⟨stay _ _ (N p hp).1 (news_apart K N hp), (N p hp).2.1, regr_none (N p hp).2.2⟩, fun b o e hn => ?_⟩
  · obtain ⟨sl, q⟩ := up b o (F.keep b o e) hn
    exact ⟨_, regr_get e q, rfl⟩
  · obtain ⟨sl, q⟩ := up b o (F.keep b o e) hn
    exact ⟨sl, regr_get e q⟩
end

section
variable {M : Model} {A : Around} {E : Value → Shared → Prop} {s' : Shared} {base g : Heap} {outer : List Env} {L a e b : Addr} {m : Str → Option Value} {name : Str} {scope : Scope} {cd : Value} {Q : Unit → Shared → Prop} {news : List (Addr × Obj)}
/-- an exception whose object is known leaves the frame that raised it -/
theorem leave_gen {oe ot : Obj} {ws : Array Value} {vs : List Value} {nt : Nat} (K : Below A base outer g) (F : Fr g L s'.heap m) (N : News g L s'.heap ((e, oe) :: (b, ot) :: news)) (hne : ∀ p ∈ news, p.1 ≠ e ∧ p.1 ≠ b) (hd : oe.data = .fields ws) (h0 : ws[0]? = some (.ref b)) (h1 : ws[1]? = some .none)
    (htc : ot.cls = .type "tuple") (htd : ot.data = .seq vs.toArray nt)
    (hQ : ∀ h', RaisedK base outer e oe.cls b vs news h' → g.UpToSlots h' → Q () { s' with heap := h' }) (hk : scope.kind = .function := by rfl) :
    wpAny M (A.deeper (envOf name scope L a cd)) (leaving (envOf name scope L a cd) (.ref e)) Q E s' := by
  have K' := K.push (name := name) (a := a) (cd := cd) F hk
  have he := N _ (.head _)
  have hb := N _ (.tail _ (.head _))
  have N' : News g L s'.heap news := fun p hp => N p (.tail _ (.tail _ hp))
  let as := L :: (outer.filterMap (·.frame) ++ [e, b])
  have hin : ∀ env ∈ (envOf name scope L a cd :: outer), ∀ x, env.frame = some x → x ∈ as := fun env hm x hx => by
    rcases List.mem_cons.mp hm with rfl | hm
    · cases hx; exact .head _
    · exact .tail _ (List.mem_append_left _ (List.mem_filterMap.mpr ⟨env, hm, hx⟩))
  have away : ∀ x, x ∉ L :: outer.filterMap (·.frame) → x ≠ e → x ≠ b → x ∉ as := fun x h1 h2 h3 hm => by
    rcases List.mem_cons.mp hm with q | hm
    · exact h1 (q ▸ .head _)
    · rcases List.mem_append.mp hm with q | q
      · exact h1 (.tail _ q)
      · simp only [List.mem_cons, List.not_mem_nil, or_false] at q
        exact q.elim h2 h3
  have fresh : ∀ x o, base.get? x = some o → x ≠ e ∧ x ≠ b := fun x o q => ⟨fun z => (by have := K.stays x o q; rw [z, he.2.2] at this; cases this), fun z => (by have := K.stays x o q; rw [z, hb.2.2] at this; cases this)⟩
  have st : base.StaysIn (hideAll s'.heap as) := fun x o q => hideAll_get _ (F.keep x o (K.stays x o q)) (away x (frame_apart K F q) (fresh x o q).1 (fresh x o q).2)
  have hbn : base.get? e = none := fresh_of_stays K.stays he.2.2
  have hbb : base.get? b = none := fresh_of_stays K.stays hb.2.2
  have hl : ∀ q ∈ news, (hideAll s'.heap as).get? q.1 = some q.2 ∧ base.get? q.1 = none := fun q hq =>
    ⟨hideAll_get _ (N' q hq).1 (away _ (news_apart K N' hq) (hne q hq).1 (hne q hq).2), fresh_of_stays K.stays (N' q hq).2.2⟩
  refine wpAny_leaving_firstW (base := hideAll s'.heap as) (a0 := .ref b) K'.stack (funFrames_hide K'.frames hin) rfl he.1 (fun x o q => of_hideAll _ q) (hideAll_none _ (.tail _ (List.mem_append_right _ (.head _)))) hd h1 h0 fun h' hL => ?_
  obtain ⟨k1, ⟨_, _, k2⟩, k3, k4⟩ := hL
  have up : s'.heap.UpToSlots h' := k4
  refine hQ h' ⟨⟨hideAll s'.heap as, st, hl, ⟨k1, hideAll_none _ (.tail _ (List.mem_append_right _ (.head _))), k2, k3⟩, hideAll_none _ (.tail _ (List.mem_append_right _ (.tail _ (.head _))))⟩, ?_⟩ ((Heap.UpToSlots.of_keeps F.keep).trans up)
  exact Heap.TupAt.of_slots ⟨ot, nt, hb.1, htc, htd⟩ up
end

/-- an exception held: what has been turned since h -/
structure Caught (fs : List Addr) (h : Heap) (e : Addr) (oe : Obj) (vs : Array Value) (T : Addr) (h' : Heap) : Prop where
  stay : ∀ b o, b ≠ e → h.get? b = some o → b ∉ fs → h'.get? b = some o
  up : ∀ b o, b ≠ e → h.get? b = some o → ∃ sl, h'.get? b = some { o with slots := sl }
  exc : h'.get? e = some { oe with data := .fields (vs.setIfInBounds 1 (.ref T)) }
  tb : ∃ oT ts, h'.get? T = some oT ∧ oT.data = .fields ts ∧ 3 < ts.size
  new : h.get? T = none
  ne : T ≠ e

section
variable {M : Model} {A : Around} {E : Value → Shared → Prop} {s : Shared}

theorem Caught.flight {fs : List Addr} {h : Heap} {e T : Addr} {oe : Obj} {vs : Array Value} {Q : Unit → Shared → Prop} (c : Caught fs h e oe vs T s.heap) (hz : 1 < vs.size) (hQ : ∀ h', Caught fs h e oe vs T h' → Q () { s with heap := h' }) :
    wpAny M A (setFlight (.ref e) none) Q E s := by
  obtain ⟨oT, ts, hT, hd, hts⟩ := c.tb
  unfold setFlight
  refine wpAny_bind (wpAny_field c.exc rfl (x := .ref T) (by simp [hz]) ?_)
  rw [if_pos (show (Value.ref T != Value.none) = true from by simp)]
  refine wpAny_setField hT hd hts (hQ _ ?_)
  have other : ∀ b, b ≠ T → (s.heap.update T (Obj.mapFields (·.setIfInBounds 3 ((none : Option Addr).elim Value.none fun f => rawInt f)))).get? b = s.heap.get? b := fun b hb => Heap.get?_update_other _ _ (Ne.symm hb)
  have old : ∀ b o, h.get? b = some o → b ≠ T := fun b o q z => by rw [z, c.new] at q; cases q
  refine ⟨fun b o h1 h2 h3 => (other b (old b o h2)).trans (c.stay b o h1 h2 h3), fun b o h1 h2 => ?_, (other e (Ne.symm c.ne)).trans c.exc, ?_, c.new, c.ne⟩
  · obtain ⟨sl, q⟩ := c.up b o h1 h2
    exact ⟨sl, (other b (old b o h2)).trans q⟩
  · exact ⟨_, _, Heap.get?_update_self _ hT (Obj.isFreed_of_fields (Obj.data_mapFields hd _)), Obj.data_mapFields hd _, by simpa using hts⟩

theorem note_first {base : Heap} {env : Env} {outer : List Env} {L e : Addr} {oe : Obj} {vs : Array Value} {Q : Unit → Shared → Prop}
    (hfr : A.frames = some (env :: outer)) (hl : s.heap.FunFrames base (env :: outer)) (hf : env.frame = some L) (he : s.heap.get? e = some oe) (hd : oe.data = .fields vs) (h1 : vs[1]? = some .none)
    (h : ∀ h' T, Caught (L :: outer.filterMap (·.frame)) s.heap e oe vs T h' → Q () { s with heap := h' }) : wpAny M A (noteFrame (.ref e) env) Q E s := by
  have hsz : 1 < vs.size := (Array.getElem?_eq_some_iff.mp h1).1
  have hfs : (env :: outer).filterMap (·.frame) = L :: outer.filterMap (·.frame) := by rw [List.filterMap_cons, hf]
  have hene : e ∉ L :: outer.filterMap (·.frame) := fun hm => by
    rw [← hfs] at hm
    obtain ⟨_, o, ho, hnf⟩ := hl.mem hm
    rw [he] at ho; injection ho with ho; subst ho; exact hnf vs hd
  unfold noteFrame
  simp only [hf]
  refine wpAny_bind (wpAny_field he hd h1 ?_)
  rw [if_neg (by decide)]
  refine wpAny_bind (wpAny_frameOf_fun hfr hl hf fun h₁ hs₁ => ?_)
  rw [hfs] at hs₁
  refine wpAny_bind (wpAny_entryPlaceOf fun pl hpl => ?_)
  unfold EntryCells.newEntry newFields
  refine wpAny_bind (wpAny_newObj_type ?_ (hpl.sizeOk5 _ _ _ _ _))
  have he₁ : h₁.get? e = some oe := (hs₁.2.1 e hene).trans he
  have he₂ := Heap.get?_push_of_some (h := h₁) { cls := .type "traceback", dict := none, data := .fields ([Value.none, .ref L, .none, rawInt L, .none] ++ (if pl.isEmpty then List.replicate 6 Value.none else pl)).toArray } he₁
  refine wpAny_setField he₂ hd hsz (h _ h₁.objs.size ?_)
  have hTe : h₁.objs.size ≠ e := Nat.ne_of_gt (Heap.lt_size he₁)
  have keep : ∀ b o, b ≠ e → h₁.get? b = some o →
      ((h₁.push { cls := .type "traceback", dict := none, data := .fields ([Value.none, .ref L, .none, rawInt L, .none] ++ (if pl.isEmpty then List.replicate 6 Value.none else pl)).toArray }).update e (Obj.mapFields (·.setIfInBounds 1 (Value.ref h₁.objs.size)))).get? b = some o :=
    fun b o hbe hb => by
      rw [Heap.get?_update_other _ _ (Ne.symm hbe)]
      exact Heap.get?_push_of_some _ hb
  refine ⟨fun b o q1 q2 q3 => keep b o q1 ((hs₁.2.1 b q3).trans q2), fun b o q1 q2 => ?_, ?_, ?_, ?_, hTe⟩
  · obtain ⟨sl, q⟩ := hs₁.2.2 b o q2
    exact ⟨sl, keep b _ q1 q⟩
  · rw [Heap.get?_update_self _ he₂ (Obj.isFreed_of_fields (Obj.data_mapFields hd _))]
    obtain ⟨c, dd, da, sl⟩ := oe
    cases hd
    rfl
  · refine ⟨_, _, (Heap.get?_update_other _ _ (Ne.symm hTe)).trans (Heap.get?_push_size h₁ rfl), rfl, ?_⟩
    simp only [List.size_toArray, List.length_append, List.length_cons, List.length_nil] <;> omega
  · exact Heap.get?_none_of_le (Nat.le_of_eq hs₁.1.symm)
end

section
variable {prog : Program} {w : World} {A₀ : Around} {E : Value → Shared → Prop} {s' : Shared} {base g h : Heap} {outer : List Env} {L a e : Addr} {m : Str → Option Value} {name : Str} {scope : Scope} {cd : Value}
  {b₀ : Stmt} {suite : List Stmt} {pos np : Pos} {rest : List ExceptHandler} {Q : Flow → Shared → Prop} {news : List (Addr × Obj)} {p : Program} {loose : List Str} {mg mb : Str → Option Value}

theorem up_of_caught {fs : List Addr} {h h' : Heap} {T : Addr} {oe : Obj} {vs : Array Value} (hx : h.get? e = none) {hm : Heap} (hk : ∀ b o, h.get? b = some o → hm.get? b = some o) (c : Caught fs hm e oe vs T h') : h.UpToSlots h' := fun b o q _ =>
  c.up b o (fun z => by rw [z, hx] at q; cases q) (hk b o q)

/-- a built-in raised ValueError in this frame, and its own clause takes it -/
theorem catch_own (K : Below A₀ base outer g) (F : Fr g L h m) (N : News g L h news) (hx : Heap.NewExc h s'.heap e "ValueError") (TB : TopRead p loose mg mb base)
    (k : ∀ g' h' oe ws, Below A₀ base outer g' → Fr g' L h' m → News g' L h' ((e, oe) :: news) → g.UpToSlots g' → oe.cls = .type "ValueError" → oe.data = .fields ws → ws[2]? = some .none → (∀ p ∈ news, p.1 ≠ e) →
      wpAny (model prog w) ((A₀.deeper (envOf name scope L a cd)).mark (some (.ref e))) (execs (b₀ :: suite) (envOf name scope L a cd)) Q E { s' with heap := h' })
    (h1 : Str.ofString "ValueError" ∉ startupNames := by decide +kernel) (h2 : Str.ofString "ValueError" ∉ loose := by decide +kernel) (h3 : Str.ofString "ValueError" ∉ (recsOf p).map (·.name) := by decide +kernel) (h4 : Str.ofString "ValueError" ∉ (litsOf p).map (·.1) := by decide +kernel) (h4c : Str.ofString "ValueError" ∉ (clssOf p loose).map (·.name) := by decide +kernel)
    (hk : scope.kind = .function := by rfl) (hxk : (envOf name scope L a cd).kindOf (Str.ofString "ValueError") = some .globalImplicit := by rfl)
    (hE : PassesOwnAt (model prog w) ((A₀.deeper (envOf name scope L a cd)).mark (some (.ref e))) (A₀.deeper (envOf name scope L a cd)) (envOf name scope L a cd) E := by passes_own) :
    wpAny (model prog w) (A₀.deeper (envOf name scope L a cd)) (noteFrame (.ref e) (envOf name scope L a cd))
      (fun _ s₂ => wpAny (model prog w) (A₀.deeper (envOf name scope L a cd)) (setFlight (.ref e) none) (fun _ s₃ =>
        wpAny (model prog w) (A₀.deeper (envOf name scope L a cd)) (handleBy (.ref e) (envOf name scope L a cd) (.ExceptHandler (some (.Name (Str.ofString "ValueError") np)) none (b₀ :: suite) pos :: rest)) Q E s₃) E s₂) E s' := by
  have K' := K.push (name := name) (a := a) (cd := cd) F hk
  obtain ⟨ob, t, he, hcls, hd⟩ := hx.there
  have gn : g.get? e = none := by
    cases q : g.get? e with
    | none => rfl
    | some o => have := F.keep e o q; rw [hx.new] at this; cases this
  have Ln : e ≠ L := fun q => by
    obtain ⟨o, _, _, ho, _⟩ := F.ns
    rw [← q, hx.new] at ho; cases ho
  have nn : ∀ p ∈ news, p.1 ≠ e := fun p hp q => by have := (N p hp).1; rw [q, hx.new] at this; cases this
  refine note_first K'.stack (K'.frames.of_keeps fun b o hb _ => ⟨o, hx.keeps b o hb, rfl⟩) rfl he hd rfl fun h₂ T c₂ => ?_
  refine c₂.flight (by show 1 < 6; decide) fun h₃ c₃ => ?_
  have fin : ∀ h₄, Caught (L :: outer.filterMap (·.frame)) s'.heap e ob #[t, .none, .none, .none, .bool false, .none] T h₄ →
      Below A₀ base outer (regr g h₄) ∧ Fr (regr g h₄) L h₄ m ∧ News (regr g h₄) L h₄ news ∧ g.UpToSlots (regr g h₄) := fun h₄ c₄ =>
    reground K F N (fun b o q q2 => c₄.stay b o (fun z => by rw [z, hx.new] at q; cases q) (hx.keeps b o q) q2) (up_of_caught hx.new hx.keeps c₄)
  obtain ⟨B₃, F₃, _, _⟩ := fin h₃ c₃
  refine wpAny_handleBy_builtin (X := "ValueError") (T := "ValueError") (b := true) PySem.F.isExc_ValueError PySem.F.notTuple_ValueError (by rw [isSubtype_type]; kernel_rfl)
    (ld_builtin_at (s := { s' with heap := h₃ }) F₃ (TB.g.keeps B₃.stays) (TB.free _ h1 h2 h3 h4 h4c) (TB.b.keeps B₃.stays) ((TB.builtins _ (by decide +kernel)).trans PyProof.Rows.Boot.«ValueError») ⟨rfl, ⟨_, c₃.exc, hcls⟩, ?_⟩ hk hxk (by decide))
  rw [if_pos rfl]
  refine c₃.flight (s := { s' with heap := h₃ }) (by show 1 < 6; decide) fun h₄ c₄ => ?_
  obtain ⟨B₄, F₄, N₄, U₄⟩ := fin h₄ c₄
  refine wpAny_passesOwnAt hE (k _ h₄ { ob with data := .fields ((#[t, .none, .none, .none, .bool false, .none] : Array Value).setIfInBounds 1 (.ref T)) } _ B₄ F₄ ?_ U₄ hcls rfl rfl nn)
  intro p hp
  rcases List.mem_cons.mp hp with rfl | hp
  · exact ⟨c₄.exc, Ln, regr_none gn⟩
  · exact N₄ p hp
end

theorem entry_unchain : entryFor table "proto.unchain" = some Builtin.«proto.unchain» := by first | exact entryFor_of_fast (by kernel_rfl) | exact entryFor_of_tree (by kernel_rfl)

section
variable {prog : Program} {w : World} {A : Around} {E : Value → Shared → Prop} {s : Shared} {env : Env}
theorem unchain_none {e e1 : Addr} {o1 : Obj} {ws : Array Value} {Q : Value → Shared → Prop} (h1 : s.heap.get? e1 = some o1) (hd : o1.data = .fields ws) (h2 : ws[2]? = some .none) (h : Q .none s) :
    wpAny (model prog w) A (runValue (.builtin "proto.unchain" ⟨[.ref e, .ref e1, .ref e1, .bool false], []⟩)) Q E s := by
  refine wpAny_runValue (codeAny_builtin entry_unchain ?_)
  unfold Builtin.«proto.unchain»
  dsimp only
  refine wpAny_bind (wpAny_field h1 hd h2 ?_)
  rw [if_pos (by decide)]
  exact wpAny_pure h

/-- raise X from None, in a clause that holds e1 -/
theorem raise_from_none {e1 : Addr} {x : PySem.Expr} {n : Nat} {np pos : Pos} {Q : Flow → Shared → Prop} (hh : A.handled = some (.ref e1))
    (h : wpAny (model prog w) A (eval x env) (fun v s₁ => ∃ e b o1 ws, v = .ref e ∧ s₁.heap.get? e = some (excOf b) ∧ e ≠ e1 ∧ s₁.heap.get? e1 = some o1 ∧ o1.data = .fields ws ∧ ws[2]? = some .none ∧
      ∀ h', h'.get? e = some { cls := .type "ValueError", data := .fields #[.ref b, .none, .ref e1, .none, .bool true, .none] } → Heap.SameBut e s₁.heap h' → E (.ref e) { s₁ with heap := h' }) E s) :
    wpAny (model prog w) A (exec (.Raise (some x) (some (.Constant .none n np)) pos) env) Q E s := by
  show wpAny _ A (do standAt pos; raiseStmt env (some (do let v ← eval x env; standAt pos; pure v)) (some (do let v ← eval (.Constant .none n np) env; standAt pos; pure v))) Q E s
  refine wpAny_bind (wpAny_standAt ?_)
  unfold raiseStmt
  dsimp only
  refine wpAny_bind (wpAny_bind (wpAny_mono h (fun v s₁ h₁ => wpAny_bind (wpAny_standAt (wpAny_pure ?_))) fun _ _ x => x))
  obtain ⟨a, b, o1, ws, rfl, ha, hae, he1, hd1, h2, hE⟩ := h₁
  have hc := PyProof.Rows.excClass_ValueError
  have hT : s₁.TypeIs (.ref a) "ValueError" := ⟨_, ha, rfl⟩
  have hnt : ∀ {s₁ : Shared} {b : Addr} {ws : Array Value} {Q' : Bool → Shared → Prop}, s₁.heap.get? a = some { cls := .type "ValueError", data := .fields ws } → Q' false s₁ → wpAny (model prog w) A (isType (.ref a)) Q' E s₁ := by
    intro s₁ b ws Q' ha hq
    simp only [isType, loadHead]
    exact wpAny_bind (wpAny_loadPart ha (wpAny_pure hq))
  refine wpAny_bind (wpAny_holding (wpAny_bind ?_))
  refine wpAny_Constant_none (wpAny_bind (wpAny_standAt (wpAny_pure (wpAny_bind (wpAny_pure ?_)))))
  refine wpAny_bind (wpAny_holding ?_)
  unfold excFromValue isExcClass
  refine wpAny_bind (wpAny_bind (hnt (b := b) ha ?_))
  simp only [Bool.false_eq_true, if_false]
  refine wpAny_pure ?_
  simp only [Bool.false_eq_true, if_false]
  refine wpAny_bind (wpAny_isInstance hT hc.base ?_)
  simp only [if_true]
  refine wpAny_pure ?_
  rw [if_pos (by decide)]
  refine wpAny_bind (wpAny_pure (wpAny_bind (wpAny_setField ha rfl (by show 3 < 6; decide) ?_)))
  have ha2 : (s₁.heap.update a (Obj.mapFields (·.setIfInBounds 3 Value.none))).get? a = some { cls := .type "ValueError", data := .fields #[.ref b, .none, .none, .none, .bool false, .none] } := by
    rw [Heap.get?_update_self _ ha rfl]; rfl
  refine wpAny_bind (wpAny_setField ha2 rfl (by show 4 < 6; decide) ?_)
  have ha3 : ((s₁.heap.update a (Obj.mapFields (·.setIfInBounds 3 Value.none))).update a (Obj.mapFields (·.setIfInBounds 4 (Value.bool true)))).get? a = some { cls := .type "ValueError", data := .fields #[.ref b, .none, .none, .none, .bool true, .none] } := by
    rw [Heap.get?_update_self _ ha2 rfl]; rfl
  refine wpAny_bind (hnt (b := b) ha3 ?_)
  simp only [Bool.false_eq_true, if_false]
  unfold raisedInstance
  refine wpAny_bind (wpAny_bind (wpAny_typeOf (T := "ValueError") ⟨_, ha3, rfl⟩ (wpAny_bind (m := typeOf (.type "ValueError")) (wpAny_pure ?_))))
  rw [if_pos hc.metaType]
  refine wpAny_pure ?_
  unfold setFlight raiseNew
  refine wpAny_bind (wpAny_bind (wpAny_field ha3 rfl (x := .none) rfl ?_))
  rw [if_neg (by decide)]
  refine wpAny_pure (wpAny_bind (wpAny_handled ?_))
  rw [hh]
  dsimp only
  rw [if_pos (by simpa using fun q => hae q.symm)]
  have he3 : ((s₁.heap.update a (Obj.mapFields (·.setIfInBounds 3 Value.none))).update a (Obj.mapFields (·.setIfInBounds 4 (Value.bool true)))).get? e1 = some o1 := by
    rw [Heap.get?_update_other _ _ hae, Heap.get?_update_other _ _ hae]; exact he1
  refine wpAny_bind (wpAny_holding (unchain_none he3 hd1 h2 ?_))
  show wpAny _ _ (setField (.ref a) 2 (.ref e1) >>= _) _ _ _
  refine wpAny_bind (wpAny_setField ha3 rfl (by show 2 < 6; decide) (wpAny_throw (hE _ ?_ ?_)))
  · rw [Heap.get?_update_self _ ha3 rfl]; rfl
  · exact ((Heap.SameBut.update ..).trans (Heap.SameBut.update ..)).trans (Heap.SameBut.update ..)
end
end Mine


set_option maxRecDepth 100000
namespace Mine

/-- the claim's own caller stands below -/
def Called (Γ : PySem.Ctx) : Prop := ∃ c ∈ Γ.code :: Γ.below.map (·.1), Code.isCaller c = true
def CalledB (Γ : PySem.Ctx) : Prop := ∃ c ∈ Γ.below.map (·.1), Code.isCaller c = true
theorem CalledB.called {Γ : PySem.Ctx} (h : CalledB Γ) : Called Γ := let ⟨c, hc, q⟩ := h; ⟨c, .tail _ hc, q⟩
theorem Called.enter {Γ : PySem.Ctx} (h : Called Γ) (c : Code) (hd : Option Value) (p : Pos) : CalledB (Γ.enter c hd p) := h
theorem CalledB.goto {Γ : PySem.Ctx} (h : CalledB Γ) (c : Code) : CalledB (Γ.goto c) := h

def wpC {α : Type} (M : Model) (A : Around) (t : Sem α) (Q : α → Shared → Prop) (E : Value → Shared → Prop) (s : Shared) : Prop :=
  ∀ Γ p, Γ.In A → Called Γ → Sem.wp M Γ t (fun a _ s' => Q a s') (fun e _ s' => E e s') p s
def codeC (M : Model) (A : Around) (c : Code) (R : Result → Shared → Prop) (s : Shared) : Prop :=
  ∀ Γ p, Γ.code = c → Γ.Below A → CalledB Γ → wpCode M Γ R p s

section
variable {α β : Type} {M : Model} {A : Around} {E : Value → Shared → Prop} {s : Shared}
theorem wpC_of_any {t : Sem α} {Q : α → Shared → Prop} (h : wpAny M A t Q E s) : wpC M A t Q E s := fun Γ p hΓ _ => h Γ p hΓ
theorem codeC_of_any {c : Code} {R : Result → Shared → Prop} (h : codeAny M A c R s) : codeC M A c R s := fun Γ p hc hΓ _ => h Γ p hc hΓ
theorem wpC_mono {t : Sem α} {Q Q' : α → Shared → Prop} {E' : Value → Shared → Prop} (h : wpC M A t Q E s) (hQ : ∀ a s, Q a s → Q' a s) (hE : ∀ e s, E e s → E' e s) : wpC M A t Q' E' s :=
  fun Γ p hΓ hc => Sem.wp_mono M Γ t (fun a _ s => hQ a s) (fun e _ s => hE e s) p s (h Γ p hΓ hc)
theorem wpC_bind {m : Sem α} {f : α → Sem β} {Q : β → Shared → Prop} (h : wpC M A m (fun a s' => wpC M A (f a) Q E s') E s) : wpC M A (m >>= f) Q E s := fun Γ p hΓ hc => by
  rw [Sem.wp_bind']
  exact Sem.wp_mono M Γ m (fun a p' s' h' => h' Γ p' hΓ hc) (fun _ _ _ h' => h') p s (h Γ p hΓ hc)
/-- first what goes anywhere -/
theorem wpC_bindL {m : Sem α} {f : α → Sem β} {Q : β → Shared → Prop} (h : wpAny M A m (fun a s' => wpC M A (f a) Q E s') E s) : wpC M A (m >>= f) Q E s := wpC_bind (wpC_of_any h)
/-- then what goes anywhere -/
theorem wpC_bindR {m : Sem α} {f : α → Sem β} {Q : β → Shared → Prop} (h : wpC M A m (fun a s' => wpAny M A (f a) Q E s') E s) : wpC M A (m >>= f) Q E s :=
  wpC_bind (wpC_mono h (fun _ _ h' => wpC_of_any h') fun _ _ h' => h')
theorem wpC_holding {vs : List Value} {m : Sem α} {Q : α → Shared → Prop} (h : wpC M A m Q E s) : wpC M A (holding vs m) Q E s := fun Γ p hΓ hc => by
  rw [Sem.wp_holding]; exact h Γ p hΓ hc
theorem wpC_onRaise {m : Sem α} {k : Value → Sem Unit} {Q : α → Shared → Prop} (h : wpC M A m Q (fun e s' => wpAny M A (k e) (fun _ s'' => E e s'') E s') s) : wpC M A (m.onRaise k) Q E s := fun Γ p hΓ hc => by
  rw [Sem.wp_onRaise]
  exact Sem.wp_mono M Γ m (fun _ _ _ h' => h') (fun e p' s' h' => h' Γ p' hΓ) p s (h Γ p hΓ hc)
theorem wpC_attempt {m : Sem α} {Q : Except Value α → Shared → Prop} (h : wpC M A m (fun a => Q (.ok a)) (fun e => Q (.error e)) s) : wpC M A m.attempt Q E s := fun Γ p hΓ hc => by
  rw [Sem.wp_attempt]; exact h Γ p hΓ hc
theorem wpC_run {c : Code} {h : Option Value} {Q : Flow → Shared → Prop} (hc : codeC M (A.mark h) c (fun r s' => match r with | .ok f => Q f s' | .error e => E e s') s) (hnb : h ≠ some byPass := by intro x; cases x) : wpC M A (run c h) Q E s :=
  fun Γ p hΓ hC => by rw [Sem.wp_run]; exact hc _ p rfl (hΓ.enter c h p hnb) (hC.enter c h p)
theorem wpC_runValue {c : Code} {Q : Value → Shared → Prop} (hc : codeC M A c (fun r s' => match r with | .ok (.ret v) => Q v s' | .ok _ => False | .error e => E e s') s) : wpC M A (runValue c) Q E s :=
  fun Γ p hΓ hC => by rw [Sem.wp_runValue]; exact hc _ p rfl (hΓ.enter c none p (by intro x; cases x)) (hC.enter c none p)
theorem wpC_call {f : Value} {pos : List Value} {kw : List (Str × Value)} {Q : Value → Shared → Prop}
    (hc : codeC M A (.call f ⟨pos, kw⟩) (fun r s' => match r with | .ok (.ret v) => Q v s' | .ok _ => False | .error e => E e s') s) : wpC M A (call f pos kw) Q E s := wpC_runValue hc
theorem codeC_mono {c : Code} {R R' : Result → Shared → Prop} (h : codeC M A c R s) (hR : ∀ r s, R r s → R' r s) : codeC M A c R' s := fun Γ p hc hΓ hC => wpCode_mono hR (h Γ p hc hΓ hC)
theorem codeC_of_tree {c : Code} {R : Result → Shared → Prop}
    (h : wpC M (A.under c) (M.den c) (fun fin s' => match fin with | .done f => R (.ok f) s' | .again c' => c'.quiet = true ∧ codeC M A c' R s') (fun e s' => R (.error e) s') s) : codeC M A c R s := fun Γ p hc hΓ hC => by
  rw [wpCode_iff_wp, hc]
  refine Sem.wp_mono M Γ _ (fun fin p' s' h' => ?_) (fun _ _ _ h' => h') p s (h Γ p (hc ▸ hΓ.in) hC.called)
  cases fin with
  | done f => exact h'
  | again c' => exact ⟨h'.1, h'.2 (Γ.goto c') p' rfl (hΓ.goto c') (hC.goto c')⟩
end

section
variable {prog : Program} {w : World} {A : Around} {E : Value → Shared → Prop} {R : Result → Shared → Prop} {s : Shared}

theorem codeC_func {body : List Stmt} {env : Env}
    (h : wpC (model prog w) (A.deeper env) (execs body env) (fun f s' => R (.ok (.ret (match f with | .ret v => v | _ => .none))) s')
      (fun e s' => wpAny (model prog w) (A.deeper env) (leaving env e) (fun _ s'' => R (.error e) s'') (fun e' s'' => R (.error e') s'') s') s) :
    codeC (model prog w) A (.func body env) R s := by
  refine codeC_of_tree ?_
  show wpC _ (A.deeper env) (do point; match ← (execs body env).onRaise (leaving env) with | .ret v => ret v | _ => ret .none) _ _ s
  refine wpC_bindL (wpAny_point (wpC_bindR (wpC_onRaise (wpC_mono h (fun f s' h' => ?_) fun _ _ h' => h'))))
  cases f <;> exact wpAny_pure h'

theorem codeC_call_def {a : Addr} {o : Obj} {fd : FuncData} {body : List Stmt} {args : Args} {binds : List (Str × Value)}
    (hroom : A.depth < recursionLimit) (ho : s.heap.get? a = some o) (hdata : o.data = .func fd) (hlim : s.heap.NoLimit) (hcd : s.heap.CodeRec fd.code fd.qualname)
    (hbody : fd.body = .stmts body) (hbind : BindsTo s fd args binds) (hcell : ∀ x ∈ fd.scope.names, x.2 ≠ .cell) (hloc : ∀ x ∈ binds, fd.scope.names.lookup x.1 = some .local)
    (h : ∀ h₀, h₀.Ns s.heap.objs.size (fun x => binds.reverse.lookup x) → (∀ b o, s.heap.get? b = some o → h₀.get? b = some o) →
      wpC (model prog w) (A.deeper (callEnv fd s.heap.objs.size a)) (execs body (callEnv fd s.heap.objs.size a)) (fun f s' => R (.ok (.ret (match f with | .ret v => v | _ => .none))) s')
        (fun e s' => wpAny (model prog w) (A.deeper (callEnv fd s.heap.objs.size a)) (leaving (callEnv fd s.heap.objs.size a) e) (fun _ s'' => R (.error e) s'') (fun e' s'' => R (.error e') s'') s')
        { s with heap := h₀, toks := s.toks + binds.length })
    (hco : fd.scope.isCoroutine = false) (hgen : fd.scope.isGenerator = false) (hk : fd.scope.kind = .function) :
    codeC (model prog w) A (.call (.ref a) args) R s := by
  refine codeC_of_tree ?_
  show wpC _ A.in1 (callAny (.ref a) args) _ _ s
  simp only [callAny]
  refine wpC_of_any (wpAny_bind (wpAny_load ho ?_))
  obtain ⟨c, oc, vs, tq, hc, hoc, hdc, hq⟩ := hcd
  simp only [hdata, callFunction, hco, hgen, hbody, hc]
  refine wpAny_bind (m := field (.ref c) 1) (wpAny_field hoc hdc hq (wpAny_bind (wpAny_pure ?_)))
  refine wpAny_bind (hbind _ _ _ _ ?_)
  refine wpAny_bind (wpAny_newFunctionEnv hcell hloc (fun h₀ hns₀ hsb₀ => wpAny_bind (wpAny_enterFrame (hlim.fresh _ hsb₀) hroom (wpAny_pure ⟨rfl, ?_⟩))) hk)
  rw [← hc]
  exact codeC_func (h h₀ hns₀ fun b o e => hsb₀.extBut b o (Nat.ne_of_lt (Heap.lt_size e)) (Heap.get?_push_of_some _ e))
end

section
variable {M : Model} {A : Around} {E : Value → Shared → Prop} {s : Shared} {env : Env}
theorem wpC_keep {α : Type} {vs : List Value} {m : Sem α} {Q : α → Shared → Prop} (h : wpC M A m Q E s) : wpC M A (m.keep vs) Q E s := fun Γ p hΓ hC => by rw [Sem.wp_keep]; exact h Γ p hΓ hC

theorem wpC_execs_cons {st : Stmt} {rest : List Stmt} {Q : Flow → Shared → Prop} (h : wpC M A (exec st env) (fun f s' => match f with | .next => wpC M A (execs rest env) Q E s' | f => Q f s') E s) : wpC M A (execs (st :: rest) env) Q E s := by
  rw [execs_cons]
  refine wpC_bind (wpC_mono h (fun f s' h' => ?_) fun _ _ x => x)
  cases f <;> first | exact h' | exact wpC_of_any (wpAny_pure h')
/-- a statement that goes anywhere -/
theorem wpC_execs_consL {st : Stmt} {rest : List Stmt} {Q : Flow → Shared → Prop} (h : wpAny M A (exec st env) (fun f s' => match f with | .next => wpC M A (execs rest env) Q E s' | f => Q f s') E s) : wpC M A (execs (st :: rest) env) Q E s :=
  wpC_execs_cons (wpC_of_any h)
theorem wpC_If {test : PySem.Expr} {body orelse : List Stmt} {pos : Pos} {Q : Flow → Shared → Prop} (h : wpAny M A (isTrue test env (eval test env)) (fun b s₂ => WhlIf b (wpC M A (execs body env) Q E s₂) (wpC M A (execs orelse env) Q E s₂)) E s) :
    wpC M A (exec (.If test body orelse pos) env) Q E s := by
  rw [exec_If]
  refine wpC_bindL (wpAny_standAt (wpC_bindL (wpAny_mono h (fun b s₂ h₂ => ?_) fun _ _ x => x)))
  unfold WhlIf at h₂
  cases b with
  | true => rw [if_pos rfl] at h₂ ⊢; exact h₂
  | false => rw [if_neg Bool.false_ne_true] at h₂ ⊢; exact h₂
theorem wpC_AssignTuple {elts : List PySem.Expr} {k : Nat} {tpos pos : Pos} {value : PySem.Expr} {Q : Flow → Shared → Prop}
    (h : wpC M A (eval value env) (fun v s₁ => wpAny M A (assign (.Tuple elts k tpos) env v) (fun _ => Q .next) E s₁) E s)
    (hs : swapsWithSole [.Tuple elts k tpos] value pos.line env = pure false := by rfl) (hw : swappedStores [.Tuple elts k tpos] value env = pure none := by rfl) :
    wpC M A (exec (.Assign [.Tuple elts k tpos] value pos) env) Q E s := by
  rw [exec_Assign]
  refine wpC_bindL (wpAny_standAt ?_)
  rw [hs]
  refine wpC_bindL (wpAny_pure ?_)
  rw [if_neg (by decide)]
  refine wpC_bindR (wpC_mono h (fun v s₁ h₁ => ?_) fun _ _ x => x)
  rw [hw]
  refine wpAny_bind (wpAny_pure ?_)
  show wpAny M A (do assignAll v [assign (.Tuple elts k tpos) env]; pure .next) Q E s₁
  exact wpAny_bind (wpAny_mono h₁ (fun _ _ x => wpAny_pure x) fun _ _ x => x)
theorem wpC_AssignName {x : Str} {np pos : Pos} {value : PySem.Expr} {Q : Flow → Shared → Prop}
    (h : wpC M A (eval value env) (fun v s₁ => wpAny M A (bindName env x v) (fun _ => Q .next) E s₁) E s) (hs : swapsWith value (some (.Name x np)) pos.line env = pure false := by rfl) :
    wpC M A (exec (.Assign [.Name x np] value pos) env) Q E s := by
  rw [exec_Assign_Name (hs := hs)]
  refine wpC_bindL (wpAny_standAt (wpC_bindR (wpC_mono h (fun v s₁ h₁ => ?_) fun _ _ x => x)))
  exact wpAny_bind (wpAny_standAt (wpAny_bind (wpAny_mono h₁ (fun _ _ x => wpAny_pure x) fun _ _ x => x)))
theorem wpC_runOwn {c : Code} {h : Option Value} {Q : Flow → Shared → Prop}
    (hc : codeC M (A.mark h) c (fun r s' => match r with | .ok f => Q f s' | .error e => cameBackBy M A env E e s') s) (hnb : h ≠ some byPass := by intro x; cases x) : wpC M A (runOwn c env h) Q E s := by
  unfold runOwn
  exact wpC_onRaise (wpC_run hc hnb)
theorem wpC_noted {α : Type} {m : Sem α} {Q : α → Shared → Prop} (h : wpC M A m Q (notedBy M A env E) s) : wpC M A (m.onRaise fun x => do noteFrame x env; theTreesLotGoes x) Q E s :=
  wpC_onRaise (wpC_mono h (fun _ _ q => q) fun _ _ hx => wpAny_bind (wpAny_mono hx (fun _ _ e => wpAny_theTreesLotGoes e) fun _ _ e => e))
end

section
variable {prog : Program} {w : World} {A : Around} {E : Value → Shared → Prop} {s : Shared} {env : Env} {test : PySem.Expr} {body orelse : List Stmt} {Q : Flow → Shared → Prop}

/-- a while by an invariant and a measure -/
theorem wpC_While {pos : Pos} (I : Nat → Shared → Prop) (b : Nat) (h0 : I b s) (hE : PassesOwn (model prog w) A env E)
    (step : ∀ b s, I b s → wpAny (model prog w) A (isTrue test env (eval test env)) (fun bl s₂ => WhlIf bl (wpC (model prog w) A (execs body env) (fun f s₃ => match f with | .next => Halt (∃ b', b' < b ∧ I b' s₃) | .cont => Halt (∃ b', b' < b ∧ I b' s₃) | .brk => Q .next s₃ | .ret v => Q (.ret v) s₃) E s₂)
      (wpAny (model prog w) A (execs orelse env) Q E s₂)) E s) : wpC (model prog w) A (exec (.While test body orelse pos) env) Q E s := by
  rw [exec_While]
  refine wpC_bindL (wpAny_standAt (wpC_runOwn ?_))
  have key : ∀ n b s, b < n → I b s → codeC (model prog w) A (.whileLoop test body orelse env) (fun r s' => match r with | .ok f => Q f s' | .error e => cameBackBy (model prog w) A env E e s') s := by
    intro n
    induction n with
    | zero => intro b s hb; omega
    | succ n ih =>
      intro b s hb hI
      refine codeC_of_tree ?_
      show wpC _ A ((whileTurn test body orelse env).onRaise (fun x => do noteFrame x env; theTreesLotGoes x)) _ _ s
      refine wpC_noted ?_
      simp only [whileTurn]
      refine wpC_bindL (wpAny_mono (step b s hI) (fun bl s₂ h₂ => ?_) hE)
      unfold WhlIf at h₂
      cases bl with
      | false =>
        rw [if_neg Bool.false_ne_true] at h₂
        simp only [Bool.false_eq_true, if_false]
        exact wpC_of_any (wpAny_bind (wpAny_mono h₂ (fun f s₃ h₄ => wpAny_pure h₄) hE))
      | true =>
        rw [if_pos rfl] at h₂
        simp only [if_true]
        refine wpC_bindR (wpC_mono h₂ (fun f s₃ h₄ => ?_) hE)
        cases f with
        | next => obtain ⟨b', hb', hI'⟩ := h₄; exact wpAny_pure ⟨rfl, ih b' s₃ (by omega) hI'⟩
        | cont => obtain ⟨b', hb', hI'⟩ := h₄; exact wpAny_pure ⟨rfl, ih b' s₃ (by omega) hI'⟩
        | brk => exact wpAny_pure h₄
        | ret v => exact wpAny_pure h₄
  exact key (b + 1) b s (by omega) h0

theorem wpC_Try {h₀ : ExceptHandler} {hs : List ExceptHandler} {pos : Pos}
    (h : wpC (model prog w) A (execs body env) (fun f s₁ => match f with | .next => wpAny (model prog w) A (execs orelse env) Q E s₁ | f => Q f s₁)
      (fun e s₁ => wpAny (model prog w) A (noteFrame e env) (fun _ s₂ => wpAny (model prog w) A (setFlight e none) (fun _ s₃ => wpAny (model prog w) A (handleBy e env (h₀ :: hs)) Q E s₃) E s₂) E s₁) s) :
    wpC (model prog w) A (exec (.Try body (h₀ :: hs) orelse [] pos) env) Q E s := by
  rw [arm_exec_Try]
  refine wpC_bindL (wpAny_standAt ?_)
  unfold tryStmt
  dsimp only
  simp only [List.isEmpty_nil, if_true]
  refine wpC_bindR (wpC_attempt (wpC_mono h (fun f s₁ h₁ => ?_) fun e s₁ h₁ => ?_))
  · cases f <;> first | exact h₁ | exact wpAny_pure h₁
  · refine wpAny_bind (wpAny_mono h₁ (fun _ s₂ h₂ => ?_) fun _ _ x => x)
    simp only [List.isEmpty_cons, Bool.false_eq_true, if_false]
    exact wpAny_bind (wpAny_mono h₂ (fun _ s₃ h₃ => by simpa using h₃) fun _ _ x => x)

/-- a call of a def of the text by its name -/
theorem wpC_callK {K : Frag} {h₁ : Heap} {L a f : Addr} {m mg mb : Str → Option Value} {cn : Str} {cs : Scope} {ccd : Value} {p : Program} {loose : List Str} {x : Str} {np cpos : Pos} {e : PySem.Expr} {rest : List PySem.Expr} {Qv : Value → Shared → Prop}
    (F : Fr h₁ L s.heap m) (X : K.In h₁) (T : TopRead p loose mg mb h₁) (hn : nsIn K mainGlobals x = some (some (.ref f))) (hf : fnIn K f = true)
    (h : wpAny (model prog w) A (spliced (backTo cpos (starEach (e :: rest) (envOf cn cs L a ccd)))) (fun vs s₁ => K.In s₁.heap ∧ wpC (model prog w) A (call (.ref f) vs) Qv E s₁) E s)
    (hk : cs.kind = .function := by rfl) (hx : (envOf cn cs L a ccd).kindOf x = some .globalImplicit := by rfl) (hd : (x == ("__debug__" : Str)) = false := by decide)
    (he : starEach (e :: rest) (envOf cn cs L a ccd) = (false, eval e (envOf cn cs L a ccd)) :: starEach rest (envOf cn cs L a ccd) := by rfl) (hplain : (backTo cpos (starEach rest (envOf cn cs L a ccd))).any (·.1) = false := by rfl) :
    wpC (model prog w) A (eval (.Call (.Name x np) (e :: rest) [] cpos) (envOf cn cs L a ccd)) Qv E s := by
  rw [arm_eval_Call_Name']
  refine wpC_bindL (name_K F X T hn ?_ hk hx hd)
  unfold callWith
  rw [he] at h ⊢
  refine wpC_bindL (wpAny_holding (evalArgs_plain (wpAny_mono h (fun vs s₁ h₁ => ?_) fun _ _ x => x)))
  refine wpC_bindL (wpAny_standAt ?_)
  obtain ⟨hK, hc⟩ := h₁
  have hs : ((backTo cpos ((false, eval e (envOf cn cs L a ccd)) :: starEach rest (envOf cn cs L a ccd))).any fun x => x.fst) = false := by
    show (false || (backTo cpos (starEach rest (envOf cn cs L a ccd))).any (·.1)) = false
    rw [hplain]; rfl
  simp only [backToKw, keywordEach, List.map_nil, List.any_nil, Bool.or_false, hs]
  have Lk : Looks (model prog w) s₁.heap (keeperOf (.ref f)) .frame := by
    unfold fnIn at hf
    split at hf
    · rename_i q
      exact (Looks.ld (part := none) (hK _ _ q)).andThen .now
    · cases hf
  refine wpC_bindL (Lk.here ?_)
  show wpC _ A (if (backTo cpos ((false, eval e (envOf cn cs L a ccd)) :: starEach rest (envOf cn cs L a ccd))).length + 2 * ([] : List (Option Str × Sem Value)).length > 30 then _ else _) Qv E s₁
  have tail : ∀ {t : Sem Value}, wpC (model prog w) A t Qv E s₁ → wpC (model prog w) A (t >>= fun r => holding [r] point >>= fun _ => pure r) Qv E s₁ :=
    fun ht => wpC_bindR (wpC_mono ht (fun r s₂ hr => wpAny_bind (wpAny_holding (wpAny_point (wpAny_pure hr)))) fun _ _ x => x)
  split
  · exact tail hc
  · exact tail (by unfold callMarked; exact wpC_keep hc)

/-- a call of a built-in type -/
theorem wpC_callType {T : String} {cpos : Pos} {e : PySem.Expr} {rest : List PySem.Expr} {Qv : Value → Shared → Prop}
    (h : wpAny (model prog w) A (spliced (backTo cpos (starEach (e :: rest) env))) (fun vs s₁ => wpC (model prog w) A (call (.type T) vs) Qv E s₁) E s)
    (he : starEach (e :: rest) env = (false, eval e env) :: starEach rest env := by rfl) (hplain : (backTo cpos (starEach rest env)).any (·.1) = false := by rfl) :
    wpC (model prog w) A (callWith cpos (.type T) [] (backTo cpos (starEach (e :: rest) env)) (backToKw cpos (keywordEach [] env))) Qv E s := by
  unfold callWith
  rw [he] at h ⊢
  refine wpC_bindL (wpAny_holding (evalArgs_plain (wpAny_mono h (fun vs s₁ h₁ => ?_) fun _ _ x => x)))
  refine wpC_bindL (wpAny_standAt ?_)
  have hs : ((backTo cpos ((false, eval e env) :: starEach rest env)).any fun x => x.fst) = false := by
    show (false || (backTo cpos (starEach rest env)).any (·.1)) = false
    rw [hplain]; rfl
  simp only [backToKw, keywordEach, List.map_nil, List.any_nil, Bool.or_false, hs]
  refine wpC_bindL (wpAny_pure ?_)
  exact wpC_bindR (wpC_mono h₁ (fun r s₂ hr => wpAny_bind (wpAny_holding (wpAny_point (wpAny_pure hr)))) fun _ _ x => x)

theorem wpC_execs_consE {st : Stmt} {rest : List Stmt} (h : wpC (model prog w) A (exec st env) (fun _ _ => False) E s) : wpC (model prog w) A (execs (st :: rest) env) Q E s :=
  wpC_execs_cons (wpC_mono h (fun _ _ x => x.elim) fun _ _ x => x)
theorem wpC_never {α : Type} {t : Sem α} {Qa : α → Shared → Prop} (h : wpC (model prog w) A t (fun _ _ => False) E s) : wpC (model prog w) A t Qa E s := wpC_mono h (fun _ _ x => x.elim) fun _ _ x => x
theorem wpC_named {α : Type} {M : Model} {t : Sem α} {Q : α → Shared → Prop} (h : ∀ qk ek, qk = Q → ek = E → wpC M A t qk ek s) : wpC M A t Q E s := h Q E rfl rfl
theorem wpC_cut {α : Type} {M : Model} {t : Sem α} {Q : α → Shared → Prop} (mid : α → Shared → Prop) (h1 : wpC M A t mid E s) (h2 : ∀ f s', mid f s' → Q f s') : wpC M A t Q E s := wpC_mono h1 h2 fun _ _ x => x
end

section
variable {prog : Program} {w : World} {A A₀ : Around} {s : Shared} {K : Frag} {L : Addr} {h₀ base : Heap} {m mg mb : Str → Option Value} {news : List (Addr × Obj)} {p : Program} {loose : List Str} {mean : ExcName → Option Value}
theorem codeC_K {env : Env} {outer : List Env} {R : Result → Shared → Prop} {name qual : Str} {params : Arguments} {body : List Stmt} {scope : Scope} {dV kV doc pm cdv ct oc : Value} {an od : Option Addr} {osl : Array (Option Value)} {f : Addr} {args : Args} {binds : List (Str × Value)}
    (B : Below A₀ base outer h₀) (F : Fr h₀ L s.heap m) (X₀ : K.In h₀) (N : News h₀ L s.heap news) (T : Top p loose mean mg mb h₀) (hA : A.frames = some (env :: outer)) (hf : env.frame = some L) (hke : env.scope.kind = .function)
    (ho : K.lookup f = some ⟨oc, od, .func (fnOf name qual params body scope dV kV doc pm an cdv ct), osl⟩) (hcd : codeIn K cdv qual = true) (hroom : A.depth < recursionLimit)
    (hbind : BindsTo s (fnOf name qual params body scope dV kV doc pm an cdv ct) args binds) (hloc : ∀ y ∈ binds, scope.names.lookup y.1 = some .local)
    (h : ∀ g L' h₁, Fr h₀ L g m → Fr g L' h₁ (fun y => binds.reverse.lookup y) → News g L' h₁ news → Below A base (env :: outer) g → K.In g → Top p loose mean mg mb g →
      wpC (model prog w) (A.deeper (envOf qual scope L' f cdv)) (execs body (envOf qual scope L' f cdv)) (fun fl s' => LeaveK h₀ L m g R (match fl with | .ret v => v | _ => .none) s')
        (fun e s' => wpAny (model prog w) (A.deeper (envOf qual scope L' f cdv)) (leaving (envOf qual scope L' f cdv) e) (fun _ s'' => R (.error e) s'') (fun e' s'' => R (.error e') s'') s')
        { s with heap := h₁, toks := s.toks + binds.length })
    (hco : scope.isCoroutine = false) (hgen : scope.isGenerator = false) (hk : scope.kind = .function) (hcell : ∀ x ∈ scope.names, x.2 ≠ .cell) : codeC (model prog w) A (.call (.ref f) args) R s := by
  obtain ⟨FG, BG, st, lv⟩ := groundX (R := R) B F N hA hf hke
  have X := X₀.keeps F.keep
  refine codeC_call_def (fd := fnOf name qual params body scope dV kV doc pm an cdv ct) (body := body) (binds := binds) hroom (X _ _ ho) rfl (T.nolimit.keeps F.keep) (codeRec_of X hcd) rfl hbind hcell hloc (fun h₁ hns hk₁ => ?_) hco hgen hk
  exact wpC_mono (h _ s.heap.objs.size h₁ FG ⟨hns, fun b o e => hk₁ b o (of_hideAll _ e), Nat.le_of_eq (hideAll_size _ _)⟩
    (fun p hp => ⟨hk₁ _ _ (N p hp).1, Nat.ne_of_lt (Heap.lt_size (N p hp).1), hideAll_none _ (List.mem_map_of_mem hp)⟩) BG (X₀.keeps st) (T.keeps st)) (fun fl s' hl => lv _ _ hl) fun _ _ y => y
end
end Mine


set_option maxRecDepth 100000
namespace Mine

/-- what is left to walk: the call, below the claim's own caller -/
def WalkC (q : Program) (loose : List Str) (XP : (Str → Option Value) → Heap → Prop) (YP : World → Heap → Prop) (r : RowW) (d : DefRec) (kwd : List (Str × PySem.Expr)) : Prop :=
  ∀ (w : World) (s₀ s₁ : Shared) (mg mb : Str → Option Value), Ground q loose r.records XP w s₀ mg mb s₁.heap → YP w s₁.heap → ∀ (a : Addr) (o : Obj) (pm cd doc dV kV : Value), s₁.heap.get? a = some o →
    o.data = .func { docDef d.name d.params d.body d.scope pm cd doc with defaults := dV, kwdefaults := kV } → s₁.heap.CodeRec cd d.name → Dflts mg s₁.heap d.params kwd dV kV → mg d.name = some (.ref a) → s₁.gens = #[] →
    ∀ (args : List WData) (vals : List Value) (as : List Addr), r.claim.pre args = true → WData.layableAll args = true → ReadsAllW r.records (classAt s₀.heap) s₁.heap vals args as → WellAll w.params s₁.heap vals args → (∀ a ∈ as, (a == sysModules) = false) →
      wpC (model r.prog w) callerA (PySem.call (.ref a) vals) (fun v s' => GoodWG r.claim (classAt s₀.heap) (ExcName.means s₀.heap) args s₁ (.ok (.ret v)) s')
        (fun e s' => GoodWG r.claim (classAt s₀.heap) (ExcName.means s₀.heap) args s₁ (.error e) s') s₁

theorem called_caller : Called (⟨.builtin "claim.caller" {}, none, none, [], none⟩ : PySem.Ctx) := ⟨_, .head _, rfl⟩

theorem PySem.W.holds_open {r : OpenRow} {q : Program} {loose : List Str} {Xt : Shared → Bool} {XP : (Str → Option Value) → Heap → Prop} {α : Type} {Yf : Shared → α} {Ya : World → α} {YP : World → Heap → Prop} {d : DefRec} {kwd : List (Str × PySem.Expr)} {N : Nat}
    (left : LeftO r.prog q loose Xt Yf Ya N) (hY : ∀ w s, Yf s = Ya w → YP w s.heap) (hYk : ∀ w h h', YP w h → (∀ b o, h.get? b = some o → h'.get? b = some o) → YP w h')
    (hX : ∀ s, Xt s = true → XP (s.heap.nsMap mainGlobals) s.heap) (hXk : ∀ mg h h', XP mg h → (∀ b o, h.get? b = some o → h'.get? b = some o) → XP mg h')
    (hdef : defOf q r.name = some (d, kwd)) (hp : r.prog.theDef r.name = some (d.params, d.body, d.scope)) (hk : kwWritten? d.params.kwonlyargs d.params.kw_defaults = some kwd) (hRf : ∀ s, Xt s = true → RecFacts r.records s.heap) (hwr : (!r.writes || r.records.isEmpty) = true)
    (k1 : r.wellSaid = true) (ok : (chainsOk q && opensWell r.prog && (frees r.toRowW && r.within.isEmpty)) = true) (hb : r.prog.bare) (hw : r.toRowW.promised)
    (call : WalkC q loose XP YP r.toRowW d kwd) : r.Holds := by
  obtain ⟨ok1, ok2⟩ := Bool.and_eq_true_iff.mp ok
  obtain ⟨hch, hwell⟩ := Bool.and_eq_true_iff.mp ok1
  obtain ⟨hfree, hin⟩ := Bool.and_eq_true_iff.mp ok2
  obtain ⟨hsame, hu, ha, hap, hm⟩ := frees_parts hfree
  refine ⟨k1, hw, ⟨hb, hwell, by show r.makers.map _ = []; rw [hm]; rfl⟩, hw.witness, fun w => ⟨(left.behind hX hch w).1, fun s' hs' => ?_⟩⟩
  obtain ⟨s₀, hf, hg0, s, hT, hz, hgens, hg, G, y⟩ := (left.behind (XP := fun mg h => XP mg h ∧ RecFacts r.records h) (fun s hs => ⟨hX s hs, hRf s hs⟩) hch w).2 s' hs'
  have G0 : Ground q loose [] XP w s (s.heap.nsMap mainGlobals) (s.heap.nsMap builtinsNs) s.heap := { G with X := G.X.1 }
  refine ⟨s₀, hf, hg0, s, hT, fun n hn => ?_, G.X.2.1, G.X.2.2.1, fun args hpre hlay ord hord => ?_⟩
  · obtain rfl : n = r.name := by split at hn <;> simp_all
    exact pinned_of_view hg G0 hdef hp hk
  have hgens' : s.gens = #[] := Array.eq_empty_of_size_eq_zero (beq_iff_eq.mp hgens)
  have G1 : Ground q loose r.records XP w s _ _ s.heap := G.X.2.ground G0
  obtain ⟨⟨vs, s₁⟩, hlaid⟩ := Option.isSome_iff_exists.mp (layAllW_isSome (P := w.params) (ord := ord) G1.has args r.args s (pre_splitW hpre).1)
  have keeps := layAllW_keeps _ _ _ hlaid
  have hal := layAllW_rest _ _ _ hlaid
  obtain ⟨as, hrd, hin', hold⟩ := reads_layAllW hord _ _ _ hlaid hlay s₁.heap (fun _ _ e => e)
  have L : Laid r.records w s s₁ args vs as := ⟨⟨ord, hord, hlaid⟩, hrd, hin', hold, keeps, hal.1.trans hgens', hal.2.2.1⟩
  have G2 := G1.keeps hXk keeps
  obtain ⟨a, o, pm, cd, doc, dV, kV, h1, h2, h3, h4, h5⟩ := G2.fn hdef
  have hcall := call w s s₁ _ _ G2 (hYk _ _ _ (hY w s y) keeps) a o pm cd doc dV kV h2 h3 h4 h5 (defOf_name hdef ▸ h1) L.gens args vs as hpre hlay L.reads L.well (L.low G1.low)
  have hi := ident_freeW hu ha hap
  have hwi : r.claim.within = [] := List.isEmpty_iff.mp hin
  have hends : ∀ res s', GoodWG r.claim (classAt s.heap) (ExcName.means s.heap) args s₁ res s' → (r.claim.Ends s args vs s₁ res s' ∧ s'.os = s.os ∧ OldK s₁.heap s'.heap) ∧ leftWithCleanup s'.gens = false := fun res s' g =>
    have z := g.laid (c := r.claim) hsame hwi hi L
    ⟨⟨z.1, z.2.1, g.2.1⟩, leftWithCleanup_false_of_bare z.2.2⟩
  have htree : wpC (model r.prog w) callerA (do match ← nsGet mainNs r.name with
      | some f => do ret (← PySem.call f vs)
      | none => unsupported "claim.caller:no-such-global")
      (fun fin s' => ∃ f, fin = .done f ∧ GoodWG r.claim (classAt s.heap) (ExcName.means s.heap) args s₁ (.ok f) s') (fun e s' => GoodWG r.claim (classAt s.heap) (ExcName.means s.heap) args s₁ (.error e) s') s₁ := by
    refine wpC_bindL (wpAny_nsGet G2.T.g ?_)
    rw [h1]
    exact wpC_bindR (wpC_mono hcall (fun v s' g => wpAny_pure ⟨_, rfl, g⟩) fun _ _ g => g)
  obtain ⟨k, res, s₂, s₃, hsched, hrun, hfo, ⟨hcase, hos, hold'⟩⟩ := wp_halts_full (M := model r.prog w) (c := .builtin "claim.caller" {}) (p := default) (s := s₁)
    (R := fun res s' => (r.claim.Ends s args vs s₁ res s' ∧ s'.os = s.os ∧ OldK s₁.heap s'.heap))
    (Shared.asleep_of_life hal.2.2.2 hz) (Sem.wp_mono _ _ _ (fun fin p' s' h' => by
      obtain ⟨f, rfl, g⟩ := h'
      exact hends _ _ g) (fun e _ s' g => hends _ _ g) default s₁ (htree _ default caller_in called_caller))
  obtain ⟨eh, _, _, eo, _⟩ := Shared.forget_eq hfo
  have hcase := hcase.congr eh
  have hkeep : OldK s₁.heap s₃.heap := by rw [eh]; exact hold'
  have hos' : s₃.os = s.os := eo.trans hos
  have hlife : s₃.heap.life = s.heap.life := (runN_life _ _ _ hrun).trans hal.2.2.2
  refine ⟨vs, s₁, hlaid, k, _, s₃, hsched, ?_, (fun _ i x hx => by rw [hgens'] at hx; simp at hx), fun q => ⟨namesKept_of hT hg _ keeps hkeep.old, noTable hwr q⟩, by rw [hlife], Shared.rest_eq hos'⟩
  rcases hcase with ⟨v, rfl, d1, d2, d3, d4, d5⟩ | ⟨e, ob, cls, rfl, d1, d2, d3, d4, d5⟩
  · exact .inl ⟨v, rfl, d1, d2, d3, fun b o y _ => d4 b o y, d5⟩
  · exact .inr ⟨e, ob, cls, rfl, d1, d2, d3, d4, fun b o y _ => d5 b o y⟩

/-- into the law's own def -/
theorem codeC_top {prog : Program} {w : World} {A : Around} {s : Shared} {R : Result → Shared → Prop} {name qual : Str} {params : Arguments} {body : List Stmt} {scope : Scope} {dV kV doc pm cdv ct : Value} {an : Option Addr} {f : Addr} {o : Obj} {args : Args} {binds : List (Str × Value)}
    (ho : s.heap.get? f = some o) (hd : o.data = .func (fnOf name qual params body scope dV kV doc pm an cdv ct)) (hlim : s.heap.NoLimit) (hcd : s.heap.CodeRec cdv qual) (hroom : A.depth < recursionLimit)
    (hbind : BindsTo s (fnOf name qual params body scope dV kV doc pm an cdv ct) args binds) (hloc : ∀ y ∈ binds, scope.names.lookup y.1 = some .local)
    (h : ∀ L h₁, Fr s.heap L h₁ (fun y => binds.reverse.lookup y) → News s.heap L h₁ [] →
      wpC (model prog w) (A.deeper (envOf qual scope L f cdv)) (execs body (envOf qual scope L f cdv)) (fun fl s' => R (.ok (.ret (match fl with | .ret v => v | _ => .none))) s')
        (fun e s' => wpAny (model prog w) (A.deeper (envOf qual scope L f cdv)) (leaving (envOf qual scope L f cdv) e) (fun _ s'' => R (.error e) s'') (fun e' s'' => R (.error e') s'') s')
        { s with heap := h₁, toks := s.toks + binds.length })
    (hco : scope.isCoroutine = false) (hgen : scope.isGenerator = false) (hk : scope.kind = .function) (hcell : ∀ x ∈ scope.names, x.2 ≠ .cell) : codeC (model prog w) A (.call (.ref f) args) R s := by
  refine codeC_call_def (fd := fnOf name qual params body scope dV kV doc pm an cdv ct) (body := body) (binds := binds) hroom ho hd hlim hcd rfl hbind hcell hloc (fun h₁ hns hk₁ => ?_) hco hgen hk
  have F : Fr s.heap s.heap.objs.size h₁ (fun y => binds.reverse.lookup y) := ⟨hns, hk₁, Nat.le_refl _⟩
  exact h _ h₁ F (News.nil.at F)

/-- into the law's own def, where names are captured -/
theorem codeC_topC {prog : Program} {w : World} {A : Around} {s : Shared} {R : Result → Shared → Prop} {name : Str} {params : Arguments} {body : List Stmt} {scope : Scope} {pm cd doc : Value} {a : Addr} {o : Obj} {args : List Value} {binds : List (Str × Value)}
    (ho : s.heap.get? a = some o) (hdata : o.data = .func (docDef name params body scope pm cd doc)) (hlim : s.heap.NoLimit) (hcd : s.heap.CodeRec cd name) (hroom : A.depth < recursionLimit)
    (hbind : bindArgs (docDef name params body scope pm cd doc) ⟨args, []⟩ = pure binds)
    (hkind : ∀ x ∈ binds, scope.names.lookup x.1 = some .local ∨ (scope.names.lookup x.1 = some .cell ∧ ((cellsFrom (s.heap.objs.size + 1) scope.names []).lookup x.1).isSome = true))
    (hnd : ((cellsFrom 0 scope.names []).map (·.1)).Nodup)
    (h : ∀ h₁ tk cells, Fr s.heap s.heap.objs.size h₁ (bindL (envOfC name scope s.heap.objs.size a cd).kindOf binds fun _ => none) → News s.heap s.heap.objs.size h₁ cells →
      CellsAre (bindC (envOfC name scope s.heap.objs.size a cd).kindOf binds fun _ => none) (cellsFrom (s.heap.objs.size + 1) scope.names []) cells →
      wpC (model prog w) (A.deeper (envOfC name scope s.heap.objs.size a cd)) (execs body (envOfC name scope s.heap.objs.size a cd))
        (fun f s' => R (.ok (.ret (match f with | .ret v => v | _ => .none))) s')
        (fun e s' => wpAny (model prog w) (A.deeper (envOfC name scope s.heap.objs.size a cd)) (leaving (envOfC name scope s.heap.objs.size a cd) e) (fun _ s'' => R (.error e) s'') (fun e' s'' => R (.error e') s'') s')
        { s with heap := h₁, toks := tk })
    (hco : scope.isCoroutine = false := by rfl) (hgen : scope.isGenerator = false := by rfl) (hk : scope.kind = .function := by rfl) : codeC (model prog w) A (.call (.ref a) ⟨args, []⟩) R s := by
  have hco' : (docDef name params body scope pm cd doc).scope.isCoroutine = false := hco
  have hgen' : (docDef name params body scope pm cd doc).scope.isGenerator = false := hgen
  have hbody : (docDef name params body scope pm cd doc).body = .stmts body := rfl
  have hcd' : (docDef name params body scope pm cd doc).code = cd := rfl
  generalize hfd : docDef name params body scope pm cd doc = fd at hdata hbind hco' hgen' hbody hcd'
  refine codeC_of_tree ?_
  show wpC _ A.in1 (callAny (.ref a) _) _ _ s
  simp only [callAny]
  refine wpC_of_any (wpAny_bind (wpAny_load ho ?_))
  obtain ⟨c, oc, vs, tq, hc, hoc, hdc, hq⟩ := hcd
  simp only [hdata, callFunction, hco', hgen', hbody, hcd', hc]
  refine wpAny_bind (m := field (.ref c) 1) (wpAny_field hoc hdc hq (wpAny_bind (wpAny_pure ?_)))
  rw [hbind]
  refine wpAny_bind (wpAny_pure ?_)
  subst hfd
  refine wpAny_bind (wpAny_newFunctionEnv_cells hk hkind fun env he s' x => ?_)
  subst he
  refine wpAny_bind (wpAny_enterFrame (hlim.keeps x.toInCall.keep) hroom (wpAny_pure ⟨rfl, codeC_func ?_⟩))
  obtain ⟨h₁, tk, rfl, _⟩ := x.done
  have X : Cl s.heap.objs.size (cellsFrom (s.heap.objs.size + 1) scope.names []) h₁ (bindC (envOfC name scope s.heap.objs.size a cd).kindOf binds fun _ => none) := hc ▸ ⟨x.cell, x.apart, x.above⟩
  obtain ⟨cells, N, Y⟩ := Cl.news (h₀ := s.heap) (Nat.le_refl _) fun n c hm => ⟨X.cell n c (lookup_of_mem_nodup (cellsFrom_names scope.names 0 (s.heap.objs.size + 1) [] [] rfl ▸ hnd) hm), X.above n c hm⟩
  exact hc ▸ h h₁ tk cells (hc ▸ ⟨x.toInCall.ns, x.toInCall.keep, x.toInCall.fresh⟩) N Y
end Mine


set_option maxRecDepth 100000
namespace Mine
/-- what the top leaves in one world -/
def OneW (p q : Program) (loose : List Str) (Xt : Shared → Bool) {α : Type} (Yf : Shared → α) (Ya : World → α) (N : Nat) (w : World) : Prop :=
  (openEnds treeTable p w N).map (fun s => (openSeen q loose (importedModules p.main.body) Xt true s, Yf s)) = some (openGood q loose, Ya w)
section
variable {p q : Program} {loose : List Str} {Xt : Shared → Bool} {α : Type} {Yf : Shared → α} {Ya : World → α} {N : Nat}
theorem one_of {w : World} (h : (openEnds treeTable p w N).map (fun s => (openSeen q loose (importedModules p.main.body) Xt true s, Yf s)) = some (openGood q loose, Ya w)) : OneW p q loose Xt Yf Ya N w := h
theorem left4 (a b : String) (h1 : ∀ w : World, OneW p q loose Xt Yf Ya N ((w.withFollow b false).withFollow a false)) (h2 : ∀ w : World, OneW p q loose Xt Yf Ya N ((w.withFollow b true).withFollow a false))
    (h3 : ∀ w : World, OneW p q loose Xt Yf Ya N ((w.withFollow b false).withFollow a true)) (h4 : ∀ w : World, OneW p q loose Xt Yf Ya N ((w.withFollow b true).withFollow a true)) : LeftO p q loose Xt Yf Ya N :=
  byRow2 (P := OneW p q loose Xt Yf Ya N) a (byRow2 (P := fun w => OneW p q loose Xt Yf Ya N (w.withFollow a false)) b h1 h2) (byRow2 (P := fun w => OneW p q loose Xt Yf Ya N (w.withFollow a true)) b h3 h4)
end
/-- the head, its two premises in one -/
theorem holds_both {r : OpenRow} {q : Program} {loose : List Str} {Xt : Shared → Bool} {XP : (Str → Option Value) → Heap → Prop} {α : Type} {Yf : Shared → α} {Ya : World → α} {YP : World → Heap → Prop} {d : DefRec} {kwd : List (Str × PySem.Expr)} {N : Nat}
    (hY : ∀ w s, Yf s = Ya w → YP w s.heap) (hYk : ∀ w h h', YP w h → (∀ b o, h.get? b = some o → h'.get? b = some o) → YP w h')
    (hX : ∀ s, Xt s = true → XP (s.heap.nsMap mainGlobals) s.heap) (hXk : ∀ mg h h', XP mg h → (∀ b o, h.get? b = some o → h'.get? b = some o) → XP mg h')
    (hdef : defOf q r.name = some (d, kwd)) (hp : r.prog.theDef r.name = some (d.params, d.body, d.scope)) (hk : kwWritten? d.params.kwonlyargs d.params.kw_defaults = some kwd) (hRf : ∀ s, Xt s = true → RecFacts r.records s.heap) (hwr : (!r.writes || r.records.isEmpty) = true)
    (k1 : r.wellSaid = true) (ok : (chainsOk q && opensWell r.prog && (frees r.toRowW && r.within.isEmpty)) = true) (hb : r.prog.bare) (hw : r.toRowW.promised)
    (both : LeftO r.prog q loose Xt Yf Ya N ∧ WalkC q loose XP YP r.toRowW d kwd) : r.Holds :=
  Mine.PySem.W.holds_open both.1 hY hYk hX hXk hdef hp hk hRf hwr k1 ok hb hw both.2
end Mine


set_option maxRecDepth 100000
namespace Mine
section
variable {prog : Program} {w : World} {A : Around} {h₀ : Heap} {L : Addr} {m : Str → Option Value} {env : Env} {elt : PySem.Expr} {x : Str} {scope : Scope} {cl : List (Str × Addr)} {s : Shared} {S : List (Addr × Obj) → Prop} {P : Nat → Value → Prop} {Fin : List Value → List (Addr × Obj) → Prop} {news : List (Addr × Obj)}

/-- a comprehension by an invariant over the turn's number, the list so far and the ledger -/
theorem comp_inv {n : Nat} (I : Nat → List Value → List (Addr × Obj) → Prop) (h0 : I 0 [] news) (fin : ∀ ys news, I n ys news → Fin ys news)
    (turn : ∀ i ys news v J oJ C oC D m₂ h tk (E' : Value → Shared → Prop), i < n → I i ys news → P i v → LCg.NsObj oC m₂ → m₂ x = some v → Fr h₀ L h m → News h₀ L h ((J, oJ) :: (C, oC) :: (D, LCg.lst ys) :: news) → LCg.Off3 J C D news → ((@Ne Nat J C) ∧ (@Ne Nat J D) ∧ (@Ne Nat C D)) →
      wpAny (model prog w) A (eval elt (compEnvC scope cl C env)) (LCg.CompEnd h₀ L m { s with heap := h, toks := tk } J oJ C oC D (LCg.lst ys) S (fun y news' => I (i + 1) (ys ++ [y]) news')) E' { s with heap := h, toks := tk }) :
    LCg.CompRest prog w A h₀ L m env elt x scope cl s S P Fin n 0 [] news := by
  have key : ∀ (j i : Nat) (ys : List Value) (news : List (Addr × Obj)), i + j = n → I i ys news → LCg.CompRest prog w A h₀ L m env elt x scope cl s S P Fin j i ys news := by
    intro j
    induction j with
    | zero =>
      intro i ys news hi hI
      obtain rfl : i = n := by omega
      exact LCg.CompRest.zero (fin ys news hI)
    | succ j ih =>
      intro i ys news hi hI
      refine LCg.CompRest.succ ?_
      intro v J oJ C oC D m₂ h tk E' hv hC hx F N off ne
      refine wpAny_mono (turn i ys news v J oJ C oC D m₂ h tk E' (by omega) hI hv hC hx F N off ne) (fun y s₂ hq => ?_) fun _ _ e => e
      obtain ⟨h', tk', nw, e, F', N', off', hS, hn⟩ := hq
      exact ⟨h', tk', nw, e, F', N', off', hS, ih (i + 1) _ _ (by omega) hn⟩
  exact key n 0 [] news (by omega) h0
end

section
variable {prog : Program} {w : World} {A : Around} {E : Value → Shared → Prop} {s : Shared} {env : Env} {body : List Stmt} {Q : Flow → Shared → Prop} {target iter : PySem.Expr}

/-- a for by an invariant and a measure -/
theorem wpC_For {pos : Pos} (hE : PassesOwn (model prog w) A env E)
    (h : wpAny (model prog w) A (eval iter env) (fun x s₁ => wpAny (model prog w) A (foldedSetIterable iter env x) (fun x s₂ => wpAny (model prog w) A (pyIter x) (fun it s₃ => ∃ (I : Nat → Shared → Prop) (b : Nat), I b s₃ ∧
      ∀ b s, I b s → wpAny (model prog w) A (pyNext it) (fun o s₄ => match o with
        | none => Q .next s₄
        | some v => wpAny (model prog w) A (letOwnedTupleGo target it v) (fun _ s₅ => wpAny (model prog w) A (assign target env v) (fun _ s₆ =>
          wpC (model prog w) A (execs body env) (fun f s₇ => match f with | .next => Halt (∃ b', b' < b ∧ I b' s₇) | .cont => Halt (∃ b', b' < b ∧ I b' s₇) | .brk => Q .next s₇ | .ret v => Q (.ret v) s₇) E s₆) E s₅) E s₄) E s) E s₂) E s₁) E s) :
    wpC (model prog w) A (exec (.For target iter body [] pos) env) Q E s := by
  rw [exec_For]
  refine wpC_bindL (wpAny_standAt (wpC_bindL (wpAny_mono h (fun x s₁ h₁ => ?_) fun _ _ x => x)))
  refine wpC_bindL (wpAny_mono h₁ (fun x s₂ h₂ => ?_) fun _ _ x => x)
  refine wpC_bindL (wpAny_standAt (wpC_bindL (wpAny_holding (wpAny_mono h₂ (fun it s₃ h₃ => ?_) fun _ _ x => x))))
  obtain ⟨I, b, h0, step⟩ := h₃
  refine wpC_runOwn ?_
  have key : ∀ n b s, b < n → I b s → codeC (model prog w) A (.forLoop target it body [] env) (fun r s' => match r with | .ok f => Q f s' | .error e => cameBackBy (model prog w) A env E e s') s := by
    intro n
    induction n with
    | zero => intro b s hb; omega
    | succ n ih =>
      intro b s hb hI
      refine codeC_of_tree ?_
      show wpC _ A ((forTurn target it body [] env).onRaise (fun x => do noteFrame x env; theTreesLotGoes x)) _ _ s
      refine wpC_noted ?_
      simp only [forTurn]
      refine wpC_bindL (wpAny_standAt (wpC_bindL (wpAny_onRaise (wpAny_mono (step b s hI) (fun o s₄ h₄ => ?_) fun e s₄ h₄ => wpAny_standAt (hE _ _ h₄)))))
      cases o with
      | none =>
        refine wpC_of_any (wpAny_pure ⟨rfl, codeC_of_tree ?_⟩)
        show wpC _ A (do return Fin.done (← (execs [] env).onRaise (fun x => do noteFrame x env; theTreesLotGoes x))) _ _ s₄
        exact wpC_bindR (wpC_noted (wpC_of_any (wpAny_execs_nil (wpAny_pure h₄))))
      | some v =>
        refine wpC_bindL (wpAny_mono h₄ (fun _ s₅ h₅ => ?_) hE)
        refine wpC_bindL (wpAny_mono h₅ (fun _ s₆ h₆ => ?_) hE)
        refine wpC_bindR (wpC_mono h₆ (fun f s₇ h₇ => ?_) hE)
        cases f with
        | next => obtain ⟨b', hb', hI'⟩ := h₇; exact wpAny_pure ⟨rfl, ih b' s₇ (by omega) hI'⟩
        | cont => obtain ⟨b', hb', hI'⟩ := h₇; exact wpAny_pure ⟨rfl, ih b' s₇ (by omega) hI'⟩
        | brk => exact wpAny_pure h₇
        | ret v => exact wpAny_pure h₇
  exact key (b + 1) b _ (by omega) h0
end
end Mine


set_option maxRecDepth 100000
namespace Mine

theorem funFrames_on {h h' base : Heap} : ∀ {l : List Env}, h.FunFrames base l → (∀ b ∈ l.filterMap (·.frame), ∀ o, h.get? b = some o → ∃ o', h'.get? b = some o' ∧ o'.data = o.data) → h'.FunFrames base l
  | [], _, _ => trivial
  | env :: rest, ⟨hk, ⟨L, o, hf, hn, ho, hd⟩, hr⟩, q => by
    obtain ⟨o', ho', hd'⟩ := q L (by rw [List.filterMap_cons, hf]; exact .head _) o ho
    exact ⟨hk, ⟨L, o', hf, hn, ho', fun vs => hd' ▸ hd vs⟩, funFrames_on hr fun b hb => q b (by rw [List.filterMap_cons, hf]; exact .tail _ hb)⟩

/-- the frames are dicts -/
def Dicts (outer : List Env) (g : Heap) : Prop := ∀ b ∈ outer.filterMap (·.frame), ∃ o es n, g.get? b = some o ∧ o.data = .dict es n
/-- the frames' names stand as they stood -/
def NsKept (outer : List Env) (g g' : Heap) : Prop := ∀ b ∈ outer.filterMap (·.frame), ∀ m, g.Ns b m → g'.Ns b m
theorem NsKept.refl {outer : List Env} {g : Heap} : NsKept outer g g := fun _ _ _ x => x
theorem NsKept.trans {outer : List Env} {g g' g'' : Heap} (x : NsKept outer g g') (y : NsKept outer g' g'') : NsKept outer g g'' := fun b hb m q => y b hb m (x b hb m q)

section
variable {A : Around} {base g h h' : Heap} {outer : List Env} {L e t : Addr} {m : Str → Option Value} {news : List (Addr × Obj)}

/-- the ground behind a catch -/
def gnd (g h' : Heap) (as : List Addr) : Heap := hideAll (regr g h') as

theorem regroundC {as : List Addr} (K : Below A base outer g) (F : Fr g L h m) (hB : base.StaysIn h') (up : h.UpToSlots h') (has : ∀ x ∈ as, base.get? x = none ∧ ∃ o, h'.get? x = some o ∧ ∀ es n, o.data ≠ .dict es n) (hD : Dicts outer g) :
    Below A base outer (gnd g h' as) ∧ Fr (gnd g h' as) L h' m ∧ (∀ b, g.get? b = none → (gnd g h' as).get? b = none) ∧ (∀ x ∈ as, (gnd g h' as).get? x = none) ∧ NsKept outer g (gnd g h' as) ∧ Dicts outer (gnd g h' as) := by
  have fr : ∀ b ∈ outer.filterMap (·.frame), ∀ o, g.get? b = some o → ∃ sl, (gnd g h' as).get? b = some { o with slots := sl } := fun b hb o ho => by
    obtain ⟨o', es, n, ho', hd'⟩ := hD b hb
    rw [ho] at ho'; injection ho' with ho'; subst ho'
    obtain ⟨sl, q⟩ := up b o (F.keep b o ho) (fun vs z => by rw [hd'] at z; cases z)
    refine ⟨sl, hideAll_get _ (regr_get ho q) fun hm => ?_⟩
    obtain ⟨_, o2, h2, hn⟩ := has b hm
    rw [h2] at q; injection q with q; subst q
    exact hn es n hd'
  have hin : ∀ b o, (gnd g h' as).get? b = some o → (regr g h').get? b = some o := fun b o q => of_hideAll _ q
  refine ⟨⟨K.stack, fun b o q => ?_, funFrames_on K.frames fun b hb o ho => ?_⟩, ⟨up.ns F.ns, fun b o q => (regr_of (hin b o q)).2, ?_⟩, fun b q => ?_, fun x hx => hideAll_none _ hx, fun b hb m q => ?_, fun b hb => ?_⟩
  · refine hideAll_get _ (regr_get (K.stays b o q) (hB b o q)) fun hm => ?_
    rw [(has b hm).1] at q; cases q
  · obtain ⟨sl, q⟩ := fr b hb o ho
    exact ⟨_, q, rfl⟩
  · unfold gnd; rw [hideAll_size, regr_size]; exact F.above
  · cases z : (gnd g h' as).get? b with
    | none => rfl
    | some o => have := hin b o z; rw [regr_none q] at this; cases this
  · obtain ⟨oL, es, ep, hL, hLd, hLk, hLf⟩ := q
    obtain ⟨sl, q⟩ := fr b hb oL hL
    exact ⟨_, es, ep, q, hLd, hLk, hLf⟩
  · obtain ⟨o, es, n, ho, hd⟩ := hD b hb
    obtain ⟨sl, q⟩ := fr b hb o ho
    exact ⟨_, es, n, q, hd⟩
end

section
variable {h₀ g g' h' : Heap} {L L' : Addr} {m m' : Str → Option Value} {news : List (Addr × Obj)}
/-- back in the frame below, over a ground that was turned -/
theorem back_ground (st : h₀.StaysIn g') (FG : Fr h₀ L g m) (ns : g'.Ns L m) (F' : Fr g' L' h' m') (N' : News g' L' h' news) : Fr h₀ L h' m ∧ News h₀ L h' news := by
  obtain ⟨oL, es, ep, hL, hLd, hLk, hLf⟩ := ns
  refine ⟨⟨⟨oL, es, ep, F'.keep _ _ hL, hLd, hLk, hLf⟩, fun b o q => F'.keep b o (st b o q), FG.above⟩, fun p hp => ⟨(N' p hp).1, fun q => ?_, fresh_of_stays st (N' p hp).2.2⟩⟩
  have := (N' p hp).2.2; rw [q, hL] at this; cases this
end

section
variable {prog : Program} {w : World} {A A₀ : Around} {s : Shared} {K : Frag} {L : Addr} {h₀ base : Heap} {m mg mb : Str → Option Value} {news : List (Addr × Obj)} {p : Program} {loose : List Str} {mean : ExcName → Option Value}
/-- into a def, the end told without a ground -/
theorem codeC_Kr {env : Env} {outer : List Env} {R : Result → Shared → Prop} {name qual : Str} {params : Arguments} {body : List Stmt} {scope : Scope} {dV kV doc pm cdv ct oc : Value} {an od : Option Addr} {osl : Array (Option Value)} {f : Addr} {args : Args} {binds : List (Str × Value)}
    (B : Below A₀ base outer h₀) (F : Fr h₀ L s.heap m) (X₀ : K.In h₀) (N : News h₀ L s.heap news) (T : Top p loose mean mg mb h₀) (hA : A.frames = some (env :: outer)) (hf : env.frame = some L) (hke : env.scope.kind = .function)
    (ho : K.lookup f = some ⟨oc, od, .func (fnOf name qual params body scope dV kV doc pm an cdv ct), osl⟩) (hcd : codeIn K cdv qual = true) (hroom : A.depth < recursionLimit)
    (hbind : BindsTo s (fnOf name qual params body scope dV kV doc pm an cdv ct) args binds) (hloc : ∀ y ∈ binds, scope.names.lookup y.1 = some .local)
    (h : ∀ g L' h₁, Fr h₀ L g m → Fr g L' h₁ (fun y => binds.reverse.lookup y) → News g L' h₁ news → Below A base (env :: outer) g → K.In g → Top p loose mean mg mb g → h₀.StaysIn g →
      wpC (model prog w) (A.deeper (envOf qual scope L' f cdv)) (execs body (envOf qual scope L' f cdv)) (fun fl s' => R (.ok (.ret (match fl with | .ret v => v | _ => .none))) s')
        (fun e s' => wpAny (model prog w) (A.deeper (envOf qual scope L' f cdv)) (leaving (envOf qual scope L' f cdv) e) (fun _ s'' => R (.error e) s'') (fun e' s'' => R (.error e') s'') s')
        { s with heap := h₁, toks := s.toks + binds.length })
    (hco : scope.isCoroutine = false) (hgen : scope.isGenerator = false) (hk : scope.kind = .function) (hcell : ∀ x ∈ scope.names, x.2 ≠ .cell) : codeC (model prog w) A (.call (.ref f) args) R s := by
  obtain ⟨FG, BG, st, -⟩ := groundX (R := R) B F N hA hf hke
  have X := X₀.keeps F.keep
  refine codeC_call_def (fd := fnOf name qual params body scope dV kV doc pm an cdv ct) (body := body) (binds := binds) hroom (X _ _ ho) rfl (T.nolimit.keeps F.keep) (codeRec_of X hcd) rfl hbind hcell hloc (fun h₁ hns hk₁ => ?_) hco hgen hk
  exact h _ s.heap.objs.size h₁ FG ⟨hns, fun b o e => hk₁ b o (of_hideAll _ e), Nat.le_of_eq (hideAll_size _ _)⟩
    (fun p hp => ⟨hk₁ _ _ (N p hp).1, Nat.ne_of_lt (Heap.lt_size (N p hp).1), hideAll_none _ (List.mem_map_of_mem hp)⟩) BG (X₀.keeps st) (T.keeps st) st
end
end Mine


set_option maxRecDepth 100000
namespace Mine

/-- a ValueError under way, its context told -/
structure Fly (B : Heap) (l : List Env) (e t : Addr) (c fl : Value) (h : Heap) : Prop where
  stays : B.StaysIn h
  new : B.get? e = none
  frames : h.FunFrames B l
  obj : ∃ oe ws T oT ts, h.get? e = some oe ∧ oe.cls = .type "ValueError" ∧ oe.data = .fields ws ∧ ws[0]? = some (.ref t) ∧ ws[1]? = some (.ref T) ∧ ws[2]? = some c ∧ B.get? T = none ∧ T ≠ e ∧ h.get? T = some oT ∧ oT.data = .fields ts ∧ ts[3]? = some fl

section
variable {M : Model} {A : Around} {E : Value → Shared → Prop} {s : Shared} {B : Heap} {env : Env} {outer l : List Env} {L e t : Addr} {c fl : Value} {Q : Unit → Shared → Prop}

theorem Fly.flight (x : Fly B l e t c fl s.heap) (hQ : ∀ h', Fly B l e t c .none h' → s.heap.UpToSlots h' → Q () { s with heap := h' }) : wpAny M A (setFlight (.ref e) none) Q E s := by
  obtain ⟨k1, k2, k3, oe, ws, T, oT, ts, he, hcl, hd, h0, h1, h2, hnT, hTe, hT, hdT, h3⟩ := x
  have hz : 3 < ts.size := (Array.getElem?_eq_some_iff.mp h3).1
  unfold setFlight
  refine wpAny_bind (wpAny_field he hd h1 ?_)
  rw [if_pos (show (Value.ref T != Value.none) = true from by simp)]
  have other : ∀ b, b ≠ T → (s.heap.update T (Obj.mapFields (·.setIfInBounds 3 ((none : Option Addr).elim Value.none fun f => rawInt f)))).get? b = s.heap.get? b := fun b hb => Heap.get?_update_other _ _ (Ne.symm hb)
  have nr : ∀ b o, s.heap.get? b = some o → (∀ vs, o.data ≠ .fields vs) → b ≠ T := fun b o hb hnf q => by
    rw [q, hT] at hb; injection hb with hb; subst hb; exact hnf ts hdT
  refine wpAny_setField hT hdT hz (hQ _ ⟨fun b o q => (other b fun z => by rw [z, hnT] at q; cases q).trans (k1 b o q), k2, k3.of_keeps fun b o hb hn => ⟨o, (other b (nr b o hb hn)).trans hb, rfl⟩,
    oe, ws, T, _, _, (other e (Ne.symm hTe)).trans he, hcl, hd, h0, h1, h2, hnT, hTe, Heap.get?_update_self _ hT (Obj.isFreed_of_fields (Obj.data_mapFields hdT _)), Obj.data_mapFields hdT _, by simp [hz]⟩ fun b o hb hn => ⟨o.slots, (other b (nr b o hb hn)).trans hb⟩)

/-- a new entry of the traceback -/
theorem entryX {oe : Obj} {ws : Array Value} {head : Value} {hadNext : Bool} (hfr : A.frames = some (env :: outer)) (k1 : B.StaysIn s.heap) (k2 : B.get? e = none) (k3 : s.heap.FunFrames B (env :: outer)) (hf : env.frame = some L)
    (he : s.heap.get? e = some oe) (hcl : oe.cls = .type "ValueError") (hd : oe.data = .fields ws) (h0 : ws[0]? = some (.ref t)) (h2 : ws[2]? = some c)
    (hQ : ∀ h', Fly B (env :: outer) e t c (rawInt L) h' → s.heap.UpToSlots h' → Q () { s with heap := h' }) :
    wpAny M A (do let a ← frameOf env; let pl ← entryPlaceOf L hadNext; let b ← EntryCells.newEntry head a .none (rawInt L) .none pl; setField (.ref e) 1 b) Q E s := by
  have hsz : 1 < ws.size := Nat.lt_trans (by decide) (Array.getElem?_eq_some_iff.mp h2).1
  have hene : e ∉ (env :: outer).filterMap (·.frame) := fun hm => by
    obtain ⟨_, o, ho, hnf⟩ := k3.mem hm
    rw [he] at ho; injection ho with ho; subst ho; exact hnf ws hd
  refine wpAny_bind (wpAny_frameOf_fun hfr k3 hf fun h₁ hs₁ => ?_)
  refine wpAny_bind (wpAny_entryPlaceOf fun pl hpl => ?_)
  unfold EntryCells.newEntry newFields
  refine wpAny_bind (wpAny_newObj_type ?_ (hpl.sizeOk5 _ _ _ _ _))
  have he₁ : h₁.get? e = some oe := (hs₁.2.1 e hene).trans he
  have kb₁ : B.StaysIn h₁ := fun b o q => (hs₁.2.1 b fun hm => by rw [(k3.mem hm).1] at q; cases q).trans (k1 b o q)
  have he₂ := Heap.get?_push_of_some (h := h₁) { cls := .type "traceback", dict := none, data := .fields ([head, .ref L, .none, rawInt L, .none] ++ (if pl.isEmpty then List.replicate 6 Value.none else pl)).toArray } he₁
  have hTe : h₁.objs.size ≠ e := Nat.ne_of_gt (Heap.lt_size he₁)
  have hd₃ := Obj.data_mapFields hd (·.setIfInBounds 1 (Value.ref h₁.objs.size))
  have keep : ∀ b o, b ≠ e → h₁.get? b = some o →
      ((h₁.push { cls := .type "traceback", dict := none, data := .fields ([head, .ref L, .none, rawInt L, .none] ++ (if pl.isEmpty then List.replicate 6 Value.none else pl)).toArray }).update e (Obj.mapFields (·.setIfInBounds 1 (Value.ref h₁.objs.size)))).get? b = some o :=
    fun b o hbe hb => by
      rw [Heap.get?_update_other _ _ (Ne.symm hbe)]
      exact Heap.get?_push_of_some _ hb
  have nr : ∀ b o, s.heap.get? b = some o → (∀ vs, o.data ≠ .fields vs) → b ≠ e := fun b o hb hnf q => by
    rw [q, he] at hb; injection hb with hb; subst hb; exact hnf ws hd
  refine wpAny_setField he₂ hd hsz (hQ _ ⟨fun b o q => keep b o (fun z => by rw [z, k2] at q; cases q) (kb₁ b o q), k2, k3.of_keeps fun b o hb hn => ?_, _, _, h₁.objs.size, _, _, Heap.get?_update_self _ he₂ (Obj.isFreed_of_fields hd₃), (Obj.cls_mapFields _ _).trans hcl, hd₃, ?_, ?_, ?_, kb₁.fresh, hTe,
    (Heap.get?_update_other _ _ (Ne.symm hTe)).trans (Heap.get?_push_size h₁ rfl), rfl, ?_⟩ fun b o hb hn => ?_)
  · obtain ⟨sl, q⟩ := hs₁.2.2 b o hb
    exact ⟨_, keep b _ (nr b o hb hn) q, rfl⟩
  · rw [Array.getElem?_setIfInBounds_ne (by decide)]; exact h0
  · simp [hsz]
  · rw [Array.getElem?_setIfInBounds_ne (by decide)]; exact h2
  · first | (simp; done) | (rcases hpl with rfl | ⟨_, _, _, _, _, _, _, rfl⟩ <;> simp)
  · obtain ⟨sl, q⟩ := hs₁.2.2 b o hb
    exact ⟨sl, keep b _ (nr b o hb hn) q⟩

theorem note_firstX {oe : Obj} {ws : Array Value} (hfr : A.frames = some (env :: outer)) (k1 : B.StaysIn s.heap) (k2 : B.get? e = none) (k3 : s.heap.FunFrames B (env :: outer)) (hf : env.frame = some L)
    (he : s.heap.get? e = some oe) (hcl : oe.cls = .type "ValueError") (hd : oe.data = .fields ws) (h0 : ws[0]? = some (.ref t)) (h1 : ws[1]? = some .none) (h2 : ws[2]? = some c)
    (hQ : ∀ h', Fly B (env :: outer) e t c (rawInt L) h' → s.heap.UpToSlots h' → Q () { s with heap := h' }) : wpAny M A (noteFrame (.ref e) env) Q E s := by
  unfold noteFrame
  simp only [hf]
  refine wpAny_bind (wpAny_field he hd h1 ?_)
  rw [if_neg (by decide)]
  exact entryX hfr k1 k2 k3 hf he hcl hd h0 h2 hQ

theorem Fly.note (x : Fly B (env :: outer) e t c .none s.heap) (hfr : A.frames = some (env :: outer)) (hf : env.frame = some L)
    (hQ : ∀ h', Fly B (env :: outer) e t c (rawInt L) h' → s.heap.UpToSlots h' → Q () { s with heap := h' }) : wpAny M A (noteFrame (.ref e) env) Q E s := by
  obtain ⟨k1, k2, k3, oe, ws, T, oT, ts, he, hcl, hd, h0, h1, h2, hnT, hTe, hT, hdT, h3⟩ := x
  unfold noteFrame
  simp only [hf]
  refine wpAny_bind (wpAny_field he hd h1 ?_)
  rw [if_pos (show (Value.ref T != Value.none) = true from by simp)]
  refine wpAny_bind (wpAny_field hT hdT h3 ?_)
  rw [if_neg (show ¬ ((Value.none == rawInt L) = true) from by simp [rawInt])]
  refine wpAny_bind (wpAny_setField hT hdT (Array.getElem?_eq_some_iff.mp h3).1 ?_)
  have other : ∀ b, b ≠ T → (s.heap.update T (Obj.mapFields (·.setIfInBounds 3 Value.none))).get? b = s.heap.get? b := fun b hb => Heap.get?_update_other _ _ (Ne.symm hb)
  have nr : ∀ b o, s.heap.get? b = some o → (∀ vs, o.data ≠ .fields vs) → b ≠ T := fun b o hb hnf q => by
    rw [q, hT] at hb; injection hb with hb; subst hb; exact hnf ts hdT
  exact entryX (s := { s with heap := s.heap.update T (Obj.mapFields (·.setIfInBounds 3 Value.none)) }) hfr (fun b o q => (other b fun z => by rw [z, hnT] at q; cases q).trans (k1 b o q)) k2 (k3.of_keeps fun b o hb hn => ⟨o, (other b (nr b o hb hn)).trans hb, rfl⟩) hf ((other e (Ne.symm hTe)).trans he) hcl hd h0 h2
    fun h' x u => hQ h' x fun b o hb hn => u b o ((other b (nr b o hb hn)).trans hb) hn

theorem Fly.less {env : Env} (x : Fly B (env :: outer) e t c fl s.heap) : Fly B outer e t c fl s.heap := ⟨x.stays, x.new, x.frames.2.2, x.obj⟩

theorem Fly.leaves (x : Fly B (env :: outer) e t c .none s.heap) (hfr : A.frames = some (env :: outer)) (hf : env.frame = some L)
    (hQ : ∀ h', Fly B outer e t c .none h' → s.heap.UpToSlots h' → Q () { s with heap := h' }) : wpAny M A (leaving env (.ref e)) Q E s := by
  unfold leaving
  refine wpAny_bind (x.note hfr hf fun h' y u => ?_)
  exact Fly.flight (s := { s with heap := h' }) y fun h'' z u' => hQ h'' ⟨z.stays, z.new, z.frames.2.2, z.obj⟩ (u.trans u')
end

/-- what a call raised: the error, its words' tuple, its context -/
def RaisedX (base : Heap) (l : List Env) (e : Addr) (t : Addr) (vs : List Value) (news : List (Addr × Obj)) (h : Heap) : Prop :=
  ∃ B cx c, base.StaysIn B ∧ (∀ q ∈ news, B.get? q.1 = some q.2 ∧ base.get? q.1 = none) ∧ Fly B l e t c .none h ∧ B.get? t = none ∧ h.TupAt t vs ∧
    (c = .none ∨ ∃ o1 ws1, c = .ref cx ∧ B.get? cx = some o1 ∧ base.get? cx = none ∧ o1.data = .fields ws1 ∧ ws1[2]? = some .none)

theorem raisedX_sub {base h : Heap} {l : List Env} {e t : Addr} {vs : List Value} {news news' : List (Addr × Obj)} (hs : ∀ p ∈ news', p ∈ news) (R : RaisedX base l e t vs news h) : RaisedX base l e t vs news' h := by
  obtain ⟨B, cx, c, h1, h2, h3⟩ := R
  exact ⟨B, cx, c, h1, fun q hq => h2 q (hs q hq), h3⟩

section
variable {M : Model} {A : Around} {E : Value → Shared → Prop} {s' : Shared} {base g g₂ : Heap} {outer : List Env} {L a e b t : Addr} {m : Str → Option Value} {name : Str} {scope : Scope} {cd : Value} {Q : Unit → Shared → Prop} {news : List (Addr × Obj)} {vs : List Value}

theorem leave_onX (K : Below A base outer g) (F : Fr g L g₂ m) (R : RaisedX base (envOf name scope L a cd :: outer) e t vs news s'.heap) (hsm : g₂.UpToSlots s'.heap)
    (hQ : ∀ h', RaisedX base outer e t vs news h' → g.UpToSlots h' → Q () { s' with heap := h' }) :
    wpAny M (A.deeper (envOf name scope L a cd)) (leaving (envOf name scope L a cd) (.ref e)) Q E s' := by
  obtain ⟨B, cx, c, hB, hl, hfl, hnew, htup, hc⟩ := R
  exact hfl.leaves (Around.frames_deeper K.stack) rfl fun h' x1 x2 => hQ h' ⟨B, cx, c, hB, hl, x1, hnew, htup.of_slots x2, hc⟩ ((Heap.UpToSlots.of_keeps F.keep).trans (hsm.trans x2))

/-- a ValueError whose object is known leaves the frame that raised it -/
theorem leave_genX {oe ot : Obj} {ws : Array Value} {nt : Nat} {c : Value} (K : Below A base outer g) (F : Fr g L s'.heap m) (N : News g L s'.heap ((e, oe) :: (b, ot) :: news)) (hne : ∀ p ∈ news, p.1 ≠ e ∧ p.1 ≠ b) (hcl : oe.cls = .type "ValueError") (hd : oe.data = .fields ws) (h0 : ws[0]? = some (.ref b)) (h1 : ws[1]? = some .none) (h2 : ws[2]? = some c)
    (htc : ot.cls = .type "tuple") (htd : ot.data = .seq vs.toArray nt) (hcx : c = .none ∨ ∃ cx o1 ws1, c = .ref cx ∧ (cx, o1) ∈ news ∧ o1.data = .fields ws1 ∧ ws1[2]? = some .none)
    (hQ : ∀ h', RaisedX base outer e b vs news h' → g.UpToSlots h' → Q () { s' with heap := h' }) (hk : scope.kind = .function := by rfl) :
    wpAny M (A.deeper (envOf name scope L a cd)) (leaving (envOf name scope L a cd) (.ref e)) Q E s' := by
  have K' := K.push (name := name) (a := a) (cd := cd) F hk
  have he := N _ (.head _)
  have hb := N _ (.tail _ (.head _))
  have N' : News g L s'.heap news := fun p hp => N p (.tail _ (.tail _ hp))
  let as := L :: (outer.filterMap (·.frame) ++ [e, b])
  have hin : ∀ env ∈ (envOf name scope L a cd :: outer), ∀ x, env.frame = some x → x ∈ as := fun env hm x hx => by
    rcases List.mem_cons.mp hm with rfl | hm
    · cases hx; exact .head _
    · exact .tail _ (List.mem_append_left _ (List.mem_filterMap.mpr ⟨env, hm, hx⟩))
  have away : ∀ x, x ∉ L :: outer.filterMap (·.frame) → x ≠ e → x ≠ b → x ∉ as := fun x h1 h2 h3 hm => by
    rcases List.mem_cons.mp hm with q | hm
    · exact h1 (q ▸ .head _)
    · rcases List.mem_append.mp hm with q | q
      · exact h1 (.tail _ q)
      · simp only [List.mem_cons, List.not_mem_nil, or_false] at q
        exact q.elim h2 h3
  have fresh : ∀ x o, base.get? x = some o → x ≠ e ∧ x ≠ b := fun x o q => ⟨fun z => (by have := K.stays x o q; rw [z, he.2.2] at this; cases this), fun z => (by have := K.stays x o q; rw [z, hb.2.2] at this; cases this)⟩
  have st : base.StaysIn (hideAll s'.heap as) := fun x o q => hideAll_get _ (F.keep x o (K.stays x o q)) (away x (frame_apart K F q) (fresh x o q).1 (fresh x o q).2)
  have hl : ∀ q ∈ news, (hideAll s'.heap as).get? q.1 = some q.2 ∧ base.get? q.1 = none := fun q hq =>
    ⟨hideAll_get _ (N' q hq).1 (away _ (news_apart K N' hq) (hne q hq).1 (hne q hq).2), fresh_of_stays K.stays (N' q hq).2.2⟩
  unfold leaving
  refine wpAny_bind (note_firstX (B := hideAll s'.heap as) K'.stack (fun x o q => of_hideAll _ q) (hideAll_none _ (.tail _ (List.mem_append_right _ (.head _)))) (funFrames_hide K'.frames hin) rfl he.1 hcl hd h0 h1 h2 fun h' x u => ?_)
  refine Fly.flight (s := { s' with heap := h' }) x fun h'' y u' => ?_
  refine hQ h'' ?_ (((Heap.UpToSlots.of_keeps F.keep).trans u).trans u')
  have htup : h''.TupAt b vs := Heap.TupAt.of_slots (Heap.TupAt.of_slots ⟨ot, nt, hb.1, htc, htd⟩ u) u'
  have z : Fly (hideAll s'.heap as) outer e b c .none h'' := ⟨y.stays, y.new, y.frames.2.2, y.obj⟩
  have hbn : (hideAll s'.heap as).get? b = none := hideAll_none _ (.tail _ (List.mem_append_right _ (.tail _ (.head _))))
  rcases hcx with rfl | ⟨cx, o1, ws1, rfl, hm, hd1, hw1⟩
  · exact ⟨_, 0, _, st, hl, z, hbn, htup, .inl rfl⟩
  · exact ⟨_, cx, _, st, hl, z, hbn, htup, .inr ⟨o1, ws1, rfl, (hl _ hm).1, (hl _ hm).2, hd1, hw1⟩⟩
end

section
variable {prog : Program} {w : World} {A₀ : Around} {E : Value → Shared → Prop} {s' : Shared} {base g h : Heap} {outer : List Env} {L a e t : Addr} {m : Str → Option Value} {name : Str} {scope : Scope} {cd : Value}
  {vs : List Value} {n : Str} {b₀ : Stmt} {suite : List Stmt} {pos np : Pos} {rest : List ExceptHandler} {Q : Flow → Shared → Prop} {news : List (Addr × Obj)}
  {p : Program} {loose : List Str} {mg mb : Str → Option Value}

/-- a ValueError under way, taken by this frame's clause with a name -/
theorem catch_flyX {B : Heap} {cx : Addr} {c fl : Value} (K : Below A₀ base outer g) (F : Fr g L h m) (hsm : h.UpToSlots s'.heap) (hB : base.StaysIn B) (hl : ∀ q ∈ news, B.get? q.1 = some q.2 ∧ base.get? q.1 = none) (hfl : Fly B (envOf name scope L a cd :: outer) e t c fl s'.heap) (hnew : B.get? t = none) (htup : s'.heap.TupAt t vs)
    (hc : c = .none ∨ ∃ o1 ws1, c = .ref cx ∧ B.get? cx = some o1 ∧ base.get? cx = none ∧ o1.data = .fields ws1 ∧ ws1[2]? = some .none) (hn0 : ∀ q ∈ news, g.get? q.1 = none) (hD : Dicts outer g) (TB : TopRead p loose mg mb base)
    (k : ∀ g' h' oe ot ws ctx tk, Below A₀ base outer g' → Fr g' L h' (fun y => if y = n then some (.ref e) else m y) → News g' L h' ((e, oe) :: (t, ot) :: (ctx ++ news)) → Got ((e, oe) :: (t, ot) :: (ctx ++ news)) e t (.type "ValueError") vs → NsKept outer g g' → Dicts outer g' → (∀ p ∈ news, p.1 ≠ e ∧ p.1 ≠ t) →
      oe.data = .fields ws → ((ctx = [] ∧ ws[2]? = some .none) ∨ ∃ cx o1 ws1, ctx = [(cx, o1)] ∧ ws[2]? = some (.ref cx) ∧ o1.data = .fields ws1 ∧ ws1[2]? = some .none) →
      wpAny (model prog w) ((A₀.deeper (envOf name scope L a cd)).mark (some (.ref e))) (execs (b₀ :: suite) (envOf name scope L a cd))
        (fun f s₄ => wpAny (model prog w) (A₀.deeper (envOf name scope L a cd)) (do bindName (envOf name scope L a cd) n .none; unbindBehindTheSuite (envOf name scope L a cd) n pos) (fun _ s₅ => Q f s₅) E s₄)
        (AsSuiteRaised (model prog w) ((A₀.deeper (envOf name scope L a cd)).mark (some (.ref e))) (envOf name scope L a cd) n pos (notedBy (model prog w) ((A₀.deeper (envOf name scope L a cd)).mark (some (.ref e))) (envOf name scope L a cd) (cameBackBy (model prog w) (A₀.deeper (envOf name scope L a cd)) (envOf name scope L a cd) E)))
        { s' with heap := h', toks := tk })
    (h1 : Str.ofString "ValueError" ∉ startupNames := by decide +kernel) (h2 : Str.ofString "ValueError" ∉ loose := by decide +kernel) (h3 : Str.ofString "ValueError" ∉ (recsOf p).map (·.name) := by decide +kernel) (h4 : Str.ofString "ValueError" ∉ (litsOf p).map (·.1) := by decide +kernel) (h4c : Str.ofString "ValueError" ∉ (clssOf p loose).map (·.name) := by decide +kernel)
    (hk : scope.kind = .function := by rfl) (hlo : (envOf name scope L a cd).kindOf n = some .local := by rfl) (hx : (envOf name scope L a cd).kindOf (Str.ofString "ValueError") = some .globalImplicit := by rfl) :
    wpAny (model prog w) (A₀.deeper (envOf name scope L a cd)) (setFlight (.ref e) none) (fun _ s₃ =>
        wpAny (model prog w) (A₀.deeper (envOf name scope L a cd)) (handleBy (.ref e) (envOf name scope L a cd) (.ExceptHandler (some (.Name (Str.ofString "ValueError") np)) (some n) (b₀ :: suite) pos :: rest)) Q E s₃) E s' := by
  have hL : B.get? L = none := by
    obtain ⟨_, ⟨L', _, hf, hn', _⟩, _⟩ := hfl.frames
    obtain rfl : L = L' := Option.some.inj hf
    exact hn'
  refine hfl.flight fun h₅ hf₅ hsm₅ => ?_
  obtain ⟨oe₅, ws₅, T₅, oT₅, ts₅, hoe₅, hoec₅, hoed₅, _⟩ := hf₅.obj
  obtain ⟨ot₅, nt₅, hot₅, hotc₅, hotd₅⟩ := htup.of_slots hsm₅
  have bh : ∀ {h'}, B.StaysIn h' → base.StaysIn h' := fun q b o z => q b o (hB b o z)
  obtain ⟨ctx, hcb, hcc⟩ : ∃ ctx : List (Addr × Obj), (∀ q ∈ ctx, B.get? q.1 = some q.2 ∧ base.get? q.1 = none ∧ ∃ ws, q.2.data = .fields ws) ∧ ((ctx = [] ∧ c = .none) ∨ ∃ cx o1 ws1, ctx = [(cx, o1)] ∧ c = .ref cx ∧ o1.data = .fields ws1 ∧ ws1[2]? = some .none) := by
    rcases hc with rfl | ⟨o1, ws1, rfl, q1, q2, q3, q4⟩
    · exact ⟨[], (by intro q hq; cases hq), .inl ⟨rfl, rfl⟩⟩
    · exact ⟨[(cx, o1)], fun q hq => by rw [List.mem_singleton.mp hq]; exact ⟨q1, q2, ws1, q3⟩, .inr ⟨cx, o1, ws1, rfl, rfl, q3, q4⟩⟩
  have hidden : ∀ {h' : Heap} {oe ot : Obj} {ws : Array Value} {nt : Nat}, B.StaysIn h' → h'.get? e = some oe → oe.data = .fields ws → h'.get? t = some ot → ot.data = .seq vs.toArray nt → ∀ x ∈ e :: t :: ctx.map (·.1), base.get? x = none ∧ ∃ o, h'.get? x = some o ∧ ∀ es n, o.data ≠ .dict es n := by
    intro h' oe ot ws nt st z1 z2 z3 z4 x hx
    rcases List.mem_cons.mp hx with rfl | hx
    · exact ⟨fresh_of_stays hB hfl.new, _, z1, fun es n z => by rw [z2] at z; cases z⟩
    · rcases List.mem_cons.mp hx with rfl | hx
      · exact ⟨fresh_of_stays hB hnew, _, z3, fun es n z => by rw [z4] at z; cases z⟩
      · obtain ⟨q, hq, rfl⟩ := List.mem_map.mp hx
        obtain ⟨a1, a2, ws, a3⟩ := hcb q hq
        exact ⟨a2, _, st _ _ a1, fun es n z => by rw [a3] at z; cases z⟩
  obtain ⟨B₅, F₅, _⟩ := regroundC K F (bh hf₅.stays) (hsm.trans hsm₅) (hidden hf₅.stays hoe₅ hoed₅ hot₅ hotd₅) hD
  refine wpAny_handleBy_builtin_as (X := "ValueError") (T := "ValueError") (b := true) PySem.F.isExc_ValueError PySem.F.notTuple_ValueError (by rw [isSubtype_type]; kernel_rfl)
    (ld_builtin_at (s := { s' with heap := h₅ }) F₅ (TB.g.keeps B₅.stays) (TB.free _ h1 h2 h3 h4 h4c) (TB.b.keeps B₅.stays) ((TB.builtins _ (by decide +kernel)).trans PyProof.Rows.Boot.«ValueError») ⟨rfl, ⟨_, hoe₅, hoec₅⟩, ?_⟩ hk hx (by decide))
  refine Fly.flight (s := { s' with heap := h₅ }) hf₅ fun h₆ hfl₆ hsm₆ => ?_
  obtain ⟨oe, ws, T, oT, ts, hoe, hoec, hoed, hoe0, -, hoe2, -⟩ := hfl₆.obj
  obtain ⟨ot, nt, hot, hotc, hotd⟩ := (htup.of_slots hsm₅).of_slots hsm₆
  obtain ⟨B₆, F₆, gn, gh, nk, dk⟩ := regroundC K F (bh hfl₆.stays) ((hsm.trans hsm₅).trans hsm₆) (hidden hfl₆.stays hoe hoed hot hotd) hD
  have Nl : News (gnd g h₆ (e :: t :: ctx.map (·.1))) L h₆ (ctx ++ news) := fun q hq => by
    rcases List.mem_append.mp hq with hq | hq
    · exact ⟨hfl₆.stays _ _ (hcb q hq).1, (fun z => by have := (hcb q hq).1; rw [z, hL] at this; cases this), gh _ (.tail _ (.tail _ (List.mem_map_of_mem hq)))⟩
    · exact ⟨hfl₆.stays _ _ (hl q hq).1, (fun z => by have := (hl q hq).1; rw [z, hL] at this; cases this), gn _ (hn0 q hq)⟩
  have N₆ := News.more F₆ (News.more F₆ Nl hot (fun es n q => by rw [hotd] at q; cases q) (gh _ (.tail _ (.head _)))) hoe (fun es n q => by rw [hoed] at q; cases q) (gh _ (.head _))
  refine stN F₆ N₆ (fun h₇ F₇ N₇ => ?_) hk hlo
  refine k _ h₇ _ _ _ _ _ B₆ F₇ N₇ ⟨oe, ot, ws, nt, .head _, .tail _ (.head _), hoec, hoed, hoe0, hotc, hotd⟩ nk dk (fun q hq => ⟨fun z => ?_, fun z => ?_⟩) hoed ?_
  · have := (hl q hq).1; rw [z, hfl₆.new] at this; cases this
  · have := (hl q hq).1; rw [z, hnew] at this; cases this
  · rcases hcc with ⟨rfl, rfl⟩ | ⟨cx, o1, ws1, rfl, rfl, q3, q4⟩
    · exact .inl ⟨rfl, hoe2⟩
    · exact .inr ⟨cx, o1, ws1, rfl, hoe2, q3, q4⟩

/-- the same from a callee -/
theorem catch_calleeX (K : Below A₀ base outer g) (F : Fr g L h m) (hsm : h.UpToSlots s'.heap) (R : RaisedX base (envOf name scope L a cd :: outer) e t vs news s'.heap) (hn0 : ∀ q ∈ news, g.get? q.1 = none) (hD : Dicts outer g) (TB : TopRead p loose mg mb base)
    (k : ∀ g' h' oe ot ws ctx tk, Below A₀ base outer g' → Fr g' L h' (fun y => if y = n then some (.ref e) else m y) → News g' L h' ((e, oe) :: (t, ot) :: (ctx ++ news)) → Got ((e, oe) :: (t, ot) :: (ctx ++ news)) e t (.type "ValueError") vs → NsKept outer g g' → Dicts outer g' → (∀ p ∈ news, p.1 ≠ e ∧ p.1 ≠ t) →
      oe.data = .fields ws → ((ctx = [] ∧ ws[2]? = some .none) ∨ ∃ cx o1 ws1, ctx = [(cx, o1)] ∧ ws[2]? = some (.ref cx) ∧ o1.data = .fields ws1 ∧ ws1[2]? = some .none) →
      wpAny (model prog w) ((A₀.deeper (envOf name scope L a cd)).mark (some (.ref e))) (execs (b₀ :: suite) (envOf name scope L a cd))
        (fun f s₄ => wpAny (model prog w) (A₀.deeper (envOf name scope L a cd)) (do bindName (envOf name scope L a cd) n .none; unbindBehindTheSuite (envOf name scope L a cd) n pos) (fun _ s₅ => Q f s₅) E s₄)
        (AsSuiteRaised (model prog w) ((A₀.deeper (envOf name scope L a cd)).mark (some (.ref e))) (envOf name scope L a cd) n pos (notedBy (model prog w) ((A₀.deeper (envOf name scope L a cd)).mark (some (.ref e))) (envOf name scope L a cd) (cameBackBy (model prog w) (A₀.deeper (envOf name scope L a cd)) (envOf name scope L a cd) E)))
        { s' with heap := h', toks := tk })
    (h1 : Str.ofString "ValueError" ∉ startupNames := by decide +kernel) (h2 : Str.ofString "ValueError" ∉ loose := by decide +kernel) (h3 : Str.ofString "ValueError" ∉ (recsOf p).map (·.name) := by decide +kernel) (h4 : Str.ofString "ValueError" ∉ (litsOf p).map (·.1) := by decide +kernel) (h4c : Str.ofString "ValueError" ∉ (clssOf p loose).map (·.name) := by decide +kernel)
    (hk : scope.kind = .function := by rfl) (hlo : (envOf name scope L a cd).kindOf n = some .local := by rfl) (hx : (envOf name scope L a cd).kindOf (Str.ofString "ValueError") = some .globalImplicit := by rfl) :
    wpAny (model prog w) (A₀.deeper (envOf name scope L a cd)) (noteFrame (.ref e) (envOf name scope L a cd))
      (fun _ s₂ => wpAny (model prog w) (A₀.deeper (envOf name scope L a cd)) (setFlight (.ref e) none) (fun _ s₃ =>
        wpAny (model prog w) (A₀.deeper (envOf name scope L a cd)) (handleBy (.ref e) (envOf name scope L a cd) (.ExceptHandler (some (.Name (Str.ofString "ValueError") np)) (some n) (b₀ :: suite) pos :: rest)) Q E s₃) E s₂) E s' := by
  obtain ⟨B, cx, c, hB, hl, hfl, hnew, htup, hc⟩ := R
  refine hfl.note (Around.frames_deeper K.stack) rfl fun h' x u => ?_
  exact catch_flyX (s' := { s' with heap := h' }) K F (hsm.trans u) hB hl x hnew (htup.of_slots u) hc hn0 hD TB k h1 h2 h3 h4 h4c hk hlo hx
end
end Mine


set_option maxRecDepth 100000
namespace Mine

/-- what is being handled has a context that ends -/
def HandOk (A : Around) (h : Heap) : Prop := A.handled = none ∨ ∃ e oe ws, A.handled = some (.ref e) ∧ h.get? e = some oe ∧ oe.data = .fields ws ∧
  (ws[2]? = some .none ∨ ∃ cx o1 ws1, ws[2]? = some (.ref cx) ∧ h.get? cx = some o1 ∧ o1.data = .fields ws1 ∧ ws1[2]? = some .none)

theorem HandOk.keeps {A : Around} {h h' : Heap} (x : HandOk A h) (k : ∀ b o, h.get? b = some o → h'.get? b = some o) : HandOk A h' := by
  rcases x with x | ⟨e, oe, ws, h1, h2, h3, h4⟩
  · exact .inl x
  · refine .inr ⟨e, oe, ws, h1, k _ _ h2, h3, ?_⟩
    rcases h4 with h4 | ⟨cx, o1, ws1, a1, a2, a3, a4⟩
    · exact .inl h4
    · exact .inr ⟨cx, o1, ws1, a1, k _ _ a2, a3, a4⟩
theorem HandOk.in1 {A : Around} {h : Heap} (x : HandOk A h) : HandOk A.in1 h := x

section
variable {prog : Program} {w : World} {A : Around} {E : Value → Shared → Prop} {s : Shared}

theorem unchain_ok {x e : Addr} {oe : Obj} {ws : Array Value} {Q : Value → Shared → Prop} (hxe : s.heap.get? e = some oe) (hd : oe.data = .fields ws) (hx : ∀ cx o1, s.heap.get? cx = some o1 → cx ≠ x)
    (hc : ws[2]? = some .none ∨ ∃ cx o1 ws1, ws[2]? = some (.ref cx) ∧ s.heap.get? cx = some o1 ∧ o1.data = .fields ws1 ∧ ws1[2]? = some .none) (s' : Shared) (hs : ∀ b o, s.heap.get? b = some o → s'.heap.get? b = some o) (h : Q .none s') :
    wpAny (model prog w) A (runValue (.builtin "proto.unchain" ⟨[.ref x, .ref e, .ref e, .bool false], []⟩)) Q E s' := by
  refine wpAny_runValue (codeAny_builtin entry_unchain ?_)
  unfold Builtin.«proto.unchain»
  dsimp only
  rcases hc with h2 | ⟨cx, o1, ws1, h2, hcx, hd1, hw1⟩
  · refine wpAny_bind (wpAny_field (hs _ _ hxe) hd h2 ?_)
    rw [if_pos (by decide)]
    exact wpAny_pure h
  · refine wpAny_bind (wpAny_field (hs _ _ hxe) hd h2 ?_)
    rw [if_neg (by simp)]
    rw [if_neg (by simpa using hx cx o1 hcx)]
    by_cases hce : cx = e
    · rw [if_pos (by simp [hce])]
      exact wpAny_bind (wpAny_rule (wpAny_pure h))
    · rw [if_neg (by simpa using hce)]
      rw [if_neg (by decide)]
      refine wpAny_bind (wpAny_pure (wpAny_pure ⟨Code.quiet_builtin _ (by decide +kernel), codeAny_builtin entry_unchain ?_⟩))
      unfold Builtin.«proto.unchain»
      dsimp only
      refine wpAny_bind (wpAny_field (hs _ _ hcx) hd1 hw1 ?_)
      rw [if_pos (by decide)]
      exact wpAny_pure h

theorem next_end {it l : Addr} {i : Nat} {items : Array Value} {Q : Option Value → Shared → Prop} (hh : HandOk A s.heap) (hne : ∀ b, A.handled = some (.ref b) → b ≠ it ∧ ∀ oe ws cx, s.heap.get? b = some oe → oe.data = .fields ws → ws[2]? = some (.ref cx) → cx ≠ it)
    (hit : s.heap.IsListIter it l i) (hl : s.heap.IsList l items) (hx : items[i]? = none)
    (hQ : ∀ h', Heap.ExtBut it s.heap h' → Q none { s with heap := h' }) : wpAny (model prog w) A (pyNext (.ref it)) Q E s := by
  rcases hh with hh | ⟨e, oe, ws, hh, he, hed, hc⟩
  · exact wpAny_pyNext_list_end hh hit hl hx hQ
  obtain ⟨hei, hci⟩ := hne e hh
  obtain ⟨o, ho, hcl, hd⟩ := id hit
  obtain ⟨ol, hol, _, nl, hdl⟩ := hl
  unfold pyNext
  refine wpAny_bind (wpAny_attempt (wpAny_callSpecial?_slot (name := Str.ofString "__next__") hit.typeIs slot_listiter_next
    (wpAny_call_entry slot_listiter_next hit.typeIs entry_listiter_next ?_ (args_listiter_next _))))
  show wpAny _ _ (field (.ref it) 0 >>= _) _ _ s
  refine wpAny_bind (wpAny_field ho hd (x := .ref l) rfl ?_)
  show wpAny _ _ (if (Value.ref l == Value.none) = true then _ else _) _ _ s
  rw [if_neg (show ¬ ((Value.ref l == Value.none) = true) from Bool.false_ne_true)]
  show wpAny _ _ (field (.ref it) 1 >>= _) _ _ s
  refine wpAny_bind (wpAny_field ho hd (x := .int i 0) rfl ?_)
  show wpAny _ _ (seqItems? (.ref l) >>= _) _ _ s
  refine wpAny_bind (wpAny_seqItems hol hdl ?_)
  simp only [Int.toNat_natCast, hx]
  refine wpAny_bind (wpAny_rule (wpAny_bind (wpAny_setField ho hd (by simp) ?_)))
  show wpAny _ _ (newExc (.type "StopIteration") [] >>= _) _ _ _
  refine wpAny_bind ?_
  simp only [newExc, newTuple]
  refine wpAny_bind (wpAny_newObj_type ?_ (by size_fits))
  refine wpAny_bind (m := firstArgMember _ _) (wpAny_of_eq (a := Value.none) (by first | rfl | (simp only [firstArgMember]; rfl)) ?_)
  refine wpAny_newObj_type ?_ (by size_fits)
  simp only [raiseNew]
  refine wpAny_bind (wpAny_handled ?_)
  rw [show A.in1.handled = some (.ref e) from hh]
  dsimp only
  have oth : ∀ b o', b ≠ it → s.heap.get? b = some o' → (s.heap.update it (Obj.mapFields (·.setIfInBounds 0 Value.none))).get? b = some o' := fun b o' hb q => (Heap.get?_update_other _ _ (Ne.symm hb)).trans q
  have hz : (s.heap.update it (Obj.mapFields (·.setIfInBounds 0 Value.none))).objs.size = s.heap.objs.size := Heap.size_after_update ..
  rw [if_pos (by
    have := Heap.lt_size he
    simp only [bne_iff_ne, ne_eq, Value.ref.injEq]
    intro q
    rw [Heap.size_push, hz] at q
    rw [q] at this
    exact absurd this (Nat.not_lt_of_le (Nat.le_succ _)))]
  refine wpAny_bind (wpAny_holding (unchain_ok (s := { s with heap := s.heap.update it (Obj.mapFields (·.setIfInBounds 0 Value.none)) }) (oth _ _ hei he) hed (fun cx o1 q z => ?_) ?_ _ (fun b o' q => Heap.get?_push_of_some _ (Heap.get?_push_of_some _ q)) ?_))
  · have := Heap.lt_size q
    rw [z, Heap.size_push] at this
    exact absurd this (Nat.not_lt_of_le (Nat.le_succ _))
  · rcases hc with h2 | ⟨cx, o1, ws1, h2, hcx, hd1, hw1⟩
    · exact .inl h2
    · exact .inr ⟨cx, o1, ws1, h2, oth _ _ (hci oe ws cx he hed h2) hcx, hd1, hw1⟩
  · show wpAny _ _ (setField (.ref _) 2 (.ref e) >>= _) _ _ _
    refine wpAny_bind (wpAny_setField (Heap.get?_push_size _ rfl) rfl (by rw [Array.size_append]; exact Nat.lt_of_lt_of_le (by decide : 2 < 6) (Nat.le_add_right _ _)) (wpAny_throw ?_))
    refine wpAny_bind (wpAny_isInstance (T := "StopIteration") (b := true) ⟨_, Heap.get?_update_self _ (Heap.get?_push_size _ rfl) rfl, rfl⟩ isSubtype_stop ?_)
    refine wpAny_pure (hQ _ fun b o' hb q => ?_)
    rw [Heap.get?_update_other]
    · exact Heap.get?_push_of_some _ (Heap.get?_push_of_some _ (oth b o' hb q))
    · have := Heap.lt_size q
      rw [Heap.size_push, hz]
      intro z
      rw [← z] at this
      exact absurd this (Nat.not_lt_of_le (Nat.le_succ _))
end
end Mine


set_option maxRecDepth 100000
namespace Mine

/-- the same by a ledger -/
def HandL (A : Around) (hand : List (Addr × Obj)) : Prop := A.handled = none ∨ ∃ e oe ws, A.handled = some (.ref e) ∧ (e, oe) ∈ hand ∧ oe.data = .fields ws ∧
  (ws[2]? = some .none ∨ ∃ cx o1 ws1, ws[2]? = some (.ref cx) ∧ (cx, o1) ∈ hand ∧ o1.data = .fields ws1 ∧ ws1[2]? = some .none)

section
variable {prog : Program} {w : World} {A : Around} {E : Value → Shared → Prop} {s : Shared}

theorem walks_iter {I l : Addr} {k nl : Nat} {vs : Array Value} {hand : List (Addr × Obj)} (H : HandL A hand) (hne : ∀ p ∈ hand, p.1 ≠ I) (hl : (l, listOf vs nl) ∈ hand) (hk : k ≤ vs.size) :
    WalksS prog w A I (I :: hand.map (·.1)) [I] (fun a b => b = a) (vs.size - k) (fun i v => vs[k + i]? = some v) (fun i s => s.heap.IsListIter I l (k + i) ∧ ∀ p ∈ hand, s.heap.get? p.1 = some p.2) where
  sub := fun b hb => by rw [List.mem_singleton.mp hb]; exact .head _
  grefl := fun _ => rfl
  gtrans := fun _ _ _ h1 h2 => h2.trans h1
  frame := fun i s h' tk st _ hk => ⟨st.1.at fun o e => hk I (.head _) o e, fun p hp => hk p.1 (.tail _ (List.mem_map_of_mem hp)) _ (st.2 p hp)⟩
  item := fun i s Q E hi st hQ => by
    have hx : vs[k + i]? = some (vs[k + i]'(by omega)) := by simp
    refine wpAny_pyNext_list_item st.1 ⟨_, st.2 _ hl, rfl, nl, rfl⟩ hx fun h' hit' hs' => ?_
    exact hQ _ _ hx ⟨hit', fun p hp => hs'.extBut _ _ (hne p hp) (st.2 p hp)⟩ ⟨fun b o hb e => hs'.extBut b o (fun z => hb (by rw [z]; exact .head _)) e, rfl, rfl, rfl, Nat.le_refl _⟩
  done := fun s Q E st hQ => by
    refine next_end (items := vs) ?_ (fun b hb => ?_) st.1 ⟨_, st.2 _ hl, rfl, nl, rfl⟩ (by simp; omega) fun h' he => hQ _ ⟨fun b o hb e => he b o (fun z => hb (by rw [z]; exact .head _)) e, rfl, rfl, rfl, Nat.le_refl _⟩
    · rcases H with H | ⟨e, oe, ws, h1, h2, h3, h4⟩
      · exact .inl H
      · refine .inr ⟨e, oe, ws, h1, st.2 _ h2, h3, ?_⟩
        rcases h4 with h4 | ⟨cx, o1, ws1, a1, a2, a3, a4⟩
        · exact .inl h4
        · exact .inr ⟨cx, o1, ws1, a1, st.2 _ a2, a3, a4⟩
    · rcases H with H | ⟨e, oe, ws, h1, h2, h3, h4⟩
      · rw [H] at hb; cases hb
      · rw [h1] at hb; cases hb
        refine ⟨hne _ h2, fun oe' ws' cx z1 z2 z3 => ?_⟩
        rw [st.2 _ h2] at z1; cases z1
        rw [h3] at z2; cases z2
        rcases h4 with h4 | ⟨cx', o1, ws1, a1, a2, a3, a4⟩
        · rw [h4] at z3; cases z3
        · rw [a1] at z3; cases z3
          exact hne _ a2
  self := fun i s Q E st hQ => wpAny_pyIter_listiter st.1 hQ

variable {I : Addr} {fp wr : List Addr} {G : Array GenState → Array GenState → Prop} {n : Nat} {P : Nat → Value → Prop} {St : Nat → Shared → Prop} {R : Result → Shared → Prop}

theorem extend_li (W : WalksS prog w A.in1 I fp wr G n P St) (hT : ∀ i s, St i s → s.TypeIs (.ref I) "list_iterator") (S : Addr) (res : Value) (c₀ : Nat) (hst : St 0 s) (hSf : S ∉ fp) (hI : I ∈ fp)
    (hS : s.heap.get? S = some { cls := .type "list", data := .seq #[] c₀ })
    (hR : ∀ s' acc' c', Moved (S :: wr) G s s' → s'.heap.get? S = some { cls := .type "list", dict := none, data := .seq acc' c', slots := #[] } → ItemsOf P acc' n → R (.ok (.ret res)) s') (hn : n ≤ sizeLine) :
    wpAny (model prog w) A.in1 (Builtin.List.listExtendWith (.ref S) (.ref I) res)
      (fun fin s' => match fin with | .done f => R (.ok f) s' | .again c' => c'.quiet = true ∧ codeAny (model prog w) A c' R s') (fun e s' => R (.error e) s') s := by
  have hSI : S ≠ I := fun e => hSf (e ▸ hI)
  unfold Builtin.List.listExtendWith
  refine wpAny_bind (wpAny_typeOf (hT 0 _ hst) ?_)
  have h1 : Builtin.List.listSameRef (.ref S) (.ref I) = false := by simp [Builtin.List.listSameRef, hSI]
  rw [if_neg (by rw [h1]; decide)]
  refine wpAny_bind (W.self 0 _ _ _ hst ?_)
  refine wpAny_bind (wpAny_holding ?_)
  unfold Builtin.List.listLengthHint
  refine wpAny_bind (wpAny_specialOf (hT 0 _ hst) F.nolen_li ?_)
  show wpAny _ A.in1 (specialOf (Value.ref I) (Str.ofString "__length_hint__") >>= _) _ _ _
  refine wpAny_bind (wpAny_specialOf (hT 0 _ hst) F.hint_li ?_)
  (generalize hid : ("list_iterator.__length_hint__" : String) = id0; (fail_if_success (clear hid id0)); wp_delta; rw [show splitId id0 = some ("list_iterator", "__length_hint__") from by subst hid; decide +kernel]; subst hid)
  refine wpAny_bind (wpAny_isInstance (b := true) (hT 0 _ hst) (by rw [isSubtype_type]; kernel_rfl) ?_)
  refine wpAny_pure ?_
  rw [if_neg (by decide)]
  exact wpAny_pure ⟨plainId_quiet F.plain_extend_loop _, codeAny_extend_loopS W hn S hSf res n 0 _ _ _ rfl (Nat.zero_le _) hst hS (ItemsOf.nil P) hR⟩

theorem call_list_li {Q : Value → Shared → Prop} (W : WalksS prog w A.in1.in1 I fp wr G n P St) (hT : ∀ i s, St i s → s.TypeIs (.ref I) "list_iterator") (hst : St 0 s) (hfp : ∀ b ∈ fp, b < s.heap.objs.size) (hI : I ∈ fp)
    (hQ : ∀ s' acc' c', Moved (s.heap.objs.size :: wr) G { s with heap := s.heap.push { cls := .type "list", data := .seq #[] } } s' →
      s'.heap.get? s.heap.objs.size = some { cls := .type "list", dict := none, data := .seq acc' c', slots := #[] } → ItemsOf P acc' n → Q (.ref s.heap.objs.size) s') (hn : n ≤ sizeLine) :
    wpAny (model prog w) A (call (.type "list") [.ref I]) Q E s := by
  have hSf : s.heap.objs.size ∉ fp := fun hm => Nat.lt_irrefl _ (hfp _ hm)
  refine callType_codes (Q₁ := fun obj s₁ => obj = .ref s.heap.objs.size ∧ s₁ = { s with heap := s.heap.push { cls := .type "list", data := .seq #[] } }) F.called_list (F.typeCall_list_1 _) F.entry_list_init
    (code_list_new _ ⟨rfl, rfl⟩) fun obj s₁ h₁ => ?_
  obtain ⟨rfl, rfl⟩ := h₁
  have hS : (s.heap.push { cls := .type "list", data := .seq #[] }).get? s.heap.objs.size = some { cls := .type "list", data := .seq #[] } := Heap.get?_push_size _ rfl
  refine ⟨⟨_, hS, rfl⟩, F.args_list_init_2 _ _, ?_⟩
  have hst₁ := W.frame 0 s _ s.toks hst (Nat.le_refl _) fun b _ o e => Heap.get?_push_of_some { cls := .type "list", data := .seq #[] } e
  generalize hs1 : ({ s with heap := s.heap.push { cls := .type "list", data := .seq #[] } } : Shared) = s1 at *
  have hS1 : s1.heap.get? s.heap.objs.size = some { cls := .type "list", data := .seq #[] } := by rw [← hs1]; exact hS
  show wpAny _ _ (do let old ← Builtin.List.listItems (.ref s.heap.objs.size); Builtin.List.listUpdate (.ref s.heap.objs.size) (fun _ => #[]); letGo old.toList.reverse; Builtin.List.listExtendWith (.ref s.heap.objs.size) (.ref I) .none) _ _ s1
  refine wpAny_bind ?_
  unfold Builtin.List.listItems
  refine wpAny_bind (wpAny_seqItems hS1 rfl (wpAny_pure ?_))
  show wpAny _ _ (updateSeq s.heap.objs.size (fun _ => #[]) >>= fun _ => letGo (#[] : Array Value).toList.reverse >>= fun _ => Builtin.List.listExtendWith (.ref s.heap.objs.size) (.ref I) .none) _ _ s1
  refine wpAny_bind (wpAny_updateSeq hS1 rfl ?_)
  have hS₂ := Heap.get?_update_self (Obj.mapSeq (fun _ => (#[] : Array Value))) hS1 rfl
  have oth : ∀ b o, b ≠ s.heap.objs.size → s1.heap.get? b = some o → (s1.heap.update s.heap.objs.size (Obj.mapSeq (fun _ => (#[] : Array Value)))).get? b = some o :=
    fun b o hb e => (Heap.get?_update_other _ _ (Ne.symm hb)).trans e
  refine wpAny_bind (wpAny_letGo ?_)
  have hst₁' : St 0 s1 := hst₁
  refine extend_li W hT s.heap.objs.size .none _ (W.frame 0 s1 _ s1.toks hst₁' (Nat.le_refl _) fun b hb o e => oth b o (fun h => hSf (h ▸ hb)) e) hSf hI hS₂ (fun s' acc' c' hm hS' hacc => ⟨rfl, hQ s' acc' c' ?_ hS' hacc⟩) hn
  exact Moved.trans W.gtrans ((Moved.refl W.grefl).then_heap (Nat.le_refl _) fun b o hb e => oth b o (fun h => hb (h ▸ List.mem_cons_self)) e) hm

/-- list() of a list's iterator -/
theorem list_of_iter {h₀ : Heap} {L it l : Addr} {m : Str → Option Value} {news rest : List (Addr × Obj)} {k nl : Nat} {vs : Array Value} {Q : Value → Shared → Prop} (F : Fr h₀ L s.heap m) (N : News h₀ L s.heap news)
    (hi : (it, iterOf l k) ∈ news) (hs : ∀ p ∈ rest, p ∈ news) (hne : ∀ p ∈ rest, p.1 ≠ it) (hl : (l, listOf vs nl) ∈ rest) (hk : k ≤ vs.size) (hz : vs.size ≤ sizeLine) (H : HandL A rest)
    (h : ∀ D c h' tk, Fr h₀ L h' m → News h₀ L h' ((D, listOf (vs.toList.drop k).toArray c) :: rest) → (∀ p ∈ rest, p.1 < D) → Q (.ref D) { s with heap := h', toks := tk }) :
    wpAny (model prog w) A (call (.type "list") [.ref it]) Q E s := by
  have lt : ∀ p ∈ rest, p.1 < s.heap.objs.size := fun p hp => Heap.lt_size (N p (hs p hp)).1
  refine call_list_li (walks_iter (A := A.in1.in1) H hne hl hk) (fun i s st => ⟨_, st.1.choose_spec.1, st.1.choose_spec.2.1⟩) ⟨⟨_, (N _ hi).1, rfl, rfl⟩, fun p hp => (N p (hs p hp)).1⟩ (fun b hb => ?_) (.head _) (fun s' acc' c' hm hS' hacc => ?_) (Nat.le_trans (Nat.sub_le _ _) hz)
  · rcases List.mem_cons.mp hb with rfl | hb
    · exact Heap.lt_size (N _ hi).1
    · obtain ⟨p, hp, rfl⟩ := List.mem_map.mp hb
      exact lt p hp
  · obtain ⟨hs1, g1, d1, t1, o1⟩ := s'
    obtain ⟨m1, m2, m3, m4, m5⟩ := hm
    dsimp only at m1 m2 m3 m4 m5 hS'
    subst m2 m3 m4
    have keep : ∀ b o, b ≠ s.heap.objs.size → b ≠ it → s.heap.get? b = some o → hs1.get? b = some o := fun b o q1 q2 e => m1 b o (by simp [q1, q2]) (Heap.get?_push_of_some _ e)
    have hni : h₀.get? it = none := (N _ hi).2.2
    have F' : Fr h₀ L hs1 m := by
      obtain ⟨oL, es, ep, hL, r⟩ := F.ns
      refine ⟨⟨oL, es, ep, keep _ _ (Nat.ne_of_lt (Heap.lt_size hL)) (fun z => (N _ hi).2.1 z.symm) hL, r⟩, fun b o e => keep b o (Nat.ne_of_lt (Heap.lt_size (F.keep b o e))) (fun z => by rw [z, hni] at e; cases e) (F.keep b o e), F.above⟩
    have ea : acc' = (vs.toList.drop k).toArray := by
      refine Array.ext_getElem? fun j => ?_
      by_cases hj : j < acc'.size
      · have := hacc.2 j _ (Array.getElem?_eq_getElem hj)
        rw [Array.getElem?_eq_getElem hj, ← this]
        simp
      · have e1 : acc'[j]? = none := by simp; omega
        rw [e1]
        have := hacc.1
        symm
        simp
        omega
    subst ea
    have hnew : h₀.get? s.heap.objs.size = none := by
      cases q : h₀.get? s.heap.objs.size with
      | none => rfl
      | some o => exact absurd (Heap.lt_size (F.keep _ _ q)) (Nat.lt_irrefl _)
    exact h _ c' hs1 t1 F' (News.more F' (fun p hp => ⟨keep _ _ (Nat.ne_of_lt (lt p hp)) (hne p hp) (N p (hs p hp)).1, (N p (hs p hp)).2⟩) hS' (fun es n q => by cases q) hnew) lt
end

section
variable {prog : Program} {w : World} {A : Around} {E : Value → Shared → Prop} {s : Shared} {h₀ : Heap} {L l : Addr} {m : Str → Option Value} {news : List (Addr × Obj)} {vs : Array Value} {n : Nat}
theorem iter_of_list {Q : Value → Shared → Prop} (F : Fr h₀ L s.heap m) (N : News h₀ L s.heap news) (hl : (l, listOf vs n) ∈ news)
    (h : ∀ I h', Fr h₀ L h' m → News h₀ L h' ((I, iterOf l 0) :: news) → (∀ p ∈ news, p.1 < I) → Q (.ref I) { s with heap := h' }) : wpAny (model prog w) A (call (.builtin "iter") [.ref l]) Q E s := by
  refine call_function_entry (by decide +kernel) (by decide +kernel) kdk_entry_iter (kdk_args_iter _) ?_
  unfold Builtin.«iter»
  refine wpAny_bind (m := someArgs "iter" 1 2 _) (wpAny_of_eq (a := [Value.ref l]) (by first | rfl | kernel_rfl!) ?_)
  show wpAny _ _ (pyIter (.ref l) >>= _) _ _ _
  refine wpAny_bind (wpAny_pyIter_list (items := vs) ⟨_, (N _ hl).1, rfl, n, rfl⟩ ?_)
  exact wpAny_pure ⟨_, rfl, h _ _ (F.push _) (News.push F N _ rfl) fun q hq => Heap.lt_size (N q hq).1⟩
end
end Mine


set_option maxRecDepth 100000
namespace Mine

theorem typeCall_int_2 (a b : Value) : checkTypeCall "int" ⟨[a, b], []⟩ = pure () := by kernel_rfl
theorem newCall_int_2 (a b : Value) : checkBuiltinCall "int.__new__" ⟨[.type "int", a, b], []⟩ = pure () := by kernel_rfl

theorem init_3 (o a b : Value) : argsOk "object.__init__" ⟨[o, a, b], []⟩ := by kernel_rfl
/-- int.__new__ of a text and the base ten -/
theorem int_new_ten (x : Str) (u v : Tok) : Builtin.«int.__new__» ⟨[.type "int", .str x u, .int 10 v], []⟩ = ((int_private% "intFromText") (.str x u) (numTextOf x) 10 >>= fun r => ret r) := by kernel_rfl

theorem type_call_int (a b : Value) : Builtin.«type.__call__» ⟨[.type "int", a, b], []⟩ = (holding [.builtin "int.__new__"] (call (.builtin "int.__new__") [.type "int", a, b] []) >>= fun obj => do
  if !(← isInstance obj (.type "int")) then rule "type.call.new-gave-other-type"; return ← ret obj
  match ← holding [obj] (callSpecial? obj "__init__" [a, b] []) with
  | none => ret obj
  | some r =>
    if r != .none then
      rule "type.call.init-returned-value"
      raiseError "TypeError" s!"__init__() should return None, not '{← typeNameOf r}'"
    ret obj) := by kernel_rfl

def refuse (x : Str) (u : Tok) : Sem Value := do
  rule "int.__new__.invalid-literal"
  let shown ← pyRepr (.str x u)
  let refusal ← newExc (.type "ValueError") [← mkStr (((s!"invalid literal for int() with base {(10 : Nat)}: " : String) ++ (⟨shown.cps.extract 0 200⟩ : Str) : Str))]
  markTheRefusal ["int.__new__"] refusal
  raiseNew refusal

theorem from_text_bad (x : Str) (u : Tok) (text : List Nat) (hs : (text.takeWhile (· != 0)).length ≤ 640)
    (hr : (int_private% "readNumeral") 0 10 (text.takeWhile (· != 0)) = int_private% "Numeral.invalid" ∨ ∃ i, (int_private% "readNumeral") 0 10 (text.takeWhile (· != 0)) = (int_private% "Numeral.value") i ∧ ¬ ((text.takeWhile (· != 0)).length == text.length) = true) :
    (int_private% "intFromText") (.str x u) text 10 = refuse x u := by
  show (if _ then _ else _ : Sem Value) = _
  rw [if_pos hs]
  rcases hr with hr | ⟨i, hr, hn⟩
  · simp only [pure_bind, hr]
    rfl
  · simp only [pure_bind, hr, if_neg hn]
    rfl

section
variable {prog : Program} {w : World} {A : Around} {E : Value → Shared → Prop} {s : Shared} {Q : Value → Shared → Prop} {x : Str} {u : Tok}

theorem caller_any {Γ : PySem.Ctx} (h : Called Γ) (p : Pos) : pythonCodeMadeTheCall ["int.__new__"] (((Γ.code, p) :: Γ.below).map (·.1)) = false := by
  obtain ⟨c, hc, hi⟩ := h
  unfold pythonCodeMadeTheCall
  have : ((((Γ.code, p) :: Γ.below).map (·.1)).any fun c => match c with | .builtin "claim.caller" _ => true | _ => false) = true := by
    rw [List.any_eq_true]
    refine ⟨c, hc, ?_⟩
    unfold Code.isCaller at hi
    split at hi <;> simp_all
  refine Bool.and_eq_false_iff.mpr (.inl (Bool.and_eq_false_iff.mpr (.inl ?_)))
  exact congrArg (!·) this

theorem mark_called {e : Value} {Q : Unit → Shared → Prop} (h : Q () s) : wpC (model prog w) A (markTheRefusal ["int.__new__"] e) Q E s := fun Γ p hΓ hC => by
  unfold markTheRefusal
  rw [Sem.wp_bind']
  show Sem.wp _ Γ (.stack _) _ _ p s
  rw [Sem.wp_stack]
  show Sem.wp _ Γ (if pythonCodeMadeTheCall _ _ = true then _ else _) _ _ p s
  rw [caller_any hC p]
  exact h

theorem refused (hl : x.length ≤ 64) (hc : ∀ c ∈ x.cps.toList, c < 16 ^ 8) (hA : A.handled = none) (h : ∀ h' e tk', Heap.NewExc s.heap h' e "ValueError" → E (.ref e) { s with heap := h', toks := tk' }) : wpC (model prog w) A (refuse x u) Q E s := by
  have hr := StrLaws.reprText_len x hc
  unfold refuse
  refine wpC_bindL (wpAny_rule ?_)
  refine wpC_bindL (wpAny_pyRepr_str ?_ (fits (by omega)))
  refine wpC_bindL (wpAny_mkStr ?_ ?_)
  · refine wpC_bindL (wpAny_newExc_plain plainExc_ValueError fun h' e hm => ?_)
    refine wpC_bind (mark_called ?_)
    exact wpC_of_any (wpAny_raiseNew_none hA (h _ _ _ hm.newExc))
  · refine fits ?_
    rw [Str.length_append]
    have e1 : (Str.ofString (toString "invalid literal for int() with base " ++ toString (10 : Nat) ++ toString ": ")).length = 40 := by decide +kernel
    have e2 : (⟨(reprText x).cps.extract 0 200⟩ : Str).length ≤ 200 := by
      show ((reprText x).cps.extract 0 200).size ≤ 200
      rw [Array.size_extract]; omega
    refine Nat.le_trans (Nat.add_le_add (Nat.le_of_eq e1) e2) (by decide)

theorem codeC_call_builtin {id : String} {args : Args} {b : Builtin} {R : Result → Shared → Prop} (hq : plainId id = true) (hb : entryFor table id = some b) (hck : checkBuiltinCall id args = pure ())
    (h : wpC (model prog w) A.in1 (b args) (fun fin s' => match fin with | .done f => R (.ok f) s' | .again c' => c'.quiet = true ∧ codeC (model prog w) A c' R s') (fun e s' => R (.error e) s') s) :
    codeC (model prog w) A (.call (.builtin id) args) R s := by
  refine codeC_of_tree ?_
  show wpC _ A.in1 (do checkBuiltinCall id args; again (.builtin id args)) _ _ s
  rw [hck]
  refine wpC_bindL (wpAny_pure (wpC_of_any (wpAny_pure (And.intro (plainId_quiet hq args) (codeC_of_tree ?_)))))
  show wpC _ _ (match entryFor table id with | some b => b args | none => unsupported ((withoutEnding? id "#data").getD id)) _ _ s
  rw [hb, Around.under_plainId hq args]; exact h

theorem codeC_builtin {id : String} {args : Args} {b : Builtin} {R : Result → Shared → Prop} (hb : entryFor table id = some b)
    (h : wpC (model prog w) (A.under (.builtin id args)) (b args) (fun fin s' => match fin with | .done f => R (.ok f) s' | .again c' => c'.quiet = true ∧ codeC (model prog w) A c' R s') (fun e s' => R (.error e) s') s) :
    codeC (model prog w) A (.builtin id args) R s := by
  refine codeC_of_tree ?_
  show wpC _ _ (match entryFor table id with | some b => b args | none => unsupported ((withoutEnding? id "#data").getD id)) _ _ s
  rw [hb]; exact h

theorem int_call {v : Tok} {R : Result → Shared → Prop} (h : wpC (model prog w) A.in1 (call (.builtin "int.__new__") [.type "int", .str x u, .int 10 v] []) (fun _ _ => False) (fun e s' => R (.error e) s') s) :
    codeC (model prog w) A (.call (.type "int") ⟨[.str x u, .int 10 v], []⟩) R s := by
  refine codeC_of_tree ?_
  show wpC _ A.in1 (callAny (.type "int") _) _ _ s
  refine wpC_of_any (wpAny_pure ⟨Code.quiet_builtin _ (by decide +kernel), codeC_builtin F.entry_type_call ?_⟩)
  rw [Around.under_plain (weight_type_call_type "int" [.str x u, .int 10 v] []) (units_type_call_type "int" [.str x u, .int 10 v] [])]
  rw [type_call_int]
  exact wpC_bind (wpC_holding (wpC_mono h (fun _ _ q => q.elim) fun _ _ q => q))

theorem int_bad {v : Tok} (hl : x.length ≤ 64) (hc : ∀ c ∈ x.cps.toList, c < 16 ^ 8) (hn : PySem.intText? x = none) (hA : A.handled = none)
    (h : ∀ h' e tk', Heap.NewExc s.heap h' e "ValueError" → E (.ref e) { s with heap := h', toks := tk' }) : wpC (model prog w) A (call (.type "int") [.str x u, .int 10 v]) Q E s := by
  have hs : (numSeenOf x).length ≤ 640 := Nat.le_trans (seen_length x) (by omega)
  have hr : (int_private% "readNumeral") 0 10 (numSeenOf x) = int_private% "Numeral.invalid" ∨ ∃ i, (int_private% "readNumeral") 0 10 (numSeenOf x) = (int_private% "Numeral.value") i ∧ ¬ ((numSeenOf x).length == (numTextOf x).length) = true := by
    rcases read0 x hs with ⟨m, h1, -⟩ | ⟨-, h1⟩
    · rw [hn] at h1; cases h1
    · exact h1
  refine wpC_call (int_call (wpC_call (codeC_call_builtin (by decide +kernel) F.entry_int_new (newCall_int_2 _ _) ?_)))
  rw [int_new_ten, from_text_bad x u (numTextOf x) hs hr]
  exact wpC_bind (refused hl hc hA h)

theorem gives_ten {v : Tok} {n : Int} (hl : x.length ≤ 640) (hn : PySem.intText? x = some n) : Gives (Builtin.«int.__new__» ⟨[.type "int", .str x u, .int 10 v], []⟩) (.int n) :=
  .of_wp fun M A E s Q h => by
    have hs : (numSeenOf x).length ≤ 640 := Nat.le_trans (seen_length x) hl
    rw [int_new_ten]
    rcases read0 x hs with ⟨m, h1, h2, h3⟩ | ⟨h1, -⟩
    · rw [hn] at h1
      injection h1 with h1
      subst h1
      exact wpAny_bind (KIN.wp_text hs h3 h2 (wpAny_pure ⟨_, rfl, h⟩))
    · rw [hn] at h1; cases h1

theorem int_ok {v : Tok} {n : Int} (hl : x.length ≤ 640) (hn : PySem.intText? x = some n) (h : Q (.int n s.toks) { s with toks := s.toks + 1 }) : wpAny (model prog w) A (call (.type "int") [.str x u, .int 10 v]) Q E s :=
  callType_new F.called_int F.newNe_int (typeCall_int_2 _ _) (newCall_int_2 _ _) (fun obj => init_3 obj _ _) F.entry_int_new (gives_ten hl hn).meets (show (Made.int n).post _ s from ⟨rfl, h⟩)
end
end Mine


open PySem PySem.W PyProof.Rows
namespace Mine
set_option maxRecDepth 100000
set_option maxHeartbeats 8000000
/-- the part of the text that the walk may lean on -/
noncomputable def vw : Program := view PySem.Challenge.pw_dv0012_01 [1, 3, 4, 7, 8, 9]
abbrev lw : List Str := [Str.ofString "_binary_ops", Str.ofString "_c2py_ops", Str.ofString "_parse"]
abbrev rlw : OpenRow := PySem.Challenge.rw_dv0012_01.row
noncomputable abbrev xw : Shared → Bool := fun s => xlAt vw ([] : List (Str × WData)) s && recOk (RowW.records rlw.toRowW) s
local macro_rules | `(tactic| o_head $H) => `(tactic| (
  refine holds_both (q := vw) (loose := lw) (Xt := xw) (XP := XL vw ([] : List (Str × WData))) (Yf := Hook.obs $H) (Ya := Hook.val $H) (YP := Hook.says $H) (N := 1800) (Hook.of $H) (Hook.keeps $H)
    (fun s e => xl_of s (Bool.and_eq_true_iff.mp e).1) XL.keeps (by rfl) (by rfl) (by rfl) (fun s e => recFacts_of (Bool.and_eq_true_iff.mp e).2) (by rfl) (by first | assumption | decide +kernel) (by decide +kernel) ⟨rfl, rfl, rfl, rfl, rfl, by decide +kernel⟩ ?hw ?hc))
open_top hd0 for PySem.Challenge.rw_dv0012_01
theorem topOff : True := by
  w_top off
  trivial
theorem kAt (P : Params) : [2, 3, 6, 15, 17, 18, 20, 21, 31, 77, 78, 79, 81, 82, 84, 85, 86, 88, 89, 91, 92, 93, 95, 96, 98, 99, 100, 103, 104] = (hd0.heap_39 P).map (·.1) := by kernel_rfl
noncomputable abbrev hkw : Hook := kHook hd0.heap_39 [2, 3, 6, 15, 17, 18, 20, 21, 31, 77, 78, 79, 81, 82, 84, 85, 86, 88, 89, 91, 92, 93, 95, 96, 98, 99, 100, 103, 104] kAt
/-- the top's run, in one check of the kernel for each of the four kinds of world; the step function, its table and the looks by their quick twins -/
theorem left_ff (w : World) : OneW rlw.prog vw lw xw (Hook.obs hkw) (Hook.val hkw) 1800 ((w.withFollow "special-get-raises" false).withFollow "comprehension-iter-twice" false) := one_of (by
  unfold openEnds topFrom
  rw [PySem.W.Fast.te14082659384304107361, PySem.W.Fast.te14364793385576792824, PySem.W.Fast.te4187177175401517315]
  kernel_rfl)
theorem left_tf (w : World) : OneW rlw.prog vw lw xw (Hook.obs hkw) (Hook.val hkw) 1800 ((w.withFollow "special-get-raises" true).withFollow "comprehension-iter-twice" false) := one_of (by
  unfold openEnds topFrom
  rw [PySem.W.Fast.te14082659384304107361, PySem.W.Fast.te14364793385576792824, PySem.W.Fast.te4187177175401517315]
  kernel_rfl)
theorem left_ft (w : World) : OneW rlw.prog vw lw xw (Hook.obs hkw) (Hook.val hkw) 1800 ((w.withFollow "special-get-raises" false).withFollow "comprehension-iter-twice" true) := one_of (by
  unfold openEnds topFrom
  rw [PySem.W.Fast.te14082659384304107361, PySem.W.Fast.te14364793385576792824, PySem.W.Fast.te4187177175401517315]
  kernel_rfl)
theorem left_tt (w : World) : OneW rlw.prog vw lw xw (Hook.obs hkw) (Hook.val hkw) 1800 ((w.withFollow "special-get-raises" true).withFollow "comprehension-iter-twice" true) := one_of (by
  unfold openEnds topFrom
  rw [PySem.W.Fast.te14082659384304107361, PySem.W.Fast.te14364793385576792824, PySem.W.Fast.te4187177175401517315]
  kernel_rfl)
theorem left : LeftO rlw.prog vw lw xw (Hook.obs hkw) (Hook.val hkw) 1800 := left4 _ _ left_ff left_tf left_ft left_tt
theorem and_left {a b c : Prop} (h : a ∧ b → c) (x : a) (y : b) : c := h ⟨x, y⟩
def hd := and_left hd0 left
end Mine


set_option maxRecDepth 100000
set_option maxHeartbeats 8000000
namespace Mine
noncomputable abbrev PV : Program := vw
noncomputable abbrev LV : List Str := looseW vw [Str.ofString "_binary_ops", Str.ofString "_c2py_ops", Str.ofString "_parse"]
abbrev PR : Program := PySem.Challenge.pw_dv0012_01

/-- how a call came back -/
def Back (out : Out) (base h₀ : Heap) (env : Env) (outer : List Env) (L it l : Addr) (m : Str → Option Value) (k : Nat) (vs : Array Value) (ts : List Str) (rest : List (Addr × Obj)) (s : Shared) (Q E : Value → Shared → Prop) : Prop :=
  match out with
  | .ok t r => ∀ res t1 t2 tup h' tk', res.length + 16 * r.length + 16 ≤ 16 * ts.length → t.length ≤ 64 → r.length < ts.length → StrsAre (vs.toList.drop (k + (ts.length - r.length))) r → Fr h₀ L h' m → News h₀ L h' ((tup, tupOf [.str res t1, .str t t2]) :: (it, iterOf l (k + (ts.length - r.length))) :: rest) → Q (.ref tup) { s with heap := h', toks := tk' }
  | .err wd r => ∀ e t tk g h' tk', r.length < ts.length → Fr h₀ L g m → g.UpToSlots h' → RaisedX base (env :: outer) e t [.str wd tk] ((it, iterOf l (k + (ts.length - r.length))) :: rest) h' → E (.ref e) { s with heap := h', toks := tk' }

structure BaseOk (w : World) (mean : ExcName → Option Value) (mg mb : Str → Option Value) (base : Heap) : Prop where
  x : (hd0.heap_39 w.params).In base
  t : Top PV LV mean mg mb base

def PC (w : World) (n : Nat) : Prop := ∀ (pr : Int) (ts : List Str) (out : Out), Parse n pr ts out →
  ∀ (mean : ExcName → Option Value) (mg mb : Str → Option Value) (dp un : Nat) (gd : Option (List Code)) (cn : Str) (cs : Scope) (a : Addr) (ccd : Value) (cl : List (Str × Addr)) (outer : List Env) (A₀ : Around) (base h₀ : Heap) (L : Addr) (m : Str → Option Value)
    (it l : Addr) (k ne : Nat) (vs : Array Value) (rest : List (Addr × Obj)) (s : Shared) (args : List Value) (u : Tok) (Q E : Value → Shared → Prop),
    (args = [.ref it, .int pr u] ∨ (args = [.ref it] ∧ pr = -1)) → Below A₀ base outer h₀ → Fr h₀ L s.heap m → (hd0.heap_39 w.params).In h₀ → BaseOk w mean mg mb base → News h₀ L s.heap ((it, iterOf l k) :: rest) → (∀ p ∈ rest, p.1 ≠ it) → (l, listOf vs ne) ∈ rest →
    StrsAre (vs.toList.drop k) ts → Top PV LV mean mg mb h₀ → cs.kind = .function → dp + n + 5 < recursionLimit → un + 8 * n + 100 < cLine → (∀ t ∈ ts, t.length ≤ 64) → ts.length ≤ 80 →
    Back out base h₀ (envX cn cs L a ccd cl) outer L it l m k vs ts rest s Q E →
    wpC (model PR w) (ktrTop dp un gd cn cs L a ccd cl outer) (call (.ref 85) args) Q E s

theorem fill0 : (fun (_ : OpenLaw) (_ : Params → Frag) => True) PySem.Challenge.rw_dv0012_01 hd0.heap_39 := by k_fill; trivial
theorem opsMap {w : World} {h : Heap} (X : (hd0.heap_39 w.params).In h) : h.MapOf (strKind PR w) 31 opVal := by
  have q := mapOf_K (prog := PR) (w := w) X (a := 31) (by k_dflt k_is) (by k_keys)
  refine cast (congrArg _ (funext fun t => ?_)) q
  unfold opVal opLv opTab findBy
  rw [← Array.find?_toList]
  simp only [List.find?_cons, List.find?_nil, Value.isStrOf]
  repeat' split
  all_goals simp_all [opTk]

theorem c2pyMap {w : World} {h : Heap} (X : (hd0.heap_39 w.params).In h) : h.MapOf (strKind PR w) 77 c2py := by
  have q := mapOf_K (prog := PR) (w := w) X (a := 77) (by k_dflt k_is) (by k_keys)
  refine cast (congrArg _ (funext fun t => ?_)) q
  unfold c2py findBy
  rw [← Array.find?_toList]
  simp only [List.find?_cons, List.find?_nil, Value.isStrOf]
  repeat' split
  all_goals simp_all

theorem fill : (fun (_ : OpenLaw) (_ : Params → Frag) => True) PySem.Challenge.rw_dv0012_01 hd0.heap_39 := trivial
end Mine


set_option maxRecDepth 100000
set_option maxHeartbeats 8000000
namespace Mine
theorem fill1 : (fun (_ : OpenLaw) (_ : Params → Frag) => True) PySem.Challenge.rw_dv0012_01 hd0.heap_39 := by k_fill; trivial

local macro_rules | `(tactic| walk_at "call type:ValueError") => `(tactic| (k_dflt (refine' call_VE ?F ?N ?z ?_; (case F => k_asm); (case N => k_asm); (case z => exact Nat.le_of_ble_eq_true rfl)); intro e' b' h' F' N' ne' ke'; (try k_sweep)))

theorem error_call {w : World} {mean : ExcName → Option Value} {mg mb : Str → Option Value} {dp un : Nat} {gd : Option (List Code)} {hd' : Option Value} {cn : Str} {cs : Scope} {a : Addr} {ccd : Value} {cl : List (Str × Addr)} {outer : List Env} {A₀ : Around} {base h₀ : Heap} {L : Addr} {m : Str → Option Value}
    {news : List (Addr × Obj)} {s : Shared} {t : Str} {tk : Tok} {Q E : Value → Shared → Prop}
    (B : Below A₀ base outer h₀) (F : Fr h₀ L s.heap m) (X : (hd0.heap_39 w.params).In h₀) (N : News h₀ L s.heap news) (T : Top PV LV mean mg mb h₀) (hk : cs.kind = .function) (hdp : dp + 5 < recursionLimit) (hun : un + 100 < cLine) (hlen : t.length ≤ 100)
    (h : ∀ e b tw h' tk', Fr h₀ L h' m → News h₀ L h' ((e, excOf b) :: (b, tupOf [.str (errWords t) tw]) :: news) → (∀ p ∈ news, p.1 ≠ e ∧ p.1 ≠ b) → Q (.ref e) { s with heap := h', toks := tk' }) :
    wpAny (model PR w) { handled := hd', depth := dp, frames := some (envX cn cs L a ccd cl :: outer), guards := gd, units := un } (call (.ref 21) [.str t tk]) Q E s := by
  refine wpAny_call ?_
  k_dflt (refine' code_def (binds := [(Str.ofString "value", .str t tk)]) ?k1 ?k2 ?k3 ?k4 ?k5 ?kA ?kF ?kK ?k6 ?k7 ?k8 ?k9 ?kB ?_ ?c2 ?c3 ?c4 ?c5; (case kA => exact rfl); (case kF => exact rfl); (case kK => assumption); (case k1 => k_asm); (case k2 => k_asm); (case k3 => exact X); (case k4 => k_asm); (case k5 => exact T); (case k6 => k_is); (case k7 => k_is); (case k8 => (show dp < recursionLimit; omega)); (case k9 => exact BindsTo.of_eq rfl); (case c5 => decide); (case kB => exact locs rfl); (case c2 => exact rfl); (case c3 => exact rfl); (case c4 => exact rfl); k_whole; intro g' L' h' FG' F' N' B' X' T')
  dsimp only
  clear B X T N
  k_fold
  (iterate 7 walk1)
  · (iterate 12 walk1)
    refine call_VE (by k_asm) (by k_asm) (fits (by simp)) ?_
    intro e b h2 F2 N2 hne2 _
    k_unfold
    refine leaveK_ F2 N2 ?_
    intro kF kN
    rename ((t.length : Int) ≠ 0) => hl
    rw [← errWords_ne hl] at kN
    exact h e b _ _ _ kF kN hne2
  · (iterate 9 walk1)
    refine call_VE (by k_asm) (by k_asm) (fits (by simp)) ?_
    intro e b h2 F2 N2 hne2 _
    k_unfold
    refine leaveK_ F2 N2 ?_
    intro kF kN
    rename ((t.length : Int) = 0) => hl
    rw [← errWords_eq hl] at kN
    exact h e b _ _ _ kF kN hne2
end Mine


set_option maxRecDepth 100000
set_option maxHeartbeats 8000000
namespace Mine
theorem fill' : (fun (_ : OpenLaw) (_ : Params → Frag) => True) PySem.Challenge.rw_dv0012_01 hd0.heap_39 := by k_fill; trivial

local macro_rules | `(tactic| walk_at "call builtin:next") => `(tactic| (k_here; (with_reducible show wpAny _ _ (call (Value.builtin "next") [Value.ref _]) _ _ _); k_dflt (refine' next_list ?F ?N ?i ?s ?ne ?l ?x ?_; (case F => k_asm); (case N => k_asm); (case ne => assumption); (case i => k_mem); (case l => assumption); (case x => assumption); (case s => (intro p hp; first | exact hp | exact .tail _ hp | exact .tail _ (.tail _ hp) | exact .tail _ (.tail _ (.tail _ hp)))); k_whole); intro h' F' N'; (try k_sweep)))

local macro_rules | `(tactic| walk_at "exec While") => `(tactic| (refine halt ?_))

local macro_rules | `(tactic| walk_at "exec If") => `(tactic| ((with_reducible show wpAny _ _ (exec (Stmt.If _ _ _ (Pos.mk 49 _ _ _)) _) _ _ _); (with_reducible rename Gate 49 => gg); refine halt ?_))


local macro_rules | `(tactic| walk_at "le") => `(tactic| ((with_reducible show _ ≤ sizeLine); refine fits ?_; (try simp only [Str.length_append, len_empty, len_lp, len_rp, len_n, len_sp, len_if, len_else]); omega))

theorem exc_ne_tup {h : Heap} {e b b' : Addr} {vs : List Value} (h1 : h.get? e = some (excOf b)) (h2 : h.get? b' = some (tupOf vs)) : b' ≠ e := by
  rintro rfl
  rw [h1] at h2
  have := congrArg Obj.data (Option.some.inj h2)
  simp at this

theorem small_text {v : Int} (h0 : 0 ≤ v) (h9 : v < 1000) : (Str.ofString (toString v)).length ≤ 4 := by
  rw [PySem.ofString_length]
  exact int_text_length_le10 (k := 3) (by decide) (by omega)

local macro_rules | `(tactic| walk_at "compareOp In str ref") => `(tactic| ((with_reducible show wpAny _ _ (compareOp CmpOp.In (Value.str _ _) (Value.ref 31)) _ _ _); k_dflt (refine in_map (opsMap (Frag.In.keeps (by k_asm) (Fr.keep (by k_asm)))) (by decide) ?_)))
local macro_rules | `(tactic| walk_at "subscriptTail") => `(tactic| ((with_reducible show wpAny _ _ (subscriptTail _ _ (Value.ref 31) (Value.str _ _)) _ _ _); k_dflt (refine' item_map (opsMap (Frag.In.keeps (by k_asm) (Fr.keep (by k_asm)))) ?v ?_ ?s ?g; (case v => assumption); (case s => with_unfolding_all rfl); (case g => (intro _; with_unfolding_all rfl)))))
local macro_rules | `(tactic| walk_at "getMethod ref") => `(tactic| ((with_reducible show wpAny _ _ (getMethod (Value.ref 77) _ _) _ _ _); k_dflt (refine meth_map (c2pyMap (Frag.In.keeps (by k_asm) (Fr.keep (by k_asm)))) ?_)))
local macro_rules | `(tactic| walk_at "call builtin:dict.get") => `(tactic| ((with_reducible show wpAny _ _ (call (Value.builtin "dict.get") [Value.ref 77, _, _]) _ _ _); k_dflt (refine get_map (c2pyMap (Frag.In.keeps (by k_asm) (Fr.keep (by k_asm)))) (by decide) ?_)))

theorem adv {k a b c : Nat} (h1 : b < a) (h2 : c < b) : k + (a - b) + (b - c) = k + (a - c) := by omega
theorem dp_le {dp n c : Nat} (h : dp + (n + 1) + 5 < c) : dp + 1 + n + 5 < c := by omega
theorem un_le {un n c : Nat} (h : un + 8 * (n + 1) + 100 < c) : un + 3 + 8 * n + 100 < c := by omega
theorem dp_er {dp n c : Nat} (h : dp + (n + 1) + 5 < c) : dp + 1 + 5 < c := by omega
theorem un_er {un n c : Nat} (h : un + 8 * (n + 1) + 100 < c) : un + 3 + 100 < c := by omega
theorem le_of {a b c : Nat} (h : a < b) (h' : b ≤ c) : a ≤ c := by omega

theorem made_news {g h h' : Heap} {L e : Addr} {m : Str → Option Value} {vs : List Value} {news : List (Addr × Obj)} (hm : Heap.MadeExc h h' e "ValueError" vs) (F : Fr g L h m) (N : News g L h news) :
    ∃ b, Fr g L h' m ∧ News g L h' ((e, excOf b) :: (b, tupOf vs) :: news) ∧ ∀ p ∈ news, p.1 ≠ e ∧ p.1 ≠ b := by
  obtain ⟨t, he, htn, ht⟩ := hm.there
  have F' : Fr g L h' m := F.keeps hm.keeps
  have N' : News g L h' news := fun p hp => ⟨hm.keeps _ _ (N p hp).1, (N p hp).2⟩
  have fresh : ∀ b, h.get? b = none → g.get? b = none := fun b hb => by
    cases q : g.get? b with
    | none => rfl
    | some o => have := F.keep b o q; rw [hb] at this; cases this
  refine ⟨t, F', News.more F' (News.more F' N' ht (fun es n q => by cases q) (fresh t htn)) he (fun es n q => by cases q) (fresh e hm.new), fun p hp => ⟨fun q => ?_, fun q => ?_⟩⟩
  · have := (N p hp).1; rw [q, hm.new] at this; cases this
  · have := (N p hp).1; rw [q, htn] at this; cases this

theorem pc_succ {w : World} {n : Nat} (IH : PC w n) : PC w (n + 1) := by
  intro pr ts out hP mean mg mb dp un gd cn cs a ccd cl outer A₀ base h₀ L m it l k ne vs rest s args u Q E hargs B F X XB N hne hl hts T hk hdp hun hlen htl hback
  have hP' : ParseS (Parse n) pr ts out := hP
  clear hP
  refine wpC_call ?_
  k_dflt (refine' codeC_K (binds := [(Str.ofString "tokens", .ref it), (Str.ofString "priority", .int pr (if args.length = 2 then u else 267))]) ?k1 ?k2 ?k3 ?k4 ?k5 ?kA ?kF ?kK ?k6 ?k7 ?k8 ?k9 ?kB ?_ ?c2 ?c3 ?c4 ?c5; (case kA => exact rfl); (case kF => exact rfl); (case kK => assumption); (case k1 => k_asm); (case k2 => k_asm); (case k3 => exact X); (case k4 => k_asm); (case k5 => exact T); (case k6 => k_is); (case k7 => k_is); (case k8 => ktr_room); (case k9 => (rcases hargs with rfl | ⟨rfl, rfl⟩ <;> exact binds_K (by k_in) rfl (by k_is) rfl rfl rfl)); (case c5 => decide); (case kB => exact locs rfl); (case c2 => exact rfl); (case c3 => exact rfl); (case c4 => exact rfl); k_whole; intro g' L' h' FG' F' N' B' X' T')
  generalize (if args.length = 2 then u else 267) = u' at F' ⊢
  dsimp only
  clear B X T N
  obtain ⟨ts', hBang, hO⟩ : ∃ ts', Bangs ts ts' ∧ ((∃ wd r1, Opd (Parse n) ts' (some wd) r1 ∧ out = .err wd r1) ∨ (∃ t1 r1, Opd (Parse n) ts' none (t1 :: r1) ∧ Goes (Parse n) pr t1 r1 out)) := by
    cases hP' with
    | opd b o => exact ⟨_, b, .inl ⟨_, _, o, rfl⟩⟩
    | ops b o p => exact ⟨_, b, .inr ⟨_, _, o, .err p⟩⟩
    | all b o p q => exact ⟨_, b, .inr ⟨_, _, o, .ok p q⟩⟩
  clear hP'
  obtain ⟨t0, r0, hts0⟩ : ∃ t0 r0, ts = t0 :: r0 := by cases hBang <;> exact ⟨_, _, rfl⟩
  obtain ⟨tk0, hx0, hs0⟩ := strs_head (hts0 ▸ hts)
  refine wpC_named ?_
  intro qk ek hq he
  refine wpC_execs_consL ?_
  k_steps
  refine wpC_execs_consL ?_
  k_steps
  rename Fr g' L' _ _ => F0
  rename News g' L' _ _ => N0
  refine wpC_execs_consL (mid_cut (fun f s' => Halt (f = .next ∧ ∃ t r, ts' = t :: r ∧ t ≠ Str.ofString "!" ∧ PSt g' L' it l k vs ts rest pr u' s t r 16 s')) ?_ ?_)
--A{
  · refine whl_start 0 (whl_ind (fun b s' => ∃ t r, b = (t :: r).length ∧ Bangs (t :: r) ts' ∧ PSt g' L' it l k vs ts rest pr u' s t r 16 s') (t0 :: r0).length ?_ ?_ ?_)
    · have e1 : ts.length - r0.length = 1 := by rw [hts0, List.length_cons]; omega
      refine ⟨t0, r0, rfl, hts0 ▸ hBang, _, _, Str.ofString "", _, tk0, _, rfl, hlen t0 (by rw [hts0]; exact .head _), ?_, ?_, ?_, pin4 F0 rfl rfl rfl rfl, ?_⟩
      · rw [hts0, List.length_cons]; omega
      · rw [hts0, List.length_cons]; show 0 + _ + _ ≤ _; omega
      · rw [e1]; exact hs0
      · rw [e1]; exact N0
    · rw [he]; with_unfolding_all passes_own
    · clear F0 N0
      rintro b _ ⟨t, r, hb, hB, h1, tk1, res, rt, tt, x, rfl, htl1, hr, hres, hS, F1, N1⟩
      clear hx0 hs0
      k_steps
      cases hB with
      | nil hn =>
        refine WhlIf.no (by simpa using hn) ?_
        k_steps
        exact ⟨rfl, t, r, rfl, hn, _, _, res, rt, tt, x, rfl, htl1, hr, hres, hS, F1, N1⟩
      | cons hB' =>
        obtain ⟨t2, r2, hr2⟩ : ∃ t2 r2, r = t2 :: r2 := by cases hB' <;> exact ⟨_, _, rfl⟩
        subst hr2
        obtain ⟨tk2, hx2, hs2⟩ := strs_head hS
        refine WhlIf.yes rfl ?_
        k_steps
        rename Fr g' L' _ _ => F2
        rename News g' L' _ _ => N2
        have e2 : k + (ts.length - (t2 :: r2).length) + 1 = k + (ts.length - r2.length) := by rw [List.length_cons] at hr ⊢; omega
        refine ⟨(t2 :: r2).length, by rw [hb]; exact Nat.lt_succ_self _, t2, r2, rfl, hB', _, _, res ++ Str.ofString "not ", _, tk2, _, rfl, hlen t2 (strs_sub hts hS t2 (.head _)), ?_, ?_, e2 ▸ hs2, pin4 F2 rfl rfl rfl rfl, e2 ▸ N2⟩
        · rw [List.length_cons] at hr; omega
        · have e4 : (Str.ofString "not ").length = 4 := by decide
          rw [List.length_cons] at hres
          rw [Str.length_append]
          omega
--A}
  rintro _ s1 ⟨rfl, t, r, rfl, htn, h1, tk1, res, rt, tt, x, rfl, htl1, hr, hres, hS, F1, N1⟩
  clear hx0 hs0 F0 N0
  dsimp only
  refine wpC_execs_cons (wpC_cut (fun f s' => Halt (f = .next ∧ ∃ t' t1 r1, Goes (Parse n) pr t1 r1 out ∧ PSt g' L' it l k vs ts rest pr u' s t' (t1 :: r1) 8 s')) ?_ ?_)
--A{
  · rcases hO with ⟨wd, r1, hO, rfl⟩ | ⟨t1, r1, hO, hG⟩
    · cases hO with
      | unb hp hn =>
        replace hn := ne_bool' hn
        refine wpC_If ?_
        k_steps
        refine wpC_execs_cons (wpC_AssignTuple (wpC_callK F1 X' (topRead_of T') rfl rfl ?_))
        k_steps
        refine IH (-1) r _ hp mean mg mb (dp + 1) (un + 3) gd _ _ _ _ [] _ _ base g' L' _ it l (k + (ts.length - r.length)) ne vs rest _ _ 0 _ _ (Or.inr ⟨rfl, rfl⟩) B' F1 X' XB N1 hne hl hS T' rfl (dp_le hdp) (un_le hun) (fun t ht => hlen t (strs_sub hts hS t ht)) (le_of (by first | assumption | exact Nat.lt_trans (by assumption) hr) htl) ?_
        intro res2 t1 t2 tup h2 tk2 hb1 hb0 hb2 S2 F2 N2
        clear N1
        k_steps
        refine wpC_of_any ?_
        k_steps
        rename Fr g' L' _ _ => F6
        rename News g' L' _ _ => N6
        rename Heap.MadeExc _ _ _ _ _ => X7
        obtain ⟨b7, F7, N7, ne7⟩ := made_news X7 F6 N6
        rw [he]
        dsimp only
        refine leave_genX B' F7 N7 ne7 rfl rfl rfl rfl rfl rfl rfl (.inl rfl) ?_
        intro h9 R9 U9
        have e3 : k + (ts.length - r.length) + (r.length - r1.length) = k + (ts.length - r1.length) := adv (by first | assumption | exact Nat.lt_trans (by assumption) hr) (by assumption)
        exact hback _ _ _ _ _ _ (by first | assumption | exact Nat.lt_trans (by assumption) hr | omega) FG' U9 (e3 ▸ raisedX_sub (fun p hp => .tail _ hp) R9)
      | inner hp =>
        refine wpC_never (wpC_If ?_)
        k_steps
        refine wpC_execs_consE (wpC_AssignTuple (wpC_callK F1 X' (topRead_of T') rfl rfl ?_))
        k_steps
        refine IH (-1) r _ hp mean mg mb (dp + 1) (un + 3) gd _ _ _ _ [] _ _ base g' L' _ it l (k + (ts.length - r.length)) ne vs rest _ _ 0 _ _ (Or.inr ⟨rfl, rfl⟩) B' F1 X' XB N1 hne hl hS T' rfl (dp_le hdp) (un_le hun) (fun t ht => hlen t (strs_sub hts hS t ht)) (le_of (by first | assumption | exact Nat.lt_trans (by assumption) hr) htl) ?_
        intro e t1 tk2 g2 h2 tk3 hb2 F2 U2 R2
        rw [he]
        dsimp only
        refine leave_onX B' F2 R2 U2 ?_
        intro h3 R3 U3
        have e3 : k + (ts.length - r.length) + (r.length - r1.length) = k + (ts.length - r1.length) := adv (by first | assumption | exact Nat.lt_trans (by assumption) hr) (by assumption)
        exact hback _ _ _ _ _ _ (by first | assumption | exact Nat.lt_trans (by assumption) hr | omega) FG' U3 (e3 ▸ R3)
      | bad h1 h2 h3 hi =>
        replace h2 := ne_bool h2
        replace h3 := ne_bool h3
        refine wpC_never (wpC_If ?_)
        k_steps
        refine WhlIf.no h2 ?_
        refine wpC_execs_consE (wpC_If ?_)
        k_steps
        refine WhlIf.no h3 ?_
        refine wpC_execs_consE (wpC_Try ?_)
        refine wpC_execs_consE (wpC_AssignName ?_)
        rw [arm_eval_Call_Name']
        refine wpC_bindL ?_
        k_steps
        refine wpC_callType ?_
        k_steps
        refine int_bad htl1 hi.2 hi.1 rfl ?_
        intro h5 e5 tk5 hx5
        refine catch_own B' F1 N1 hx5 (topRead_of XB.t) ?_ (hE := by rw [he]; with_unfolding_all passes_own)
        intro g2 h6 oe ws B2 F2 N2 U2 hc2 hd2 hw2 nn2
        have X2 := XB.x.keeps B2.stays
        have T2 := XB.t.keeps B2.stays
        have hUU := U2
        clear U2
        refine wpAny_execs_cons ?_
        refine raise_from_none rfl ?_
        clear F1 N1 X' T' hx5
        k_steps
        refine error_call (dp := dp + 1) (un := un + 3) B2 F2 X2 N2 T2 rfl (dp_er hdp) (un_er hun) (Nat.le_trans htl1 (by decide)) ?_
        intro e7 b7 tw7 h7 tk7 F7 N7 ne7
        have hb7 : b7 ≠ e7 := exc_ne_tup (N7 _ (.head _)).1 (N7 _ (.tail _ (.head _))).1
        refine ⟨e7, b7, oe, ws, rfl, (N7 _ (.head _)).1, fun q => (ne7 _ (.head _)).1 q.symm, (N7 _ (.tail _ (.tail _ (.head _)))).1, hd2, hw2, ?_⟩
        intro h8 he8 sb8
        rw [he]
        dsimp only
        have F8 : Fr g2 L' h8 _ := F7.change sb8 (N7 _ (.head _)).2.1 (N7 _ (.head _)).2.2
        have N8 := News.setHead N7 (fun p hp => by
          rcases List.mem_cons.mp hp with rfl | hp
          · exact hb7
          · exact (ne7 p hp).1) sb8 he8
        refine leave_genX B2 F8 N8 (fun p hp => ne7 p hp) rfl rfl rfl rfl rfl rfl rfl (.inr ⟨_, _, _, rfl, .head _, hd2, hw2⟩) ?_
        intro h9 R9 U9
        exact hback _ _ _ _ _ _ (by first | assumption | exact Nat.lt_trans (by assumption) hr | omega) FG' (hUU.trans U9) (raisedX_sub (fun p hp => .tail _ hp) R9)
    · cases hO with
      | par hp =>
        refine wpC_If ?_
        k_steps
        refine wpC_execs_cons (wpC_AssignTuple (wpC_callK F1 X' (topRead_of T') rfl rfl ?_))
        k_steps
        refine IH (-1) r _ hp mean mg mb (dp + 1) (un + 3) gd _ _ _ _ [] _ _ base g' L' _ it l (k + (ts.length - r.length)) ne vs rest _ _ 0 _ _ (Or.inr ⟨rfl, rfl⟩) B' F1 X' XB N1 hne hl hS T' rfl (dp_le hdp) (un_le hun) (fun t ht => hlen t (strs_sub hts hS t ht)) (le_of (by first | assumption | exact Nat.lt_trans (by assumption) hr) htl) ?_
        intro res2 tk1' tk2' tup h2 tk2 hb1 hb0 hb2 S2 F2 N2
        clear N1
        k_steps
        refine wpC_of_any ?_
        k_steps
        rename Fr g' L' _ _ => F3
        rename News g' L' _ _ => N3
        have e3 : k + (ts.length - r.length) + (r.length - (t1 :: r1).length) = k + (ts.length - (t1 :: r1).length) := adv (by first | assumption | exact Nat.lt_trans (by assumption) hr) (by assumption)
        rw [e3] at N3 S2
        refine ⟨rfl, Str.ofString ")", t1, r1, hG, _, _, _, _, _, _, rfl, by decide, by omega, ?_, S2, pin4 F3 rfl rfl rfl rfl, news_sub N3 (fun p hp => .tail _ hp)⟩
        simp only [Str.length_append, len_empty, len_lp, len_rp]; omega
      | var =>
        refine wpC_of_any ?_
        k_steps
        rename Fr g' L' _ _ => F3
        rename News g' L' _ _ => N3
        refine ⟨rfl, Str.ofString "n", t1, r1, hG, _, _, _, _, _, _, rfl, by decide, hr, ?_, hS, pin4 F3 rfl rfl rfl rfl, N3⟩
        simp only [Str.length_append, len_empty, len_n]; omega
      | num h1 h2 h3 hi h0 h9 =>
        replace h2 := ne_bool h2
        replace h3 := ne_bool h3
        refine wpC_of_any ?_
        k_steps
        refine int_ok (Nat.le_trans htl1 (by decide)) hi ?_
        k_steps
        rename Fr g' L' _ _ => F3
        rename News g' L' _ _ => N3
        refine ⟨rfl, t, t1, r1, hG, _, _, _, _, _, _, rfl, htl1, hr, ?_, hS, pin4 F3 rfl rfl rfl rfl, news_sub N3 (fun p hp => .tail _ hp)⟩
        have q := small_text h0 h9
        simp only [Str.length_append]; omega
--A}
  rintro _ s2 ⟨rfl, t', t1, r1, hG, h2, tk2, res2, rt2, tt2, x2, rfl, -, hr2, hres2, hS2, F2, N2⟩
  obtain ⟨tk3, hx3, hs3⟩ := strs_head hS2
  clear F1 N1 hO
  dsimp only
  refine wpC_execs_consL ?_
  k_steps
  refine wpC_execs_consL ?_
  k_steps
  rename Fr g' L' _ _ => F0
  rename News g' L' _ _ => N0
  refine wpC_execs_cons (wpC_cut (fun f s' => Halt (f = .next ∧ ∃ t' r', Tail (Parse n) pr t' r' out ∧ PStJ g' L' it l k vs ts rest pr u' s t' r' 24 s')) ?_ ?_)
--A{
  · refine wpC_While (fun b s' => ∃ t r, b = r.length ∧ Goes (Parse n) pr t r out ∧ PStJ g' L' it l k vs ts rest pr u' s t r 24 s') r1.length ?_ ?_ ?_
    · have e1 : k + (ts.length - (t1 :: r1).length) + 1 = k + (ts.length - r1.length) := by rw [List.length_cons] at hr2 ⊢; omega
      rw [e1] at hs3 N0
      rw [List.length_cons] at hr2 hres2
      exact ⟨t1, r1, rfl, hG, _, _, res2, _, _, _, _, _, rfl, hlen t1 (strs_sub hts hS2 t1 (.head _)), by omega, by omega, hs3, pin5 F0 rfl rfl rfl rfl rfl, N0⟩
    · rw [he]; with_unfolding_all passes_own
    · clear hx3 hs3 hS2 hG F0 N0
      rintro b _ ⟨t, r, rfl, hG, h3, tk3, res, rt, tt, j, jt, x, rfl, htl1, hr, hres, hS, F3, N3⟩
      k_steps
      rcases goes_cases hG with ⟨ho, hT⟩ | ⟨i, ho, hi, hT⟩ | hgo
      · refine WhlIf.no (by rw [opVal_none ho]; rfl) ?_
        k_steps
        exact ⟨rfl, t, r, hT, _, _, res, rt, tt, j, jt, x, rfl, htl1, hr, hres, hS, F3, N3⟩
      · have hv := opVal_some ho
        refine WhlIf.yes (by rw [hv]; rfl) (wpC_of_any ?_)
        k_steps
        rename Fr g' L' _ _ => F4
        rename News g' L' _ _ => N4
        exact ⟨rfl, t, r, hT, _, _, res, _, _, j, _, _, rfl, htl1, hr, hres, hS, pin5 F4 rfl rfl rfl rfl rfl, N4⟩
      · obtain ⟨i, ho, hi⟩ : ∃ i, opLv t = some i ∧ pr ≤ i := by
          rcases hgo with ⟨i, t', r', ho, hi, -⟩ | ⟨i, wd, r', ho, hi, -⟩ <;> exact ⟨i, ho, hi⟩
        have hv := opVal_some ho
        obtain ⟨o, ot, hop, hol⟩ := c2py_len (tk := tt) (op_len ho).1
        refine WhlIf.yes (by rw [hv]; rfl) ?_
        refine wpC_execs_consL ?_
        k_steps
        refine wpC_execs_consL ?_
        k_steps
        rename Fr g' L' _ _ => F4
        rename News g' L' _ _ => N4
        refine wpC_execs_consL (mid_cut (fun f s' => Halt (f = .next ∧ ∃ h' tk res' rt' x', s' = { s with heap := h', toks := tk } ∧ res'.length ≤ res.length + 2 ∧ Fr g' L' h' (fun y => if y = Str.ofString "i" then some (.int i (opTk i)) else M5 it pr u' t tt res' rt' j jt x' y) ∧ News g' L' h' ((it, iterOf l (k + (ts.length - r.length))) :: rest))) ?_ ?_)
        · k_steps
          all_goals (
            rename Fr g' L' _ _ => F5
            rename News g' L' _ _ => N5
            refine ⟨rfl, _, _, _, _, _, rfl, ?_, pin (pin5 F5 rfl rfl rfl rfl rfl) rfl, news_sub N5 (fun p hp => by first | exact hp | exact .tail _ hp | exact .tail _ (.tail _ hp))⟩
            first | omega | (simp only [Str.length_append, len_lp, len_rp]; omega))
        rintro _ s5 ⟨rfl, h5, tk5, res5, rt5, x5, rfl, hres5, F5, N5⟩
        clear F4 N4
        dsimp only
        refine wpC_execs_consL ?_
        k_steps
        rename Fr g' L' _ _ => F6
        rename News g' L' _ _ => N6
        rw [hop] at F6
        refine wpC_execs_cons (wpC_AssignTuple (wpC_callK F6 X' (topRead_of T') rfl rfl ?_))
        k_steps
        rcases hgo with ⟨i', t', r', ho', -, hp, hG'⟩ | ⟨i', wd, r', ho', -, hp, rfl⟩
        all_goals (
          obtain rfl : i' = i := Option.some.inj (ho'.symm.trans ho)
          refine IH (i' + 1) r _ hp mean mg mb (dp + 1) (un + 3) gd _ _ _ _ [] _ _ base g' L' _ it l (k + (ts.length - r.length)) ne vs rest _ _ _ _ _ (Or.inl rfl) B' F6 X' XB N6 hne hl hS T' rfl (dp_le hdp) (un_le hun) (fun t ht => hlen t (strs_sub hts hS t ht)) (le_of (by first | assumption | exact Nat.lt_trans (by assumption) hr) htl) ?_)
        · intro res4 t4 t5 tup h5 tk5 hb1 hb0 hb2 S5 F5 N5
          clear N6
          k_steps
          refine wpC_of_any ?_
          k_steps
          rename Fr g' L' _ _ => F6
          rename News g' L' _ _ => N6
          have e3 : k + (ts.length - r.length) + (r.length - r'.length) = k + (ts.length - r'.length) := adv (by first | assumption | exact Nat.lt_trans (by assumption) hr) (by assumption)
          rw [e3] at S5 N6
          refine ⟨r'.length, hb2, t', r', rfl, hG', _, _, _, _, _, _, _, _, rfl, hb0, by omega, ?_, S5, pin5 F6 rfl rfl rfl rfl rfl, news_sub N6 (fun p hp => .tail _ hp)⟩
          simp only [Str.length_append, len_empty, len_sp, len_lp, len_rp]
          omega
        · intro e t1 tk2 g2 h2 tk3 hb2 F2 U2 R2
          rw [he]
          dsimp only
          refine leave_onX B' F2 R2 U2 ?_
          intro h3 R3 U3
          have e3 : k + (ts.length - r.length) + (r.length - r'.length) = k + (ts.length - r'.length) := adv (by first | assumption | exact Nat.lt_trans (by assumption) hr) (by assumption)
          exact hback _ _ _ _ _ _ (by first | assumption | exact Nat.lt_trans (by assumption) hr | omega) FG' U3 (e3 ▸ R3)
--A}
  rintro _ s3 ⟨rfl, t, r, hT, h3, tk3, res, rt, tt, j, jt, x, rfl, htl1, hr, hres, hS, F3, N3⟩
  clear hx3 hs3 hS2 F0 N0
  dsimp only
  refine wpC_execs_consL (mid_cut (fun f s' => Halt (f = .next ∧ PSt g' L' it l k vs ts rest pr u' s t r 20 s')) ?_ ?_)
--A{
  · k_steps
    all_goals (
      rename Fr g' L' _ _ => F4
      rename News g' L' _ _ => N4
      refine ⟨rfl, _, _, _, _, _, _, rfl, htl1, hr, ?_, hS, pin4 F4 rfl rfl rfl rfl, N4⟩
      first | omega | (simp only [Str.length_append, len_lp, len_rp]; omega))
--A}
  rintro _ s4 ⟨rfl, h4, tk4, res4, rt4, tt4, x4, rfl, -, -, hres4, -, F4, N4⟩
  clear F3 N3
  dsimp only
  refine wpC_execs_cons (wpC_cut (fun f s' => Halt (f = .next ∧ ∃ t1 r1, out = .ok t1 r1 ∧ PSt g' L' it l k vs ts rest pr u' s t1 r1 16 s')) ?_ ?_)
--A{
  · cases hT with
    | plain hq =>
      refine wpC_of_any ?_
      by_cases hq1 : t = Str.ofString "?"
      · have hq2 : ¬ pr ≤ 0 := fun q => hq ⟨hq1, q⟩
        subst hq1
        k_steps
        rename Fr g' L' _ _ => F5
        rename News g' L' _ _ => N5
        exact ⟨rfl, _, r, rfl, _, _, _, _, _, _, rfl, htl1, hr, by omega, hS, F5, N5⟩
      · replace hq1 := ne_bool hq1
        k_steps
        rename Fr g' L' _ _ => F5
        rename News g' L' _ _ => N5
        exact ⟨rfl, _, r, rfl, _, _, _, _, _, _, rfl, htl1, hr, by omega, hS, F5, N5⟩
    | ifErr hq hp =>
      refine wpC_never (wpC_If ?_)
      k_steps
      refine wpC_execs_consE (wpC_AssignTuple (wpC_callK F4 X' (topRead_of T') rfl rfl ?_))
      k_steps
      refine IH 0 r _ hp mean mg mb (dp + 1) (un + 3) gd _ _ _ _ [] _ _ base g' L' _ it l (k + (ts.length - r.length)) ne vs rest _ _ _ _ _ (Or.inl rfl) B' F4 X' XB N4 hne hl hS T' rfl (dp_le hdp) (un_le hun) (fun t ht => hlen t (strs_sub hts hS t ht)) (le_of (by first | assumption | exact Nat.lt_trans (by assumption) hr) htl) ?_
      intro e t1 tk2 g2 h2 tk3 hb2 F2 U2 R2
      rw [he]
      dsimp only
      refine leave_onX B' F2 R2 U2 ?_
      intro h3 R3 U3
      have e3 : ∀ q, q < r.length → k + (ts.length - r.length) + (r.length - q) = k + (ts.length - q) := fun q hq => adv hr hq
      exact hback _ _ _ _ _ _ (by first | assumption | exact Nat.lt_trans (by assumption) hr | omega) FG' U3 (e3 _ hb2 ▸ R3)
    | ifTok hq hp hn =>
      replace hn := ne_bool' hn
      refine wpC_never (wpC_If ?_)
      k_steps
      refine wpC_execs_cons (wpC_AssignTuple (wpC_callK F4 X' (topRead_of T') rfl rfl ?_))
      k_steps
      refine IH 0 r _ hp mean mg mb (dp + 1) (un + 3) gd _ _ _ _ [] _ _ base g' L' _ it l (k + (ts.length - r.length)) ne vs rest _ _ _ _ _ (Or.inl rfl) B' F4 X' XB N4 hne hl hS T' rfl (dp_le hdp) (un_le hun) (fun t ht => hlen t (strs_sub hts hS t ht)) (le_of (by first | assumption | exact Nat.lt_trans (by assumption) hr) htl) ?_
      intro res5 t5 t6 tup h5 tk5 hb1 hb0 hb2 S5 F5 N5
      clear N4
      k_steps
      refine wpC_execs_consE (wpC_of_any ?_)
      k_steps
      rename Fr g' L' _ _ => F6
      rename News g' L' _ _ => N6
      refine error_call (dp := dp + 1) (un := un + 3) B' F6 X' N6 T' rfl (dp_er hdp) (un_er hun) (Nat.le_trans hb0 (by decide)) ?_
      intro e7 b7 tw7 h7 tk7 F7 N7 ne7
      refine ⟨e7, _, _, "ValueError", _, _, PyProof.Rows.excClass_ValueError, rfl, (N7 _ (.head _)).1, rfl, rfl, rfl, ?_⟩
      rw [he]
      dsimp only
      refine leave_genX B' F7 N7 ne7 rfl rfl rfl rfl rfl rfl rfl (.inl rfl) ?_
      intro h9 R9 U9
      have e3 : ∀ q, q < r.length → k + (ts.length - r.length) + (r.length - q) = k + (ts.length - q) := fun q hq => adv hr hq
      exact hback _ _ _ _ _ _ (by first | assumption | exact Nat.lt_trans (by assumption) hr | omega) FG' U9 (e3 _ hb2 ▸ raisedX_sub (fun p hp => .tail _ hp) R9)
    | ifOk hq hp hp2 =>
      rename_i r2 t3 r3
      refine wpC_If ?_
      k_steps
      refine wpC_execs_cons (wpC_AssignTuple (wpC_callK F4 X' (topRead_of T') rfl rfl ?_))
      k_steps
      refine IH 0 r _ hp mean mg mb (dp + 1) (un + 3) gd _ _ _ _ [] _ _ base g' L' _ it l (k + (ts.length - r.length)) ne vs rest _ _ _ _ _ (Or.inl rfl) B' F4 X' XB N4 hne hl hS T' rfl (dp_le hdp) (un_le hun) (fun t ht => hlen t (strs_sub hts hS t ht)) (le_of (by first | assumption | exact Nat.lt_trans (by assumption) hr) htl) ?_
      intro res5 t5 t6 tup h5 tk5 hb1 hb0 hb2 S5 F5 N5
      clear N4
      k_steps
      refine wpC_execs_consL ?_
      k_steps
      rename Fr g' L' _ _ => F6
      rename News g' L' _ _ => N6
      have e3 : k + (ts.length - r.length) + (r.length - r2.length) = k + (ts.length - r2.length) := adv (by first | assumption | exact Nat.lt_trans (by assumption) hr) (by assumption)
      rw [e3] at S5 N6
      refine wpC_execs_cons (wpC_AssignTuple (wpC_callK F6 X' (topRead_of T') rfl rfl ?_))
      k_steps
      refine IH (-1) r2 _ hp2 mean mg mb (dp + 1) (un + 3) gd _ _ _ _ [] _ _ base g' L' _ it l (k + (ts.length - r2.length)) ne vs rest _ _ 0 _ _ (Or.inr ⟨rfl, rfl⟩) B' F6 X' XB (news_sub N6 (fun p hp => .tail _ hp)) hne hl S5 T' rfl (dp_le hdp) (un_le hun) (fun t ht => hlen t (strs_sub hts S5 t ht)) (le_of (by first | assumption | exact Nat.lt_trans (by assumption) hr) htl) ?_
      intro res7 t7 t8 tup2 h7 tk7 hb3 hb30 hb4 S7 F7 N7
      clear N6
      k_steps
      have e4 : k + (ts.length - r2.length) + (r2.length - r3.length) = k + (ts.length - r3.length) := adv (by first | assumption | exact Nat.lt_trans (by assumption) hr) (by assumption)
      rw [e4] at S7
      rename Fr g' L' _ _ => F7
      rename News g' L' _ _ => N7
      refine wpC_execs_consL (mid_cut (fun f s' => Halt (f = .next ∧ ∃ h' tk R rt x', s' = { s with heap := h', toks := tk } ∧ R.length = res5.length + 4 + res4.length + 6 + res7.length ∧ Fr g' L' h' (M4 it pr u' t3 t8 R rt x') ∧ News g' L' h' ((it, iterOf l (k + (ts.length - r3.length))) :: rest))) ?_ ?_)
      · k_steps
        rename Fr g' L' _ _ => F8
        rename News g' L' _ _ => N8
        rw [e4] at N8
        refine ⟨rfl, _, _, _, _, _, rfl, ?_, pin4 F8 rfl rfl rfl rfl, news_sub N8 (fun p hp => .tail _ hp)⟩
        simp only [Str.length_append, len_empty, len_if, len_else]
        omega
      rintro _ s8 ⟨rfl, h8, tk8, R8, rt8, x8, rfl, hR8, F8, N8⟩
      dsimp only
      refine wpC_of_any ?_
      clear F7 N7
      k_steps
      all_goals (
        rename Fr g' L' _ _ => F9
        rename News g' L' _ _ => N9
        refine ⟨rfl, t3, r3, rfl, _, _, _, _, _, _, rfl, hb30, by omega, ?_, S7, pin4 F9 rfl rfl rfl rfl, N9⟩
        first | omega | (simp only [Str.length_append, len_lp, len_rp]; omega))
    | ifBad hq hp hp2 =>
      rename_i r2 wd r3
      refine wpC_never (wpC_If ?_)
      k_steps
      refine wpC_execs_cons (wpC_AssignTuple (wpC_callK F4 X' (topRead_of T') rfl rfl ?_))
      k_steps
      refine IH 0 r _ hp mean mg mb (dp + 1) (un + 3) gd _ _ _ _ [] _ _ base g' L' _ it l (k + (ts.length - r.length)) ne vs rest _ _ _ _ _ (Or.inl rfl) B' F4 X' XB N4 hne hl hS T' rfl (dp_le hdp) (un_le hun) (fun t ht => hlen t (strs_sub hts hS t ht)) (le_of (by first | assumption | exact Nat.lt_trans (by assumption) hr) htl) ?_
      intro res5 t5 t6 tup h5 tk5 hb1 hb0 hb2 S5 F5 N5
      clear N4
      k_steps
      refine wpC_execs_consL ?_
      k_steps
      rename Fr g' L' _ _ => F6
      rename News g' L' _ _ => N6
      have e3 : k + (ts.length - r.length) + (r.length - r2.length) = k + (ts.length - r2.length) := adv (by first | assumption | exact Nat.lt_trans (by assumption) hr) (by assumption)
      rw [e3] at S5 N6
      refine wpC_execs_consE (wpC_AssignTuple (wpC_callK F6 X' (topRead_of T') rfl rfl ?_))
      k_steps
      refine IH (-1) r2 _ hp2 mean mg mb (dp + 1) (un + 3) gd _ _ _ _ [] _ _ base g' L' _ it l (k + (ts.length - r2.length)) ne vs rest _ _ 0 _ _ (Or.inr ⟨rfl, rfl⟩) B' F6 X' XB (news_sub N6 (fun p hp => .tail _ hp)) hne hl S5 T' rfl (dp_le hdp) (un_le hun) (fun t ht => hlen t (strs_sub hts S5 t ht)) (le_of (by first | assumption | exact Nat.lt_trans (by assumption) hr) htl) ?_
      intro e t1 tk2 g2 h2 tk3 hb4 F2 U2 R2
      rw [he]
      dsimp only
      refine leave_onX B' F2 R2 U2 ?_
      intro h3 R3 U3
      have e4 : k + (ts.length - r2.length) + (r2.length - r3.length) = k + (ts.length - r3.length) := adv (by first | assumption | exact Nat.lt_trans (by assumption) hr) (by assumption)
      exact hback _ _ _ _ _ _ (by first | assumption | exact Nat.lt_trans (by assumption) hr | omega) FG' U3 (e4 ▸ R3)
--A}
  rintro _ s5 ⟨rfl, t1, r1, rfl, h5, tk5, res5, rt5, tt5, x5, rfl, htl5, hr5, hres5, hS5, F5, N5⟩
  clear F4 N4
  dsimp only
  refine wpC_of_any ?_
  k_steps
  rw [hq]
  dsimp only
  rename Fr g' L' _ _ => F6
  rename News g' L' _ _ => N6
  refine leaveK_ F6 N6 ?_
  intro kF kN
  exact hback _ _ _ _ _ _ (by omega) htl5 hr5 hS5 kF kN

theorem pc_all {w : World} : ∀ n, PC w n
  | 0 => fun _ _ _ h => h.elim
  | n + 1 => pc_succ (pc_all n)
end Mine


set_option maxRecDepth 100000
set_option maxHeartbeats 8000000
namespace Mine
theorem fillR : (fun (_ : OpenLaw) (_ : Params → Frag) => True) PySem.Challenge.rw_dv0012_01 hd0.heap_39 := by k_fill; trivial

local macro_rules | `(tactic| walk_at "call builtin:iter") => `(tactic| (k_here; (with_reducible show wpAny _ _ (call (Value.builtin "iter") [Value.ref _]) _ _ _); k_dflt (refine' iter_of_list ?F ?N ?i ?_; (case F => k_asm); (case N => k_asm); (case i => k_mem); k_whole); intro D' h' F' N' l1; (try k_lt l1); (try k_sweep)))

local macro_rules | `(tactic| walk_at "call type:type") => `(tactic| (k_here; (with_reducible show wpAny _ _ (call (Value.type "type") [Value.ref _]) _ _ _); (rename Got _ _ _ _ _ => gotX); refine type_got (by assumption) gotX rfl ?_))
local macro_rules | `(tactic| walk_at "getAttr ref") => `(tactic| (k_here; (with_reducible show wpAny _ _ (getAttr _ ("args" : Str) _) _ _ _); (rename Got _ _ _ _ _ => gotX); refine args_got_builtin PySem.F.attr_ValueError (by assumption) gotX ?_))
local macro_rules | `(tactic| walk_at "call type:list") => `(tactic| (k_here; refine halt ?_))

local macro_rules | `(tactic| walk_at "bind") => `(tactic| (k_here; (with_reducible show wpAny _ _ (do bindName (envOf _ _ _ _ _) _ Value.none; unbindBehindTheSuite (envOf _ _ _ _ _) _ _) _ _ _); refine halt ?_))

section
variable {prog : Program} {w : World} {A : Around} {E : Value → Shared → Prop} {s : Shared} {h₀ : Heap} {L a b : Addr} {m : Str → Option Value} {news : List (Addr × Obj)} {xs ys : List Value} {n n' : Nat}
theorem wpC_ExprS {x : PySem.Expr} {env : Env} {pos : Pos} {Q : Flow → Shared → Prop} (h : wpC (model prog w) A (eval x env) (fun _ _ => False) E s) (hi : interactive env = false := by rfl) (hs : swapsWith x none pos.line env = pure false := by rfl) : wpC (model prog w) A (exec (.Expr x pos) env) Q E s := by
  rw [exec_Expr env x pos hi hs]
  exact wpC_bindL (wpAny_standAt (wpC_bind (wpC_mono h (fun _ _ x => x.elim) fun _ _ x => x)))

theorem cat_lists {Q : Value → Shared → Prop} (F : Fr h₀ L s.heap m) (N : News h₀ L s.heap news) (ha : (a, listOf xs.toArray n) ∈ news) (hb : (b, listOf ys.toArray n') ∈ news) (hz : xs.length + ys.length ≤ sizeLine)
    (h : ∀ D h', Fr h₀ L h' m → News h₀ L h' ((D, listOf (xs ++ ys).toArray 0) :: news) → (∀ p ∈ news, p.1 < D) → Q (.ref D) { s with heap := h' }) : wpAny (model prog w) A (binaryOp .Add (.ref a) (.ref b)) Q E s := by
  refine add_arrays (its := xs.toArray) (its2 := ys.toArray) F N (N.isList ha) (N.isList hb) (fun h' F' N' => ?_) (by simpa using hz)
  exact h _ h' F' (by simpa using N') fun p hp => Heap.lt_size (N p hp).1
end

section
variable {prog : Program} {w : World} {A : Around} {E : Value → Shared → Prop} {s : Shared} {h₀ : Heap} {L D5 e t I l : Addr} {m : Str → Option Value} {ctx tail : List (Addr × Obj)} {vs : Array Value} {k nl : Nat} {o5 oe ot : Obj} {ws : Array Value}
theorem src_list {Q : Value → Shared → Prop} (F : Fr h₀ L s.heap m) (N : News h₀ L s.heap ((D5, o5) :: (e, oe) :: (t, ot) :: (ctx ++ (I, iterOf l k) :: tail))) (h5 : I ≠ D5) (he : I ≠ e) (ht : I ≠ t) (hoe : oe.data = .fields ws)
    (hctx : ctx = [] ∧ ws[2]? = some Value.none ∨ ∃ cx o1 ws1, ctx = [(cx, o1)] ∧ ws[2]? = some (Value.ref cx) ∧ o1.data = .fields ws1 ∧ ws1[2]? = some Value.none) (hne : ∀ p ∈ tail, p.1 ≠ I) (hl : (l, listOf vs nl) ∈ tail) (hk : k ≤ vs.size) (hz : vs.size ≤ sizeLine) (hA : A.handled = some (.ref e))
    (h : ∀ D c h' tk, Fr h₀ L h' m → News h₀ L h' ((D, listOf (vs.toList.drop k).toArray c) :: (D5, o5) :: (e, oe) :: (t, ot) :: (ctx ++ tail)) → (∀ p ∈ (D5, o5) :: (e, oe) :: (t, ot) :: (ctx ++ tail), p.1 < D) → Q (.ref D) { s with heap := h', toks := tk }) :
    wpAny (model prog w) A (call (.type "list") [.ref I]) Q E s := by
  have hc : ∀ p ∈ ctx, p.1 ≠ I := fun p hp z => by
    rcases hctx with ⟨rfl, _⟩ | ⟨cx, o1, ws1, rfl, h2, h3, h4⟩
    · cases hp
    · obtain rfl := List.mem_singleton.mp hp
      have q1 := (N (cx, o1) (.tail _ (.tail _ (.tail _ (.head _))))).1
      have q2 := (N (I, iterOf l k) (.tail _ (.tail _ (.tail _ (.tail _ (.head _)))))).1
      dsimp only at z q1 q2
      rw [z, q2] at q1
      cases q1
      cases h3
      cases h4
  refine list_of_iter (rest := (D5, o5) :: (e, oe) :: (t, ot) :: (ctx ++ tail)) F N (.tail _ (.tail _ (.tail _ (List.mem_append_right _ (.head _))))) (fun p hp => ?_) (fun p hp => ?_) (.tail _ (.tail _ (.tail _ (List.mem_append_right _ hl)))) hk hz ?_ h
  · simp only [List.mem_cons, List.mem_append] at hp ⊢
    rcases hp with hp | hp | hp | hp | hp
    · exact .inl hp
    · exact .inr (.inl hp)
    · exact .inr (.inr (.inl hp))
    · exact .inr (.inr (.inr (.inl hp)))
    · exact .inr (.inr (.inr (.inr (.inr hp))))
  · simp only [List.mem_cons, List.mem_append] at hp
    rcases hp with rfl | rfl | rfl | hp | hp
    · exact Ne.symm h5
    · exact Ne.symm he
    · exact Ne.symm ht
    · exact hc p hp
    · exact hne p hp
  · refine .inr ⟨e, oe, ws, hA, .tail _ (.head _), hoe, ?_⟩
    rcases hctx with ⟨rfl, h2⟩ | ⟨cx, o1, ws1, rfl, h2, h3, h4⟩
    · exact .inl h2
    · exact .inr ⟨cx, o1, ws1, h2, .tail _ (.tail _ (.tail _ (.head _))), h3, h4⟩
end

theorem refused_call {w : World} {mean : ExcName → Option Value} {mg mb : Str → Option Value} {dp un : Nat} {gd : Option (List Code)} {cn : Str} {cs : Scope} {a : Addr} {ccd : Value} {cl : List (Str × Addr)} {base : Heap} {L : Addr} {m : Str → Option Value}
    {news : List (Addr × Obj)} {s : Shared} {l0 : Addr} {n0 n : Nat} {vs0 : List Value} {toks : List Str} {wd : Str} {Q E : Value → Shared → Prop}
    (hP : Parse n (-1) (toks ++ [Str.ofString "behind"]) (.err wd [Str.ofString "behind"])) (hn : n ≤ 20)
    (F : Fr base L s.heap m) (XB : BaseOk w mean mg mb base) (N : News base L s.heap news) (hl0 : (l0, listOf vs0.toArray n0) ∈ news) (hS : StrsAre vs0 toks) (hlen : ∀ t ∈ toks, t.length ≤ 64) (hz : toks.length ≤ 60)
    (hk : cs.kind = .function) (hdp : dp + 40 < recursionLimit) (hun : un + 400 < cLine)
    (h : ∀ l1 l2 l3 t1 t2 n1 n2 n3 h' tk', Fr base L h' m → News base L h' ((l3, listOf #[.ref l1, .ref l2] n3) :: (l2, listOf #[.str (Str.ofString "behind") t2] n2) :: (l1, listOf #[.str wd t1] n1) :: news) → Q (.ref l3) { s with heap := h', toks := tk' }) :
    wpC (model PR w) (ktrTop dp un gd cn cs L a ccd cl []) (call (.ref 99) [.ref l0]) Q E s := by
  have X := XB.x
  have T := XB.t
  have K0 := below_caller base
  refine wpC_call ?_
  k_dflt (refine' codeC_Kr (binds := [(Str.ofString "tokens", .ref l0)]) ?k1 ?k2 ?k3 ?k4 ?k5 ?kA ?kF ?kK ?k6 ?k7 ?k8 ?k9 ?kB ?_ ?c2 ?c3 ?c4 ?c5; (case kA => exact rfl); (case kF => exact rfl); (case kK => assumption); (case k1 => exact K0); (case k2 => k_asm); (case k3 => exact X); (case k4 => k_asm); (case k5 => exact T); (case k6 => k_is); (case k7 => k_is); (case k8 => (show dp < recursionLimit; omega)); (case k9 => exact BindsTo.of_eq rfl); (case c5 => decide); (case kB => exact locs rfl); (case c2 => exact rfl); (case c3 => exact rfl); (case c4 => exact rfl); k_whole; intro g' L' h' FG' F' N' B' X' T' st')
  dsimp only
  clear K0 X T
  have e0 : vs0.length = toks.length := by
    clear hP hlen hz N N' hl0
    induction hS with
    | nil => rfl
    | cons _ _ _ ih => simp [ih]
  refine wpC_named ?_
  intro qk ek hq he
  refine wpC_execs_consL ?_
  clear F N
  k_steps
  rename Fr g' L' _ _ => Fa
  rename News g' L' _ _ => Na
  refine cat_lists Fa Na (List.mem_cons_of_mem _ hl0) (.head _) (Nat.le_trans (show _ ≤ 100 by simp; omega) (by decide)) ?_
  intro D1 h1 F1 N1 lt1
  clear Fa Na
  k_steps
  rename Fr g' L' _ _ => F2
  rename News g' L' _ ((_, iterOf D1 0) :: _) => N2
  refine wpC_execs_cons (wpC_Try ?_)
  refine wpC_execs_consE (wpC_ExprS (wpC_callK F2 X' (topRead_of T') rfl rfl ?_))
  k_steps
  rename (D1 < _ ∧ _) => lt2
  have hS2 : StrsAre (vs0 ++ [.str (Str.ofString "behind") (s.toks + [(Str.ofString "tokens", Value.ref l0)].length)]) (toks ++ [Str.ofString "behind"]) := hS.append' (.cons _ _ .nil)
  have hDb : Dicts [envX cn cs L a ccd cl] g' := by
    intro b hb
    simp only [List.filterMap_cons, List.filterMap_nil, List.mem_singleton] at hb
    obtain ⟨o, es, n, ho, hd, _⟩ := FG'.ns
    refine ⟨o, es, n, ?_, hd⟩
    subst hb
    exact ho
  refine pc_all n (-1) _ _ hP mean mg mb _ _ _ _ _ _ _ _ _ _ base g' L' _ _ D1 0 0 _ _ _ _ 0 _ _ (Or.inr ⟨rfl, rfl⟩) B' F2 X' XB N2 ?_ (.head _) hS2 T' rfl ?_ ?_ ?_ ?_ ?_
  · intro p hp
    rcases List.mem_cons.mp hp with rfl | hp
    · exact Nat.ne_of_lt lt2.1
    · rcases List.mem_cons.mp hp with rfl | hp
      · exact Nat.ne_of_lt lt2.2.1
      · exact Nat.ne_of_lt (tb_ltOf lt2.2.2 p hp)
  · show dp + 1 + n + 5 < recursionLimit
    omega
  · show un + 3 + 8 * n + 100 < cLine
    omega
  · intro t ht
    rcases List.mem_append.mp ht with ht | ht
    · exact hlen t ht
    · rw [List.mem_singleton.mp ht]; decide
  · simp; omega
  intro e t tk g2 h2 tk2 hr F3 U3 R3
  refine catch_calleeX B' F3 U3 R3 (fun q hq => ?_) hDb (topRead_of XB.t) ?_
  · rcases List.mem_cons.mp hq with rfl | hq
    · exact (N2 _ (.head _)).2.2
    · exact (N2 _ (.tail _ hq)).2.2
  intro g3 h3 oe ot ws ctx tk3 B3 F4 N4 G4 nk3 D3 ne3 hoe hctx
  have X3 := XB.x.keeps B3.stays
  have T3 := XB.t.keeps B3.stays
  have ns3 := nk3 L (by simp [envX]) m FG'.ns
  have st3 := B3.stays
  have nD := (ne3 _ (.head _))
  have hkk : 0 + ((toks ++ [Str.ofString "behind"]).length - [Str.ofString "behind"].length) = vs0.length := by simp; omega
  rw [hkk] at N4 G4
  clear B' X' T' F2 N2 F3 U3 R3 nk3 ne3 D3 hDb hkk hr
  k_steps
  unfold Halt
  rename Got _ _ _ _ _ => G5
  refine list_copyKT F4 N4 (Got.isTup N4 G5) ?_ (Nat.le_trans (show _ ≤ 1 by simp) (by decide))
  intro D5 c5 h5 F5 N5 lt5
  have nD5 := Nat.ne_of_lt (lt5 _ (.tail _ (.tail _ (List.mem_append_right _ (.head _)))))
  clear F4 N4 G5
  k_steps
  unfold Halt
  refine src_list F5 N5 nD5 nD.1 nD.2 hoe hctx ?_ (.head _) (by simp) (Nat.le_trans (show _ ≤ 100 by simp; omega) (by decide)) rfl ?_
  · intro p hp
    rcases List.mem_cons.mp hp with rfl | hp
    · exact Nat.ne_of_lt lt2.1
    · rcases List.mem_cons.mp hp with rfl | hp
      · exact Nat.ne_of_lt lt2.2.1
      · exact Nat.ne_of_lt (tb_ltOf lt2.2.2 p hp)
  intro D6 c6 h6 tk6 F6 N6 lt6
  clear F5 N5
  k_steps
  unfold Halt
  rename Fr g3 L' _ _ => F8
  rename News g3 L' _ _ => N8
  refine name_goes_keeps F8 N8 ?_
  intro h9 v9 F9 N9
  rw [hq]
  obtain ⟨Fz, Nz⟩ := back_ground st3 FG' ns3 F9 N9
  have ed : ∀ v : Value, List.drop vs0.length (vs0 ++ [v]).toArray.toList = [v] := fun v => by simp
  rw [ed] at Nz
  refine h D5 D6 _ tk (s.toks + [(Str.ofString "tokens", Value.ref l0)].length) c5 c6 0 h9 _ Fz (fun p hp => Nz p ?_)
  cases hp with
  | head => exact .head _
  | tail _ hp => cases hp with
    | head => exact .tail _ (.head _)
    | tail _ hp => cases hp with
      | head => exact .tail _ (.tail _ (.head _))
      | tail _ hp => exact .tail _ (.tail _ (.tail _ (.tail _ (.tail _ (List.mem_append_right _ (.tail _ (.tail _ hp)))))))
end Mine


set_option maxRecDepth 100000
set_option maxHeartbeats 8000000
namespace Mine
theorem fillT : (fun (_ : OpenLaw) (_ : Params → Frag) => True) PySem.Challenge.rw_dv0012_01 hd0.heap_39 := by k_fill; trivial
structure TextOk (t : Str) : Prop where
  len : t.length ≤ 29
  low : ∀ c ∈ t.cps.toList, c < 1114112

theorem wpAny_named {α : Type} {M : Model} {A : Around} {E : Value → Shared → Prop} {s : Shared} {t : Sem α} {Q : α → Shared → Prop} (h : ∀ qk ek, qk = Q → ek = E → wpAny M A t qk ek s) : wpAny M A t Q E s := h Q E rfl rfl
def M2 (r : Int) (tr : Tok) (t : Str) (tt : Tok) (m : Str → Option Value) : Str → Option Value := fun y => if y = Str.ofString "rest" then some (.int r tr) else if y = Str.ofString "text" then some (.str t tt) else m y
theorem pin2 {g h : Heap} {L : Addr} {m : Str → Option Value} {r : Int} {tr tt : Tok} {t : Str} (F : Fr g L h m) (e1 : m (Str.ofString "rest") = some (.int r tr)) (e2 : m (Str.ofString "text") = some (.str t tt)) : Fr g L h (M2 r tr t tt m) := by
  have : M2 r tr t tt m = m := funext fun y => by
    unfold M2
    split
    · rename_i h; rw [h, e1]
    · split
      · rename_i h; rw [h, e2]
      · rfl
  rw [this]; exact F
local macro_rules | `(tactic| walk_at "exec While") => `(tactic| (refine halt ?_))

theorem text_call {w : World} {mean : ExcName → Option Value} {mg mb : Str → Option Value} {dp un : Nat} {gd : Option (List Code)} {hd' : Option Value} {cn : Str} {cs : Scope} {a : Addr} {ccd : Value} {cl : List (Str × Addr)} {outer : List Env} {A₀ : Around} {base h₀ : Heap} {L : Addr} {m : Str → Option Value}
    {news : List (Addr × Obj)} {s : Shared} {x : Int} {tk : Tok} {Q E : Value → Shared → Prop}
    (B : Below A₀ base outer h₀) (F : Fr h₀ L s.heap m) (X : (hd0.heap_39 w.params).In h₀) (N : News h₀ L s.heap news) (T : Top PV LV mean mg mb h₀) (hk : cs.kind = .function) (hdp : dp + 5 < recursionLimit) (hun : un + 100 < cLine)
    (h : ∀ t tw h' tk', TextOk t → Fr h₀ L h' m → News h₀ L h' news → Q (.str t tw) { s with heap := h', toks := tk' }) :
    wpAny (model PR w) { handled := hd', depth := dp, frames := some (envX cn cs L a ccd cl :: outer), guards := gd, units := un } (call (.ref 92) [.int x tk]) Q E s := by
  refine wpAny_call ?_
  k_dflt (refine' code_def (binds := [(Str.ofString "x", .int x tk)]) ?k1 ?k2 ?k3 ?k4 ?k5 ?kA ?kF ?kK ?k6 ?k7 ?k8 ?k9 ?kB ?_ ?c2 ?c3 ?c4 ?c5; (case kA => exact rfl); (case kF => exact rfl); (case kK => assumption); (case k1 => k_asm); (case k2 => k_asm); (case k3 => exact X); (case k4 => k_asm); (case k5 => exact T); (case k6 => k_is); (case k7 => k_is); (case k8 => (show dp < recursionLimit; omega)); (case k9 => exact BindsTo.of_eq rfl); (case c5 => decide); (case kB => exact locs rfl); (case c2 => exact rfl); (case c3 => exact rfl); (case c4 => exact rfl); k_whole; intro g' L' h' FG' F' N' B' X' T')
  dsimp only
  clear B X T N
  refine wpAny_named ?_
  intro qk ek hq he
  k_steps
  · rename Fr g' L' _ _ => F2
    rename News g' L' _ _ => N2
    rw [hq]
    refine leaveK_ F2 N2 ?_
    intro kF kN
    generalize ((x.fdiv 2).fmod 10).toNat = i at *
    refine h _ _ _ _ ?_ kF (news_sub kN (fun p hp => .tail _ hp))
    have all : ∀ u ∈ [Str.ofString "", Str.ofString "%s", Str.ofString "0", Str.ofString " ", Str.ofString "%(n)d", Str.ofString "None", Str.ofString "{}", Str.ofString "\n", Str.ofString "False", Str.ofString "unexpected end of plural form"], u.length ≤ 29 ∧ u.cps.toList.all (· < 1114112) = true := by decide
    have hm := all (List.getD [Str.ofString "", Str.ofString "%s", Str.ofString "0", Str.ofString " ", Str.ofString "%(n)d", Str.ofString "None", Str.ofString "{}", Str.ofString "\n", Str.ofString "False", Str.ofString "unexpected end of plural form"] i Str.empty) (by
      rw [List.getD_eq_getElem?_getD, List.getElem?_eq_getElem (by assumption)]
      exact List.getElem_mem _)
    exact ⟨hm.1, fun c hc => by simpa using List.all_eq_true.mp hm.2 c hc⟩
  · unfold Halt
    rename Fr g' L' _ _ => F2
    rename News g' L' _ _ => N2
    refine whl_start 0 (whl_ind (fun b s' => ∃ h1 tk1 t tt r tr mm, s' = { s with heap := h1, toks := tk1 } ∧ b = 6 - t.length ∧ t.length ≤ 6 ∧ (∀ c ∈ t.cps.toList, c < 1114112) ∧ 0 ≤ r ∧ Fr g' L' h1 (M2 r tr t tt mm) ∧ News g' L' h1 news) 5 ?_ ?_ ?_)
    · refine ⟨_, _, ⟨#[((x.fdiv 2).fmod 1114112).toNat]⟩, _, _, _, _, rfl, rfl, (show 1 ≤ 6 by decide), ?_, ?_, pin2 F2 rfl rfl, N2⟩
      · intro c hc
        have : c = ((x.fdiv 2).fmod 1114112).toNat := by simpa using hc
        have := Int.fmod_lt_of_pos (x.fdiv 2) (show (0 : Int) < 1114112 by decide)
        omega
      · refine Int.fdiv_nonneg ?_ (by decide)
        split <;> omega
    · rw [he]; with_unfolding_all passes_own
    · clear F2 N2
      rintro b _ ⟨h1, tk1, t, tt, r, tr, mm, rfl, hb, htl, hlow, hr, F1, N1⟩
      unfold M2 at F1
      k_steps
      · rename Fr g' L' _ _ => F2
        rename News g' L' _ _ => N2
        rename ((t.length : Int) < 6) => hl6
        have el : (t ++ (⟨#[(r.fmod 1114112).toNat]⟩ : Str)).length = t.length + 1 := by rw [Str.length_append]; rfl
        refine ⟨6 - (t.length + 1), by omega, _, _, t ++ (⟨#[(r.fmod 1114112).toNat]⟩ : Str), _, _, _, _, rfl, by rw [el], by rw [el]; omega, ?_, Int.fdiv_nonneg hr (by decide), pin2 F2 rfl rfl, N2⟩
        intro c hc
        have ec : (t ++ (⟨#[(r.fmod 1114112).toNat]⟩ : Str)).cps = t.cps ++ #[(r.fmod 1114112).toNat] := rfl
        rw [ec, Array.toList_append] at hc
        rcases List.mem_append.mp hc with hc | hc
        · exact hlow c hc
        · have e3 : c = (r.fmod 1114112).toNat := by simpa using hc
          have := Int.fmod_lt_of_pos r (show (0 : Int) < 1114112 by decide)
          omega
      all_goals
        rw [hq]
        refine leaveK_ F1 N1 ?_
        intro kF kN
        exact h _ _ _ _ ⟨by omega, hlow⟩ kF kN
end Mine


set_option maxRecDepth 100000
namespace Mine
open NumText in
theorem drop_x : ∀ l : List Nat, ∃ l', (l ++ [120]).dropWhile blank = l' ++ [120]
  | [] => ⟨[], rfl⟩
  | c :: l => by
    rw [List.cons_append, List.dropWhile_cons]
    split
    · exact drop_x l
    · exact ⟨c :: l, rfl⟩
open NumText in
theorem core_x (r : List Nat) : ∃ r', core (120 :: r) = 120 :: r' := by
  obtain ⟨l', e⟩ := drop_x r.reverse
  refine ⟨l'.reverse, ?_⟩
  have q : core (120 :: r) = (((120 :: r).reverse).dropWhile blank).reverse := rfl
  rw [q, List.reverse_cons, e, List.reverse_append]
  rfl
open NumText in
theorem digits_x (r : List Nat) : digits? 10 (120 :: r) = none := rfl
theorem cps_x (t : Str) : (Str.ofString "x" ++ t).cps.toList = 120 :: t.cps.toList := by
  have e : (Str.ofString "x" ++ t).cps = (Str.ofString "x").cps ++ t.cps := rfl
  have e2 : (Str.ofString "x").cps = #[120] := by decide
  rw [e, e2]
  simp
open NumText in
theorem intText_x (t : Str) : PySem.intText? (Str.ofString "x" ++ t) = none := by
  have h1 : ∃ r, numTextOf (Str.ofString "x" ++ t) = 120 :: r := by
    unfold numTextOf
    rw [cps_x]
    split
    · exact ⟨_, rfl⟩
    · exact ⟨_, by simp [Unicode.numberText]; rfl⟩
  obtain ⟨r, h1⟩ := h1
  have h2 : numSeenOf (Str.ofString "x" ++ t) = 120 :: r.takeWhile (· != 0) := by
    unfold numSeenOf
    rw [h1, List.takeWhile_cons]
    rfl
  unfold PySem.intText?
  rw [h2]
  obtain ⟨r', h3⟩ := core_x (r.takeWhile (· != 0))
  rw [h3, digits_x]
  split <;> rfl

/-- a token that every reading refuses -/
structure GoodTok (t : Str) : Prop where
  bang : t ≠ Str.ofString "!"
  par : t ≠ Str.ofString "("
  var : t ≠ Str.ofString "n"
  ask : t ≠ Str.ofString "?"
  col : t ≠ Str.ofString ":"
  op : opLv t = none
  bad : Bad t

theorem good_x {t : Str} (hc : ∀ c ∈ t.cps.toList, c < 16 ^ 8) : GoodTok (Str.ofString "x" ++ t) := by
  have hd : ∀ s : Str, s.cps.toList.head? ≠ some 120 → Str.ofString "x" ++ t ≠ s := fun s h e => h (by rw [← e, cps_x]; rfl)
  refine ⟨hd _ (by decide), hd _ (by decide), hd _ (by decide), hd _ (by decide), hd _ (by decide), ?_, intText_x t, ?_⟩
  · unfold opLv
    rw [List.find?_eq_none.mpr]
    · rfl
    · intro p hp e
      have all : ∀ p ∈ opTab, p.1.cps.toList.head? ≠ some 120 := by decide
      exact hd p.1 (all p hp) (by simpa using (beq_iff_eq.mp e).symm)
  · intro c h
    rw [cps_x] at h
    rcases List.mem_cons.mp h with rfl | h
    · decide
    · exact hc c h
theorem bad_nil : Bad (Str.ofString "") := by
  refine ⟨by decide +kernel, fun c h => ?_⟩
  have e : (Str.ofString "").cps.toList = [] := by decide
  rw [e] at h; cases h
theorem good_nil : GoodTok (Str.ofString "") := ⟨by decide, by decide, by decide, by decide, by decide, by decide, bad_nil⟩

section
variable {t : Str} (G : GoodTok t) (r : List Str)
include G
theorem p_bad (n : Nat) (pr : Int) : Parse (n + 1) pr (t :: r) (.err (errWords t) r) := .opd (.nil G.bang) (.bad G.bang G.par G.var G.bad)
theorem p_end (n : Nat) (pr : Int) {u : Str} {v : Int} (h1 : u ≠ Str.ofString "!") (h2 : u ≠ Str.ofString "(") (h3 : u ≠ Str.ofString "n") (h4 : PySem.intText? u = some v) (h5 : 0 ≤ v) (h6 : v < 1000) : Parse (n + 1) pr (u :: t :: r) (.ok t r) :=
  .all (.nil h1) (.num h1 h2 h3 h4 h5 h6) (.stop G.op) (.plain fun q => G.ask q.1)
theorem p_7 (n : Nat) (pr : Int) : Parse (n + 1) pr (Str.ofString "7" :: t :: r) (.ok t r) := p_end G r n pr (v := 7) (by decide) (by decide) (by decide) (by decide +kernel) (by decide) (by decide)
theorem p_two : Parse 2 (-1) (Str.ofString "!" :: Str.ofString "(" :: t :: r) (.err (errWords t) r) := .opd (.cons (.nil (by decide))) (.inner (p_bad G r 0 (-1)))
theorem p_three : Parse 2 (-1) (Str.ofString "n" :: Str.ofString "+" :: t :: r) (.err (errWords t) r) := .ops (.nil (by decide)) .var (.fail (i := 5) (by decide) (by decide) (p_bad G r 0 _))
theorem p_four : Parse 2 (-1) (Str.ofString "n" :: Str.ofString "?" :: Str.ofString "7" :: t :: r) (.err (errWords t) r) :=
  .all (.nil (by decide)) .var (.stop (by decide)) (.ifTok (by decide) (p_7 G r 0 0) G.col)
theorem p_five : Parse 4 (-1) (Str.ofString "(" :: Str.ofString "0" :: Str.ofString "?" :: Str.ofString "n" :: Str.ofString "==" :: Str.ofString "7" :: t :: r) (.err (errWords t) r) :=
  .opd (.nil (by decide)) (.inner (.all (.nil (by decide)) (.num (v := 0) (by decide) (by decide) (by decide) (by decide +kernel) (by decide) (by decide)) (.stop (by decide)) (.ifTok (by decide)
    (.all (.nil (by decide)) .var (.step (i := 3) (by decide) (by decide) (p_7 G r 0 _) (.stop G.op)) (.plain fun q => G.ask q.1)) G.col)))
theorem p_one : Parse 1 (-1) (t :: r) (.err (errWords t) r) := p_bad G r 0 (-1)
end
end Mine


set_option maxRecDepth 100000
namespace Mine
theorem ints_get {vs : List Value} {ns : List Int} (h : IntsAre vs ns) {i : Nat} {v : Value} (e : vs.toArray[i]? = some v) : ∃ n t, v = .int n t := by
  rw [List.getElem?_toArray] at e
  induction h generalizing i with
  | nil => cases e
  | cons n t _ ih =>
    cases i with
    | zero => cases e; exact ⟨_, _, rfl⟩
    | succ i => exact ih e
theorem ints_len {vs : List Value} {ns : List Int} (h : IntsAre vs ns) : vs.length = ns.length := by
  induction h with
  | nil => rfl
  | cons _ _ _ ih => simp [ih]

theorem strs_len {vs : List Value} {ns : List Str} (h : StrsAre vs ns) : vs.length = ns.length := by
  induction h with
  | nil => rfl
  | cons _ _ _ ih => simp [ih]
theorem strs_get {vs : List Value} {ns : List Str} (h : StrsAre vs ns) {i : Nat} {v : Value} (e : vs.toArray[i]? = some v) : ∃ n t, v = .str n t ∧ ns[i]? = some n := by
  rw [List.getElem?_toArray] at e
  induction h generalizing i with
  | nil => cases e
  | cons n t _ ih =>
    cases i with
    | zero => cases e; exact ⟨_, _, rfl, rfl⟩
    | succ i => exact ih e
theorem strs_at {vs : List Value} {ns : List Str} (h : StrsAre vs ns) {i : Nat} {n : Str} (e : ns[i]? = some n) : ∃ t, vs[i]? = some (.str n t) := by
  induction h generalizing i with
  | nil => cases e
  | cons n t _ ih =>
    cases i with
    | zero => cases e; exact ⟨_, rfl⟩
    | succ i => exact ih e
theorem take_snoc {α : Type} {l : List α} {i : Nat} {a : α} (e : l[i]? = some a) : l.take (i + 1) = l.take i ++ [a] := by
  rw [List.take_add_one, e]; rfl

/-- a name holds a text, the ledger stands -/
def MidW (s₁ : Shared) (L D2 : Addr) (x : Str) (P : Str → Prop) (news : List (Addr × Obj)) (f : Flow) (s' : Shared) : Prop :=
  f = .next ∧ ∃ (h : Heap) (tk : Nat) (u : Str) (wt : Tok) (mm : Str → Option Value), s' = { s₁ with heap := h, toks := tk } ∧ P u ∧ mm (Str.ofString "texts") = some (.ref D2) ∧ Fr s₁.heap L h (fun y => if y = x then some (.str u wt) else mm y) ∧ News s₁.heap L h news

/-- the errors of some texts, each its own -/
structure Errs (zs : List Value) (ts : List Str) (el : List (Addr × Obj)) : Prop where
  len : zs.length = ts.length
  is : ∀ (i : Nat) t, ts[i]? = some t → ∃ e b tw, zs[i]? = some (.ref e) ∧ (e, excOf b) ∈ el ∧ (b, tupOf [.str (errWords t) tw]) ∈ el
  ne : ∀ (i j : Nat) e, zs[i]? = some (.ref e) → zs[j]? = some (.ref e) → i = j
  kind : ∀ p ∈ el, ∀ v, p.2.data ≠ .cell v
theorem Errs.nil : Errs [] [] [] := ⟨rfl, fun i t h => by simp at h, fun i j e h => by simp at h, fun _ h => nomatch h⟩
theorem Errs.snoc {zs : List Value} {ts : List Str} {el : List (Addr × Obj)} {e b : Addr} {t : Str} {tw : Tok} (x : Errs zs ts el) (ne : ∀ p ∈ el, p.1 ≠ e ∧ p.1 ≠ b) :
    Errs (zs ++ [.ref e]) (ts ++ [t]) ((e, excOf b) :: (b, tupOf [.str (errWords t) tw]) :: el) := by
  have old : ∀ (i : Nat) (e' : Addr), zs[i]? = some (Value.ref e') → e' ≠ e := fun (i : Nat) (e' : Addr) h q => by
    have hi : i < ts.length := by rw [← x.len]; exact (List.getElem?_eq_some_iff.mp h).1
    obtain ⟨e2, b2, tw2, h1, h2, h3⟩ := x.is i _ (List.getElem?_eq_getElem hi)
    rw [h] at h1; cases h1
    exact (ne _ h2).1 q
  refine ⟨by simp [x.len], fun i u h => ?_, fun i j e' h1 h2 => ?_, fun p hp v => ?_⟩
  · rcases Nat.lt_or_ge i ts.length with hi | hi
    · rw [List.getElem?_append_left hi] at h
      obtain ⟨e2, b2, tw2, h1, h2, h3⟩ := x.is i u h
      exact ⟨e2, b2, tw2, by rw [List.getElem?_append_left (by rw [x.len]; exact hi)]; exact h1, .tail _ (.tail _ h2), .tail _ (.tail _ h3)⟩
    · rw [List.getElem?_append_right hi] at h
      have : i - ts.length = 0 := by
        rcases Nat.eq_zero_or_pos (i - ts.length) with q | q
        · exact q
        · rw [List.getElem?_eq_none (by simp; omega)] at h; cases h
      rw [this] at h; cases h
      exact ⟨e, b, tw, by rw [List.getElem?_append_right (by rw [x.len]; exact hi), x.len, this]; rfl, .head _, .tail _ (.head _)⟩
  · have key : ∀ k, (zs ++ [Value.ref e])[k]? = some (.ref e') → (k < zs.length ∧ zs[k]? = some (.ref e')) ∨ (k = zs.length ∧ e' = e) := fun k h => by
      rcases Nat.lt_or_ge k zs.length with hk | hk
      · rw [List.getElem?_append_left hk] at h; exact .inl ⟨hk, h⟩
      · rw [List.getElem?_append_right hk] at h
        have : k - zs.length = 0 := by
          rcases Nat.eq_zero_or_pos (k - zs.length) with q | q
          · exact q
          · rw [List.getElem?_eq_none (by simp; omega)] at h; cases h
        rw [this] at h; cases h
        exact .inr ⟨by omega, rfl⟩
    rcases key i h1 with ⟨a1, a2⟩ | ⟨a1, a2⟩ <;> rcases key j h2 with ⟨b1, b2⟩ | ⟨b1, b2⟩
    · exact x.ne i j e' a2 b2
    · exact absurd b2 (old i e' a2)
    · exact absurd a2 (old j e' b2)
    · omega
  · rcases List.mem_cons.mp hp with rfl | hp
    · intro q; cases q
    · rcases List.mem_cons.mp hp with rfl | hp
      · intro q; cases q
      · exact x.kind p hp v

section
variable {prog : Program} {w : World} {A : Around} {E : Value → Shared → Prop} {s : Shared} {h₀ : Heap} {L l : Addr} {m : Str → Option Value} {news : List (Addr × Obj)} {vs : List Value} {n : Nat}
theorem len_news {Q : Value → Shared → Prop} (N : News h₀ L s.heap news) (hm : (l, listOf vs.toArray n) ∈ news) (hz : vs.length ≤ 1000) (h : ∀ tk u, Q (.int (vs.length : Int) tk) { s with toks := u }) :
    wpAny (model prog w) A (call (.builtin "len") [.ref l]) Q E s := by
  refine call_len_list (N.isList hm) (by simp; omega) ?_
  simpa using h _ _
theorem item_news {value slice : PySem.Expr} {i : Nat} {u : Tok} {v : Value} {Q : Value → Shared → Prop} (N : News h₀ L s.heap news) (hm : (l, listOf vs.toArray n) ∈ news) (hx : vs[i]? = some v) (hz : i < 1000) (h : Q v s)
    (hs : subscripted slice false (.ref l) (.int (i : Int) u) = operate [.ref l, .int (i : Int) u] (getItem (.ref l) (.int (i : Int) u))) (hg : ∀ r, letTemporaryGo value (.ref l) r = pure ()) :
    wpAny (model prog w) A (subscriptTail value slice (.ref l) (.int (i : Int) u)) Q E s :=
  item_list (N.isList hm) (by omega) (by omega) (by simpa using hx) h hs hg

theorem ne_same {a b : Value} {d : PyData} {as bs : List Addr} {Q : Value → Shared → Prop} (ra : Reads s.heap a d as) (rb : Reads s.heap b d bs) (hd : SeqAt.shaped d = true) (hu : A.units + 64 < cLine) (h : Q (.bool false) s) : wpAny (model prog w) A (compareOp .NotEq a b) Q E s :=
  ne_dataH ra rb hd hd hu (by rw [SeqAt.eqv_refl d (SeqAt.canLay_of_shaped hd)]; exact h)
theorem eq_same {a b : Value} {d : PyData} {as bs : List Addr} {Q : Value → Shared → Prop} (ra : Reads s.heap a d as) (rb : Reads s.heap b d bs) (hd : SeqAt.shaped d = true) (hu : A.units + 64 < cLine) (h : Q (.bool true) s) : wpAny (model prog w) A (compareOp .Eq a b) Q E s :=
  eq_dataH ra rb hd hd hu (by rw [SeqAt.eqv_refl d (SeqAt.canLay_of_shaped hd)]; exact h)
theorem reads_strs {h : Heap} {vs : List Value} {xs : List Str} (hs : StrsAre vs xs) : ReadsAll h vs (xs.map .str) [] := by
  induction hs with
  | nil => exact .nil
  | cons x t _ ih => exact readsAll_cons_val (.str x t) ih
theorem reads_one {h : Heap} {x : Str} {t : Tok} (N : News h₀ L h news) (hm : (l, listOf #[.str x t] n) ∈ news) : Reads h (.ref l) (.list [.str x]) [l] :=
  reads_list_at (N _ hm).1 rfl rfl (reads_strs (.cons x t .nil))
theorem reads_two {h : Heap} {a b : Addr} {x y : Str} {t u : Tok} {n₁ n₂ : Nat} (N : News h₀ L h news) (hm : (l, listOf #[.ref a, .ref b] n) ∈ news) (ha : (a, listOf #[.str x t] n₁) ∈ news) (hb : (b, listOf #[.str y u] n₂) ∈ news) :
    ∃ as, Reads h (.ref l) (.list [.list [.str x], .list [.str y]]) as :=
  ⟨_, reads_list_at (N _ hm).1 rfl rfl (.cons (reads_one N ha) (.cons (reads_one N hb) .nil))⟩
end
abbrev ledOf {h₀ h : Heap} {L : Addr} {news : List (Addr × Obj)} (_ : News h₀ L h news) : List (Addr × Obj) := news
abbrev frOf {h₀ h : Heap} {L : Addr} {m : Str → Option Value} (_ : Fr h₀ L h m) : Str → Option Value := m
/-- the five beginnings -/
theorem five_of {h₀ h : Heap} {L l1 l2 l3 l4 l5 lz : Addr} {a1 a2 b1 b2 c1 c2 c3 d1 d2 d3 d4 d5 d6 : Tok} {rest : List (Addr × Obj)} {u : Str}
    (N : News h₀ L h ((lz, listOf #[.ref l1, .ref l2, .ref l3, .ref l4, .ref l5] 0) :: (l5, listOf #[.str (Str.ofString "(") d1, .str (Str.ofString "0") d2, .str (Str.ofString "?") d3, .str (Str.ofString "n") d4, .str (Str.ofString "==") d5, .str (Str.ofString "7") d6] 0) ::
      (l4, listOf #[.str (Str.ofString "n") c1, .str (Str.ofString "?") c2, .str (Str.ofString "7") c3] 0) :: (l3, listOf #[.str (Str.ofString "n") b1, .str (Str.ofString "+") b2] 0) :: (l2, listOf #[.str (Str.ofString "!") a1, .str (Str.ofString "(") a2] 0) :: (l1, listOf #[] 0) :: rest)) (G : GoodTok u) :
    ∀ (i : Nat) v, [Value.ref l1, .ref l2, .ref l3, .ref l4, .ref l5][i]? = some v → ∃ la va toks n, v = .ref la ∧ (la, listOf (List.toArray va) 0) ∈ ledOf N ∧ StrsAre va toks ∧ n ≤ 20 ∧ Parse n (-1) ((toks ++ [u]) ++ [Str.ofString "behind"]) (.err (errWords u) [Str.ofString "behind"]) ∧ (∀ t ∈ toks, t.length ≤ 64) ∧ toks.length ≤ 6 := by
  intro i v h
  match i, h with
  | 0, h => cases h; exact ⟨l1, [], [], 1, rfl, .tail _ (.tail _ (.tail _ (.tail _ (.tail _ (.head _))))), .nil, by decide, p_one G _, by decide, by decide⟩
  | 1, h => cases h; exact ⟨l2, _, _, 2, rfl, .tail _ (.tail _ (.tail _ (.tail _ (.head _)))), .cons _ _ (.cons _ _ .nil), by decide, p_two G _, by decide, by decide⟩
  | 2, h => cases h; exact ⟨l3, _, _, 2, rfl, .tail _ (.tail _ (.tail _ (.head _))), .cons _ _ (.cons _ _ .nil), by decide, p_three G _, by decide, by decide⟩
  | 3, h => cases h; exact ⟨l4, _, _, 2, rfl, .tail _ (.tail _ (.head _)), .cons _ _ (.cons _ _ (.cons _ _ .nil)), by decide, p_four G _, by decide, by decide⟩
  | 4, h => cases h; exact ⟨l5, _, _, 4, rfl, .tail _ (.head _), .cons _ _ (.cons _ _ (.cons _ _ (.cons _ _ (.cons _ _ (.cons _ _ .nil))))), by decide, p_five G _, by decide, by decide⟩
  | i + 5, h => simp at h
theorem mem_rot {α : Type} {p a b c d e : α} {el : List α} (hp : p ∈ a :: b :: c :: d :: e :: el) : p ∈ e :: a :: b :: c :: d :: el := by
  simp only [List.mem_cons] at hp ⊢
  rcases hp with h | h | h | h | h | h
  · exact .inr (.inl h)
  · exact .inr (.inr (.inl h))
  · exact .inr (.inr (.inr (.inl h)))
  · exact .inr (.inr (.inr (.inr (.inl h))))
  · exact .inl h
  · exact .inr (.inr (.inr (.inr (.inr h))))
theorem strOk_of {t : Str} (h : ∀ c ∈ t.cps.toList, c < 1114112) : PyData.strOk t = true := by
  unfold PyData.strOk
  rw [Array.all_eq_true_iff_forall_mem]
  intro c hc
  exact decide_eq_true (h c (Array.mem_toList_iff.mpr hc))
theorem strOk_words {t : Str} (h : ∀ c ∈ t.cps.toList, c < 1114112) : PyData.strOk (errWords t) = true := by
  unfold errWords
  split
  · decide +kernel
  · refine strOk_of fun c hc => ?_
    have e : (Str.ofString "unexpected token in plural form: " ++ t).cps = (Str.ofString "unexpected token in plural form: ").cps ++ t.cps := rfl
    rw [e, Array.toList_append] at hc
    rcases List.mem_append.mp hc with hc | hc
    · exact of_decide_eq_true (List.all_eq_true.mp (show (Str.ofString "unexpected token in plural form: ").cps.toList.all (fun c => decide (c < 1114112)) = true by decide) c hc)
    · exact h c hc
theorem shaped_one {x : Str} (h : PyData.strOk x = true) : SeqAt.shaped (.list [.str x]) = true := by
  simp [SeqAt.shaped, PyData.canLay0, PyData.canLayAll0, PyData.depth, PyData.depthAll, h]
theorem shaped_two {x y : Str} (h : PyData.strOk x = true) (h' : PyData.strOk y = true) : SeqAt.shaped (.list [.list [.str x], .list [.str y]]) = true := by
  simp [SeqAt.shaped, PyData.canLay0, PyData.canLayAll0, PyData.depth, PyData.depthAll, h, h']
end Mine


set_option maxRecDepth 100000
namespace Mine
section
variable {prog : Program} {w : World} {A : Around} {E : Value → Shared → Prop} {s : Shared} {env : Env} {body : List Stmt} {Q : Flow → Shared → Prop} {h₀ : Heap} {L : Addr}

theorem fr_but {I : Addr} {h h' : Heap} {m : Str → Option Value} (F : Fr h₀ L h m) (hL : I ≠ L) (hn : h₀.get? I = none) (k : ∀ b o, b ∉ [I] → h.get? b = some o → h'.get? b = some o) : Fr h₀ L h' m := by
  have k' : ∀ b o, b ≠ I → h.get? b = some o → h'.get? b = some o := fun b o hb e => k b o (by simpa using hb) e
  exact ⟨F.ns.at' fun o e => k' L o (Ne.symm hL) e, fun b o e => k' b o (fun z => by rw [z, hn] at e; cases e) (F.keep b o e), F.above⟩
theorem news_but {I : Addr} {h h' : Heap} {nx : List (Addr × Obj)} (N : News h₀ L h nx) (ne : ∀ p ∈ nx, p.1 ≠ I) (k : ∀ b o, b ∉ [I] → h.get? b = some o → h'.get? b = some o) : News h₀ L h' nx :=
  fun p hp => ⟨k _ _ (by simpa using ne p hp) (N p hp).1, (N p hp).2⟩

/-- where a turn's suite must come to -/
def TurnTo (h₀ : Heap) (L : Addr) (s : Shared) (I : Addr) (oI : Obj) (J : (Str → Option Value) → List (Addr × Obj) → Prop) (s' : Shared) : Prop :=
  ∃ m nx h tk, s' = { s with heap := h, toks := tk } ∧ J m nx ∧ Fr h₀ L h m ∧ News h₀ L h ((I, oI) :: nx) ∧ (∀ p ∈ nx, p.1 ≠ I)

/-- a for's turns by an invariant over the turn's number, the frame and the ledger -/
def TurnsC (prog : Program) (w : World) (A : Around) (env : Env) (target : PySem.Expr) (body : List Stmt) (Q : Flow → Shared → Prop) (E : Value → Shared → Prop) (it : Value) (s₃ : Shared) : Prop :=
  ∃ (I : Nat → Shared → Prop) (b : Nat), I b s₃ ∧
      ∀ b s, I b s → wpAny (model prog w) A (pyNext it) (fun o s₄ => match o with
        | none => Q .next s₄
        | some v => wpAny (model prog w) A (letOwnedTupleGo target it v) (fun _ s₅ => wpAny (model prog w) A (assign target env v) (fun _ s₆ =>
          wpC (model prog w) A (execs body env) (fun f s₇ => match f with | .next => Halt (∃ b', b' < b ∧ I b' s₇) | .cont => Halt (∃ b', b' < b ∧ I b' s₇) | .brk => Q .next s₇ | .ret v => Q (.ret v) s₇) E s₆) E s₅) E s₄) E s

theorem turns_inv {I : Addr} {fp : List Addr} {n : Nat} {P : Nat → Value → Prop} {St : Nat → Heap → Prop} {x : Str} {np : Pos} (W : Walks prog w A I fp [I] n P St) (J : Nat → (Str → Option Value) → List (Addr × Obj) → Prop)
    (hob : ∀ i h, St i h → ∃ o, h.get? I = some o) (hst : ∀ i h h' o m nx, St i h → h.get? I = some o → h'.get? I = some o → J i m nx → News h₀ L h' nx → St i h')
    (hL : I ≠ L) (hn : h₀.get? I = none) {m₀ : Str → Option Value} {news : List (Addr × Obj)} (F : Fr h₀ L s.heap m₀) (N : News h₀ L s.heap news) (ne : ∀ p ∈ news, p.1 ≠ I) (st : St 0 s.heap) (hj : J 0 m₀ news)
    (done : ∀ m nx h tk, J n m nx → Fr h₀ L h m → News h₀ L h nx → Q .next { s with heap := h, toks := tk })
    (turn : ∀ i v m nx h tk oI, i < n → P i v → J i m nx → Fr h₀ L h m → News h₀ L h ((I, oI) :: nx) → (∀ p ∈ nx, p.1 ≠ I) →
      wpAny (model prog w) A (storeName env x v) (fun _ s₆ => wpC (model prog w) A (execs body env) (fun f s₇ => match f with
        | .next => Halt (TurnTo h₀ L s I oI (J (i + 1)) s₇) | .cont => Halt (TurnTo h₀ L s I oI (J (i + 1)) s₇) | .brk => Q .next s₇ | .ret v => Q (.ret v) s₇) E s₆) E { s with heap := h, toks := tk }) :
    TurnsC prog w A env (.Name x np) body Q E (.ref I) s := by
  refine ⟨fun b s' => ∃ i m nx h tk, s' = { s with heap := h, toks := tk } ∧ b = n - i ∧ i ≤ n ∧ J i m nx ∧ Fr h₀ L h m ∧ News h₀ L h nx ∧ St i h ∧ (∀ p ∈ nx, p.1 ≠ I), n, ⟨0, m₀, news, s.heap, s.toks, rfl, rfl, Nat.zero_le _, hj, F, N, st, ne⟩, ?_⟩
  rintro b _ ⟨i, m, nx, h, tk, rfl, rfl, hi, hJ, F1, N1, st1, ne1⟩
  rcases Nat.lt_or_ge i n with hlt | hge
  · refine W.item i _ _ _ hlt st1 fun v h' tk' hP st' k => ?_
    show wpAny _ A (pure ()) _ _ _
    refine wpAny_pure ?_
    refine wpAny_assign_Name ?_
    obtain ⟨oI, ho⟩ := hob _ _ st'
    have F2 := fr_but F1 hL hn k
    have N2 : News h₀ L h' ((I, oI) :: nx) := fun p hp => by
      rcases List.mem_cons.mp hp with rfl | hp
      · exact ⟨ho, hL, hn⟩
      · exact news_but N1 ne1 k p hp
    refine wpAny_mono (turn i v m nx h' tk' oI hlt hP hJ F2 N2 ne1) (fun _ s₆ h6 => ?_) fun _ _ e => e
    refine wpC_mono h6 (fun f s₇ h7 => ?_) fun _ _ e => e
    have key : TurnTo h₀ L s I oI (J (i + 1)) s₇ → ∃ b', b' < n - i ∧ ∃ i m nx h tk, s₇ = { s with heap := h, toks := tk } ∧ b' = n - i ∧ i ≤ n ∧ J i m nx ∧ Fr h₀ L h m ∧ News h₀ L h nx ∧ St i h ∧ (∀ p ∈ nx, p.1 ≠ I) := by
      rintro ⟨m2, nx2, h2, tk2, rfl, hJ2, F3, N3, ne3⟩
      have N3' : News h₀ L h2 nx2 := fun p hp => N3 p (.tail _ hp)
      exact ⟨n - (i + 1), by omega, i + 1, m2, nx2, h2, tk2, rfl, rfl, hlt, hJ2, F3, N3', hst _ _ _ _ _ _ st' ho (N3 _ (.head _)).1 hJ2 N3', ne3⟩
    cases f with
    | next => exact key h7
    | cont => exact key h7
    | brk => exact h7
    | ret v => exact h7
  · obtain rfl : i = n := by omega
    refine W.done _ _ _ st1 fun h' tk' k => ?_
    exact done m nx h' tk' hJ (fr_but F1 hL hn k) (news_but N1 ne1 k)

/-- a for over a list of the ledger -/
theorem iter_listC {l : Addr} {vs : List Value} {nl : Nat} {x : Str} {np : Pos} (J : Nat → (Str → Option Value) → List (Addr × Obj) → Prop) (hh : A.handled = none) {m₀ : Str → Option Value} {news : List (Addr × Obj)} (F : Fr h₀ L s.heap m₀) (N : News h₀ L s.heap news)
    (hl : (l, listOf vs.toArray nl) ∈ news) (hJl : ∀ i m nx, J i m nx → (l, listOf vs.toArray nl) ∈ nx) (hj : J 0 m₀ news)
    (done : ∀ m nx h tk, J vs.length m nx → Fr h₀ L h m → News h₀ L h nx → Q .next { s with heap := h, toks := tk })
    (turn : ∀ I i v m nx h tk oI, i < vs.length → vs[i]? = some v → J i m nx → Fr h₀ L h m → News h₀ L h ((I, oI) :: nx) → (∀ p ∈ nx, p.1 ≠ I) →
      wpAny (model prog w) A (storeName env x v) (fun _ s₆ => wpC (model prog w) A (execs body env) (fun f s₇ => match f with
        | .next => Halt (TurnTo h₀ L s I oI (J (i + 1)) s₇) | .cont => Halt (TurnTo h₀ L s I oI (J (i + 1)) s₇) | .brk => Q .next s₇ | .ret v => Q (.ret v) s₇) E s₆) E { s with heap := h, toks := tk }) :
    wpAny (model prog w) A (pyIter (.ref l)) (fun it s₂ => TurnsC prog w A env (.Name x np) body Q E it s₂) E s := by
  have hls : s.heap.IsList l vs.toArray := N.isList hl
  refine wpAny_pyIter_list hls ?_
  have hlt : l < s.heap.objs.size := Heap.lt_size (N _ hl).1
  have hn : h₀.get? s.heap.objs.size = none := by
    cases q : h₀.get? s.heap.objs.size with
    | none => rfl
    | some o => exact absurd (Heap.lt_size (F.keep _ _ q)) (Nat.lt_irrefl _)
  have hL : s.heap.objs.size ≠ L := fun e => absurd F.ns.lt (e ▸ Nat.lt_irrefl _)
  refine turns_inv (Walks.list hh s.heap.objs.size l (Nat.ne_of_lt hlt) vs.toArray) J (fun i h st => ⟨_, st.1.choose_spec.1⟩) ?_ hL hn (F.push _) (fun p hp => ⟨Heap.get?_push_of_some _ (N p hp).1, (N p hp).2⟩) (fun p hp => Nat.ne_of_lt (Heap.lt_size (N p hp).1)) ⟨⟨_, Heap.get?_push_size _ rfl, rfl, rfl⟩, hls.at fun o e => Heap.get?_push_of_some _ e⟩ hj ?_ ?_
  · intro i h h' o m nx st ho ho' hJ N'
    refine ⟨st.1.at fun o2 e => ?_, N'.isList (hJl i m nx hJ)⟩
    rw [ho] at e; cases e; exact ho'
  · intro m nx h tk hJ F' N'
    exact done m nx h tk (by simpa using hJ) F' N'
  · intro i v m nx h tk oI hi hP hJ F' N' ne'
    exact turn _ i v m nx h tk oI (by simpa using hi) (by simpa using hP) hJ F' N' ne'

/-- a for over a range by ones -/
theorem iter_rangeC {r : Addr} {a b : Int} {t u v : Tok} {n : Nat} {x : Str} {np : Pos} (J : Nat → (Str → Option Value) → List (Addr × Obj) → Prop) (hh : A.handled = none) {m₀ : Str → Option Value} {news : List (Addr × Obj)} (F : Fr h₀ L s.heap m₀) (N : News h₀ L s.heap news)
    (hr : IsRange s.heap r a b 1 t u v) (hsmall : Builtin.Range.small a b 1 = true) (hsz : Builtin.Range.rangeSize a b 1 = (n : Int)) (hj : J 0 m₀ news)
    (done : ∀ m nx h tk, J n m nx → Fr h₀ L h m → News h₀ L h nx → Q .next { s with heap := h, toks := tk })
    (turn : ∀ I i v m nx h tk oI, i < n → (∃ t, v = .int (a + (i : Int)) t) → J i m nx → Fr h₀ L h m → News h₀ L h ((I, oI) :: nx) → (∀ p ∈ nx, p.1 ≠ I) →
      wpAny (model prog w) A (storeName env x v) (fun _ s₆ => wpC (model prog w) A (execs body env) (fun f s₇ => match f with
        | .next => Halt (TurnTo h₀ L s I oI (J (i + 1)) s₇) | .cont => Halt (TurnTo h₀ L s I oI (J (i + 1)) s₇) | .brk => Q .next s₇ | .ret v => Q (.ret v) s₇) E s₆) E { s with heap := h, toks := tk }) :
    wpAny (model prog w) A (pyIter (.ref r)) (fun it s₂ => TurnsC prog w A env (.Name x np) body Q E it s₂) E s := by
  refine wpAny_pyIter_range hr hsmall ?_
  have hn : h₀.get? s.heap.objs.size = none := by
    cases q : h₀.get? s.heap.objs.size with
    | none => rfl
    | some o => exact absurd (Heap.lt_size (F.keep _ _ q)) (Nat.lt_irrefl _)
  have hL : s.heap.objs.size ≠ L := fun e => absurd F.ns.lt (e ▸ Nat.lt_irrefl _)
  refine turns_inv (LCg.range_walks hh a n) J (fun i h st => ⟨_, st⟩) ?_ hL hn (F.push _) (fun p hp => ⟨Heap.get?_push_of_some _ (N p hp).1, (N p hp).2⟩) (fun p hp => Nat.ne_of_lt (Heap.lt_size (N p hp).1)) (by show IsRangeIter _ _ _ _ _; rw [hsz]; simpa using Heap.get?_push_size _ rfl) hj ?_ ?_
  · intro i h h' o m nx st ho ho' hJ N'
    have st' : h.get? s.heap.objs.size = some _ := st
    rw [ho] at st'; cases st'; exact ho'
  · intro m nx h tk hJ F' N'
    exact done m nx h tk hJ F' N'
  · intro i v m nx h tk oI hi hP hJ F' N' ne'
    exact turn _ i v m nx h tk oI hi hP hJ F' N' ne'

/-- a store into a cell of the ledger -/
theorem store_cell {cn : Str} {cs : Scope} {a c : Addr} {ccd : Value} {cl : List (Str × Addr)} {x : Str} {v : Value} {v₀ : Option Value} {o : Obj} {m : Str → Option Value} {rest : List (Addr × Obj)} {Qu : Unit → Shared → Prop} (F : Fr h₀ L s.heap m) (N : News h₀ L s.heap ((c, o) :: rest)) (ne : ∀ p ∈ rest, p.1 ≠ c)
    (hc : cl.lookup x = some c) (hd : o.data = .cell v₀) (h : ∀ h' o', Fr h₀ L h' m → News h₀ L h' ((c, o') :: rest) → o'.data = .cell (some v) → Qu () { s with heap := h' })
    (hk : cs.kind = .function := by rfl) (hx : (envX cn cs L a ccd cl).kindOf x = some .cell := by rfl) : wpAny (model prog w) A (storeName (envX cn cs L a ccd cl) x v) Qu E s := by
  have hmem := N (c, o) (.head _)
  refine wpAny_storeName_cell hk hx hc ⟨o, hmem.1, hd⟩ fun h' hv hs => ?_
  obtain ⟨o', ho', hd'⟩ := hv
  have k : ∀ b o, b ∉ [c] → s.heap.get? b = some o → h'.get? b = some o := fun b o hb e => (hs.2 b (by simpa using hb)).trans e
  refine h h' o' (fr_but F hmem.2.1 hmem.2.2 k) (fun p hp => ?_) hd'
  rcases List.mem_cons.mp hp with rfl | hp
  · exact ⟨ho', hmem.2⟩
  · exact news_but (fun p hp => N p (.tail _ hp)) ne k p hp

theorem wpC_ForT {pos : Pos} {target iter : PySem.Expr} (hE : PassesOwn (model prog w) A env E)
    (h : wpAny (model prog w) A (eval iter env) (fun x s₁ => wpAny (model prog w) A (pyIter x) (fun it s₃ => TurnsC prog w A env target body Q E it s₃) E s₁) E s)
    (hf : ∀ x, foldedSetIterable iter env x = pure x := by intro x; rfl) :
    wpC (model prog w) A (exec (.For target iter body [] pos) env) Q E s := wpC_For hE (wpAny_mono h (fun x s₁ h1 => by rw [hf]; exact wpAny_pure h1) fun _ _ e => e)
end
end Mine


set_option maxRecDepth 100000
namespace Mine
section
variable {prog : Program} {w : World} {A : Around} {h₀ : Heap} {L : Addr} {m : Str → Option Value} {env : Env} {ct elt : PySem.Expr} {x : Str} {scope : Scope} {cl : List (Str × Addr)} {s : Shared} {S : List (Addr × Obj) → Prop} {P : Nat → Value → Prop} {Fin : List Value → List (Addr × Obj) → Prop} {news : List (Addr × Obj)}

/-- a comprehension whose test is never met -/
theorem comp_none {n : Nat} (I : List (Addr × Obj) → Prop) (h0 : I news) (fin : ∀ news, I news → Fin [] news)
    (turn : ∀ i news v J oJ C oC D m₂ h tk (E' : Value → Shared → Prop), i < n → I news → P i v → LCg.NsObj oC m₂ → m₂ x = some v → Fr h₀ L h m → News h₀ L h ((J, oJ) :: (C, oC) :: (D, LCg.lst []) :: news) → LCg.Off3 J C D news → ((@Ne Nat J C) ∧ (@Ne Nat J D) ∧ (@Ne Nat C D)) →
      wpAny (model prog w) A (isTrue ct (compEnvC scope cl C env) (eval ct (compEnvC scope cl C env))) (fun ok s' => ok = false ∧ LCg.CompEnd h₀ L m { s with heap := h, toks := tk } J oJ C oC D (LCg.lst []) S (fun _ news' => I news') Value.none s') E' { s with heap := h, toks := tk }) :
    LCt.CompRestT prog w A h₀ L m env ct elt x scope cl s S P Fin n 0 [] news := by
  have key : ∀ (j i : Nat) (news : List (Addr × Obj)), i + j = n → I news → LCt.CompRestT prog w A h₀ L m env ct elt x scope cl s S P Fin j i [] news := by
    intro j
    induction j with
    | zero =>
      intro i news hi hI
      exact LCt.CompRestT.zero (fin news hI)
    | succ j ih =>
      intro i news hi hI
      refine LCt.CompRestT.succ ?_
      intro v J oJ C oC D m₂ h tk E' hv hC hx F N off ne
      refine wpAny_mono (turn i news v J oJ C oC D m₂ h tk E' (by omega) hI hv hC hx F N off ne) (fun ok s₂ hq => ?_) fun _ _ e => e
      obtain ⟨rfl, h', tk', nw, e, F', N', off', hS, hn⟩ := hq
      rw [if_neg (by decide)]
      exact ⟨h', tk', nw, e, F', N', off', hS, ih (i + 1) _ (by omega) hn⟩
  exact key n 0 news (by omega) h0
end
end Mine


set_option maxRecDepth 100000
namespace Mine
section
variable {prog : Program} {w : World} {A : Around} {E : Value → Shared → Prop} {s : Shared} {env : Env} {body orelse : List Stmt} {Q : Flow → Shared → Prop}

/-- an if whose test compares what a call gives back -/
theorem wpC_IfCmp {l r : PySem.Expr} {op : CmpOp} {cpos pos : Pos} (h : wpC (model prog w) A (eval l env) (fun a s₁ => wpAny (model prog w) A (eval r env) (fun b s₂ => wpAny (model prog w) A (compareOp op a b) (fun c s₃ => wpAny (model prog w) A (truthy c)
      (fun b s₄ => WhlIf b (wpC (model prog w) A (execs body env) Q E s₄) (wpC (model prog w) A (execs orelse env) Q E s₄)) E s₃) E s₂) E s₁) E s)
    (hm : behindInMarks op r = false := by with_unfolding_all rfl) : wpC (model prog w) A (exec (.If (.Compare l [op] [r] cpos) body orelse pos) env) Q E s := by
  rw [exec_If, isTrue_Compare1, markedBehindIn_of_false hm]
  refine wpC_bindL (wpAny_standAt (wpC_bind (wpC_bind (wpC_mono h (fun a s₁ h₁ => ?_) fun _ _ x => x))))
  refine wpC_bindL (wpAny_holding (wpAny_mono h₁ (fun b s₂ h₂ => ?_) fun _ _ x => x))
  refine wpC_bindL (wpAny_standAt ?_)
  have hop : wpAny (model prog w) A (operate [a, b] (compareOp op a b)) (fun c s₃ => wpAny (model prog w) A (truthy c)
      (fun b s₄ => WhlIf b (wpC (model prog w) A (execs body env) Q E s₄) (wpC (model prog w) A (execs orelse env) Q E s₄)) E s₃) E s₂ := fun Γ p hΓ => by
    rw [Sem.wp_operate]; exact h₂ Γ _ hΓ
  refine wpC_bindL (wpAny_mono hop (fun c s₃ h₃ => ?_) fun _ _ x => x)
  refine wpC_of_any (wpAny_holding (wpAny_mono h₃ (fun b s₄ h₄ => ?_) fun _ _ x => x))
  unfold WhlIf at h₄
  cases b with
  | true => rw [if_pos rfl] at h₄ ⊢; exact h₄
  | false => rw [if_neg Bool.false_ne_true] at h₄ ⊢; exact h₄

/-- a call of a def of the text by its name, where names are captured -/
theorem wpC_callX {K : Frag} {h₁ : Heap} {L a f : Addr} {m mg mb : Str → Option Value} {cn : Str} {cs : Scope} {ccd : Value} {cl : List (Str × Addr)} {p : Program} {loose : List Str} {x : Str} {np cpos : Pos} {e : PySem.Expr} {rest : List PySem.Expr} {Qv : Value → Shared → Prop}
    (F : Fr h₁ L s.heap m) (X : K.In h₁) (T : TopRead p loose mg mb h₁) (hn : nsIn K mainGlobals x = some (some (.ref f))) (hf : fnIn K f = true)
    (h : wpAny (model prog w) A (spliced (backTo cpos (starEach (e :: rest) (envX cn cs L a ccd cl)))) (fun vs s₁ => K.In s₁.heap ∧ wpC (model prog w) A (call (.ref f) vs) Qv E s₁) E s)
    (hk : cs.kind = .function := by rfl) (hx : (envX cn cs L a ccd cl).kindOf x = some .globalImplicit := by rfl) (hd : (x == ("__debug__" : Str)) = false := by decide)
    (he : starEach (e :: rest) (envX cn cs L a ccd cl) = (false, eval e (envX cn cs L a ccd cl)) :: starEach rest (envX cn cs L a ccd cl) := by rfl) (hplain : (backTo cpos (starEach rest (envX cn cs L a ccd cl))).any (·.1) = false := by rfl) :
    wpC (model prog w) A (eval (.Call (.Name x np) (e :: rest) [] cpos) (envX cn cs L a ccd cl)) Qv E s := by
  rw [arm_eval_Call_Name']
  refine wpC_bindL (nameX_K F X T hn ?_ hk hx hd)
  unfold callWith
  rw [he] at h ⊢
  refine wpC_bindL (wpAny_holding (evalArgs_plain (wpAny_mono h (fun vs s₁ h₁ => ?_) fun _ _ x => x)))
  refine wpC_bindL (wpAny_standAt ?_)
  obtain ⟨hK, hc⟩ := h₁
  have hs : ((backTo cpos ((false, eval e (envX cn cs L a ccd cl)) :: starEach rest (envX cn cs L a ccd cl))).any fun x => x.fst) = false := by
    show (false || (backTo cpos (starEach rest (envX cn cs L a ccd cl))).any (·.1)) = false
    rw [hplain]; rfl
  simp only [backToKw, keywordEach, List.map_nil, List.any_nil, Bool.or_false, hs]
  have Lk : Looks (model prog w) s₁.heap (keeperOf (.ref f)) .frame := by
    unfold fnIn at hf
    split at hf
    · rename_i q
      exact (Looks.ld (part := none) (hK _ _ q)).andThen .now
    · cases hf
  refine wpC_bindL (Lk.here ?_)
  show wpC _ A (if (backTo cpos ((false, eval e (envX cn cs L a ccd cl)) :: starEach rest (envX cn cs L a ccd cl))).length + 2 * ([] : List (Option Str × Sem Value)).length > 30 then _ else _) Qv E s₁
  have tail : ∀ {t : Sem Value}, wpC (model prog w) A t Qv E s₁ → wpC (model prog w) A (t >>= fun r => holding [r] point >>= fun _ => pure r) Qv E s₁ :=
    fun ht => wpC_bindR (wpC_mono ht (fun r s₂ hr => wpAny_bind (wpAny_holding (wpAny_point (wpAny_pure hr)))) fun _ _ x => x)
  split
  · exact tail hc
  · exact tail (by unfold callMarked; exact wpC_keep hc)
end
end Mine


set_option maxRecDepth 100000
set_option maxHeartbeats 8000000
namespace Mine
local macro_rules | `(tactic| walk_at "CompSrc") => `(tactic| (refine halt ?_))

local macro_rules | `(tactic| walk_at "CompSrcT") => `(tactic| (refine halt ?_))
local macro_rules | `(tactic| walk_at "pyIter") => `(tactic| (refine halt ?_))
local macro_rules | `(tactic| walk_at "pyIter ref") => `(tactic| (refine halt ?_))
theorem off1_mem {D : Addr} : ∀ {l : List (Addr × Obj)}, LCg.Off1 D l → ∀ p ∈ l, p.1 ≠ D
  | [], _, _, h => nomatch h
  | _ :: _, x, p, h => by
    rcases List.mem_cons.mp h with rfl | h
    · exact x.1
    · exact off1_mem x.2 p h
local macro_rules | `(tactic| walk_at "call builtin:len") => `(tactic| (refine halt ?_))
local macro_rules | `(tactic| walk_at "subscriptTail") => `(tactic| (k_here; (with_reducible show wpAny _ _ (subscriptTail _ _ (Value.ref _) (Value.int _ _)) _ _ _); k_dflt (refine' item_news ?N ?m ?x ?z ?_ ?s ?g; (case N => k_asm); (case m => k_mem); (case x => assumption); (case z => omega); (case s => with_unfolding_all rfl); (case g => (intro _; with_unfolding_all rfl)); k_whole)))
local macro_rules | `(tactic| walk_at "call type:type") => `(tactic| (refine halt ?_))
local macro_rules | `(tactic| walk_at "getAttr ref") => `(tactic| (refine halt ?_))
local macro_rules | `(tactic| walk_at "call type:list") => `(tactic| (refine halt ?_))
local macro_rules | `(tactic| walk_at "compareOp NotEq ref ref") => `(tactic| (refine halt ?_))
local macro_rules | `(tactic| walk_at "compareOp Eq ref ref") => `(tactic| (refine halt ?_))
local macro_rules | `(tactic| walk_at "compareOp Is ref ref") => `(tactic| (refine halt ?_))
local macro_rules | `(tactic| walk_at "binaryOp Add ref ref") => `(tactic| ((have hXX : ∃ u, GoodTok u := ⟨_, by assumption⟩); clear hXX; refine halt ?_))
local macro_rules | `(tactic| walk_at "compareOp XX") => `(tactic| (k_here; (with_reducible show wpAny _ _ (compareOp _ (Value.ref _) (Value.ref _)) _ _ _); refine halt ?_))
local macro_rules | `(tactic| walk_at "call ref") => `(tactic| (refine halt ?_))

theorem l1 : PySem.Challenge.rw_dv0012_01.Holds := hd (by
  k_fill
  intro w s₀ s₁ mg mb G Y fa o pm cd doc dV kV ho hdd hcd hD hmg hg args vals as hpre hlay hrd hwl hlo
  have KX := kIn_of Y
  refine Ground.open G ?_
  intro T B D TE TW
  wrow_args hpre hlay hrd hwl hlo
  clear TE TW D B
  have he := Dflts.none hD rfl
  subst he
  have hk := Dflts.noKw hD
  subst hk
  dsimp only [docDef] at hdd
  refine wpC_call (codeC_topC (binds := [(Str.ofString "script", .ref _)]) ho hdd (Top.nolimit T) hcd (by decide) rfl (kinds_of (by kinds_ok)) (by decide) ?_ rfl rfl rfl)
  intro h₁ tk cells F N CA
  have hY := CellsAre.two CA
  obtain ⟨o', o2', hE', d1', d2'⟩ := hY
  subst hE'
  clear CA
  have K0 := below_caller s₁.heap
  clear hdd hD ho
  refine wpC_named ?_
  intro qk ek hq he
  refine wpC_execs_consL ?_
  k_steps
  unfold Halt
  rename Fr s₁.heap s₁.heap.objs.size _ _ => F1
  rename News s₁.heap s₁.heap.objs.size _ _ => N1
  rename IntsAre _ ([0, 2, 4, 9] ++ _) => hI1
  rename (_ = min 14 _) => hmin
  have hz1 := ints_len hI1
  rw [List.length_append, hmin] at hz1
  refine LCg.CompSrc.ledger rfl F1 N1 (.head _) (Nat.le_trans (show _ ≤ 100 by simp; simp at hz1; omega) (by decide)) ?_
  intro gg
  refine comp_inv (fun i ys nw => nw = _ ∧ ys.length = i ∧ ∃ ts, StrsAre ys ts ∧ ∀ t ∈ ts, TextOk t) ⟨rfl, rfl, [], .nil, fun _ h => nomatch h⟩ ?_ ?_
  · rintro ys _ ⟨rfl, hl1, ts, hS1, hT1⟩
    unfold LCg.FinA
    intro D2 h2 tk2 F2 N2 o2
    dsimp only
    clear F1 N1
    refine wpC_execs_consL ?_
    k_steps
    unfold Halt
    have N2' := news_sub (news' := [(D2, LCg.lst ys), (s₁.heap.objs.size + 1 + 1, o'), (s₁.heap.objs.size + 1, o2')]) N2 (by
      intro p hp
      simp only [List.mem_cons, List.not_mem_nil, or_false] at hp ⊢
      rcases hp with h | h | h
      · exact .inl h
      · exact .inr (.inr (.inr (.inr (.inl h))))
      · exact .inr (.inr (.inr (.inr (.inr h)))))
    have eD : D2 ≠ s₁.heap.objs.size + 1 ∧ D2 ≠ s₁.heap.objs.size + 1 + 1 := ⟨Ne.symm o2.2.2.2.2.1, Ne.symm o2.2.2.2.1⟩
    have ez : ts.length ≤ 18 ∧ ys.length = ts.length := by
      have e1 := strs_len hS1
      simp at hz1 hl1
      omega
    clear N2 o2 hI1 hmin hl1 hz1
    refine LCg.CompSrc.ledger rfl F2 N2' (.head _) (Nat.le_trans (show _ ≤ 100 by simp; omega) (by decide)) ?_
    intro gg2
    refine comp_inv (fun i zs nw => ∃ el, nw = el ++ [(D2, LCg.lst ys), (s₁.heap.objs.size + 1 + 1, o'), (s₁.heap.objs.size + 1, o2')] ∧ Errs zs (ts.take i) el) ⟨[], rfl, Errs.nil⟩ ?_ ?_
    · rintro zs _ ⟨el, rfl, hE⟩
      unfold LCg.FinE
      intro D3 h3 tk3 F3 N3 o3
      dsimp only
      rw [show ys.toArray.size = ts.length by simpa using ez.2, List.take_length] at hE
      have off : ∀ p ∈ el, p.1 ≠ s₁.heap.objs.size + 1 ∧ p.1 ≠ s₁.heap.objs.size + 1 + 1 := by
        intro p hp
        have q := (N3 p (.tail _ (List.mem_append_left _ hp))).1
        have q1 := (N3 _ (.tail _ (List.mem_append_right _ (.tail _ (.head _))))).1
        have q2 := (N3 _ (.tail _ (List.mem_append_right _ (.tail _ (.tail _ (.head _)))))).1
        refine ⟨fun z => ?_, fun z => ?_⟩
        · rw [z] at q; rw [q] at q2; cases q2; exact hE.kind _ hp _ d2'
        · rw [z] at q; rw [q] at q1; cases q1; exact hE.kind _ hp _ d1'
      have o3' := off1_mem o3
      refine store_cell (c := s₁.heap.objs.size + 1) (o := o2') (rest := (D3, LCg.lst zs) :: (D2, LCg.lst ys) :: (s₁.heap.objs.size + 1 + 1, o') :: el) F3 (news_sub N3 ?_) ?_ rfl d2' ?_ rfl rfl
      · intro p hp
        simp only [List.mem_cons, List.mem_append, List.not_mem_nil, or_false] at hp ⊢
        rcases hp with h | h | h | h | h
        · exact .inr (.inr (.inr (.inr h)))
        · exact .inl h
        · exact .inr (.inr (.inl h))
        · exact .inr (.inr (.inr (.inl h)))
        · exact .inr (.inl h)
      · intro p hp
        simp only [List.mem_cons] at hp
        rcases hp with rfl | rfl | rfl | h
        · exact Ne.symm (o3' _ (List.mem_append_right _ (.tail _ (.tail _ (.head _)))))
        · exact eD.1
        · exact Nat.succ_ne_self _
        · exact (off p h).1
      intro h4 o4 F4 N4 d4
      clear F2 N2' F3 N3 d2'
      dsimp only
      refine wpC_execs_cons (wpC_ForT (by rw [he]; exact PySem.PassesOwn.leaving) ?_)
      k_steps
      unfold Halt
      refine len_news N4 (.tail _ (.tail _ (.head _))) (by omega) ?_
      intro tk5 u5
      rw [ez.2]
      k_steps
      unfold Halt
      rename IsRange _ _ _ _ _ _ _ _ => hR
      rename StrsAre ys ts => hS1
      rename News s₁.heap s₁.heap.objs.size _ _ => Nr
      rename Fr s₁.heap s₁.heap.objs.size _ _ => Fq
      refine iter_rangeC (n := ts.length) (fun i m nx => m (Str.ofString "texts") = some (.ref D2) ∧ ∃ oi v, oi.data = .cell v ∧ nx = (s₁.heap.objs.size + 1, o4) :: (D3, LCg.lst zs) :: (D2, LCg.lst ys) :: (s₁.heap.objs.size + 1 + 1, oi) :: el) rfl Fq Nr hR ?_ ?_ ⟨rfl, o', _, d1', rfl⟩ ?_ ?_
      · exact small_one (by omega) (by omega) (by omega) (by omega)
      · rw [rangeSize_one]
        split <;> omega
      · skip
        rintro m5 _ h5 tk5 ⟨ht5, oi, vi, di, rfl⟩ F5 N5
        clear Fq Nr hR
        refine wpC_of_any ?_
        k_steps
        rw [hq]
        dsimp only
        refine GoodW.toG (goodW_bool F5 hg ?_ ?_)
        · exact raisesW_false (by wrow_none_raised)
        · refine postW_of (by wrow_shape) (by wtm_val) rfl
      · skip
        rintro I i _ m5 _ h5 tk5 oI hi ⟨ti, rfl⟩ ⟨ht5, oi, vi, di, rfl⟩ F5 N5 ne5
        clear Fq Nr hR
        obtain ⟨t, ht⟩ : ∃ t, ts[i]? = some t := ⟨_, List.getElem?_eq_getElem hi⟩
        have okt := hT1 t (List.mem_of_getElem? ht)
        obtain ⟨tt, hyt⟩ := strs_at hS1 ht
        obtain ⟨e, b, tw, hze, hee, hbe⟩ := hE.is i t ht
        have mE : (D3, LCg.lst zs) ∈ (s₁.heap.objs.size + 1, o4) :: (D3, LCg.lst zs) :: (D2, LCg.lst ys) :: (s₁.heap.objs.size + 1 + 1, oi) :: el := .tail _ (.head _)
        have nI : I ≠ s₁.heap.objs.size + 1 + 1 := Ne.symm (ne5 _ (.tail _ (.tail _ (.tail _ (.head _)))))
        have nD3 : D3 ≠ s₁.heap.objs.size + 1 + 1 := Ne.symm (o3' _ (List.mem_append_right _ (.tail _ (.head _))))
        refine store_cell (c := s₁.heap.objs.size + 1 + 1) (o := oi) (rest := (I, oI) :: (s₁.heap.objs.size + 1, o4) :: (D3, LCg.lst zs) :: (D2, LCg.lst ys) :: el) F5 (news_sub N5 ?_) ?_ rfl di ?_ rfl rfl
        · intro p hp
          simp only [List.mem_cons] at hp ⊢
          rcases hp with h | h | h | h | h | h
          · exact .inr (.inr (.inr (.inr (.inl h))))
          · exact .inl h
          · exact .inr (.inl h)
          · exact .inr (.inr (.inl h))
          · exact .inr (.inr (.inr (.inl h)))
          · exact .inr (.inr (.inr (.inr (.inr h))))
        · intro p hp
          simp only [List.mem_cons] at hp
          rcases hp with rfl | rfl | rfl | rfl | h
          · exact nI
          · exact Ne.symm (Nat.succ_ne_self _)
          · exact nD3
          · exact eD.2
          · exact (off p h).2
        intro h6 o6 F6 N6 d6
        dsimp only
        have F7 := pin F6 ht5
        rw [Int.zero_add] at d6
        clear F5 N5 F6
        refine wpC_named ?_
        intro qt et hqt het
        refine wpC_execs_consL ?_
        have htl := okt.len
        have hts : ts.length ≤ 18 := ez.1
        k_steps
        rename Fr s₁.heap s₁.heap.objs.size _ _ => F8
        rename News s₁.heap s₁.heap.objs.size _ _ => N8
        refine wpC_execs_cons (wpC_of_any (mid_cut (fun f s' => Halt (MidW s₁ s₁.heap.objs.size D2 (Str.ofString "words") (fun u => u = errWords t) ((s₁.heap.objs.size + 1 + 1, o6) :: (I, oI) :: (s₁.heap.objs.size + 1, o4) :: (D3, LCg.lst zs) :: (D2, LCg.lst ys) :: el) f s')) ?_ ?_))
        · k_steps
          · rename ((t == Str.ofString "") = true) => hte
            rename Fr s₁.heap s₁.heap.objs.size _ (fun y => if y = Str.ofString "words" then some (Value.str (Str.ofString "unexpected end of plural form") _) else _) => Fa
            rename News s₁.heap s₁.heap.objs.size _ _ => Na
            refine ⟨rfl, _, _, _, _, _, rfl, ?_, ?_, Fa, Na⟩
            · rw [beq_iff_eq.mp hte]; rfl
            · rfl
          · rename ((t == Str.ofString "") = false) => hte
            refine ⟨rfl, _, _, _, _, _, rfl, ?_, ?_, F8, N8⟩
            · unfold errWords
              rw [if_neg (by simpa using hte)]
            · rfl
        rintro _ _ ⟨rfl, h9, tk9, _, wt, mm, rfl, rfl, ht9, F9, N9⟩
        clear F8 N8
        dsimp only
        have F10 := pin F9 (x := Str.ofString "texts") (v := .ref D2) ht9
        clear F9
        refine wpC_execs_consL ?_
        k_steps
        unfold Halt
        have G9 : Got ((s₁.heap.objs.size + 1 + 1, o6) :: (I, oI) :: (s₁.heap.objs.size + 1, o4) :: (D3, LCg.lst zs) :: (D2, LCg.lst ys) :: el) e b (.type "ValueError") [.str (errWords t) tw] :=
          ⟨_, _, _, 0, .tail _ (.tail _ (.tail _ (.tail _ (.tail _ hee)))), .tail _ (.tail _ (.tail _ (.tail _ (.tail _ hbe)))), rfl, rfl, rfl, rfl, rfl⟩
        refine type_got N9 G9 rfl ?_
        k_steps
        unfold Halt
        refine args_got_builtin PySem.F.attr_ValueError N9 G9 ?_
        k_steps
        unfold Halt
        refine list_copyKT F10 N9 (Got.isTup N9 G9) ?_ (Nat.le_trans (show _ ≤ 1 by simp) (by decide))
        intro D11 c11 h11 F11 N11 lt11
        clear F10 N9
        k_steps
        unfold Halt
        rename News s₁.heap s₁.heap.objs.size _ ((_, W.listOf #[Value.str (errWords t) wt] 0) :: _) => N12
        refine ne_same (reads_one N12 (.tail _ (.head _))) (reads_one N12 (.head _)) (shaped_one (strOk_words okt.low)) (Nat.le_of_ble_eq_true rfl) ?_
        k_steps
        rename Fr s₁.heap s₁.heap.objs.size _ _ => F13
        rename News s₁.heap s₁.heap.objs.size _ _ => N13
        have N14 := news_sub (news' := (s₁.heap.objs.size + 1 + 1, o6) :: (I, oI) :: (s₁.heap.objs.size + 1, o4) :: (D3, LCg.lst zs) :: (D2, LCg.lst ys) :: el) N13 (fun p hp => .tail _ (.tail _ hp))
        refine wpC_execs_consL ?_
        clear N13
        k_steps
        unfold Halt
        rename IsRange _ _ _ _ _ _ _ _ => hR
        rename Fr s₁.heap s₁.heap.objs.size _ _ => F15
        rename News s₁.heap s₁.heap.objs.size _ _ => N15
        refine LCt.CompSrcT.range (n := i) rfl F15 N15 hR (small_one (by omega) (by omega) (by omega) (by omega)) (by rw [rangeSize_one]; split <;> omega) (Nat.le_trans (show i ≤ 100 by omega) (by decide)) ?_
        intro gg3
        refine comp_none (fun nw => nw = (s₁.heap.objs.size + 1 + 1, o6) :: (I, oI) :: (s₁.heap.objs.size + 1, o4) :: (D3, LCg.lst zs) :: (D2, LCg.lst ys) :: el) rfl ?_ ?_
        · rintro _ rfl
          unfold LCg.FinE
          intro D16 h16 tk16 F16 N16 o16
          clear F15 N15 hR
          k_steps
          unfold Halt
          rename News s₁.heap s₁.heap.objs.size _ ((_, W.listOf #[] 0) :: _) => N17
          refine ne_same (d := .list []) (reads_list_at (N17 _ (.tail _ (.head _))).1 rfl rfl .nil) (reads_list_at (N17 _ (.head _)).1 rfl rfl .nil) rfl (Nat.le_of_ble_eq_true rfl) ?_
          k_steps
          rename Fr s₁.heap s₁.heap.objs.size _ _ => F18
          have N18 := news_sub (news' := (s₁.heap.objs.size + 1 + 1, o6) :: (I, oI) :: (s₁.heap.objs.size + 1, o4) :: (D3, LCg.lst zs) :: (D2, LCg.lst ys) :: el) N17 (fun p hp => .tail _ (.tail _ hp))
          clear N17
          refine wpC_execs_cons (wpC_of_any (mid_cut (fun f s' => Halt (MidW s₁ s₁.heap.objs.size D2 (Str.ofString "token") (fun u => GoodTok u ∧ u.length ≤ 30 ∧ PyData.strOk (errWords u) = true) ((s₁.heap.objs.size + 1 + 1, o6) :: (I, oI) :: (s₁.heap.objs.size + 1, o4) :: (D3, LCg.lst zs) :: (D2, LCg.lst ys) :: el) f s')) ?_ ?_))
          · skip
            k_steps
            · rename Fr s₁.heap s₁.heap.objs.size _ (fun y => if y = Str.ofString "token" then some (Value.str _ _) else _) => Fa
              rename News s₁.heap s₁.heap.objs.size _ _ => Na
              refine ⟨rfl, _, _, _, _, _, rfl, ⟨good_x fun c hc => Nat.lt_trans (okt.low c hc) (by decide), ?_, strOk_words ?_⟩, ?_, Fa, Na⟩
              · rw [Str.length_append]
                exact Nat.le_trans (Nat.add_le_add_left htl 1) (by decide)
              · intro c hc
                rw [cps_x] at hc
                rcases List.mem_cons.mp hc with rfl | hc
                · decide
                · exact okt.low c hc
              · rfl
            · rename Fr s₁.heap s₁.heap.objs.size _ (fun y => if y = Str.ofString "token" then some (Value.str _ _) else _) => Fa
              rename News s₁.heap s₁.heap.objs.size _ _ => Na
              refine ⟨rfl, _, _, _, _, _, rfl, ⟨good_nil, by decide, by decide +kernel⟩, ?_, Fa, Na⟩
              rfl
          rintro _ _ ⟨rfl, h19, tk19, u, ut, mm2, rfl, ⟨gu, hul, hus⟩, ht19, F19, N19⟩
          clear F18 N18
          dsimp only
          have F20 := pin F19 (x := Str.ofString "texts") (v := .ref D2) ht19
          clear F19
          refine wpC_execs_consL ?_
          k_steps
          unfold Halt
          refine error_call K0 F20 KX N19 T rfl (by decide) (by decide) (Nat.le_trans hul (by decide)) ?_
          intro e3 b3 tw3 h21 tk21 F21 N21 ne21
          clear F20 N19
          k_steps
          unfold Halt
          have G21 : Got ((e3, excOf b3) :: (b3, tupOf [.str (errWords u) tw3]) :: (s₁.heap.objs.size + 1 + 1, o6) :: (I, oI) :: (s₁.heap.objs.size + 1, o4) :: (D3, LCg.lst zs) :: (D2, LCg.lst ys) :: el) e3 b3 (.type "ValueError") [.str (errWords u) tw3] := ⟨_, _, _, 0, .head _, .tail _ (.head _), rfl, rfl, rfl, rfl, rfl⟩
          refine args_got_builtin PySem.F.attr_ValueError N21 G21 ?_
          k_steps
          unfold Halt
          refine list_copyKT F21 N21 (Got.isTup N21 G21) ?_ (Nat.le_trans (show _ ≤ 1 by simp) (by decide))
          intro D22 c22 h22 F22 N22 lt22
          clear F21 N21 G21 lt22
          iterate 9 walk1
          rename Fr s₁.heap s₁.heap.objs.size _ _ => F23
          rename News s₁.heap s₁.heap.objs.size _ _ => N23
          refine wpC_execs_cons ?_
          refine wpC_ForT ?hE ?_ ?hf
          case hf => intro x; rfl
          case hE => (rw [het, he]; exact PySem.PassesOwn.leaving)
          iterate 50 walk1
          unfold Halt
          rename Fr s₁.heap s₁.heap.objs.size _ _ => F24
          rename News s₁.heap s₁.heap.objs.size _ _ => N24
          have five := five_of N24 gu
          refine iter_listC (vs := [_, _, _, _, _]) (nl := 0) (fun i m nx => m (Str.ofString "texts") = some (.ref D2) ∧ m (Str.ofString "token") = some (.str u ut) ∧ m (Str.ofString "due") = frOf F24 (Str.ofString "due") ∧ nx = ledOf N24) rfl F24 N24 (.head _) ?_ ⟨rfl, rfl, rfl, rfl⟩ ?_ ?_
          · rintro i m nx ⟨_, _, _, rfl⟩
            exact .head _
          · rintro m25 _ h25 tk25 ⟨q1, q2, q3, rfl⟩ F25 N25
            dsimp only
            refine wpC_of_any (wpAny_execs_nil ?_)
            rw [hqt]
            refine ⟨m25, _, h25, tk25, rfl, ⟨q1, o6, _, d6, rfl⟩, F25, news_sub N25 ?_, ?_⟩
            · intro p hp
              exact .tail _ (.tail _ (.tail _ (.tail _ (.tail _ (.tail _ (.tail _ (.tail _ (.tail _ (.tail _ (.tail _ (mem_rot hp)))))))))))
            · intro p hp
              simp only [List.mem_cons] at hp
              rcases hp with rfl | rfl | rfl | rfl | h
              · exact ne5 _ (.head _)
              · exact ne5 _ (.tail _ (.head _))
              · exact ne5 _ (.tail _ (.tail _ (.head _)))
              · exact ne5 (s₁.heap.objs.size + 1 + 1, oi) (.tail _ (.tail _ (.tail _ (.head _))))
              · exact ne5 _ (.tail _ (.tail _ (.tail _ (.tail _ h))))
          · rintro I2 i2 v m25 _ h25 tk25 oI2 hi2 hv ⟨q1, q2, q3, rfl⟩ F25 N25 ne25
            obtain ⟨la, va, toks, np, rfl, hm, hS, hn, hP, hlen, hz⟩ := five i2 v hv
            have F26 := pin (pin (pin F25 q1) (x := Str.ofString "token") q2) (x := Str.ofString "due") q3
            dsimp only [ledOf] at hm N25 ne25
            clear five F25
            walk1
            rename Fr s₁.heap s₁.heap.objs.size _ _ => F27
            rename News s₁.heap s₁.heap.objs.size _ _ => N27
            refine wpC_execs_cons ?_
            refine wpC_IfCmp ?_
            refine wpC_callX F27 KX (topRead_of T) rfl rfl ?_
            iterate 8 walk1
            rename Fr s₁.heap s₁.heap.objs.size _ _ => F28
            rename News s₁.heap s₁.heap.objs.size _ _ => N28
            have hvl := strs_len hS
            refine cat_lists F28 N28 (.tail _ (.tail _ hm)) (.head _) (Nat.le_trans (show _ ≤ 100 by simp; omega) (by decide)) ?_
            intro D29 h29 F29 N29 lt29
            clear lt29 F28 N28
            iterate 2 walk1
            refine refused_call (toks := toks ++ [u]) hP hn F29 ⟨KX, T⟩ N29 (.head _) (hS.append' (.cons _ _ .nil)) ?_ (by simp; omega) rfl (by decide) (by decide) ?_
            · intro t1 ht1
              rcases List.mem_append.mp ht1 with h | h
              · exact hlen t1 h
              · rw [List.mem_singleton.mp h]; omega
            intro l1 l2 l3 t1 t2 n1 n2 n3 h30 tk30 F30 N30
            clear F29 N29
            walk1
            walk1
            unfold Halt
            obtain ⟨_, r1⟩ := reads_two N30 (.head _) (.tail _ (.tail _ (.head _))) (.tail _ (.head _))
            obtain ⟨_, r2⟩ := reads_two N30 (.tail _ (.tail _ (.tail _ (.tail _ (.tail _ (.tail _ (.tail _ (.tail _ (.tail _ (.tail _ (.tail _ (.tail _ (.head _))))))))))))) (.tail _ (.tail _ (.tail _ (.tail _ (.tail _ (.tail _ (.tail _ (.tail _ (.tail _ (.tail _ (.tail _ (.tail _ (.tail _ (.tail _ (.head _))))))))))))))) (.tail _ (.tail _ (.tail _ (.tail _ (.tail _ (.tail _ (.tail _ (.tail _ (.tail _ (.tail _ (.tail _ (.tail _ (.tail _ (.head _))))))))))))))
            refine ne_same r1 r2 (shaped_two hus (by decide +kernel)) (Nat.le_of_ble_eq_true rfl) ?_
            walk1
            unfold WhlIf
            rw [if_neg (by decide)]
            refine wpC_of_any (wpAny_execs_nil ?_)
            dsimp only
            refine wpC_of_any (wpAny_execs_nil ?_)
            dsimp only
            exact ⟨frOf F30, ledOf N24, h30, _, rfl, ⟨rfl, rfl, rfl, rfl⟩, F30, news_sub N30 (fun p hp => .tail _ (.tail _ (.tail _ (.tail _ (.tail _ (hp)))))), ne25⟩
        · rintro j _ _ J oJ C oC D m3 h3 tk3 E3 hj rfl ⟨tj, rfl⟩ hC hx Fz Nz off3 ne3
          clear F15 N15 hR
          obtain ⟨t2, ht2⟩ : ∃ t2, ts[j]? = some t2 := ⟨_, List.getElem?_eq_getElem (by omega)⟩
          obtain ⟨e2, b2, tw2, hz2, he2, -⟩ := hE.is j t2 ht2
          have hne2 : e2 ≠ e := fun q => by subst q; have := hE.ne j i e2 hz2 hze; omega
          rw [Int.zero_add] at hx
          k_steps
          unfold Halt
          refine wpAny_is_ref_other hne2 (Nz _ (.tail _ (.tail _ (.tail _ (.tail _ (.tail _ (.tail _ (.tail _ (.tail _ he2))))))))).1 (Nz _ (.tail _ (.tail _ (.tail _ (.tail _ (.tail _ (.tail _ (.tail _ (.tail _ hee))))))))).1 (by show Value.type "ValueError" ≠ Value.type "tuple"; decide) ?_
          k_steps
          exact LCg.CompEnd.intro Fz Nz _ (fun p hp => hp) off3 trivial rfl
    · rintro i zs _ v J oJ C oC D3 m3 h3 tk3 E3 hi ⟨el, rfl, hE⟩ hv hC hx F3 N3 off3 ne3
      obtain ⟨t3, k3, rfl, e3⟩ := strs_get hS1 hv
      clear F2 N2'
      k_steps
      unfold Halt
      have ok3 := hT1 t3 (List.mem_of_getElem? e3)
      refine error_call K0 F3 KX N3 T rfl (by decide) (by decide) (Nat.le_trans ok3.len (by decide)) ?_
      intro e b tw h4 tk4 F4 N4 ne4
      k_unfold
      refine LCg.CompEnd.intro F4 N4 ((e, excOf b) :: (b, tupOf [.str (errWords t3) tw]) :: (el ++ [(D2, LCg.lst ys), (s₁.heap.objs.size + 1 + 1, o'), (s₁.heap.objs.size + 1, o2')])) ?_ ?_ ?_ ⟨(e, excOf b) :: (b, tupOf [.str (errWords t3) tw]) :: el, rfl, ?_⟩
      · intro p hp
        simp only [List.mem_cons] at hp ⊢
        rcases hp with h | h | h | h | h | h
        · exact .inr (.inr (.inl h))
        · exact .inr (.inr (.inr (.inl h)))
        · exact .inr (.inr (.inr (.inr (.inl h))))
        · exact .inl h
        · exact .inr (.inl h)
        · exact .inr (.inr (.inr (.inr (.inr h))))
      · have n1 := ne4 _ (.head _)
        have n2 := ne4 _ (.tail _ (.head _))
        have n3 := ne4 _ (.tail _ (.tail _ (.head _)))
        exact ⟨⟨Ne.symm n1.1, Ne.symm n2.1, Ne.symm n3.1⟩, ⟨Ne.symm n1.2, Ne.symm n2.2, Ne.symm n3.2⟩, off3⟩
      · exact .inr ⟨_, .tail _ (.tail _ (List.mem_append_right _ (.head _))), rfl, _, rfl⟩
      · rw [take_snoc e3]
        exact hE.snoc fun p hp => ne4 p (.tail _ (.tail _ (.tail _ (List.mem_append_left _ hp))))
  · rintro i ys _ v J oJ C oC D3 m3 h3 tk3 E3 hi ⟨rfl, hl1, ts, hS1, hT1⟩ hv hC hx F3 N3 off3 ne3
    obtain ⟨n3, t3, rfl⟩ := ints_get hI1 hv
    clear F1 N1
    k_steps
    unfold Halt
    refine text_call K0 F3 KX N3 T rfl (by decide) (by decide) ?_
    intro t tw h4 tk4 ok4 F4 N4
    k_unfold
    refine LCg.CompEnd.intro F4 N4 _ (fun p hp => hp) off3 ?_ ⟨rfl, by simp [hl1], ts ++ [t], hS1.append' (.cons _ _ .nil), ?_⟩
    · exact .inr ⟨_, .head _, rfl, _, rfl⟩
    · intro u hu
      rcases List.mem_append.mp hu with hu | hu
      · exact hT1 u hu
      · rw [List.mem_singleton.mp hu]; exact ok4)
end Mine


theorem PySem.Challenge.cw_dv0012_01_holds : PySem.Challenge.rw_dv0012_01.Holds :=
  Mine.l1
