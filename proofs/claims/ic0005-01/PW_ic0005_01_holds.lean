import PyProof.Rows.All
import Wide.All
import OpenK.AllK
import Wide.FinOn
import Lean
import PySem.Challenge.RW_ic0005_01
set_option Elab.async false

open PySem PySem.W PyProof.Rows

namespace Mine

/-- pure values -/
inductive V where
  | none
  | bool (b : Bool)
  | int (i : Int)
  | list (l : List V)
  | tup (l : List V)
  | fn (a : Addr)

/-- an object of a code -/
def CodeObj (o : Obj) : Prop := ∃ q t vs, o.data = .fields vs ∧ vs[1]? = some (.str q t)

structure Cx where
  prog : Program
  w : World
  tabs : List Addr
  n₁ : Nat
  mg : Str → Option Value
  mb : Str → Option Value
  I : Heap → Prop
  Ik : ∀ h h', I h → (∀ b o, h.get? b = some o → (b < n₁ ∨ CodeObj o) → h'.get? b = some o) → I h'
  Ig : ∀ h, I h → h.Ns mainGlobals mg
  Ib : ∀ h, I h → h.Ns builtinsNs mb
  Il : ∀ h, I h → h.NoLimit
  It : ∀ b ∈ tabs, b < n₁
  In : ∀ h, I h → n₁ ≤ h.objs.size

structure GoB (cx : Cx) (own : List Addr) (s s' : Shared) : Prop where
  kp : ∀ b o, b ∉ own → b ∉ cx.tabs → s.heap.get? b = some o → s'.heap.get? b = some o
  inv : cx.I s.heap → cx.I s'.heap
  gens : s'.gens = s.gens
  drawn : s'.drawn = s.drawn
  os : s'.os = s.os

abbrev Go (cx : Cx) (s s' : Shared) : Prop := GoB cx [] s s'

theorem GoB.refl {cx : Cx} {own : List Addr} (s : Shared) : GoB cx own s s := ⟨fun _ _ _ _ e => e, fun x => x, rfl, rfl, rfl⟩
theorem GoB.trans {cx : Cx} {own : List Addr} {s₁ s₂ s₃ : Shared} (x : GoB cx own s₁ s₂) (y : GoB cx own s₂ s₃) : GoB cx own s₁ s₃ :=
  ⟨fun b o h1 h2 e => y.kp b o h1 h2 (x.kp b o h1 h2 e), fun i => y.inv (x.inv i), y.gens.trans x.gens, y.drawn.trans x.drawn, y.os.trans x.os⟩
theorem GoB.mono {cx : Cx} {own own' : List Addr} {s s' : Shared} (x : GoB cx own s s') (h : ∀ a ∈ own, a ∈ own') : GoB cx own' s s' :=
  ⟨fun b o h1 h2 e => x.kp b o (fun q => h1 (h b q)) h2 e, x.inv, x.gens, x.drawn, x.os⟩
theorem GoB.up {cx : Cx} {own : List Addr} {s s' : Shared} (x : Go cx s s') : GoB cx own s s' := x.mono (fun _ h => nomatch h)
/-- addresses that do not stand in the first heap may be left out -/
theorem GoB.drop {cx : Cx} {own own' : List Addr} {s s' : Shared} (x : GoB cx own s s') (h : ∀ a ∈ own, a ∈ own' ∨ s.heap.get? a = none) : GoB cx own' s s' :=
  ⟨fun b o h1 h2 e => x.kp b o (fun q => (h b q).elim h1 fun z => by rw [z] at e; cases e) h2 e, x.inv, x.gens, x.drawn, x.os⟩
theorem none_of_le {h : Heap} {a : Addr} (ha : h.objs.size ≤ a) : h.get? a = none := by
  cases e : h.get? a with
  | none => rfl
  | some o => exact absurd (Heap.lt_size e) (Nat.not_lt.mpr ha)
theorem GoB.fresh {cx : Cx} {own : List Addr} {s s' : Shared} (x : GoB cx own s s') (h : ∀ a ∈ own, s.heap.objs.size ≤ a) : Go cx s s' :=
  x.drop fun a ha => .inr (none_of_le (h a ha))
theorem Go.keep {cx : Cx} {s : Shared} {h' : Heap} {tk : Nat} (k : ∀ b o, s.heap.get? b = some o → h'.get? b = some o) : Go cx s { s with heap := h', toks := tk } :=
  ⟨fun b o _ _ e => k b o e, fun i => cx.Ik _ _ i (fun b o e _ => k b o e), rfl, rfl, rfl⟩
theorem Go.tok {cx : Cx} {s : Shared} {tk : Nat} : Go cx s { s with toks := tk } := Go.keep (fun _ _ e => e)
theorem Go.push {cx : Cx} {s : Shared} {o : Obj} {tk : Nat} : Go cx s { s with heap := s.heap.push o, toks := tk } :=
  Go.keep (fun _ _ e => Heap.get?_push_of_some _ e)
/-- one object of the call's own (no code object) changes -/
theorem GoB.same {cx : Cx} {s : Shared} {h' : Heap} {tk : Nat} {a : Addr} {o : Obj} (ho : s.heap.get? a = some o) (hc : ¬ CodeObj o) (ha : cx.n₁ ≤ a) (hs : Heap.SameBut a s.heap h') :
    GoB cx [a] s { s with heap := h', toks := tk } :=
  ⟨fun b o' h1 _ e => (hs.2 b (fun q => h1 (by simp [q]))).trans e, 
   fun i => cx.Ik _ _ i (fun b o' e hb => (hs.2 b (fun q => by
      subst q
      rcases hb with hb | hb
      · exact absurd hb (Nat.not_lt.mpr ha)
      · rw [ho] at e; cases e; exact hc hb)).trans e), rfl, rfl, rfl⟩

abbrev tupObj (vs : List Value) : Obj := { cls := .type "tuple", data := .seq vs.toArray }
abbrev celObj (v : Option Value) : Obj := { cls := .type "cell", data := .cell v }

mutual
inductive Rel (cx : Cx) (ex : List Addr) (h : Heap) : V → Value → Prop
  | none : Rel cx ex h .none .none
  | bool (b : Bool) : Rel cx ex h (.bool b) (.bool b)
  | int (i : Int) (t : Tok) : Rel cx ex h (.int i) (.int i t)
  | fn (a : Addr) : Rel cx ex h (.fn a) (.ref a)
  | list {l : List V} {vs : List Value} {a : Addr} : a ∉ ex → a ∉ cx.tabs → h.PlainList a vs.toArray → RelL cx ex h l vs → l.length ≤ 2 ^ 20 → Rel cx ex h (.list l) (.ref a)
  | tup {l : List V} {vs : List Value} {a : Addr} : a ∉ ex → a ∉ cx.tabs → h.get? a = some (tupObj vs) → RelL cx ex h l vs → l.length ≤ 2 ^ 20 → Rel cx ex h (.tup l) (.ref a)
inductive RelL (cx : Cx) (ex : List Addr) (h : Heap) : List V → List Value → Prop
  | nil : RelL cx ex h [] []
  | cons {d : V} {v : Value} {l : List V} {vs : List Value} : Rel cx ex h d v → RelL cx ex h l vs → RelL cx ex h (d :: l) (v :: vs)
end

theorem RelL.length {cx : Cx} {ex : List Addr} {h : Heap} : ∀ {l : List V} {vs : List Value}, RelL cx ex h l vs → l.length = vs.length
  | _, _, .nil => rfl
  | _, _, .cons _ r => by rw [List.length_cons, List.length_cons, r.length]
theorem RelL.append {cx : Cx} {ex : List Addr} {h : Heap} : ∀ {l l' : List V} {vs vs' : List Value}, RelL cx ex h l vs → RelL cx ex h l' vs' → RelL cx ex h (l ++ l') (vs ++ vs')
  | _, _, _, _, .nil, r => r
  | _, _, _, _, .cons a r, r' => .cons a (r.append r')
theorem RelL.get {cx : Cx} {ex : List Addr} {h : Heap} : ∀ {l : List V} {vs : List Value} {i : Nat} {d : V}, RelL cx ex h l vs → l[i]? = some d → ∃ v, vs[i]? = some v ∧ Rel cx ex h d v
  | _, _, 0, _, .cons a _, e => by cases e; exact ⟨_, rfl, a⟩
  | _, _, _ + 1, _, .cons _ r, e => r.get (by simpa using e)
theorem RelL.get' {cx : Cx} {ex : List Addr} {h : Heap} : ∀ {l : List V} {vs : List Value} {i : Nat} {v : Value}, RelL cx ex h l vs → vs[i]? = some v → ∃ d, l[i]? = some d ∧ Rel cx ex h d v
  | _, _, 0, _, .cons a _, e => by cases e; exact ⟨_, rfl, a⟩
  | _, _, _ + 1, _, .cons _ r, e => r.get' (by simpa using e)
theorem RelL.take {cx : Cx} {ex : List Addr} {h : Heap} : ∀ {l : List V} {vs : List Value} (n : Nat), RelL cx ex h l vs → RelL cx ex h (l.take n) (vs.take n)
  | _, _, 0, _ => by simpa using RelL.nil
  | _, _, _ + 1, .nil => by simpa using RelL.nil
  | _, _, n + 1, .cons a r => by simpa using RelL.cons a (r.take n)
theorem RelL.drop {cx : Cx} {ex : List Addr} {h : Heap} : ∀ {l : List V} {vs : List Value} (n : Nat), RelL cx ex h l vs → RelL cx ex h (l.drop n) (vs.drop n)
  | _, _, 0, r => by simpa using r
  | _, _, _ + 1, .nil => by simpa using RelL.nil
  | _, _, n + 1, .cons _ r => by simpa using r.drop n
theorem RelL.snoc {cx : Cx} {ex : List Addr} {h : Heap} {l : List V} {vs : List Value} {d : V} {v : Value} (r : RelL cx ex h l vs) (a : Rel cx ex h d v) : RelL cx ex h (l ++ [d]) (vs ++ [v]) := r.append (.cons a .nil)
theorem RelL.reverse {cx : Cx} {ex : List Addr} {h : Heap} : ∀ {l : List V} {vs : List Value}, RelL cx ex h l vs → RelL cx ex h l.reverse vs.reverse
  | _, _, .nil => .nil
  | _, _, .cons a r => by rw [List.reverse_cons, List.reverse_cons]; exact r.reverse.snoc a

mutual
theorem Rel.move {cx : Cx} {ex ex' : List Addr} {h h' : Heap} (k : ∀ b o, b ∉ ex → b ∉ cx.tabs → h.get? b = some o → b ∉ ex' ∧ h'.get? b = some o) : ∀ {d : V} {v : Value}, Rel cx ex h d v → Rel cx ex' h' d v
  | _, _, .none => .none
  | _, _, .bool b => .bool b
  | _, _, .int i t => .int i t
  | _, _, .fn a => .fn a
  | _, _, .list h1 h2 ⟨n, e⟩ r z => .list (k _ _ h1 h2 e).1 h2 ⟨n, (k _ _ h1 h2 e).2⟩ (RelL.move k r) z
  | _, _, .tup h1 h2 e r z => .tup (k _ _ h1 h2 e).1 h2 (k _ _ h1 h2 e).2 (RelL.move k r) z
theorem RelL.move {cx : Cx} {ex ex' : List Addr} {h h' : Heap} (k : ∀ b o, b ∉ ex → b ∉ cx.tabs → h.get? b = some o → b ∉ ex' ∧ h'.get? b = some o) : ∀ {l : List V} {vs : List Value}, RelL cx ex h l vs → RelL cx ex' h' l vs
  | _, _, .nil => .nil
  | _, _, .cons a r => .cons (Rel.move k a) (RelL.move k r)
end
theorem Rel.go {cx : Cx} {ex own : List Addr} {s s' : Shared} {d : V} {v : Value} (r : Rel cx ex s.heap d v) (g : GoB cx own s s') (ho : ∀ a ∈ own, a ∈ ex) : Rel cx ex s'.heap d v :=
  r.move fun b o h1 h2 e => ⟨h1, g.kp b o (fun q => h1 (ho b q)) h2 e⟩
theorem RelL.go {cx : Cx} {ex own : List Addr} {s s' : Shared} {d : List V} {v : List Value} (r : RelL cx ex s.heap d v) (g : GoB cx own s s') (ho : ∀ a ∈ own, a ∈ ex) : RelL cx ex s'.heap d v :=
  r.move fun b o h1 h2 e => ⟨h1, g.kp b o (fun q => h1 (ho b q)) h2 e⟩
theorem Rel.go0 {cx : Cx} {ex : List Addr} {s s' : Shared} {d : V} {v : Value} (r : Rel cx ex s.heap d v) (g : Go cx s s') : Rel cx ex s'.heap d v := r.go g (fun _ h => nomatch h)
theorem RelL.go0 {cx : Cx} {ex : List Addr} {s s' : Shared} {d : List V} {v : List Value} (r : RelL cx ex s.heap d v) (g : Go cx s s') : RelL cx ex s'.heap d v := r.go g (fun _ h => nomatch h)
/-- objects that are not of the kind of lists and tuples may change -/
def seqish (o : Obj) : Bool := match o.data with | .seq _ _ => true | _ => false
mutual
theorem Rel.moveS {cx : Cx} {ex : List Addr} {h h' : Heap} (k : ∀ b o, b ∉ ex → b ∉ cx.tabs → seqish o = true → h.get? b = some o → h'.get? b = some o) : ∀ {d : V} {v : Value}, Rel cx ex h d v → Rel cx ex h' d v
  | _, _, .none => .none
  | _, _, .bool b => .bool b
  | _, _, .int i t => .int i t
  | _, _, .fn a => .fn a
  | _, _, .list h1 h2 ⟨n, e⟩ r z => .list h1 h2 ⟨n, k _ _ h1 h2 rfl e⟩ (RelL.moveS k r) z
  | _, _, .tup h1 h2 e r z => .tup h1 h2 (k _ _ h1 h2 rfl e) (RelL.moveS k r) z
theorem RelL.moveS {cx : Cx} {ex : List Addr} {h h' : Heap} (k : ∀ b o, b ∉ ex → b ∉ cx.tabs → seqish o = true → h.get? b = some o → h'.get? b = some o) : ∀ {l : List V} {vs : List Value}, RelL cx ex h l vs → RelL cx ex h' l vs
  | _, _, .nil => .nil
  | _, _, .cons a r => .cons (Rel.moveS k a) (RelL.moveS k r)
end
theorem Rel.same {cx : Cx} {ex : List Addr} {h h' : Heap} {a : Addr} {oa : Obj} {d : V} {v : Value} (r : Rel cx ex h d v) (ha : h.get? a = some oa) (hn : seqish oa = false) (hs : Heap.SameBut a h h') : Rel cx ex h' d v :=
  r.moveS fun b o _ _ q e => (hs.2 b (fun z => by subst z; rw [ha] at e; cases e; rw [hn] at q; cases q)).trans e
/-- a fresh address may be put among those to be avoided -/
theorem Rel.avoid {cx : Cx} {ex : List Addr} {h : Heap} {a : Addr} {d : V} {v : Value} (r : Rel cx ex h d v) (ha : h.get? a = Option.none) : Rel cx (a :: ex) h d v :=
  r.move fun b o h1 _ e => ⟨fun q => (List.mem_cons.mp q).elim (fun z => by rw [z, ha] at e; cases e) h1, e⟩
theorem RelL.avoid {cx : Cx} {ex : List Addr} {h : Heap} {a : Addr} {d : List V} {v : List Value} (r : RelL cx ex h d v) (ha : h.get? a = Option.none) : RelL cx (a :: ex) h d v :=
  r.move fun b o h1 _ e => ⟨fun q => (List.mem_cons.mp q).elim (fun z => by rw [z, ha] at e; cases e) h1, e⟩
theorem Rel.less {cx : Cx} {ex : List Addr} {h : Heap} {a : Addr} {d : V} {v : Value} (r : Rel cx (a :: ex) h d v) : Rel cx ex h d v :=
  r.move fun _ _ h1 _ e => ⟨fun q => h1 (List.mem_cons_of_mem _ q), e⟩
theorem RelL.less {cx : Cx} {ex : List Addr} {h : Heap} {a : Addr} {d : List V} {v : List Value} (r : RelL cx (a :: ex) h d v) : RelL cx ex h d v :=
  r.move fun _ _ h1 _ e => ⟨fun q => h1 (List.mem_cons_of_mem _ q), e⟩

/-- room on the stack -/
structure Room (n : Nat) (A : Around) : Prop where
  handled : A.handled = none
  depth : A.depth + n ≤ 900
  units : A.units + 8 * n ≤ 9000
theorem Room.mono {n k : Nat} {A : Around} (r : Room n A) (h : k ≤ n) : Room k A := ⟨r.handled, by have := r.depth; omega, by have := r.units; omega⟩
theorem Room.deeper {n : Nat} {A : Around} {env : Env} (r : Room (n + 1) A) : Room n (A.deeper env) := ⟨r.handled, by have := r.depth; simp only [Around.deeper]; omega, by have := r.units; simp only [Around.deeper]; omega⟩
theorem Room.in1 {n : Nat} {A : Around} (r : Room (n + 1) A) : Room n A.in1 := ⟨r.handled, by have := r.depth; show A.depth + n ≤ 900; omega, by have := r.units; show A.units + 1 + 8 * n ≤ 9000; omega⟩
theorem Room.lim {n : Nat} {A : Around} (r : Room n A) : A.depth < recursionLimit := by have := r.depth; have : recursionLimit = 1000 := rfl; omega
theorem Room.line {n : Nat} {A : Around} (r : Room n A) : A.units < cLine := by have := r.units; have : cLine = 9900 := rfl; omega
theorem Room.mark {n : Nat} {A : Around} (r : Room n A) : Room n (A.mark none) := ⟨by simp [Around.mark, r.handled], r.depth, r.units⟩
theorem mark_none (A : Around) : A.mark none = A := by obtain ⟨a, b, c, d, e⟩ := A; simp [Around.mark]

def Alive (cx : Cx) (ex : List Addr) (h : Heap) : Prop := ∀ b ∈ ex, b ∉ cx.tabs ∧ ∃ o, h.get? b = some o ∧ seqish o = true

def slot : List (Option V) → Nat → Option V
  | [], _ => none
  | x :: _, 0 => x
  | _ :: l, i + 1 => slot l i

structure EnvOk (cx : Cx) (env : Env) : Prop where
  kind : env.scope.kind = .function
  glob : env.globals = mainGlobals
  blt : env.builtins = builtinsNs
  lo : cx.n₁ ≤ env.locals
  cells : ∀ p ∈ env.cells, p.2 ∉ cx.tabs ∧ p.2 ≠ env.locals ∧ (env.kindOf p.1 = some .cell → cx.n₁ ≤ p.2)
  inj : ∀ x y a, env.cells.lookup x = some a → env.cells.lookup y = some a → x = y

structure FrOk (cx : Cx) (ex : List Addr) (env : Env) (xs : List Str) (h : Heap) (ρ : List (Option V)) : Prop where
  ek : EnvOk cx env
  loc : ∃ m, h.Ns env.locals m ∧ ∀ i x d, xs[i]? = some x → slot ρ i = some d → env.kindOf x = some .local → ∃ v, m x = some v ∧ Rel cx ex h d v
  cel : ∀ i x d, xs[i]? = some x → slot ρ i = some d → (env.kindOf x = some .cell ∨ env.kindOf x = some .free) →
    ∃ a v, env.cells.lookup x = some a ∧ h.IsCell a (some v) ∧ Rel cx ex h d v
  ali : ∀ p ∈ env.cells, ∃ v, h.IsCell p.2 v

theorem mem_of_lookup {α β : Type} [BEq α] [LawfulBEq α] : ∀ {l : List (α × β)} {x : α} {a : β}, l.lookup x = some a → (x, a) ∈ l
  | [], _, _, e => by cases e
  | (k, b) :: l, x, a, e => by
    rw [List.lookup_cons] at e
    cases h : x == k with
    | true => rw [h] at e; cases e; rw [eq_of_beq h]; exact .head _
    | false => rw [h] at e; exact .tail _ (mem_of_lookup e)

theorem EnvOk.notTabL {cx : Cx} {env : Env} (E : EnvOk cx env) : env.locals ∉ cx.tabs := fun q => absurd (cx.It _ q) (Nat.not_lt.mpr E.lo)
theorem EnvOk.notTabC {cx : Cx} {env : Env} (E : EnvOk cx env) {x : Str} {a : Addr} (h : env.cells.lookup x = some a) : a ∉ cx.tabs := (E.cells _ (mem_of_lookup h)).1
theorem FrOk.go {cx : Cx} {ex : List Addr} {env : Env} {xs : List Str} {s s' : Shared} {ρ : List (Option V)} (F : FrOk cx ex env xs s.heap ρ) (g : Go cx s s') : FrOk cx ex env xs s'.heap ρ where
  ek := F.ek
  loc := by
    obtain ⟨m, hn, hm⟩ := F.loc
    refine ⟨m, hn.at' fun o e => g.kp _ o (by simp) F.ek.notTabL e, fun i x d h1 h2 h3 => ?_⟩
    obtain ⟨v, a, b⟩ := hm i x d h1 h2 h3
    exact ⟨v, a, b.go0 g⟩
  cel := fun i x d h1 h2 h3 => by
    obtain ⟨a, v, c1, c2, c3⟩ := F.cel i x d h1 h2 h3
    exact ⟨a, v, c1, let ⟨o, e, ed⟩ := c2; ⟨o, g.kp _ _ (by simp) (F.ek.notTabC c1) e, ed⟩, c3.go0 g⟩
  ali := fun p hp => let ⟨v, o, e, ed⟩ := F.ali p hp; ⟨v, o, g.kp _ _ (by simp) (F.ek.cells p hp).1 e, ed⟩
/-- the frame stands where everything but some objects of other kinds is kept -/
theorem FrOk.same {cx : Cx} {ex : List Addr} {env : Env} {xs : List Str} {h h' : Heap} {a : Addr} {oa : Obj} {ρ : List (Option V)} (F : FrOk cx ex env xs h ρ) (hs : Heap.SameBut a h h')
    (ha : h.get? a = some oa) (hn : seqish oa = false) (hL : a ≠ env.locals) (hc : ∀ v, oa.data ≠ .cell v) : FrOk cx ex env xs h' ρ where
  ek := F.ek
  loc := by
    obtain ⟨m, hns, hm⟩ := F.loc
    refine ⟨m, hns.sameBut hs (Ne.symm hL), fun i x d h1 h2 h3 => ?_⟩
    obtain ⟨v, a', b⟩ := hm i x d h1 h2 h3
    exact ⟨v, a', b.same ha hn hs⟩
  cel := fun i x d h1 h2 h3 => by
    obtain ⟨a', v, c1, c2, c3⟩ := F.cel i x d h1 h2 h3
    refine ⟨a', v, c1, c2.sameBut hs fun q => ?_, c3.same ha hn hs⟩
    obtain ⟨o, e, ed⟩ := c2
    subst q; rw [ha] at e; cases e; exact hc _ ed
  ali := fun p hp => by
    obtain ⟨v, c2⟩ := F.ali p hp
    refine ⟨v, c2.sameBut hs fun q => ?_⟩
    obtain ⟨o, e, ed⟩ := c2
    subst q; rw [ha] at e; cases e; exact hc _ ed

variable {cx : Cx} {n : Nat} {env : Env} {xs : List Str}

def EvOk (cx : Cx) (n : Nat) (env : Env) (xs : List Str) (e : Expr) (f : List (Option V) → Option V) : Prop :=
  ∀ (ex : List Addr) (A : Around) (s : Shared) (ρ : List (Option V)) (d : V) (Q : Value → Shared → Prop) (E : Value → Shared → Prop),
    cx.I s.heap → Room n A → Alive cx ex s.heap → FrOk cx ex env xs s.heap ρ → f ρ = some d →
    (∀ v s', Go cx s s' → Rel cx ex s'.heap d v → Q v s') → wpAny (model cx.prog cx.w) A (eval e env) Q E s
def TrOk (cx : Cx) (n : Nat) (env : Env) (xs : List Str) (e : Expr) (f : List (Option V) → Option Bool) : Prop :=
  ∀ (ex : List Addr) (A : Around) (s : Shared) (ρ : List (Option V)) (b : Bool) (Q : Bool → Shared → Prop) (E : Value → Shared → Prop),
    cx.I s.heap → Room n A → Alive cx ex s.heap → FrOk cx ex env xs s.heap ρ → f ρ = some b →
    (∀ s', Go cx s s' → Q b s') → wpAny (model cx.prog cx.w) A (isTrue e env (eval e env)) Q E s
def ArOk (cx : Cx) (n : Nat) (env : Env) (xs : List Str) (es : List Expr) (f : List (Option V) → Option (List V)) : Prop :=
  ∀ (ex : List Addr) (A : Around) (s : Shared) (ρ : List (Option V)) (ds : List V) (Q : List Value → Shared → Prop) (E : Value → Shared → Prop) (pos : Pos),
    cx.I s.heap → Room n A → Alive cx ex s.heap → FrOk cx ex env xs s.heap ρ → f ρ = some ds →
    (∀ vs s', Go cx s s' → RelL cx ex s'.heap ds vs → Q vs s') → wpAny (model cx.prog cx.w) A (spliced (backTo pos (starEach es env))) Q E s
def FnOk (cx : Cx) (n : Nat) (f : Value) (Φ : List V → Option V) : Prop :=
  ∀ (ex : List Addr) (A : Around) (s : Shared) (vs : List Value) (ds : List V) (d : V) (Q : Value → Shared → Prop) (E : Value → Shared → Prop),
    cx.I s.heap → Room n A → Alive cx ex s.heap → RelL cx ex s.heap ds vs → Φ ds = some d →
    (∀ v s', Go cx s s' → Rel cx ex s'.heap d v → Q v s') → wpAny (model cx.prog cx.w) A (call f vs) Q E s

theorem ev_name {x : Str} {pos : Pos} (i : Nat) (hi : xs[i]? = some x) (hk : env.kindOf x = some .local ∨ env.kindOf x = some .cell ∨ env.kindOf x = some .free)
    (hd : (x == ("__debug__" : Str)) = false) (hc : (x == ("__classdict__" : Str)) = false) : EvOk cx n env xs (.Name x pos) (fun ρ => slot ρ i) := by
  intro ex A s ρ d Q E hI hR hex F he hQ
  rcases hk with hk | hk | hk
  · obtain ⟨m, hn, hm⟩ := F.loc
    obtain ⟨v, h1, h2⟩ := hm i x d hi he hk
    exact wpAny_Name (wpAny_loadName_local F.ek.kind hk hn h1 (hQ v s (.refl s) h2)) hd
  · obtain ⟨a, v, c1, c2, c3⟩ := F.cel i x d hi he (.inl hk)
    exact wpAny_Name (wpAny_loadName_cell F.ek.kind hk c1 c2 (hQ v s (.refl s) c3)) hd
  · obtain ⟨a, v, c1, c2, c3⟩ := F.cel i x d hi he (.inr hk)
    exact wpAny_Name (wpAny_loadName_free F.ek.kind hk c1 c2 (hQ v s (.refl s) c3) hc) hd

theorem ev_int {i : Int} {k : Nat} {pos : Pos} : EvOk cx n env xs (.Constant (.int i) k pos) (fun _ => some (.int i)) := by
  intro ex A s ρ d Q E hI hR hex F he hQ
  cases he
  exact wpAny_Constant_int (hQ _ _ Go.tok (.int _ _))
theorem ev_none {k : Nat} {pos : Pos} : EvOk cx n env xs (.Constant .none k pos) (fun _ => some .none) := by
  intro ex A s ρ d Q E hI hR hex F he hQ
  cases he
  exact wpAny_Constant_none (hQ _ _ (.refl s) .none)
theorem ev_bool {b : Bool} {k : Nat} {pos : Pos} : EvOk cx n env xs (.Constant (.bool b) k pos) (fun _ => some (.bool b)) := by
  intro ex A s ρ d Q E hI hR hex F he hQ
  cases he
  exact wpAny_Constant_bool (hQ _ _ (.refl s) (.bool b))

/-- what an operator of two values gives -/
def OpOk (cx : Cx) (n : Nat) (t : Value → Value → Sem Value) (g : V → V → Option V) : Prop :=
  ∀ (ex : List Addr) (A : Around) (s : Shared) (a b : Value) (da db d : V) (Q : Value → Shared → Prop) (E : Value → Shared → Prop),
    cx.I s.heap → Room n A → Alive cx ex s.heap → Rel cx ex s.heap da a → Rel cx ex s.heap db b → g da db = some d →
    (∀ v s', Go cx s s' → Rel cx ex s'.heap d v → Q v s') → wpAny (model cx.prog cx.w) A (t a b) Q E s

theorem exLt {cx : Cx} {ex : List Addr} {s s' : Shared} (h : Alive cx ex s.heap) (g : Go cx s s') : Alive cx ex s'.heap := fun b hb =>
  let ⟨t, o, e, q⟩ := h b hb; ⟨t, o, g.kp b o (by simp) t e, q⟩

def bind2 (f g : List (Option V) → Option V) (k : V → V → Option V) (ρ : List (Option V)) : Option V :=
  match f ρ with
  | none => none
  | some a => match g ρ with
    | none => none
    | some b => k a b
theorem bind2_some {f g : List (Option V) → Option V} {k : V → V → Option V} {ρ : List (Option V)} {d : V} (h : bind2 f g k ρ = some d) : ∃ a b, f ρ = some a ∧ g ρ = some b ∧ k a b = some d := by
  unfold bind2 at h
  split at h
  · cases h
  · split at h
    · cases h
    · exact ⟨_, _, by assumption, by assumption, h⟩

theorem ev_two {l r : Expr} {f g : List (Option V) → Option V} {k : V → V → Option V} {t : Value → Value → Sem Value} (hl : EvOk cx n env xs l f) (hr : EvOk cx n env xs r g) (hop : OpOk cx n t k)
    {A : Around} {s : Shared} {ex : List Addr} {ρ : List (Option V)} {d : V} {Q : Value → Shared → Prop} {E : Value → Shared → Prop}
    (hI : cx.I s.heap) (hR : Room n A) (hex : Alive cx ex s.heap) (F : FrOk cx ex env xs s.heap ρ) (he : bind2 f g k ρ = some d) (hQ : ∀ v s', Go cx s s' → Rel cx ex s'.heap d v → Q v s') :
    wpAny (model cx.prog cx.w) A (eval l env) (fun a s₁ => wpAny (model cx.prog cx.w) A (eval r env) (fun b s₂ => wpAny (model cx.prog cx.w) A (t a b) Q E s₂) E s₁) E s := by
  obtain ⟨a, b, h1, h2, h3⟩ := bind2_some he
  refine hl ex A s ρ a _ _ hI hR hex F h1 fun va s₁ g₁ r₁ => ?_
  refine hr ex A s₁ ρ b _ _ (g₁.inv hI) hR (exLt hex g₁) (F.go g₁) h2 fun vb s₂ g₂ r₂ => ?_
  exact hop ex A s₂ va vb a b d _ _ (g₂.inv (g₁.inv hI)) hR (exLt (exLt hex g₁) g₂) (r₁.go0 g₂) r₂ h3 fun v s₃ g₃ r₃ => hQ v s₃ ((g₁.trans g₂).trans g₃) r₃

theorem ev_bin {l r : Expr} {op : Operator} {pos : Pos} {f g : List (Option V) → Option V} {k : V → V → Option V} (hl : EvOk cx n env xs l f) (hr : EvOk cx n env xs r g) (hop : OpOk cx n (binaryOp op) k) :
    EvOk cx n env xs (.BinOp l op r pos) (bind2 f g k) := by
  intro ex A s ρ d Q E hI hR hex F he hQ
  exact wpAny_BinOp (ev_two hl hr hop hI hR hex F he hQ)
theorem ev_cmp {l r : Expr} {op : CmpOp} {pos : Pos} {f g : List (Option V) → Option V} {k : V → V → Option V} (hl : EvOk cx n env xs l f) (hr : EvOk cx n env xs r g) (hop : OpOk cx n (compareOp op) k)
    (hm : behindInMarks op r = false) : EvOk cx n env xs (.Compare l [op] [r] pos) (bind2 f g k) := by
  intro ex A s ρ d Q E hI hR hex F he hQ
  exact wpAny_Compare1 (ev_two hl hr hop hI hR hex F he hQ) hm

def boolOf : Option V → Option Bool
  | some (.bool b) => some b
  | _ => none
theorem boolOf_some {o : Option V} {b : Bool} (h : boolOf o = some b) : o = some (.bool b) := by
  unfold boolOf at h; split at h
  · cases h; rfl
  · cases h
theorem tr_cmp {l r : Expr} {op : CmpOp} {pos : Pos} {f g : List (Option V) → Option V} {k : V → V → Option V} (hl : EvOk cx n env xs l f) (hr : EvOk cx n env xs r g) (hop : OpOk cx n (compareOp op) k)
    (hm : behindInMarks op r = false) : TrOk cx n env xs (.Compare l [op] [r] pos) (fun ρ => boolOf (bind2 f g k ρ)) := by
  intro ex A s ρ b Q E hI hR hex F he hQ
  refine wpAny_isTrue_Compare1 (ev_two hl hr hop hI hR hex F (boolOf_some he) fun v s' g r => ?_) hm
  cases r
  exact wpAny_truthy_bool (hQ s' g)
theorem tr_val {e : Expr} {f : List (Option V) → Option V} (he : EvOk cx n env xs e f) (hw : isTrue e env (eval e env) = (do let v ← eval e env; standAt e.pos; holding [v] (truthy v))) :
    TrOk cx n env xs e (fun ρ => boolOf (f ρ)) := by
  intro ex A s ρ b Q E hI hR hex F h hQ
  refine wpAny_isTrue_value (he ex A s ρ _ _ _ hI hR hex F (boolOf_some h) fun v s' g r => ?_) hw
  cases r
  exact wpAny_truthy_bool (hQ s' g)
def notO : Option Bool → Option Bool
  | some b => some (!b)
  | none => none
theorem tr_not {e : Expr} {pos : Pos} {f : List (Option V) → Option Bool} (he : TrOk cx n env xs e f) : TrOk cx n env xs (.UnaryOp .Not e pos) (fun ρ => notO (f ρ)) := by
  intro ex A s ρ b Q E hI hR hex F h hQ
  refine wpAny_isTrue_Not ?_
  dsimp only at h
  cases hf : f ρ with
  | none => rw [hf] at h; cases h
  | some c =>
    rw [hf] at h; cases h
    exact he ex A s ρ c _ _ hI hR hex F hf hQ
def andO (f g : List (Option V) → Option Bool) (ρ : List (Option V)) : Option Bool :=
  match f ρ with
  | some true => g ρ
  | some false => some false
  | none => none
def orO (f g : List (Option V) → Option Bool) (ρ : List (Option V)) : Option Bool :=
  match f ρ with
  | some true => some true
  | some false => g ρ
  | none => none
theorem tr_and {e₁ e₂ : Expr} {pos : Pos} {f g : List (Option V) → Option Bool} (h₁ : TrOk cx n env xs e₁ f) (h₂ : TrOk cx n env xs e₂ g) : TrOk cx n env xs (.BoolOp .And [e₁, e₂] pos) (andO f g) := by
  intro ex A s ρ b Q E hI hR hex F h hQ
  refine wpAny_isTrue_BoolOp (wpAny_allTrue_And_cons ?_)
  unfold andO at h
  split at h
  · rename_i q
    refine h₁ ex A s ρ true _ _ hI hR hex F q fun s₁ g₁ => ?_
    refine wpAny_allTrue_And_cons (h₂ ex A s₁ ρ b _ _ (g₁.inv hI) hR (exLt hex g₁) (F.go g₁) h fun s₂ g₂ => ?_)
    cases b
    · exact hQ s₂ (g₁.trans g₂)
    · exact wpAny_allTrue_And_nil (hQ s₂ (g₁.trans g₂))
  · rename_i q
    cases h
    exact h₁ ex A s ρ false _ _ hI hR hex F q fun s₁ g₁ => hQ s₁ g₁
  · cases h
theorem tr_or {e₁ e₂ : Expr} {pos : Pos} {f g : List (Option V) → Option Bool} (h₁ : TrOk cx n env xs e₁ f) (h₂ : TrOk cx n env xs e₂ g) : TrOk cx n env xs (.BoolOp .Or [e₁, e₂] pos) (orO f g) := by
  intro ex A s ρ b Q E hI hR hex F h hQ
  refine wpAny_isTrue_BoolOp (wpAny_allTrue_Or_cons ?_)
  unfold orO at h
  split at h
  · rename_i q
    cases h
    exact h₁ ex A s ρ true _ _ hI hR hex F q fun s₁ g₁ => hQ s₁ g₁
  · rename_i q
    refine h₁ ex A s ρ false _ _ hI hR hex F q fun s₁ g₁ => ?_
    refine wpAny_allTrue_Or_cons (h₂ ex A s₁ ρ b _ _ (g₁.inv hI) hR (exLt hex g₁) (F.go g₁) h fun s₂ g₂ => ?_)
    cases b
    · exact wpAny_allTrue_Or_nil (hQ s₂ (g₁.trans g₂))
    · exact hQ s₂ (g₁.trans g₂)
  · cases h

/-- a BoolOp's value where the operands are bools -/
def boolV : Option Bool → Option V
  | some b => some (.bool b)
  | none => none
theorem ev_and {e₁ e₂ : Expr} {pos : Pos} {f g : List (Option V) → Option V} (h₁ : EvOk cx n env xs e₁ f) (h₂ : EvOk cx n env xs e₂ g) :
    EvOk cx n env xs (.BoolOp .And [e₁, e₂] pos) (fun ρ => match boolOf (f ρ) with | some true => g ρ | some false => some (.bool false) | none => none) := by
  intro ex A s ρ d Q E hI hR hex F h hQ
  refine wpAny_And2 ?_
  dsimp only at h
  split at h
  · rename_i q
    refine h₁ ex A s ρ _ _ _ hI hR hex F (boolOf_some q) fun v s₁ g₁ r₁ => ?_
    cases r₁
    refine wpAny_truthy_bool (h₂ ex A s₁ ρ d _ _ (g₁.inv hI) hR (exLt hex g₁) (F.go g₁) h fun v s₂ g₂ r₂ => hQ v s₂ (g₁.trans g₂) r₂)
  · rename_i q
    cases h
    refine h₁ ex A s ρ _ _ _ hI hR hex F (boolOf_some q) fun v s₁ g₁ r₁ => ?_
    cases r₁
    exact wpAny_truthy_bool (hQ _ s₁ g₁ (.bool false))
  · cases h
theorem ev_ife {c a b : Expr} {pos : Pos} {t : List (Option V) → Option Bool} {f g : List (Option V) → Option V} (hc : TrOk cx n env xs c t) (ha : EvOk cx n env xs a f) (hb : EvOk cx n env xs b g) :
    EvOk cx n env xs (.IfExp c a b pos) (fun ρ => match t ρ with | some true => f ρ | some false => g ρ | none => none) := by
  intro ex A s ρ d Q E hI hR hex F h hQ
  refine wpAny_IfExp ?_
  dsimp only at h
  split at h
  · rename_i q
    refine hc ex A s ρ _ _ _ hI hR hex F q fun s₁ g₁ => ?_
    exact ha ex A s₁ ρ d _ _ (g₁.inv hI) hR (exLt hex g₁) (F.go g₁) h fun v s₂ g₂ r₂ => hQ v s₂ (g₁.trans g₂) r₂
  · rename_i q
    refine hc ex A s ρ _ _ _ hI hR hex F q fun s₁ g₁ => ?_
    exact hb ex A s₁ ρ d _ _ (g₁.inv hI) hR (exLt hex g₁) (F.go g₁) h fun v s₂ g₂ r₂ => hQ v s₂ (g₁.trans g₂) r₂
  · cases h

theorem ar_nil : ArOk cx n env xs [] (fun _ => some []) := by
  intro ex A s ρ d Q E pos hI hR hex F h hQ
  cases h
  exact wpAny_items_nil (hQ [] s (.refl s) .nil)
def consO (f : List (Option V) → Option V) (g : List (Option V) → Option (List V)) (ρ : List (Option V)) : Option (List V) :=
  match f ρ with
  | none => none
  | some a => match g ρ with
    | none => none
    | some l => some (a :: l)
theorem consO_some {f : List (Option V) → Option V} {g : List (Option V) → Option (List V)} {ρ : List (Option V)} {ds : List V} (h : consO f g ρ = some ds) : ∃ a l, f ρ = some a ∧ g ρ = some l ∧ ds = a :: l := by
  unfold consO at h
  split at h
  · cases h
  · split at h
    · cases h
    · cases h; exact ⟨_, _, by assumption, by assumption, rfl⟩
theorem ar_cons {e : Expr} {es : List Expr} {f : List (Option V) → Option V} {g : List (Option V) → Option (List V)} (h₁ : EvOk cx n env xs e f) (h₂ : ArOk cx n env xs es g)
    (hs : starEach (e :: es) env = (false, eval e env) :: starEach es env) : ArOk cx n env xs (e :: es) (consO f g) := by
  intro ex A s ρ ds Q E pos hI hR hex F h hQ
  obtain ⟨a, l, q1, q2, rfl⟩ := consO_some h
  refine wpAny_items_cons (h₁ ex A s ρ a _ _ hI hR hex F q1 fun v s₁ g₁ r₁ => ?_) hs
  exact h₂ ex A s₁ ρ l _ _ pos (g₁.inv hI) hR (exLt hex g₁) (F.go g₁) q2 fun vs s₂ g₂ r₂ => hQ _ s₂ (g₁.trans g₂) (.cons (r₁.go0 g₂) r₂)

theorem new_not {ex : List Addr} {s : Shared} (hI : cx.I s.heap) (hex : Alive cx ex s.heap) : s.heap.objs.size ∉ ex ∧ s.heap.objs.size ∉ cx.tabs :=
  ⟨fun q => let ⟨_, _, e, _⟩ := hex _ q; Nat.lt_irrefl _ (Heap.lt_size e), fun q => absurd (cx.It _ q) (Nat.not_lt.mpr (cx.In _ hI))⟩
def capL (mk : List V → V) (o : Option (List V)) : Option V := match o with
  | some l => if l.length ≤ 2 ^ 20 then some (mk l) else none
  | none => none
theorem capL_some {mk : List V → V} {o : Option (List V)} {d : V} (h : capL mk o = some d) : ∃ l, o = some l ∧ l.length ≤ 2 ^ 20 ∧ d = mk l := by
  unfold capL at h
  split at h
  · split at h
    · cases h; exact ⟨_, rfl, by assumption, rfl⟩
    · cases h
  · cases h
theorem ev_tup {es : List Expr} {k : Nat} {pos : Pos} {f : List (Option V) → Option (List V)} (h : ArOk cx n env xs es f) : EvOk cx n env xs (.Tuple es k pos) (fun ρ => capL .tup (f ρ)) := by
  intro ex A s ρ d Q E hI hR hex F he hQ
  obtain ⟨l, q1, q2, rfl⟩ := capL_some he
  refine wpAny_Tuple (h ex A s ρ l _ _ pos hI hR hex F q1 fun vs s₁ g₁ r₁ => ⟨?_, ?_⟩)
  · rw [← r₁.length]; exact Nat.le_trans q2 (by decide)
  · have := new_not (g₁.inv hI) (exLt hex g₁)
    exact hQ _ _ (g₁.trans Go.push) (.tup this.1 this.2 (Heap.get?_push_size _ rfl) (r₁.go0 (s' := { s₁ with heap := s₁.heap.push (tupObj vs) }) Go.push) q2)
theorem ev_list {es : List Expr} {pos : Pos} {f : List (Option V) → Option (List V)} (h : ArOk cx n env xs es f) : EvOk cx n env xs (.List es pos) (fun ρ => capL .list (f ρ)) := by
  intro ex A s ρ d Q E hI hR hex F he hQ
  obtain ⟨l, q1, q2, rfl⟩ := capL_some he
  refine wpAny_List (h ex A s ρ l _ _ pos hI hR hex F q1 fun vs s₁ g₁ r₁ => ⟨?_, ?_⟩)
  · rw [← r₁.length]; exact Nat.le_trans q2 (by decide)
  · have := new_not (g₁.inv hI) (exLt hex g₁)
    exact hQ _ _ (g₁.trans Go.push) (.list this.1 this.2 ⟨0, Heap.get?_push_size _ rfl⟩ (r₁.go0 (s' := { s₁ with heap := s₁.heap.push { cls := .type "list", data := .seq vs.toArray } }) Go.push) q2)

end Mine

open PySem PySem.W PyProof.Rows

namespace Mine
variable {cx : Cx} {n : Nat} {env : Env} {xs : List Str}

theorem natAbs_small {a : Int} (h : a.natAbs ≤ 2 ^ 32) : a.natAbs < 2 ^ 64 := Nat.lt_of_le_of_lt h (by decide)
theorem bits_small {a : Int} (h : a.natAbs ≤ 2 ^ 32) : Builtin.Int.intBits a ≤ 64 := intBits_le (natAbs_small h)

def V.add : V → V → Option V
  | .int a, .int b => some (.int (a + b))
  | .list a, .list b => if a.length + b.length ≤ 2 ^ 20 then some (.list (a ++ b)) else Option.none
  | _, _ => Option.none
def V.sub : V → V → Option V
  | .int a, .int b => some (.int (a - b))
  | _, _ => Option.none
def V.mul : V → V → Option V
  | .int a, .int b => if a.natAbs ≤ 2 ^ 32 then some (.int (a * b)) else Option.none
  | .list l, .int k => if 0 ≤ k ∧ k ≤ 64 ∧ l.length ≤ 64 then some (.list (List.replicate k.toNat l).flatten) else Option.none
  | _, _ => Option.none
def V.fdiv : V → V → Option V
  | .int a, .int b => if b ≠ 0 ∧ b.natAbs ≤ 2 ^ 29 then some (.int (a.fdiv b)) else Option.none
  | _, _ => Option.none
def V.fmod : V → V → Option V
  | .int a, .int b => if b ≠ 0 then some (.int (a.fmod b)) else Option.none
  | _, _ => Option.none
def V.pow : V → V → Option V
  | .int a, .int b => if 0 ≤ b ∧ b ≤ 1000 ∧ a.natAbs ≤ 2 ^ 32 then some (.int (a ^ b.toNat)) else Option.none
  | _, _ => Option.none
def V.shl : V → V → Option V
  | .int a, .int b => if 0 ≤ b ∧ b ≤ 1000 ∧ a.natAbs ≤ 2 ^ 32 then some (.int (a * 2 ^ b.toNat)) else Option.none
  | _, _ => Option.none
def V.shr : V → V → Option V
  | .int a, .int b => if 0 ≤ b then some (.int (a.fdiv (2 ^ b.toNat))) else Option.none
  | _, _ => Option.none
def V.xor : V → V → Option V
  | .int a, .int b => some (.int (Builtin.bitXor a b))
  | _, _ => Option.none

theorem RelL.rep {ex : List Addr} {h : Heap} {l : List V} {vs : List Value} (r : RelL cx ex h l vs) : ∀ k : Nat, RelL cx ex h (List.replicate k l).flatten (List.replicate k vs).flatten
  | 0 => by simpa using RelL.nil
  | k + 1 => by rw [List.replicate_succ, List.replicate_succ, List.flatten_cons, List.flatten_cons]; exact r.append (r.rep k)
theorem flat_len {α : Type} (l : List α) : ∀ k : Nat, (List.replicate k l).flatten.length = k * l.length
  | 0 => by simp
  | k + 1 => by rw [List.replicate_succ, List.flatten_cons, List.length_append, flat_len l k, Nat.succ_mul, Nat.add_comm]
theorem ev_go0 {s : Shared} {h' : Heap} {tk : Nat} {own : List Addr} (g : GoB cx own s { s with heap := h' }) : GoB cx own s { s with heap := h', toks := tk } :=
  ⟨g.kp, g.inv, rfl, rfl, rfl⟩

theorem res_int {s : Shared} {ex : List Addr} {i : Int} {Q : Value → Shared → Prop} (hQ : ∀ v s', Go cx s s' → Rel cx ex s'.heap (.int i) v → Q v s') : Q (.int i s.toks) { s with toks := s.toks + 1 } :=
  hQ _ _ Go.tok (.int _ _)
theorem res_bool {s : Shared} {ex : List Addr} {b : Bool} {Q : Value → Shared → Prop} (hQ : ∀ v s', Go cx s s' → Rel cx ex s'.heap (.bool b) v → Q v s') : Q (.bool b) s :=
  hQ _ _ (.refl s) (.bool _)
theorem res_new {s : Shared} {ex : List Addr} {l : List V} {vs : List Value} {Q : Value → Shared → Prop} (hI : cx.I s.heap) (hex : Alive cx ex s.heap) (r : RelL cx ex s.heap l vs) (hl : l.length ≤ 2 ^ 20)
    (hQ : ∀ v s', Go cx s s' → Rel cx ex s'.heap (.list l) v → Q v s') : Q (.ref s.heap.objs.size) { s with heap := s.heap.push { cls := .type "list", data := .seq vs.toArray } } := by
  have z := new_not hI hex
  have g : Go cx s { s with heap := s.heap.push { cls := .type "list", data := .seq vs.toArray } } := Go.push
  exact hQ _ _ g (.list z.1 z.2 ⟨0, Heap.get?_push_size _ rfl⟩ (r.go0 g) hl)

theorem op_add : OpOk cx n (binaryOp .Add) V.add := by
  intro ex A s a b da db d Q E hI hR hex ra rb h hQ
  unfold V.add at h
  split at h
  · cases ra; cases rb; cases h
    exact PySem.P.add_int (res_int hQ)
  · rename_i la lb
    split at h
    · rename_i hlen
      cases h
      cases ra with
      | list h1 h2 h3 h4 h5 =>
        cases rb with
        | list k1 k2 k3 k4 k5 =>
          obtain ⟨n1, e1⟩ := h3
          obtain ⟨n2, e2⟩ := k3
          rename_i vs a' ws b'
          have e : vs.toArray ++ ws.toArray = (vs ++ ws).toArray := by simp
          have hsz : vs.toArray.size + ws.toArray.size ≤ sizeLine := by
            rw [List.size_toArray, List.size_toArray, ← h4.length, ← k4.length]; exact Nat.le_trans hlen (by decide)
          refine concat_meets ⟨_, e1, rfl⟩ ⟨_, e2, rfl⟩ noFill_list_add seq_list_add PySem.F.slot_list_add PySem.F.entry_list_add (PySem.F.args_list_add_2 _ _) (list_addW a' b' vs.toArray ws.toArray n1 n2 none none #[] #[] hsz) ⟨e1, e2, ?_⟩
          rw [e]
          exact res_new hI hex (h4.append k4) (by rw [List.length_append]; exact hlen) hQ
    · cases h
  · cases h

theorem op_sub : OpOk cx n (binaryOp .Sub) V.sub := by
  intro ex A s a b da db d Q E hI hR hex ra rb h hQ
  unfold V.sub at h
  split at h
  · cases ra; cases rb; cases h
    exact PySem.P.sub_int (res_int hQ)
  · cases h
theorem op_mul : OpOk cx n (binaryOp .Mult) V.mul := by
  intro ex A s a b da db d Q E hI hR hex ra rb h hQ
  unfold V.mul at h
  split at h
  · split at h
    · rename_i hb
      cases ra; cases rb; cases h
      exact PySem.P.mul_int (res_int hQ) (IntMulOk.of_left (bits_small hb))
    · cases h
  · rename_i l k
    split at h
    · rename_i hb
      obtain ⟨b0, b1, b2⟩ := hb
      cases h
      cases rb
      rename_i u
      cases ra with
      | list h1 h2 h3 h4 h5 =>
        obtain ⟨n1, e1⟩ := h3
        rename_i vs a'
        have hn : vs.length ≤ 64 := by rw [← h4.length]; exact b2
        have hk : k.toNat ≤ 64 := by omega
        have hm : vs.length * k.toNat ≤ 64 * 64 := Nat.mul_le_mul hn hk
        have hm' : vs.toArray.size * k.toNat ≤ 64 * 64 := by rw [List.size_toArray]; exact hm
        refine wpAny_binaryOp_repeat_ref (T := "list") (U := "int") (by decide) ⟨_, e1, rfl⟩ (fun s' => typeIs_int s' k u) noFill_list_mul F.fills_int_mul F.slot_int_rmul repeat_list F.slot_int_index.lookup
          (call_meets F.slot_int_rmul (typeIs_int s k u) F.entry_int_rmul (F.args_int_rmul_2 _ _) (lm_int_rmul_list_any k u a' vs.toArray n1 none #[])
            ⟨e1, rfl, ⟨_, e1, rfl⟩, call_meets F.slot_list_mul ⟨_, e1, rfl⟩ F.entry_list_mul (F.args_list_mul_2 _ _)
              (lm_list_mul_any a' vs.toArray n1 none #[] k u (by simp [Builtin.List.listFitsIndex]; omega) (by omega) (by simp [Builtin.List.listTooLong, sizeLine]; omega))
              ⟨e1, ?_⟩⟩)
        rw [listMul_foldl_if]
        exact res_new hI hex (h4.rep k.toNat) (by rw [flat_len, h4.length, Nat.mul_comm]; omega) hQ
    · cases h
  · cases h
theorem op_fdiv : OpOk cx n (binaryOp .FloorDiv) V.fdiv := by
  intro ex A s a b da db d Q E hI hR hex ra rb h hQ
  unfold V.fdiv at h
  split at h
  · split at h
    · rename_i hb
      cases ra; cases rb; cases h
      exact floordiv_int hb.1 (res_int hQ) (.inl (PyProof.noPylong_small (Nat.lt_of_le_of_lt hb.2 (by decide))))
    · cases h
  · cases h
theorem op_fmod : OpOk cx n (binaryOp .Mod) V.fmod := by
  intro ex A s a b da db d Q E hI hR hex ra rb h hQ
  unfold V.fmod at h
  split at h
  · split at h
    · rename_i hb
      cases ra; cases rb; cases h
      exact mod_int' hb (res_int hQ)
    · cases h
  · cases h
theorem op_pow : OpOk cx n (binaryOp .Pow) V.pow := by
  intro ex A s a b da db d Q E hI hR hex ra rb h hQ
  unfold V.pow at h
  split at h
  · split at h
    · rename_i hb
      cases ra; cases rb; cases h
      exact pow_int_small hb.1 (by have := hb.2.1; omega) (natAbs_small hb.2.2) (res_int hQ)
    · cases h
  · cases h
theorem op_shl : OpOk cx n (binaryOp .LShift) V.shl := by
  intro ex A s a b da db d Q E hI hR hex ra rb h hQ
  unfold V.shl at h
  split at h
  · split at h
    · rename_i hb
      cases ra; cases rb; cases h
      exact lshift_int_small hb.1 (by have := hb.2.1; omega) (natAbs_small hb.2.2) (res_int hQ)
    · cases h
  · cases h
theorem op_shr : OpOk cx n (binaryOp .RShift) V.shr := by
  intro ex A s a b da db d Q E hI hR hex ra rb h hQ
  unfold V.shr at h
  split at h
  · split at h
    · rename_i hb
      cases ra; cases rb; cases h
      exact rshift_int hb (res_int hQ)
    · cases h
  · cases h
theorem op_xor : OpOk cx n (binaryOp .BitXor) V.xor := by
  intro ex A s a b da db d Q E hI hR hex ra rb h hQ
  unfold V.xor at h
  split at h
  · cases ra; cases rb; cases h
    exact xor_int (res_int hQ)
  · cases h

/- comparisons -/
def intsOf : List V → Option (List Int)
  | [] => some []
  | .int i :: l => match intsOf l with
    | some r => some (i :: r)
    | none => none
  | _ :: _ => none
theorem ints_of {ex : List Addr} {h : Heap} : ∀ {l : List V} {vs : List Value} {ns : List Int}, RelL cx ex h l vs → intsOf l = some ns → IntsAre vs ns
  | [], _, _, .nil, e => by cases e; exact .nil
  | .int i :: l, _, _, .cons a r, e => by
    unfold intsOf at e
    split at e
    · rename_i q
      cases e; cases a
      exact .cons _ _ (ints_of r q)
    · cases e
  | .none :: _, _, _, _, e | .bool _ :: _, _, _, _, e | .list _ :: _, _, _, _, e | .tup _ :: _, _, _, _, e | .fn _ :: _, _, _, _, e => by cases e
def eqInts : List Int → List Int → Bool
  | [], [] => true
  | a :: l, b :: r => if a = b then eqInts l r else false
  | _, _ => false
theorem eqInts_eq : ∀ l r : List Int, eqInts l r = decide (l = r)
  | [], [] => rfl
  | [], _ :: _ => rfl
  | _ :: _, [] => rfl
  | a :: l, b :: r => by
    unfold eqInts
    by_cases h : a = b
    · rw [if_pos h, eqInts_eq l r]; subst h; simp
    · rw [if_neg h]; simp [h]
def V.eqB : V → V → Option Bool
  | .int a, .int b => some (decide (a = b))
  | .list a, .list b => match intsOf a, intsOf b with
    | some l, some r => some (eqInts l r)
    | _, _ => Option.none
  | _, _ => Option.none
def V.eq (a b : V) : Option V := boolV (V.eqB a b)
def V.ne (a b : V) : Option V := boolV (notO (V.eqB a b))
def V.lt : V → V → Option V
  | .int a, .int b => some (.bool (decide (a < b)))
  | _, _ => Option.none
def V.gt : V → V → Option V
  | .int a, .int b => some (.bool (decide (a > b)))
  | _, _ => Option.none
def V.isNone : V → V → Option V
  | .none, .none => some (.bool true)
  | .int _, .none => some (.bool false)
  | _, _ => Option.none
theorem boolV_some {o : Option Bool} {d : V} (h : boolV o = some d) : ∃ b, o = some b ∧ d = .bool b := by
  cases o with
  | none => cases h
  | some b => cases h; exact ⟨b, rfl, rfl⟩
theorem units64 {A : Around} (hR : Room n A) : A.units + 64 < cLine := by have := hR.units; have : cLine = 9900 := rfl; omega

theorem op_eq : OpOk cx n (compareOp .Eq) V.eq := by
  intro ex A s a b da db d Q E hI hR hex ra rb h hQ
  obtain ⟨r, h', rfl⟩ := boolV_some h
  clear h
  rename _ = some r => h
  unfold V.eqB at h
  split at h
  · cases ra; cases rb; cases h
    exact PySem.P.eq_int (res_bool hQ)
  · split at h
    · rename_i q1 q2
      cases h
      cases ra with
      | list h1 h2 h3 h4 h5 =>
        cases rb with
        | list k1 k2 k3 k4 k5 =>
          refine ke_eq_ints h3.isList k3.isList (ints_of h4 q1) (ints_of k4 q2) (units64 hR) ?_
          rw [← eqInts_eq]
          exact res_bool hQ
    · cases h
  · cases h
theorem op_ne : OpOk cx n (compareOp .NotEq) V.ne := by
  intro ex A s a b da db d Q E hI hR hex ra rb h hQ
  obtain ⟨r, h', rfl⟩ := boolV_some h
  clear h
  rename _ = some r => h
  cases q0 : V.eqB da db with
  | none => rw [q0] at h; cases h
  | some c =>
    rw [q0] at h; cases h
    unfold V.eqB at q0
    split at q0
    · cases ra; cases rb; cases q0
      refine PySem.P.ne_int ?_
      have e : ∀ x y : Int, (x != y) = !decide (x = y) := fun x y => by by_cases h : x = y <;> simp [h]
      rw [e]
      exact res_bool hQ
    · split at q0
      · rename_i q1 q2
        cases q0
        cases ra with
        | list h1 h2 h3 h4 h5 =>
          cases rb with
          | list k1 k2 k3 k4 k5 =>
            refine ke_ne_ints h3.isList k3.isList (ints_of h4 q1) (ints_of k4 q2) (units64 hR) ?_
            rw [← eqInts_eq]
            exact res_bool hQ
      · cases q0
    · cases q0
theorem op_lt : OpOk cx n (compareOp .Lt) V.lt := by
  intro ex A s a b da db d Q E hI hR hex ra rb h hQ
  unfold V.lt at h
  split at h
  · cases ra; cases rb; cases h
    exact PySem.P.lt_int (res_bool hQ)
  · cases h
theorem op_gt : OpOk cx n (compareOp .Gt) V.gt := by
  intro ex A s a b da db d Q E hI hR hex ra rb h hQ
  unfold V.gt at h
  split at h
  · cases ra; cases rb; cases h
    exact PySem.P.gt_int (res_bool hQ)
  · cases h
theorem op_is : OpOk cx n (compareOp .Is) V.isNone := by
  intro ex A s a b da db d Q E hI hR hex ra rb h hQ
  unfold V.isNone at h
  split at h
  · cases ra; cases rb; cases h
    exact PySem.is_none (res_bool hQ)
  · cases ra; cases rb; cases h
    exact PySem.is_none (res_bool hQ)
  · cases h

/- tuple of two ints in a list of such -/
def pairOf : V → Option (Int × Int)
  | .tup [.int a, .int b] => some (a, b)
  | _ => none
def pairsOf : List V → Option (List (Int × Int))
  | [] => some []
  | d :: l => match pairOf d, pairsOf l with
    | some p, some r => some (p :: r)
    | _, _ => none
def hasPair (p : Int × Int) : List (Int × Int) → Bool
  | [] => false
  | q :: l => if q.1 = p.1 then (if q.2 = p.2 then true else hasPair p l) else hasPair p l
def V.isIn : V → V → Option V
  | x, .list l => match pairOf x, pairsOf l with
    | some p, some r => some (.bool (hasPair p r))
    | _, _ => Option.none
  | _, _ => Option.none
abbrev pyPair (p : Int × Int) : PyData := .tuple [.int p.1, .int p.2]
theorem reads_pair {ex : List Addr} {h : Heap} {d : V} {v : Value} {p : Int × Int} (r : Rel cx ex h d v) (e : pairOf d = some p) : ∃ as, Reads h v (pyPair p) as := by
  unfold pairOf at e
  split at e
  · cases e
    cases r with
    | tup h1 h2 h3 h4 h5 =>
      cases h4 with
      | cons a r =>
        cases r with
        | cons b r =>
          cases r
          cases a; cases b
          exact ⟨_, .tuple h3 rfl rfl (.cons (.int _ _) (.cons (.int _ _) .nil))⟩
  · cases e
theorem reads_pairs {ex : List Addr} {h : Heap} : ∀ {l : List V} {vs : List Value} {r : List (Int × Int)}, RelL cx ex h l vs → pairsOf l = some r → ∃ as, ReadsAll h vs (r.map pyPair) as
  | [], _, _, .nil, e => by cases e; exact ⟨_, .nil⟩
  | d :: l, _, _, .cons a r, e => by
    unfold pairsOf at e
    split at e
    · rename_i q1 q2
      cases e
      obtain ⟨as, x⟩ := reads_pair a q1
      obtain ⟨bs, y⟩ := reads_pairs r q2
      exact ⟨_, .cons x y⟩
    · cases e
theorem lay_pairs : ∀ r : List (Int × Int), PyData.canLayAll0 (r.map pyPair) = true
  | [] => by simp [PyData.canLayAll0]
  | p :: r => by simp [PyData.canLayAll0, PyData.canLay0, lay_pairs r]
theorem any_pairs (p : Int × Int) : ∀ r : List (Int × Int), ((r.map pyPair).any fun y => PyData.eqv y (pyPair p)) = hasPair p r
  | [] => rfl
  | q :: r => by
    rw [List.map_cons, List.any_cons, any_pairs p r]
    have e : hasPair p (q :: r) = (if q.1 = p.1 then (if q.2 = p.2 then true else hasPair p r) else hasPair p r) := rfl
    rw [e]
    have : PyData.eqv (pyPair q) (pyPair p) = (decide (q.1 = p.1) && decide (q.2 = p.2)) := by
      simp only [PyData.eqv, PyData.eqvAll, Bool.and_true]
      congr 1
    rw [this]
    by_cases h1 : q.1 = p.1
    · by_cases h2 : q.2 = p.2
      · simp only [h1, h2, decide_true, Bool.and_true, Bool.true_or, if_true]
      · simp only [h1, h2, decide_true, decide_false, Bool.and_false, Bool.false_or, if_true, if_false]
    · simp only [h1, decide_false, Bool.false_and, Bool.false_or, if_false]
theorem op_in : OpOk cx n (compareOp .In) V.isIn := by
  intro ex A s a b da db d Q E hI hR hex ra rb h hQ
  unfold V.isIn at h
  split at h
  · split at h
    · rename_i p r q1 q2
      cases h
      cases rb with
      | list h1 h2 h3 h4 h5 =>
        obtain ⟨as, rx⟩ := reads_pair ra q1
        obtain ⟨bs, rl⟩ := reads_pairs h4 q2
        obtain ⟨n1, e1⟩ := h3
        have hd : PyData.depth (pyPair p) ≤ 1 := by simp [PyData.depth, PyData.depthAll]
        refine SeqAt.in_list_reads (.list e1 rfl rfl rl) rx (lay_pairs _) (by simp [PyData.canLay0, PyData.canLayAll0]) (Nat.lt_of_le_of_lt (Nat.add_le_add_left (Nat.le_trans (Nat.min_le_right _ _) hd) _) ?_) ?_
        · have := hR.units; have : cLine = 9900 := rfl; omega
        · rw [any_pairs]; exact res_bool hQ
    · cases h
  · cases h

/- truth -/
def truthV : V → Option Bool
  | .bool b => some b
  | .int i => some (i != 0)
  | .list l => some (!l.isEmpty)
  | _ => none
def truthO : Option V → Option Bool
  | some d => truthV d
  | none => none
theorem truthy_ok {ex : List Addr} {A : Around} {s : Shared} {d : V} {v : Value} {b : Bool} {Q : Bool → Shared → Prop} {E : Value → Shared → Prop} (r : Rel cx ex s.heap d v) (h : truthV d = some b)
    (hQ : ∀ s', Go cx s s' → Q b s') : wpAny (model cx.prog cx.w) A (truthy v) Q E s := by
  unfold truthV at h
  split at h
  · cases r; cases h; exact wpAny_truthy_bool (hQ s (.refl s))
  · cases r; cases h; exact PySem.P.truthy_int (hQ s (.refl s))
  · cases h
    cases r with
    | list h1 h2 h3 h4 h5 =>
      rename_i l vs a
      refine wpAny_truthy_list h3.isList (by rw [List.size_toArray, ← h4.length]; exact Int.lt_of_le_of_lt (Int.ofNat_le.mpr h5) (by decide)) ?_
      have e : vs.toArray.isEmpty = l.isEmpty := by
        have := h4.length
        cases l <;> cases vs <;> simp_all
      rw [e]
      exact hQ _ Go.tok
  · cases h
theorem tr_any {e : Expr} {f : List (Option V) → Option V} (he : EvOk cx n env xs e f) (hw : PySem.isTrue e env (eval e env) = (do let v ← eval e env; standAt e.pos; holding [v] (truthy v))) :
    TrOk cx n env xs e (fun ρ => truthO (f ρ)) := by
  intro ex A s ρ b Q E hI hR hex F h hQ
  dsimp only at h
  cases hf : f ρ with
  | none => rw [hf] at h; cases h
  | some d =>
    rw [hf] at h
    refine wpAny_isTrue_value (he ex A s ρ d _ _ hI hR hex F hf fun v s' g r => ?_) hw
    exact truthy_ok r h fun s'' g' => hQ s'' (g.trans g')

end Mine

open PySem PySem.W PyProof.Rows

namespace Mine
variable {cx : Cx} {n : Nat} {env : Env} {xs : List Str}

/- calls -/
def Cal (cx : Cx) : Value → Prop
  | .builtin _ => True
  | .type _ => True
  | .ref a => ∀ h, cx.I h → ∃ o fd, h.get? a = some o ∧ o.data = .func fd
  | _ => False

theorem callWith_any {A : Around} {s : Shared} {pos : Pos} {fv : Value} {e : Expr} {rest : List Expr} {Q : Value → Shared → Prop} {E : Value → Shared → Prop} (hc : Cal cx fv)
    (h : wpAny (model cx.prog cx.w) A (spliced (backTo pos (starEach (e :: rest) env))) (fun vs s₁ => cx.I s₁.heap ∧ wpAny (model cx.prog cx.w) A (call fv vs) Q E s₁) E s)
    (he : starEach (e :: rest) env = (false, eval e env) :: starEach rest env) (hplain : (backTo pos (starEach rest env)).any (·.1) = false) :
    wpAny (model cx.prog cx.w) A (callWith pos fv [] (backTo pos (starEach (e :: rest) env)) []) Q E s := by
  rw [he] at h ⊢
  have hp : ((backTo pos ((false, eval e env) :: starEach rest env)).any (·.1) || ([] : List (Option Str × Sem Value)).any (·.1.isNone)) = false := by
    show ((false || (backTo pos (starEach rest env)).any (·.1)) || false) = false
    rw [hplain]; rfl
  refine callWith_of (P := fun h => cx.I h) hp (fun hh hI => ?_) (Calls.evalArgs_plain h)
  cases fv with
  | builtin id => exact ⟨.machine, .inr (.inl rfl), Looks.of_pure rfl⟩
  | type T => exact ⟨.machine, .inr (.inl rfl), Looks.of_pure rfl⟩
  | ref a =>
    obtain ⟨o, fd, e1, e2⟩ := hc hh hI
    refine ⟨.frame, .inl rfl, (Looks.ld (part := none) e1).andThen ?_⟩
    rw [e2]; exact .now
  | _ => exact hc.elim

def glob (cx : Cx) (x : Str) : Option Value := match cx.mg x with
  | some v => some v
  | none => cx.mb x

def callO (Φ : List V → Option V) (o : Option (List V)) : Option V := match o with
  | some l => Φ l
  | none => none

theorem ev_call_of {f : Str} {p pos : Pos} {e : Expr} {rest : List Expr} {Φ : List V → Option V} {fv : Value} {g : List (Option V) → Option (List V)} {A : Around} {s : Shared} {ex : List Addr} {ρ : List (Option V)} {d : V}
    {Q : Value → Shared → Prop} {E : Value → Shared → Prop} (hc : Cal cx fv) (hf : FnOk cx n fv Φ) (ha : ArOk cx n env xs (e :: rest) g)
    (he : starEach (e :: rest) env = (false, eval e env) :: starEach rest env) (hplain : ∀ pos, (backTo pos (starEach rest env)).any (·.1) = false)
    (hI : cx.I s.heap) (hR : Room n A) (hex : Alive cx ex s.heap) (F : FrOk cx ex env xs s.heap ρ) (h : callO Φ (g ρ) = some d) (hQ : ∀ v s', Go cx s s' → Rel cx ex s'.heap d v → Q v s')
    (hn : ∀ Q' : Value → Shared → Prop, Q' fv s → wpAny (model cx.prog cx.w) A (eval (.Name f p) env) Q' E s) :
    wpAny (model cx.prog cx.w) A (eval (.Call (.Name f p) (e :: rest) [] pos) env) Q E s := by
  unfold callO at h
  split at h
  · rename_i ds q
    refine wpAny_Call_NameR (hn _ (callWith_any hc ?_ he (hplain pos)))
    refine ha ex A s ρ ds _ _ pos hI hR hex F q fun vs s₁ g₁ r₁ => ⟨g₁.inv hI, ?_⟩
    exact hf ex A s₁ vs ds d _ _ (g₁.inv hI) hR (exLt hex g₁) r₁ h fun v s₂ g₂ r₂ => hQ v s₂ (g₁.trans g₂) r₂
  · cases h

/-- a call of a global name -/
theorem ev_call {f : Str} {p pos : Pos} {e : Expr} {rest : List Expr} {Φ : List V → Option V} {fv : Value} {g : List (Option V) → Option (List V)} (hk : env.kindOf f = some .globalImplicit) (hv : glob cx f = some fv)
    (hc : Cal cx fv) (hf : FnOk cx n fv Φ) (ha : ArOk cx n env xs (e :: rest) g)
    (he : starEach (e :: rest) env = (false, eval e env) :: starEach rest env) (hplain : ∀ pos, (backTo pos (starEach rest env)).any (·.1) = false) (hd : (f == ("__debug__" : Str)) = false) :
    EvOk cx n env xs (.Call (.Name f p) (e :: rest) [] pos) (fun ρ => callO Φ (g ρ)) := by
  intro ex A s ρ d Q E hI hR hex F h hQ
  refine ev_call_of hc hf ha he hplain hI hR hex F h hQ fun Q' q => ?_
  refine Calls.Name_function_global F.ek.kind hk ?_ hd
  unfold glob at hv
  split at hv
  · rename_i w hw
    cases hv
    exact Calls.loadGlobal_global (by rw [F.ek.glob]; exact cx.Ig _ hI) hw q
  · rename_i hw
    exact Calls.loadGlobal_builtin (by rw [F.ek.glob]; exact cx.Ig _ hI) hw (by rw [F.ek.blt]; exact cx.Ib _ hI) hv q
/-- a call through a name of the frame that holds a function -/
theorem ev_callv {f : Str} {p pos : Pos} {e : Expr} {rest : List Expr} {Φ : List V → Option V} {a : Addr} {nm : List (Option V) → Option V} {g : List (Option V) → Option (List V)} (hn : EvOk cx n env xs (.Name f p) nm)
    (hc : Cal cx (.ref a)) (hf : FnOk cx n (.ref a) Φ) (ha : ArOk cx n env xs (e :: rest) g)
    (he : starEach (e :: rest) env = (false, eval e env) :: starEach rest env) (hplain : ∀ pos, (backTo pos (starEach rest env)).any (·.1) = false) :
    EvOk cx n env xs (.Call (.Name f p) (e :: rest) [] pos) (fun ρ => match nm ρ with | some (.fn b) => if b = a then callO Φ (g ρ) else none | _ => none) := by
  intro ex A s ρ d Q E hI hR hex F h hQ
  dsimp only at h
  split at h
  · rename_i b q
    split at h
    · rename_i hb
      subst hb
      unfold callO at h
      split at h
      · rename_i ds q2
        refine wpAny_Call_NameR (hn ex A s ρ _ _ _ hI hR hex F q fun v s₁ g₁ r₁ => ?_)
        cases r₁
        refine callWith_any hc ?_ he (hplain pos)
        refine ha ex A s₁ ρ ds _ _ pos (g₁.inv hI) hR (exLt hex g₁) (F.go g₁) q2 fun vs s₂ g₂ r₂ => ⟨g₂.inv (g₁.inv hI), ?_⟩
        exact hf ex A s₂ vs ds d _ _ (g₂.inv (g₁.inv hI)) hR (exLt (exLt hex g₁) g₂) r₂ h fun v s₃ g₃ r₃ => hQ v s₃ ((g₁.trans g₂).trans g₃) r₃
      · cases h
    · cases h
  · cases h

/- built-in functions -/
def fLen : List V → Option V
  | [.list l] => some (.int l.length)
  | _ => none
theorem fn_len : FnOk cx n (.builtin "len") fLen := by
  intro ex A s vs ds d Q E hI hR hex r h hQ
  unfold fLen at h
  split at h
  · cases h
    cases r with
    | cons a r =>
      cases r
      cases a with
      | list h1 h2 h3 h4 h5 =>
        refine Calls.call_len_list h3.isList (by rw [List.size_toArray, ← h4.length]; exact Int.lt_of_le_of_lt (Int.ofNat_le.mpr h5) (by decide)) ?_
        rw [List.size_toArray, ← h4.length]
        exact hQ _ _ Go.tok (.int _ _)
  · cases h
def fMin : List V → Option V
  | [.int a, .int b] => some (.int (if b < a then b else a))
  | _ => none
def fMax : List V → Option V
  | [.int a, .int b] => some (.int (if b > a then b else a))
  | _ => none
theorem fn_min : FnOk cx n (.builtin "min") fMin := by
  intro ex A s vs ds d Q E hI hR hex r h hQ
  unfold fMin at h
  split at h
  · cases h
    cases r with
    | cons x r =>
      cases r with
      | cons y r =>
        cases r
        cases x; cases y
        refine min_two_ints hR.handled fun h' tk k => ?_
        split
        · rename_i c
          rw [if_pos c] at hQ
          exact hQ _ _ (Go.keep k) (.int _ _)
        · rename_i c
          rw [if_neg c] at hQ
          exact hQ _ _ (Go.keep k) (.int _ _)
  · cases h
theorem fn_max : FnOk cx n (.builtin "max") fMax := by
  intro ex A s vs ds d Q E hI hR hex r h hQ
  unfold fMax at h
  split at h
  · cases h
    cases r with
    | cons x r =>
      cases r with
      | cons y r =>
        cases r
        cases x; cases y
        refine max_two_ints hR.handled fun h' tk k => ?_
        split
        · rename_i c
          rw [if_pos c] at hQ
          exact hQ _ _ (Go.keep k) (.int _ _)
        · rename_i c
          rw [if_neg c] at hQ
          exact hQ _ _ (Go.keep k) (.int _ _)
  · cases h
def fInt : List V → Option V
  | [.bool b] => some (.int (if b then 1 else 0))
  | _ => none
theorem fn_int : FnOk cx n (.type "int") fInt := by
  intro ex A s vs ds d Q E hI hR hex r h hQ
  unfold fInt at h
  split at h
  · cases h
    cases r with
    | cons x r =>
      cases r
      cases x
      exact call_int_bool (hQ _ _ Go.tok (.int _ _))
  · cases h
def fSum : List V → Option V
  | [.list l] => match intsOf l with
    | some ns => some (.int ns.sum)
    | none => none
  | _ => none
theorem ints_at : ∀ {vs : List Value} {ns : List Int} {i : Nat} {v : Value}, IntsAre vs ns → vs[i]? = some v → ∃ t, v = .int (ns.getD i 0) t
  | _, _, 0, _, .cons k t _, e => by cases e; exact ⟨t, rfl⟩
  | _, _, i + 1, _, .cons _ _ r, e => by
    obtain ⟨t, h⟩ := ints_at (i := i) r (by simpa using e)
    exact ⟨t, by simpa using h⟩
theorem fn_sum : FnOk cx n (.builtin "sum") fSum := by
  intro ex A s vs ds d Q E hI hR hex r h hQ
  unfold fSum at h
  split at h
  · split at h
    · rename_i l ns q
      cases h
      cases r with
      | cons x r =>
        cases r
        cases x with
        | list h1 h2 h3 h4 h5 =>
          rename_i vs a
          have hi := ints_of h4 q
          have hl := h3.isList
          refine call_sum_walkG (wpAny_pyIter_list hl ?_)
          have hne : a ≠ s.heap.objs.size := by
            obtain ⟨k, e⟩ := h3
            exact Nat.ne_of_lt (Heap.lt_size e)
          refine ⟨_, _, _, _, _, _, fun i => ns.getD i 0, rfl, Walks.list (A := A.in1) (by show A.handled = none; exact hR.handled) _ a hne vs.toArray, ?_, ?_, ?_, ?_⟩
          · exact ⟨⟨_, Heap.get?_push_size _ rfl, rfl, rfl⟩, hl.push _⟩
          · intro b hb
            have ha : a < s.heap.objs.size := by obtain ⟨k, e⟩ := h3; exact Heap.lt_size e
            show b < (s.heap.push _).objs.size
            rw [Heap.size_push]
            rcases List.mem_cons.mp hb with rfl | hb
            · exact Nat.lt_succ_self _
            · have := List.mem_singleton.mp hb; subst this; exact Nat.lt_succ_of_lt ha
          · intro i v hv
            exact ints_at hi (by simpa using hv)
          · intro h' tk t' hk
            have e : preSum (fun i => ns.getD i 0) vs.toArray.size = ns.sum := by
              rw [preSum_getD, List.size_toArray, hi.length]
              exact congrArg List.sum (List.take_of_length_le (Nat.le_refl _))
            rw [e]
            refine hQ _ _ (Go.keep fun b o eb => ?_) (.int _ _)
            refine hk b o (fun hm => ?_) (Heap.get?_push_of_some _ eb)
            have := List.mem_singleton.mp hm
            rw [this] at eb
            exact absurd (Heap.lt_size eb) (Nat.lt_irrefl _)
    · cases h
  · cases h

/- sorted -/
def insI (a : Int) : List Int → List Int
  | [] => [a]
  | b :: l => if a ≤ b then a :: b :: l else b :: insI a l
def isort : List Int → List Int
  | [] => []
  | a :: l => insI a (isort l)
theorem insI_perm (a : Int) : ∀ l : List Int, (insI a l).Perm (a :: l)
  | [] => .refl _
  | b :: l => by
    unfold insI
    split
    · exact .refl _
    · exact ((insI_perm a l).cons b).trans (.swap a b l)
theorem isort_perm : ∀ l : List Int, (isort l).Perm l
  | [] => .refl _
  | a :: l => (insI_perm a _).trans ((isort_perm l).cons a)
theorem insI_sorted (a : Int) : ∀ l : List Int, l.Pairwise (· ≤ ·) → (insI a l).Pairwise (· ≤ ·)
  | [], _ => List.pairwise_singleton _ _
  | b :: l, h => by
    unfold insI
    split
    · rename_i hab
      refine List.Pairwise.cons (fun c hc => ?_) h
      rcases List.mem_cons.mp hc with rfl | hc
      · exact hab
      · have := List.rel_of_pairwise_cons h hc; omega
    · rename_i hab
      refine List.Pairwise.cons (fun c hc => ?_) (insI_sorted a l (List.Pairwise.of_cons h))
      rcases List.mem_cons.mp ((insI_perm a l).mem_iff.mp hc) with rfl | hc
      · omega
      · exact List.rel_of_pairwise_cons h hc
theorem isort_sorted : ∀ l : List Int, (isort l).Pairwise (· ≤ ·)
  | [] => .nil
  | a :: l => insI_sorted a _ (isort_sorted l)
theorem sorted_one : ∀ {l r : List Int}, l.Pairwise (· ≤ ·) → r.Pairwise (· ≤ ·) → l.Perm r → l = r
  | [], r, _, _, p => (List.nil_perm.mp p).symm
  | a :: l, [], _, _, p => by have := p.length_eq; simp at this
  | a :: l, b :: r, hl, hr, p => by
    have h1 : b ≤ a := by
      rcases List.mem_cons.mp (p.mem_iff.mp (List.mem_cons_self)) with h | h
      · omega
      · exact List.rel_of_pairwise_cons hr h
    have h2 : a ≤ b := by
      rcases List.mem_cons.mp (p.symm.mem_iff.mp (List.mem_cons_self)) with h | h
      · omega
      · exact List.rel_of_pairwise_cons hl h
    have e : a = b := by omega
    subst e
    rw [sorted_one (List.Pairwise.of_cons hl) (List.Pairwise.of_cons hr) p.cons_inv]
def fSorted : List V → Option V
  | [.list l] => match intsOf l with
    | some ns => if ns.length < 64 then some (.list ((isort ns).map .int)) else none
    | none => none
  | _ => none
theorem rel_ints {ex : List Addr} {h : Heap} : ∀ {vs : List Value} {ns : List Int}, IntsAre vs ns → RelL cx ex h (ns.map V.int) vs
  | _, _, .nil => .nil
  | _, _, .cons _ _ r => .cons (.int _ _) (rel_ints r)
theorem fn_sorted : FnOk cx n (.builtin "sorted") fSorted := by
  intro ex A s vs ds d Q E hI hR hex r h hQ
  unfold fSorted at h
  split at h
  · split at h
    · rename_i l ns q
      split at h
      · rename_i hlen
        cases h
        cases r with
        | cons x r =>
          cases r
          cases x with
          | list h1 h2 h3 h4 h5 =>
            rename_i vs a
            have hi := ints_of h4 q
            refine sorted_ints h3.isList hi (by rw [hi.length]; exact hlen) fun out ns' a1 a2 a3 => ?_
            obtain ⟨e, he⟩ := sortedAll_at s.heap vs out
            have g : Go cx s { s with heap := sortedAll s.heap vs out } := Go.keep (fun _ _ => sortedAll_old)
            have e1 : ns' = isort ns := sorted_one a3 (isort_sorted ns) (a2.trans (isort_perm ns).symm)
            have hnot : s.heap.objs.size + 1 ∉ ex ∧ s.heap.objs.size + 1 ∉ cx.tabs :=
              ⟨fun q => let ⟨_, o, e, _⟩ := hex _ q; absurd (Heap.lt_size e) (Nat.not_lt.mpr (Nat.le_succ _)), fun q => absurd (cx.It _ q) (Nat.not_lt.mpr (Nat.le_succ_of_le (cx.In _ hI)))⟩
            refine hQ _ _ g (.list (vs := out.toList) hnot.1 hnot.2 ⟨e, ?_⟩ ?_ ?_)
            · rw [Array.toArray_toList]; exact he
            · rw [← e1]; exact rel_ints a1
            · rw [List.length_map, (isort_perm ns).length_eq]; exact Nat.le_trans (Nat.le_of_lt hlen) (by decide)
      · cases h
    · cases h
  · cases h

/- items and slices -/
def V.item : V → V → Option V
  | .list l, .int k => if 0 ≤ k ∧ k < 2 ^ 62 then l[k.toNat]? else Option.none
  | _, _ => Option.none
def V.upto : V → V → Option V
  | .list l, .int k => if 0 ≤ k then some (.list (l.take k.toNat)) else Option.none
  | _, _ => Option.none
def V.from : V → V → Option V
  | .list l, .int k => if 0 ≤ k then some (.list (l.drop k.toNat)) else Option.none
  | _, _ => Option.none
def V.rev : V → Option V
  | .list l => some (.list l.reverse)
  | _ => Option.none

theorem ev_item {value slice : Expr} {pos : Pos} {f g : List (Option V) → Option V} (hv : EvOk cx n env xs value f) (hs : EvOk cx n env xs slice g)
    (hsub : ∀ o i, subscripted slice false o i = operate [o, i] (getItem o i)) : EvOk cx n env xs (.Subscript value slice pos) (bind2 f g V.item) := by
  intro ex A s ρ d Q E hI hR hex F he hQ
  refine Subscript_ (ev_two (k := V.item) (t := fun o i => subscriptTail value slice o i) hv hs ?_ hI hR hex F he hQ)
  intro ex A s a b da db d Q E hI hR hex ra rb h hQ
  unfold V.item at h
  split at h
  · split at h
    · rename_i hk
      cases rb
      cases ra with
      | list h1 h2 h3 h4 h5 =>
        obtain ⟨v, e1, r1⟩ := h4.get h
        exact tail_any h3.isList.typeIs slot_list_getitem.lookup (wpAny_getItem_list h3.isList hk.1 (by have := hk.2; omega) (by simpa using e1) (hQ v s (.refl s) r1)) (hsub _ _)
    · cases h
  · cases h

theorem sl_obj {s : Shared} {l u st : Value} : (s.heap.push { cls := .type "slice", data := .fields #[l, u, st] }).IsSliceOf s.heap.objs.size l u st := Heap.IsSliceOf.new ..

theorem ev_upto {value upper : Expr} {p pos : Pos} {f g : List (Option V) → Option V} (hv : EvOk cx n env xs value f) (hs : EvOk cx n env xs upper g) :
    EvOk cx n env xs (.Subscript value (.Slice none (some upper) none p) pos) (bind2 f g V.upto) := by
  intro ex A s ρ d Q E hI hR hex F he hQ
  obtain ⟨a, b, q1, q2, q3⟩ := bind2_some he
  refine Subscript_ (hv ex A s ρ a _ _ hI hR hex F q1 fun va s₁ g₁ r₁ => ?_)
  refine wpAny_Slice ?_
  rw [evalPart_none, evalPart_some]
  refine wpAny_pure (hs ex A s₁ ρ b _ _ (g₁.inv hI) hR (exLt hex g₁) (F.go g₁) q2 fun vb s₂ g₂ r₂ => wpAny_pure ?_)
  unfold V.upto at q3
  split at q3
  · split at q3
    · rename_i l k hk
      cases q3
      cases r₂
      rename_i t
      have r₁ := r₁.go0 g₂
      cases r₁ with
      | list h1 h2 h3 h4 h5 =>
        have gp : Go cx s₂ { s₂ with heap := s₂.heap.push { cls := .type "slice", data := .fields #[.none, .int k t, .none] } } := Go.push
        refine tail_any (ops := [_, _]) (h3.isList.push _).typeIs slot_list_getitem.lookup (wpAny_getItem_list_slice (h3.isList.push _) (Heap.IsSliceOf.new ..) .none (.int k _) .none (by simp) ?_ ?_) rfl
        · obtain ⟨j, rfl⟩ := Int.eq_ofNat_of_zero_le hk
          rw [slicePick_upto']
          refine res_new (s := { s₂ with heap := s₂.heap.push { cls := .type "slice", data := .fields #[.none, .int (j : Int) t, .none] } }) (gp.inv (g₂.inv (g₁.inv hI))) (exLt (exLt (exLt hex g₁) g₂) gp) (ex := ex) (l := l.take j) ?_ ?_ fun v s' g r => hQ v s' (((g₁.trans g₂).trans gp).trans g) r
          · simpa using (h4.take j).go0 gp
          · rw [List.length_take]; omega
        · rw [List.size_toArray, ← h4.length]; exact Nat.le_trans h5 (by decide)
    · cases q3
  · cases q3
theorem ev_from {value lower : Expr} {p pos : Pos} {f g : List (Option V) → Option V} (hv : EvOk cx n env xs value f) (hs : EvOk cx n env xs lower g) :
    EvOk cx n env xs (.Subscript value (.Slice (some lower) none none p) pos) (bind2 f g V.from) := by
  intro ex A s ρ d Q E hI hR hex F he hQ
  obtain ⟨a, b, q1, q2, q3⟩ := bind2_some he
  refine Subscript_ (hv ex A s ρ a _ _ hI hR hex F q1 fun va s₁ g₁ r₁ => ?_)
  refine wpAny_Slice ?_
  rw [evalPart_none, evalPart_some]
  refine (hs ex A s₁ ρ b _ _ (g₁.inv hI) hR (exLt hex g₁) (F.go g₁) q2 fun vb s₂ g₂ r₂ => wpAny_pure (wpAny_pure ?_))
  unfold V.from at q3
  split at q3
  · split at q3
    · rename_i l k hk
      cases q3
      cases r₂
      rename_i t
      have r₁ := r₁.go0 g₂
      cases r₁ with
      | list h1 h2 h3 h4 h5 =>
        have gp : Go cx s₂ { s₂ with heap := s₂.heap.push { cls := .type "slice", data := .fields #[.int k t, .none, .none] } } := Go.push
        refine tail_any (ops := [_, _]) (h3.isList.push _).typeIs slot_list_getitem.lookup (wpAny_getItem_list_slice (h3.isList.push _) (Heap.IsSliceOf.new ..) (.int k _) .none .none (by simp) ?_ ?_) rfl
        · obtain ⟨j, rfl⟩ := Int.eq_ofNat_of_zero_le hk
          rw [slicePick_from']
          refine res_new (s := { s₂ with heap := s₂.heap.push { cls := .type "slice", data := .fields #[.int (j : Int) t, .none, .none] } }) (gp.inv (g₂.inv (g₁.inv hI))) (exLt (exLt (exLt hex g₁) g₂) gp) (ex := ex) (l := l.drop j) ?_ ?_ fun v s' g r => hQ v s' (((g₁.trans g₂).trans gp).trans g) r
          · simpa using (h4.drop j).go0 gp
          · rw [List.length_drop]; omega
        · rw [List.size_toArray, ← h4.length]; exact Nat.le_trans h5 (by decide)
    · cases q3
  · cases q3
def rev1 (f : List (Option V) → Option V) (ρ : List (Option V)) : Option V := match f ρ with
  | some d => V.rev d
  | none => none
/-- value[::-1] -/
theorem ev_rev {value : Expr} {k : Nat} {p p1 p2 pos : Pos} {f : List (Option V) → Option V} (hv : EvOk cx n env xs value f) :
    EvOk cx n env xs (.Subscript value (.Slice none none (some (.UnaryOp .USub (.Constant (.int 1) k p1) p2)) p) pos) (rev1 f) := by
  intro ex A s ρ d Q E hI hR hex F he hQ
  unfold rev1 at he
  split at he
  · rename_i a q1
    refine Subscript_ (hv ex A s ρ a _ _ hI hR hex F q1 fun va s₁ g₁ r₁ => ?_)
    refine wpAny_Slice ?_
    rw [evalPart_none, evalPart_some]
    refine wpAny_pure (wpAny_pure (wpAny_UnaryOp (wpAny_Constant_int (PySem.P.neg_int ?_))))
    unfold V.rev at he
    split at he
    · rename_i l
      cases he
      have gt : Go cx s₁ { s₁ with toks := s₁.toks + 1 + 1 } := Go.tok
      have r₁ := r₁.go0 gt
      cases r₁ with
      | list h1 h2 h3 h4 h5 =>
        have gp : Go cx { s₁ with toks := s₁.toks + 1 + 1 } { s₁ with toks := s₁.toks + 1 + 1, heap := s₁.heap.push { cls := .type "slice", data := .fields #[.none, .none, .int (-1) (s₁.toks + 1)] } } := Go.push
        refine tail_any (ops := [_, _]) (h3.isList.push _).typeIs slot_list_getitem.lookup (wpAny_getItem_list_slice (h3.isList.push _) (Heap.IsSliceOf.new ..) .none .none (.int (-1) _) (by simp) ?_ ?_) rfl
        · rw [krv_pick]
          refine res_new (s := { s₁ with toks := s₁.toks + 1 + 1, heap := s₁.heap.push { cls := .type "slice", data := .fields #[.none, .none, .int (-1) (s₁.toks + 1)] } }) (gp.inv (gt.inv (g₁.inv hI))) (exLt (exLt (exLt hex g₁) gt) gp) (ex := ex) (l := l.reverse) ?_ ?_ fun v s' g r => hQ v s' (((g₁.trans gt).trans gp).trans g) r
          · simpa using h4.reverse.go0 gp
          · rw [List.length_reverse]; exact h5
        · rw [List.size_toArray, ← h4.length]; exact Nat.le_trans h5 (by decide)
    · cases he
  · cases he

end Mine

open PySem PySem.W PyProof.Rows

namespace Mine
variable {cx : Cx} {n : Nat} {env : Env} {xs : List Str}

def setSlot : List (Option V) → Nat → Option V → List (Option V)
  | [], 0, x => [x]
  | [], i + 1, x => none :: setSlot [] i x
  | _ :: l, 0, x => x :: l
  | y :: l, i + 1, x => y :: setSlot l i x
theorem slot_set : ∀ (l : List (Option V)) (i : Nat) (x : Option V) (j : Nat), slot (setSlot l i x) j = if j = i then x else slot l j
  | [], 0, x, 0 => rfl
  | [], 0, x, j + 1 => by simp [setSlot, slot]
  | [], i + 1, x, 0 => by simp [setSlot, slot]
  | [], i + 1, x, j + 1 => by simp only [setSlot, slot]; rw [slot_set [] i x j]; simp [slot]
  | _ :: l, 0, x, 0 => rfl
  | _ :: l, 0, x, j + 1 => by simp [setSlot, slot]
  | y :: l, i + 1, x, 0 => by simp [setSlot, slot]
  | y :: l, i + 1, x, j + 1 => by simp only [setSlot, slot]; rw [slot_set l i x j]; simp

/-- one object of the frame's own changes -/
structure Sto (cx : Cx) (a : Addr) (s s' : Shared) : Prop extends GoB cx [a] s s' where
  ob : ∃ o, s.heap.get? a = some o ∧ seqish o = false ∧ ¬ CodeObj o
theorem Rel.sto {ex : List Addr} {s s' : Shared} {a : Addr} {d : V} {v : Value} (r : Rel cx ex s.heap d v) (g : Sto cx a s s') : Rel cx ex s'.heap d v := by
  obtain ⟨o, ho, hn, _⟩ := g.ob
  exact r.moveS fun b ob _ h2 q e => g.kp b ob (fun z => by rw [List.mem_singleton.mp z, ho] at e; cases e; rw [hn] at q; cases q) h2 e
theorem RelL.sto {ex : List Addr} {s s' : Shared} {a : Addr} {d : List V} {v : List Value} (r : RelL cx ex s.heap d v) (g : Sto cx a s s') : RelL cx ex s'.heap d v := by
  obtain ⟨o, ho, hn, _⟩ := g.ob
  exact r.moveS fun b ob _ h2 q e => g.kp b ob (fun z => by rw [List.mem_singleton.mp z, ho] at e; cases e; rw [hn] at q; cases q) h2 e

def addrOf (env : Env) (x : Str) : Addr := if env.kindOf x = some .local then env.locals else (env.cells.lookup x).getD 0

theorem isFresh {h : Heap} {a : Addr} {o : Obj} (e : h.get? a = some o) : a < h.objs.size := Heap.lt_size e

theorem store_ok {ex : List Addr} {A : Around} {s : Shared} {ρ : List (Option V)} {x : Str} (i : Nat) {d : V} {v : Value} {Q : Unit → Shared → Prop} {E : Value → Shared → Prop} (F : FrOk cx ex env xs s.heap ρ)
    (r : Rel cx ex s.heap d v) (hi : xs[i]? = some x) (hu : ∀ j, xs[j]? = some x → j = i) (hk : env.kindOf x = some .local ∨ (env.kindOf x = some .cell ∧ (env.cells.lookup x).isSome = true))
    (hQ : ∀ s', Sto cx (addrOf env x) s s' → FrOk cx ex env xs s'.heap (setSlot ρ i (some d)) → Q () s') : wpAny (model cx.prog cx.w) A (storeName env x v) Q E s := by
  rcases hk with hk | ⟨hk, hc⟩
  · obtain ⟨m, hn, hm⟩ := F.loc
    have ha : addrOf env x = env.locals := if_pos hk
    obtain ⟨o, es, ep, ho, hd, hrest⟩ := id hn
    have hso : seqish o = false := by unfold seqish; rw [hd]
    have hco : ¬ CodeObj o := fun q => by obtain ⟨_, _, vs, e, _⟩ := q; rw [hd] at e; cases e
    refine wpAny_storeName_local hk hn (fun h' hn' hs' => ?_) (by rw [F.ek.kind]; rfl)
    refine hQ _ ⟨ha ▸ GoB.same ho hco F.ek.lo hs', ha ▸ ⟨o, ho, hso, hco⟩⟩ ⟨F.ek, ⟨_, hn', fun j y d' h1 h2 h3 => ?_⟩, fun j y d' h1 h2 h3 => ?_, fun p hp => ?_⟩
    · rw [slot_set] at h2
      by_cases hj : j = i
      · rw [if_pos hj] at h2
        cases h2
        subst hj
        rw [hi] at h1; cases h1
        exact ⟨v, if_pos rfl, r.same ho hso hs'⟩
      · rw [if_neg hj] at h2
        have hy : ¬ y = x := fun q => hj (hu j (q ▸ h1))
        obtain ⟨v', w1, w2⟩ := hm j y d' h1 h2 h3
        exact ⟨v', (if_neg hy).trans w1, w2.same ho hso hs'⟩
    · rw [slot_set] at h2
      by_cases hj : j = i
      · subst hj
        rw [hi] at h1; cases h1
        rcases h3 with h3 | h3 <;> (rw [hk] at h3; cases h3)
      · rw [if_neg hj] at h2
        obtain ⟨a, w, c1, c2, c3⟩ := F.cel j y d' h1 h2 h3
        exact ⟨a, w, c1, c2.sameBut hs' (F.ek.cells _ (mem_of_lookup c1)).2.1, c3.same ho hso hs'⟩
    · obtain ⟨w, c2⟩ := F.ali p hp
      exact ⟨w, c2.sameBut hs' (F.ek.cells _ hp).2.1⟩
  · obtain ⟨c, hc⟩ := Option.isSome_iff_exists.mp hc
    have ha : addrOf env x = c := by
      unfold addrOf
      rw [if_neg (by rw [hk]; decide), hc]; rfl
    obtain ⟨v₀, hcell⟩ := F.ali _ (mem_of_lookup hc)
    have hcell : s.heap.IsCell c v₀ := hcell
    obtain ⟨o, ho, hd⟩ := id hcell
    have hso : seqish o = false := by unfold seqish; rw [hd]
    have hco : ¬ CodeObj o := fun q => by obtain ⟨_, _, vs, e, _⟩ := q; rw [hd] at e; cases e
    have hcL := (F.ek.cells _ (mem_of_lookup hc)).2.1
    have hlo := (F.ek.cells _ (mem_of_lookup hc)).2.2 hk
    refine wpAny_storeName_cell F.ek.kind hk hc hcell fun h' hc' hs' => ?_
    obtain ⟨m, hn, hm⟩ := F.loc
    refine hQ _ ⟨ha ▸ GoB.same (tk := s.toks) ho hco hlo hs', ha ▸ ⟨o, ho, hso, hco⟩⟩ ⟨F.ek, ⟨m, hn.sameBut hs' (Ne.symm hcL), fun j y d' h1 h2 h3 => ?_⟩, fun j y d' h1 h2 h3 => ?_, fun p hp => ?_⟩
    · rw [slot_set] at h2
      by_cases hj : j = i
      · subst hj
        rw [hi] at h1; cases h1
        rw [hk] at h3; cases h3
      · rw [if_neg hj] at h2
        obtain ⟨v', w1, w2⟩ := hm j y d' h1 h2 h3
        exact ⟨v', w1, w2.same ho hso hs'⟩
    · rw [slot_set] at h2
      by_cases hj : j = i
      · rw [if_pos hj] at h2
        cases h2
        subst hj
        rw [hi] at h1; cases h1
        exact ⟨c, v, hc, hc', r.same ho hso hs'⟩
      · rw [if_neg hj] at h2
        have hy : ¬ y = x := fun q => hj (hu j (q ▸ h1))
        obtain ⟨a, w, c1, c2, c3⟩ := F.cel j y d' h1 h2 h3
        refine ⟨a, w, c1, c2.sameBut hs' fun q => ?_, c3.same ho hso hs'⟩
        subst q
        exact hy (F.ek.inj _ _ _ c1 hc)
    · obtain ⟨w, c2⟩ := F.ali p hp
      by_cases hp' : p.2 = c
      · exact ⟨some v, hp' ▸ hc'⟩
      · exact ⟨w, c2.sameBut hs' hp'⟩

/- targets -/
/-- what a target does to the pure environment; tw: the addresses that it writes -/
def TgOk (cx : Cx) (n : Nat) (env : Env) (xs : List Str) (tgt : Expr) (tw : List Addr) (bf : V → List (Option V) → Option (List (Option V))) : Prop :=
  ∀ (ex : List Addr) (A : Around) (s : Shared) (ρ ρ' : List (Option V)) (d : V) (v : Value) (Q : Unit → Shared → Prop) (E : Value → Shared → Prop),
    cx.I s.heap → Room n A → Alive cx ex s.heap → FrOk cx ex env xs s.heap ρ → Rel cx ex s.heap d v → bf d ρ = some ρ' →
    (∀ s', GoB cx tw s s' → (∀ a ∈ tw, ∃ o, s.heap.get? a = some o ∧ seqish o = false ∧ ¬ CodeObj o) → FrOk cx ex env xs s'.heap ρ' → Q () s') → wpAny (model cx.prog cx.w) A (assign tgt env v) Q E s

theorem tg_name {x : Str} {pos : Pos} (i : Nat) (hi : xs[i]? = some x) (hu : ∀ j, xs[j]? = some x → j = i) (hk : env.kindOf x = some .local ∨ (env.kindOf x = some .cell ∧ (env.cells.lookup x).isSome = true)) :
    TgOk cx n env xs (.Name x pos) [addrOf env x] (fun d ρ => some (setSlot ρ i (some d))) := by
  intro ex A s ρ ρ' d v Q E hI hR hex F r h hQ
  cases h
  exact assign_Name (store_ok i F r hi hu hk fun s' g F' => hQ s' g.toGoB (fun a ha => List.mem_singleton.mp ha ▸ g.ob) F')

/-- (a, b) = a tuple or a list of two -/
theorem tg_pair {x y : Str} {px py pos : Pos} {k : Nat} (i j : Nat) (hi : xs[i]? = some x) (hu : ∀ j, xs[j]? = some x → j = i) (hk : env.kindOf x = some .local ∨ (env.kindOf x = some .cell ∧ (env.cells.lookup x).isSome = true))
    (hj : xs[j]? = some y) (hv : ∀ i, xs[i]? = some y → i = j) (hl : env.kindOf y = some .local ∨ (env.kindOf y = some .cell ∧ (env.cells.lookup y).isSome = true)) :
    TgOk cx n env xs (.Tuple [.Name x px, .Name y py] k pos) [addrOf env x, addrOf env y] (fun d ρ => match d with
      | .tup [a, b] => some (setSlot (setSlot ρ i (some a)) j (some b))
      | .list [a, b] => some (setSlot (setSlot ρ i (some a)) j (some b))
      | _ => none) := by
  intro ex A s ρ ρ' d v Q E hI hR hex F r h hQ
  have fin : ∀ (a b : V) (va vb : Value) (h' : Heap), Heap.ExtBut s.heap.objs.size s.heap h' → Rel cx ex s.heap a va → Rel cx ex s.heap b vb → ρ' = setSlot (setSlot ρ i (some a)) j (some b) →
      wpAny (model cx.prog cx.w) A (assignInOrder ((assignEach [.Name x px, .Name y py] env).map (·.2)) [va, vb]) Q E { s with heap := h' } := by
    intro a b va vb h' he ra rb hρ
    have g₁ : Go cx s { s with heap := h' } := Go.keep (tk := s.toks) fun b o e => he b o (Nat.ne_of_lt (Heap.lt_size e)) e
    show wpAny _ A (do holding [vb] (assign (.Name x px) env va); holding [] (assign (.Name y py) env vb); pure ()) Q E _
    refine wpAny_bind (wpAny_holding (assign_Name (store_ok i (F.go g₁) (ra.go0 g₁) hi hu hk fun s₂ g₂ F₂ => ?_)))
    refine wpAny_bind (wpAny_holding (assign_Name (store_ok j F₂ ((rb.go0 g₁).sto g₂) hj hv hl fun s₃ g₃ F₃ => ?_)))
    refine wpAny_pure ?_
    rw [← hρ] at F₃
    refine hQ s₃ ?_ ?_ F₃
    · exact (GoB.up g₁).trans ((g₂.toGoB.mono (fun a h => by simp at h; simp [h])).trans (g₃.toGoB.mono (fun a h => by simp at h; simp [h])))
    · have own : ∀ z, (env.kindOf z = some .local ∨ (env.kindOf z = some .cell ∧ (env.cells.lookup z).isSome = true)) → ∃ o, s.heap.get? (addrOf env z) = some o ∧ seqish o = false ∧ ¬ CodeObj o := by
        intro z hz
        rcases hz with hz | ⟨hz, hc⟩
        · obtain ⟨m, ⟨o, es, ep, ho, hd, _⟩, _⟩ := F.loc
          refine ⟨o, by rw [show addrOf env z = env.locals from if_pos hz]; exact ho, by unfold seqish; rw [hd], fun q => by obtain ⟨_, _, vs, e, _⟩ := q; rw [hd] at e; cases e⟩
        · obtain ⟨c, hc⟩ := Option.isSome_iff_exists.mp hc
          obtain ⟨v₀, o, ho, hd⟩ := F.ali _ (mem_of_lookup hc)
          have hac : addrOf env z = c := by unfold addrOf; rw [if_neg (by rw [hz]; decide), hc]; rfl
          refine ⟨o, by rw [hac]; exact ho, by unfold seqish; rw [hd], fun q => by obtain ⟨_, _, vs, e, _⟩ := q; rw [hd] at e; cases e⟩
      intro a ha
      rcases List.mem_cons.mp ha with rfl | ha
      · exact own x hk
      · rcases List.mem_cons.mp ha with rfl | ha
        · exact own y hl
        · cases ha
  cases r with
  | tup h1 h2 h3 h4 h5 =>
    cases h4 with
    | nil => cases h
    | cons a r =>
      cases r with
      | nil => cases h
      | cons b r =>
        cases r with
        | cons => cases h
        | nil =>
          cases h
          exact wpAny_assign_Tuple hR.handled ⟨_, h3, rfl, _, rfl⟩ rfl rfl fun h' he => fin _ _ _ _ h' he a b rfl
  | list h1 h2 h3 h4 h5 =>
    cases h4 with
    | nil => cases h
    | cons a r =>
      cases r with
      | nil => cases h
      | cons b r =>
        cases r with
        | cons => cases h
        | nil =>
          cases h
          rw [assign_Tuple]
          refine wpAny_bind (wpAny_standAt ?_)
          unfold unpack
          show wpAny _ A (do assignInOrder ((assignEach [.Name x px, .Name y py] env).map (·.2)) (← holding [_] (unpackItems _ 2 none))) Q E s
          exact wpAny_bind (wpAny_holding (kun_itemsOf (items := [_, _].toArray) hR.handled h3.isList fun h' he => fin _ _ _ _ h' he a b rfl))
  | _ => cases h

end Mine

open PySem PySem.W PyProof.Rows

namespace Mine
variable {cx : Cx} {n : Nat} {env : Env} {xs : List Str}

/- cells of a new frame -/
def Good (cs : List (Str × Addr)) : Prop := ∀ p ∈ cs, ∀ q ∈ cs, p.2 = q.2 → p.1 = q.1
theorem cellsFrom_gen : ∀ (names : List (Str × NameKind)) (h : Heap) (acc : List (Str × Addr)), (∀ p ∈ acc, p.2 < h.objs.size) → Good acc →
    Good (cellsFrom h.objs.size names acc) ∧ ∀ p ∈ cellsFrom h.objs.size names acc, p ∈ acc ∨ (h.objs.size ≤ p.2 ∧ (pushCells h names).IsCell p.2 none)
  | [], _, _, _, g => ⟨g, fun _ hp => .inl hp⟩
  | (name, kind) :: r, h, acc, hlt, g => by
    unfold pushCells cellsFrom
    split
    · have hlt' : ∀ p ∈ (name, h.objs.size) :: acc, p.2 < (h.push { cls := .type "cell", data := .cell none }).objs.size := fun p hp => by
        rw [Heap.size_push]
        rcases List.mem_cons.mp hp with rfl | hp
        · exact Nat.lt_succ_self _
        · exact Nat.lt_succ_of_lt (hlt p hp)
      have g' : Good ((name, h.objs.size) :: acc) := fun p hp q hq e => by
        rcases List.mem_cons.mp hp with rfl | hp <;> rcases List.mem_cons.mp hq with rfl | hq
        · rfl
        · have := hlt q hq; have e' : h.objs.size = q.2 := e; rw [← e'] at this; exact absurd this (Nat.lt_irrefl _)
        · have := hlt p hp; have e' : p.2 = h.objs.size := e; rw [e'] at this; exact absurd this (Nat.lt_irrefl _)
        · exact g p hp q hq e
      have z := cellsFrom_gen r (h.push { cls := .type "cell", data := .cell none }) ((name, h.objs.size) :: acc) hlt' g'
      rw [Heap.size_push] at z
      refine ⟨z.1, fun p hp => ?_⟩
      rcases z.2 p hp with q | ⟨q1, q2⟩
      · rcases List.mem_cons.mp q with rfl | q
        · exact .inr ⟨Nat.le_refl _, _, pushCells_keeps r _ _ _ (Heap.get?_push_size _ rfl), rfl⟩
        · exact .inl q
      · exact .inr ⟨Nat.le_of_succ_le q1, q2⟩
    · exact cellsFrom_gen r h acc hlt g

def isCell (names : List (Str × NameKind)) (y : Str) : Bool := names.any fun p => p.1 == y && p.2 == .cell
theorem cellsFrom_other (y : Str) : ∀ (names : List (Str × NameKind)) (k : Nat) (acc : List (Str × Addr)), isCell names y = false → (cellsFrom k names acc).lookup y = acc.lookup y
  | [], _, _, _ => rfl
  | (name, kind) :: r, k, acc, h => by
    unfold isCell at h
    rw [List.any_cons, Bool.or_eq_false_iff] at h
    unfold cellsFrom
    split
    · rename_i hk
      rw [cellsFrom_other y r _ _ h.2, List.lookup_cons]
      have : (y == name) = false := by
        have h1 := h.1
        rw [hk, Bool.and_true] at h1
        cases q : y == name with
        | false => rfl
        | true => rw [eq_of_beq q] at h1; simp at h1
      rw [this]
    · exact cellsFrom_other y r _ _ h.2

def closOf : List (Str × NameKind) → List (Str × Addr) → List (Str × Addr) → Option (List (Str × Addr))
  | [], _, cs => some cs
  | (x, k) :: l, cells, cs => if k == .free then (match cells.lookup x with
      | some a => closOf l cells ((x, a) :: cs)
      | none => none) else closOf l cells cs
theorem closOf_sound : ∀ (names : List (Str × NameKind)) (cells cs cl : List (Str × Addr)), closOf names cells cs = some cl → (∀ p ∈ cs, cells.lookup p.1 = some p.2) →
    (∀ p ∈ cl, cells.lookup p.1 = some p.2) ∧ (∀ p ∈ cs, p ∈ cl) ∧ ∀ x, (x, NameKind.free) ∈ names → ∃ a, (x, a) ∈ cl
  | [], _, _, _, e, h => by cases e; exact ⟨h, fun _ hp => hp, fun _ hm => nomatch hm⟩
  | (x, k) :: l, cells, cs, cl, e, h => by
    unfold closOf at e
    split at e
    · rename_i hk
      split at e
      · rename_i a ha
        obtain ⟨q1, q2, q3⟩ := closOf_sound l cells _ cl e (fun p hp => (List.mem_cons.mp hp).elim (fun z => z ▸ ha) (h p))
        refine ⟨q1, fun p hp => q2 p (List.mem_cons_of_mem _ hp), fun y hy => ?_⟩
        rcases List.mem_cons.mp hy with e | hy
        · cases e; exact ⟨a, q2 _ List.mem_cons_self⟩
        · exact q3 y hy
      · cases e
    · rename_i hk
      obtain ⟨q1, q2, q3⟩ := closOf_sound l cells cs cl e h
      refine ⟨q1, q2, fun y hy => ?_⟩
      rcases List.mem_cons.mp hy with e | hy
      · cases e; simp at hk
      · exact q3 y hy
def clOf (names : List (Str × NameKind)) (cells : List (Str × Addr)) : Option (List (Str × Addr)) := match closOf names cells [] with
  | some cl => if (cl.all fun p => names.lookup p.1 == some .free) = true then some cl else none
  | none => none
theorem clOf_sound {names : List (Str × NameKind)} {cells cl : List (Str × Addr)} (e : clOf names cells = some cl) :
    closOf names cells [] = some cl ∧ (∀ p ∈ cl, cells.lookup p.1 = some p.2) ∧ (∀ x, (x, NameKind.free) ∈ names → ∃ a, (x, a) ∈ cl) ∧ ∀ p ∈ cl, names.lookup p.1 = some .free := by
  unfold clOf at e
  split at e
  · rename_i q
    split at e
    · rename_i hall
      cases e
      obtain ⟨q1, _, q3⟩ := closOf_sound _ _ _ _ q (fun _ hp => nomatch hp)
      refine ⟨q, q1, q3, fun p hp => ?_⟩
      have := List.all_eq_true.mp hall p hp
      simpa using this
    · cases e
  · cases e
theorem closureFor_of {scope : Scope} {cl : List (Str × Addr)} (h : closOf scope.names env.cells [] = some cl) : closureFor scope env = pure cl := by
  have key : ∀ (names : List (Str × NameKind)) (cs cl : List (Str × Addr)), closOf names env.cells cs = some cl →
      (forIn names cs fun x r => match x with | (name, kind) => if (kind == NameKind.free) = true then do let a ← cellOf env name; pure (ForInStep.yield ((name, a) :: r)) else pure (ForInStep.yield r) : Sem (List (Str × Addr))) = pure cl := by
    intro names
    induction names with
    | nil => intro cs cl e; cases e; rfl
    | cons p l ih =>
      intro cs cl e
      obtain ⟨x, k⟩ := p
      unfold closOf at e
      rw [List.forIn_cons]
      split at e
      · rename_i hk
        split at e
        · rename_i a ha
          have : cellOf env x = pure a := by unfold cellOf; rw [ha]
          simp only [hk, if_true, this, pure_bind]
          exact ih _ _ e
        · cases e
      · rename_i hk
        simp only [hk, if_false, pure_bind]
        exact ih _ _ e
  unfold closureFor
  show ((forIn scope.names ([] : List (Str × Addr)) fun x r => match x with | (name, kind) => if (kind == NameKind.free) = true then do let a ← cellOf env name; pure (ForInStep.yield ((name, a) :: r)) else pure (ForInStep.yield r) : Sem (List (Str × Addr))) >>= fun r => pure r) = pure cl
  rw [key scope.names [] cl h, pure_bind]

theorem lookup_relabel (env : Env) : ∀ (names : List (Str × NameKind)) (x : Str),
    (names.map fun (n, k) => if (k == NameKind.free && env.scope.kind == .function && env.kindOf n == some .cell) then (n, NameKind.cell) else (n, k)).lookup x =
      (match names.lookup x with | some .free => if (env.scope.kind == .function && env.kindOf x == some .cell) = true then some .cell else some .free | k => k)
  | [], x => rfl
  | (m, k) :: r, x => by
    have ih := lookup_relabel env r x
    rw [List.map_cons]
    show List.lookup x ((if (k == NameKind.free && env.scope.kind == .function && env.kindOf m == some .cell) = true then (m, NameKind.cell) else (m, k)) :: _) = _
    cases hx : x == m with
    | false =>
      have e : ∀ l : List (Str × NameKind), List.lookup x ((if (k == NameKind.free && env.scope.kind == .function && env.kindOf m == some .cell) = true then (m, NameKind.cell) else (m, k)) :: l) = l.lookup x := fun l => by
        split <;> (rw [List.lookup_cons, hx])
      rw [e, ih, List.lookup_cons, hx]
    | true =>
      have hm : x = m := eq_of_beq hx
      subst hm
      have e : ∀ l : List (Str × NameKind), List.lookup x ((if (k == NameKind.free && env.scope.kind == .function && env.kindOf x == some .cell) = true then (x, NameKind.cell) else (x, k)) :: l) =
          some (if (k == NameKind.free && env.scope.kind == .function && env.kindOf x == some .cell) = true then NameKind.cell else k) := fun l => by
        split <;> (rw [List.lookup_cons, hx])
      rw [e, List.lookup_cons, hx]
      cases k <;> first | rfl | (simp only [beq_self_eq_true, Bool.true_and]; split <;> simp_all)

/-- the environment of a comprehension -/
def cEnv (scope : Scope) (cl : List (Str × Addr)) (C : Addr) (env : Env) : Env :=
  { scope := relabel scope env, locals := C, globals := env.globals, cells := cellsFrom (C + 1) scope.names cl, qual := env.qual, func := none, code := env.code, frame := env.frame, builtins := env.builtins }
theorem cEnv_kind (scope : Scope) (cl : List (Str × Addr)) (C : Addr) (env : Env) (x : Str) : (cEnv scope cl C env).kindOf x =
    (match scope.names.lookup x with | some .free => if (env.scope.kind == .function && env.kindOf x == some .cell) = true then some .cell else some .free | k => k) :=
  lookup_relabel env scope.names x

def chk (inner outer : List (Str × NameKind)) : List Str → List Str → Bool
  | [], _ => true
  | y :: ys, zs => (match inner.lookup y with
      | some .free => (match zs with | z :: _ => y == z | [] => false) && !isCell inner y && (outer.lookup y == some .cell || outer.lookup y == some .free)
      | some .local => false
      | some .cell => false
      | _ => true) && chk inner outer ys (match zs with | _ :: zs => zs | [] => [])

theorem chk_at {inner outer : List (Str × NameKind)} : ∀ {ys zs : List Str} {i : Nat} {y : Str}, chk inner outer ys zs = true → ys[i]? = some y →
    (match inner.lookup y with
      | some .free => zs[i]? = some y ∧ isCell inner y = false ∧ (outer.lookup y = some .cell ∨ outer.lookup y = some .free)
      | some .local => False
      | some .cell => False
      | _ => True)
  | y :: ys, zs, 0, w, h, e => by
    have e' : y = w := by simpa using e
    subst e'
    unfold chk at h
    rw [Bool.and_eq_true] at h
    have h1 := h.1
    cases q : inner.lookup y with
    | none => trivial
    | some k =>
      rw [q] at h1
      cases k <;> first | trivial | (exact absurd h1 (by decide)) | skip
      simp only [Bool.and_eq_true, Bool.or_eq_true, Bool.not_eq_true', beq_iff_eq] at h1
      obtain ⟨⟨a, b⟩, c⟩ := h1
      cases zs with
      | nil => cases a
      | cons z zs => exact ⟨by rw [eq_of_beq a]; rfl, b, c⟩
  | y :: ys, zs, i + 1, _, h, e => by
    unfold chk at h
    rw [Bool.and_eq_true] at h
    have z := chk_at (i := i) h.2 (by simpa using e)
    split
    · rename_i q
      rw [q] at z
      refine ⟨?_, z.2⟩
      cases zs with
      | nil => have := z.1; simp at this
      | cons w zs => simpa using z.1
    · rename_i q; rw [q] at z; exact z
    · rename_i q; rw [q] at z; exact z
    · trivial

def nones (k : Nat) (ρ : List (Option V)) : List (Option V) := match k with
  | 0 => ρ
  | k + 1 => none :: nones k ρ
theorem slot_nones : ∀ (k : Nat) (ρ : List (Option V)) (i : Nat) (d : V), slot (nones k ρ) i = some d → k ≤ i ∧ slot ρ (i - k) = some d
  | 0, _, _, _, h => ⟨Nat.zero_le _, h⟩
  | k + 1, ρ, 0, d, h => by simp [nones, slot] at h
  | k + 1, ρ, i + 1, d, h => by
    have h' : slot (nones k ρ) i = some d := h
    obtain ⟨a, b⟩ := slot_nones k ρ i d h'
    exact ⟨Nat.succ_le_succ a, by rw [Nat.succ_sub_succ]; exact b⟩

/-- the frame of a comprehension, as it begins -/
theorem fr_comp {ex : List Addr} {h h' : Heap} {ρ : List (Option V)} {scope : Scope} {cl : List (Str × Addr)} {C : Addr} {tg ys : List Str} (F : FrOk cx ex env xs h ρ) (hI : cx.n₁ ≤ C) (hkind : scope.kind = .function)
    (hcl : clOf scope.names env.cells = some cl) (hchk : chk scope.names env.scope.names ys xs = true)
    (hk : ∀ b o, h.get? b = some o → h'.get? b = some o) (hC : h.get? C = none) (hCs : h.objs.size ≤ C) (hns : h'.Ns C fun _ => none)
    (hcells : Good (cellsFrom (C + 1) scope.names cl) ∧ ∀ p ∈ cellsFrom (C + 1) scope.names cl, p ∈ cl ∨ (C + 1 ≤ p.2 ∧ h'.IsCell p.2 none)) :
    FrOk cx ex (cEnv scope cl C env) (tg ++ ys) h' (nones tg.length ρ) := by
  obtain ⟨_, q1, q3, q4⟩ := clOf_sound hcl
  have hcap : ∀ p ∈ cl, p.2 ∉ cx.tabs ∧ p.2 < C ∧ ∃ v, h'.IsCell p.2 v := fun p hp => by
    have hm := mem_of_lookup (q1 p hp)
    obtain ⟨v, o, e, ed⟩ := F.ali _ hm
    exact ⟨(F.ek.cells _ hm).1, Nat.lt_of_lt_of_le (Heap.lt_size e) hCs, v, o, hk _ _ e, ed⟩
  have hrel : ∀ {d v}, Rel cx ex h d v → Rel cx ex h' d v := fun r => r.move fun b o h1 _ e => ⟨h1, hk b o e⟩
  refine ⟨⟨hkind, F.ek.glob, F.ek.blt, hI, fun p hp => ?_, fun x y a hx hy => ?_⟩, ⟨_, hns, fun i x d h1 h2 h3 => ?_⟩, fun i x d h1 h2 h3 => ?_, fun p hp => ?_⟩
  · rcases hcells.2 p hp with z | ⟨z, _⟩
    · have := hcap p z
      refine ⟨this.1, Nat.ne_of_lt this.2.1, fun hk => ?_⟩
      rw [cEnv_kind, q4 p z] at hk
      have hk' : (if (env.scope.kind == .function && env.kindOf p.1 == some .cell) = true then some NameKind.cell else some .free) = some .cell := hk
      split at hk'
      · rename_i hh
        rw [Bool.and_eq_true] at hh
        exact (F.ek.cells _ (mem_of_lookup (q1 p z))).2.2 (by simpa using hh.2)
      · cases hk'
    · have hlo : cx.n₁ ≤ p.2 := Nat.le_trans hI (Nat.le_of_succ_le z)
      exact ⟨fun q => absurd (cx.It _ q) (Nat.not_lt.mpr hlo), Nat.ne_of_gt z, fun _ => hlo⟩
  · exact hcells.1 _ (mem_of_lookup hx) _ (mem_of_lookup hy) rfl
  · obtain ⟨hle, h2⟩ := slot_nones _ _ _ _ h2
    rw [List.getElem?_append_right hle] at h1
    have z := chk_at hchk h1
    rw [cEnv_kind] at h3
    split at h3
    · split at h3 <;> cases h3
    · rw [h3] at z; exact z.elim
  · obtain ⟨hle, h2⟩ := slot_nones _ _ _ _ h2
    rw [List.getElem?_append_right hle] at h1
    have z := chk_at hchk h1
    have hfree : scope.names.lookup x = some .free := by
      rw [cEnv_kind] at h3
      split at h3
      · rename_i q; exact q
      · rename_i q
        rcases h3 with h3 | h3
        · rw [h3] at z; exact z.elim
        · exact h3
    rw [hfree] at z
    obtain ⟨z1, z2, z3⟩ := z
    obtain ⟨a, v, c1, c2, c3⟩ := F.cel _ x d z1 h2 z3
    obtain ⟨a', ha'⟩ := q3 x (mem_of_lookup hfree)
    have hl : cl.lookup x = some a := by
      cases hq : cl.lookup x with
      | none =>
        exfalso
        have : ∀ (l : List (Str × Addr)), (x, a') ∈ l → l.lookup x ≠ none := fun l => by
          induction l with
          | nil => intro hm; cases hm
          | cons p l ih =>
            intro hm hn
            rw [List.lookup_cons] at hn
            rcases List.mem_cons.mp hm with e | hm
            · rw [← e] at hn; simp at hn
            · split at hn
              · cases hn
              · exact ih hm hn
        exact this cl ha' hq
      | some b =>
        have := q1 _ (mem_of_lookup hq)
        rw [c1] at this; exact this.symm ▸ rfl
    refine ⟨a, v, ?_, c2.keeps hk, hrel c3⟩
    show (cellsFrom (C + 1) scope.names cl).lookup x = some a
    rw [cellsFrom_other x _ _ _ z2]; exact hl
  · rcases hcells.2 p hp with z | ⟨_, z⟩
    · exact (hcap p z).2.2
    · exact ⟨none, z⟩

end Mine

open PySem PySem.W PyProof.Rows

namespace Mine
variable {cx : Cx} {n : Nat} {env : Env} {xs : List Str}

theorem fresh_back {s s' : Shared} {a : Addr} (g : Go cx s s') (ha : cx.n₁ ≤ a) (h : s'.heap.get? a = Option.none) : s.heap.get? a = Option.none := by
  cases e : s.heap.get? a with
  | none => rfl
  | some o =>
    have := g.kp a o (by simp) (fun q => absurd (cx.It _ q) (Nat.not_lt.mpr ha)) e
    rw [h] at this; cases this
theorem new_lo {s : Shared} (hI : cx.I s.heap) : cx.n₁ ≤ s.heap.objs.size := cx.In _ hI

/- sources of loops -/
structure SrcAt (cx : Cx) (ex : List Addr) (A : Around) (ds : List V) (h₀ h : Heap) (I : Addr) (fp : List Addr) (P : Nat → Value → Prop) (St : Nat → Heap → Prop) : Prop where
  W : Walks cx.prog cx.w A I fp [I] ds.length P St
  st : St 0 h
  fpo : ∀ b ∈ fp, b ∉ cx.tabs ∧ b < h.objs.size
  inn : I ∈ fp
  fex : ∀ b ∈ fp, b ∉ ex
  fk : ∀ b ∈ fp, ∃ o, h.get? b = some o ∧ (∀ es ep, o.data ≠ .dict es ep) ∧ ∀ v, o.data ≠ .cell v
  fr : h₀.get? I = Option.none
  lo : cx.n₁ ≤ I
  obj : ∀ i h, St i h → ∃ o vs, h.get? I = some o ∧ o.data = .fields vs ∧ (o.cls = .type "list_iterator" ∨ o.cls = .type "range_iterator")
  nco : ∀ i h, St i h → ∀ o, h.get? I = some o → ¬ CodeObj o
  items : ∀ i v d, P i v → ds[i]? = some d → Rel cx ex h d v
  len : ds.length ≤ 2 ^ 20

def SrOk (cx : Cx) (n : Nat) (env : Env) (xs : List Str) (e : Expr) (f : List (Option V) → Option (List V)) : Prop :=
  ∀ (ex : List Addr) (A : Around) (s : Shared) (ρ : List (Option V)) (ds : List V) (Q : Value → Shared → Prop) (E : Value → Shared → Prop),
    cx.I s.heap → Room n A → Alive cx ex s.heap → FrOk cx ex env xs s.heap ρ → f ρ = some ds →
    (∀ I fp P St s', Go cx s s' → SrcAt cx ex A ds s.heap s'.heap I fp P St → Q (.ref I) s') →
    wpAny (model cx.prog cx.w) A (eval e env) (fun xv s₁ => wpAny (model cx.prog cx.w) A (pyIter xv) Q E s₁) E s

def listO : Option V → Option (List V)
  | some (.list l) => some l
  | _ => none

/-- a list as a source -/
theorem sr_list {e : Expr} {f : List (Option V) → Option V} (he : EvOk cx n env xs e f) : SrOk cx n env xs e (fun ρ => listO (f ρ)) := by
  intro ex A s ρ ds Q E hI hR hex F h hQ
  have h' : f ρ = some (.list ds) := by
    dsimp only at h
    unfold listO at h
    split at h
    · rename_i q; cases h; exact q
    · cases h
  refine he ex A s ρ _ _ _ hI hR hex F h' fun v s₁ g₁ r₁ => ?_
  cases r₁ with
  | list h1 h2 h3 h4 h5 =>
    rename_i vs a
    have hI₁ := g₁.inv hI
    refine wpAny_pyIter_list h3.isList ?_
    have gp : Go cx s₁ { s₁ with heap := s₁.heap.push { cls := .type "list_iterator", data := .fields #[.ref a, .int 0 0] } } := Go.push
    have hne : a ≠ s₁.heap.objs.size := by obtain ⟨k, e⟩ := h3; exact Nat.ne_of_lt (Heap.lt_size e)
    have hsz : vs.toArray.size = ds.length := by rw [List.size_toArray, h4.length]
    refine hQ s₁.heap.objs.size [s₁.heap.objs.size, a] (fun i v => vs.toArray[i]? = some v) (fun i h => h.IsListIter s₁.heap.objs.size a i ∧ h.IsList a vs.toArray) _ (g₁.trans gp) ⟨?_, ?_, ?_, .head _, ?_, ?_, ?_, ?_, ?_, ?_, ?_, h5⟩
    · rw [← hsz]; exact Walks.list hR.handled _ a hne vs.toArray
    · exact ⟨⟨_, Heap.get?_push_size _ rfl, rfl, rfl⟩, h3.isList.push _⟩
    · intro b hb
      show b ∉ cx.tabs ∧ b < (s₁.heap.push _).objs.size
      rw [Heap.size_push]
      rcases List.mem_cons.mp hb with rfl | hb
      · exact ⟨(new_not hI₁ (exLt hex g₁)).2, Nat.lt_succ_self _⟩
      · rw [List.mem_singleton.mp hb]
        obtain ⟨k, e⟩ := h3
        exact ⟨h2, Nat.lt_succ_of_lt (Heap.lt_size e)⟩
    · intro b hb
      rcases List.mem_cons.mp hb with rfl | hb
      · exact (new_not hI₁ (exLt hex g₁)).1
      · rw [List.mem_singleton.mp hb]; exact h1
    · intro b hb
      rcases List.mem_cons.mp hb with rfl | hb
      · exact ⟨_, Heap.get?_push_size _ rfl, (fun _ _ z => by cases z), (fun _ z => by cases z)⟩
      · rw [List.mem_singleton.mp hb]
        obtain ⟨k, e⟩ := h3
        exact ⟨_, Heap.get?_push_of_some _ e, (fun _ _ z => by cases z), (fun _ z => by cases z)⟩
    · exact fresh_back g₁ (new_lo hI₁) (none_of_le (Nat.le_refl _))
    · exact new_lo hI₁
    · rintro i h ⟨⟨o, ho, hc, hd⟩, _⟩
      exact ⟨o, _, ho, hd, .inl hc⟩
    · rintro i h ⟨⟨o, ho, hc, hd⟩, _⟩ o' e ⟨q, t, vs', e1, e2⟩
      rw [ho] at e; cases e
      rw [hd] at e1; cases e1
      exact absurd e2 (by simp)
    · intro i v d hP hd
      obtain ⟨d', e1, e2⟩ := h4.get' (i := i) (v := v) (by simpa using hP)
      rw [hd] at e1; cases e1
      exact e2.go0 gp

def rangeL : Nat → Nat → List V
  | _, 0 => []
  | i, k + 1 => .int (Int.ofNat i) :: rangeL (i + 1) k
theorem rangeL_len : ∀ i k, (rangeL i k).length = k
  | _, 0 => rfl
  | i, k + 1 => by rw [rangeL, List.length_cons, rangeL_len]
theorem rangeL_get : ∀ (i k j : Nat) (d : V), (rangeL i k)[j]? = some d → d = V.int (Int.ofNat (i + j))
  | i, 0, j, d, h => by simp [rangeL] at h
  | i, k + 1, 0, d, h => by simp [rangeL] at h; rw [← h]; rfl
  | i, k + 1, j + 1, d, h => by
    have := rangeL_get (i + 1) k j d (by simpa [rangeL] using h)
    rw [this, Nat.add_assoc, Nat.add_comm 1 j]
def rangeO : Option V → Option (List V)
  | some (.int k) => if 0 ≤ k ∧ k ≤ 2 ^ 20 then some (rangeL 0 k.toNat) else none
  | _ => none

/-- range(e) as a source -/
theorem sr_range {e : Expr} {p pos : Pos} {f : List (Option V) → Option V} (he : EvOk cx n env xs e f) (hk : env.kindOf ("range" : Str) = some .globalImplicit) (hv : glob cx ("range" : Str) = some (.type "range"))
    (hs : starEach [e] env = [(false, eval e env)]) : SrOk cx n env xs (.Call (.Name ("range" : Str) p) [e] [] pos) (fun ρ => rangeO (f ρ)) := by
  intro ex A s ρ ds Q E hI hR hex F h hQ
  dsimp only at h
  unfold rangeO at h
  split at h
  · rename_i k q
    split at h
    · rename_i hb
      cases h
      refine wpAny_Call_NameR (Calls.Name_function_global F.ek.kind hk ?_ (by decide))
      have body : ∀ {s : Shared} {env' : Env}, True := fun {_ _} => trivial
      have fin : wpAny (model cx.prog cx.w) A (callWith pos (.type "range") [] (backTo pos (starEach [e] env)) []) (fun xv s₁ => wpAny (model cx.prog cx.w) A (pyIter xv) Q E s₁) E s := by
        refine callWith_any (rest := []) trivial ?_ hs rfl
        refine wpAny_items_cons (he ex A s ρ _ _ _ hI hR hex F q fun v s₁ g₁ r₁ => wpAny_items_nil ⟨g₁.inv hI, ?_⟩) hs
        cases r₁
        have hI₁ := g₁.inv hI
        refine call_range_1 ?_
        refine wpAny_pyIter_range (IsRange.new ..) (small_one (by decide) (by decide) (by have := hb.1; omega) (by have := hb.2; omega)) ?_
        have hsz : Builtin.Range.rangeSize 0 k 1 = (k.toNat : Int) := by rw [rangeSize_one]; split <;> omega
        generalize hH : s₁.heap.push { cls := .type "range", data := .fields #[.int 0 s₁.toks, .int k _, .int 1 (s₁.toks + 1)] } = H
        have hHs : H.objs.size = s₁.heap.objs.size + 1 := by rw [← hH, Heap.size_push]
        have kH : ∀ b o, s₁.heap.get? b = some o → H.get? b = some o := fun b o e => hH ▸ Heap.get?_push_of_some _ e
        have gp : Go cx s₁ { s₁ with heap := H.push { cls := .type "range_iterator", data := .fields #[rawInt 0, rawInt (Builtin.Range.rangeSize 0 k 1), rawInt 1] }, toks := s₁.toks + 1 + 1 } :=
          Go.keep fun b o e => Heap.get?_push_of_some _ (kH b o e)
        refine hQ H.objs.size [H.objs.size] (fun i v => ∃ t, v = .int (0 + i * 1) t) (fun i h => IsRangeIter h H.objs.size (0 + (i : Nat) * 1) ((k.toNat : Int) - (i : Nat)) 1) _ (g₁.trans gp) ⟨?_, ?_, ?_, .head _, ?_, ?_, ?_, ?_, ?_, ?_, ?_, ?_⟩
        · rw [rangeL_len]; exact Walks.range hR.handled _ 0 1 k.toNat
        · have e1 : (0 + ((0 : Nat) : Int) * 1) = 0 := by simp
          have e2 : ((k.toNat : Int) - ((0 : Nat) : Int)) = Builtin.Range.rangeSize 0 k 1 := by rw [hsz]; simp
          rw [e1, e2]
          exact Heap.get?_push_size _ rfl
        · intro b hb'
          rw [List.mem_singleton.mp hb']
          show _ ∉ cx.tabs ∧ _ < (H.push _).objs.size
          rw [Heap.size_push]
          exact ⟨fun q => absurd (cx.It _ q) (Nat.not_lt.mpr (by rw [hHs]; exact Nat.le_succ_of_le (new_lo hI₁))), Nat.lt_succ_self _⟩
        · intro b hb' q
          rw [List.mem_singleton.mp hb'] at q
          obtain ⟨_, o, e, _⟩ := exLt hex g₁ _ q
          have := Heap.lt_size e
          rw [hHs] at this
          exact absurd this (Nat.not_lt.mpr (Nat.le_succ _))
        · intro b hb'
          rw [List.mem_singleton.mp hb']
          exact ⟨_, Heap.get?_push_size _ rfl, (fun _ _ z => by cases z), (fun _ z => by cases z)⟩
        · refine fresh_back g₁ (by rw [hHs]; exact Nat.le_succ_of_le (new_lo hI₁)) (none_of_le (by rw [hHs]; exact Nat.le_succ _))
        · rw [hHs]; exact Nat.le_succ_of_le (new_lo hI₁)
        · intro i h ho
          exact ⟨_, _, ho, rfl, .inr rfl⟩
        · intro i h ho o' e ⟨q, t, vs', e1, e2⟩
          have ho : h.get? _ = some _ := ho
          rw [ho] at e; cases e
          cases e1
          exact absurd e2 (by simp [rawInt])
        · rintro i v d ⟨t, rfl⟩ hd
          rw [rangeL_get _ _ _ _ hd]
          have : ((0 : Int) + (i : Int) * 1) = Int.ofNat (0 + i) := by simp
          rw [this]
          exact .int _ _
        · rw [rangeL_len]; have := hb.2; omega
      unfold glob at hv
      split at hv
      · rename_i w hw
        cases hv
        exact Calls.loadGlobal_global (by rw [F.ek.glob]; exact cx.Ig _ hI) hw fin
      · rename_i hw
        exact Calls.loadGlobal_builtin (by rw [F.ek.glob]; exact cx.Ig _ hI) hw (by rw [F.ek.blt]; exact cx.Ib _ hI) hv fin
    · cases h
  · cases h

/- changes within a loop that fills the list D -/
structure GoN (cx : Cx) (D : Addr) (own : List Addr) (s s' : Shared) : Prop extends GoB cx (D :: own) s s' where
  ns : ∀ a ∈ own, ∀ o, s.heap.get? a = some o → seqish o = false
theorem GoN.of_go {D : Addr} {s s' : Shared} (g : Go cx s s') : GoN cx D [] s s' := ⟨GoB.up g, fun _ h => nomatch h⟩
theorem GoN.trans' {D : Addr} {o₁ o₂ : List Addr} {s₁ s₂ s₃ : Shared} (x : GoN cx D o₁ s₁ s₂) (y : GoN cx D o₂ s₂ s₃) (h : ∀ a ∈ o₂, a ≠ D ∧ a ∉ cx.tabs) : GoN cx D (o₁ ++ o₂) s₁ s₃ := by
  refine ⟨(x.toGoB.mono fun a ha => ?_).trans (y.toGoB.mono fun a ha => ?_), fun a ha o e => ?_⟩
  · rcases List.mem_cons.mp ha with rfl | ha
    · exact .head _
    · exact .tail _ (List.mem_append_left _ ha)
  · rcases List.mem_cons.mp ha with rfl | ha
    · exact .head _
    · exact .tail _ (List.mem_append_right _ ha)
  · rcases List.mem_append.mp ha with ha | ha
    · exact x.ns a ha o e
    · by_cases h1 : a ∈ o₁
      · exact x.ns a h1 o e
      · exact y.ns a ha o (x.kp a o (fun q => (List.mem_cons.mp q).elim (h a ha).1 h1) (h a ha).2 e)
theorem GoN.ext {D : Addr} {own W : List Addr} {s s' : Shared} (x : GoN cx D own s s') (h : ∀ a ∈ own, a ∈ W) (hW : ∀ a ∈ W, ∀ o, s.heap.get? a = some o → seqish o = false) : GoN cx D W s s' :=
  ⟨x.toGoB.mono fun a ha => (List.mem_cons.mp ha).elim (fun q => q ▸ .head _) fun q => .tail _ (h a q), hW⟩
theorem Rel.goN {ex own : List Addr} {D : Addr} {s s' : Shared} {d : V} {v : Value} (r : Rel cx (D :: ex) s.heap d v) (g : GoN cx D own s s') : Rel cx (D :: ex) s'.heap d v :=
  r.moveS fun b o h1 h2 q e => g.kp b o (fun z => (List.mem_cons.mp z).elim (fun w => h1 (w ▸ .head _)) fun w => by have := g.ns b w o e; rw [q] at this; cases this) h2 e
theorem RelL.goN {ex own : List Addr} {D : Addr} {s s' : Shared} {d : List V} {v : List Value} (r : RelL cx (D :: ex) s.heap d v) (g : GoN cx D own s s') : RelL cx (D :: ex) s'.heap d v :=
  r.moveS fun b o h1 h2 q e => g.kp b o (fun z => (List.mem_cons.mp z).elim (fun w => h1 (w ▸ .head _)) fun w => by have := g.ns b w o e; rw [q] at this; cases this) h2 e
theorem Alive.goN {ex own : List Addr} {D : Addr} {s s' : Shared} (h : Alive cx (D :: ex) s.heap) (g : GoN cx D own s s') (hD : ∃ o, s'.heap.get? D = some o ∧ seqish o = true) : Alive cx (D :: ex) s'.heap := fun b hb => by
  obtain ⟨t, o, e, q⟩ := h b hb
  refine ⟨t, ?_⟩
  by_cases hbD : b = D
  · exact hbD ▸ hD
  · exact ⟨o, g.kp b o (fun z => (List.mem_cons.mp z).elim hbD fun w => by have := g.ns b w o e; rw [q] at this; cases this) t e, q⟩

/-- a frame stands where its own objects and what it holds are kept -/
theorem FrOk.move {ex ex' : List Addr} {h h' : Heap} {ρ : List (Option V)} (F : FrOk cx ex env xs h ρ) (hr : ∀ d v, Rel cx ex h d v → Rel cx ex' h' d v)
    (hL : ∀ o, h.get? env.locals = some o → h'.get? env.locals = some o) (hc : ∀ p ∈ env.cells, ∀ v, h.IsCell p.2 v → h'.IsCell p.2 v) : FrOk cx ex' env xs h' ρ where
  ek := F.ek
  loc := by
    obtain ⟨m, hns, hm⟩ := F.loc
    refine ⟨m, hns.at' hL, fun i x d h1 h2 h3 => ?_⟩
    obtain ⟨v, a', b⟩ := hm i x d h1 h2 h3
    exact ⟨v, a', hr _ _ b⟩
  cel := fun i x d h1 h2 h3 => by
    obtain ⟨a', v, c1, c2, c3⟩ := F.cel i x d h1 h2 h3
    exact ⟨a', v, c1, hc _ (mem_of_lookup c1) _ c2, hr _ _ c3⟩
  ali := fun p hp => by
    obtain ⟨v, c2⟩ := F.ali p hp
    exact ⟨v, hc p hp _ c2⟩
theorem FrOk.avoid {ex : List Addr} {h : Heap} {a : Addr} {ρ : List (Option V)} (F : FrOk cx ex env xs h ρ) (ha : h.get? a = Option.none) : FrOk cx (a :: ex) env xs h ρ :=
  F.move (fun _ _ r => r.avoid ha) (fun _ e => e) (fun _ _ _ c => c)
/-- an object of neither kind (a list, an iterator) changes -/
theorem FrOk.other {ex : List Addr} {s s' : Shared} {a : Addr} {oa : Obj} {ρ : List (Option V)} (F : FrOk cx ex env xs s.heap ρ) (hr : ∀ d v, Rel cx ex s.heap d v → Rel cx ex s'.heap d v)
    (k : ∀ b o, b ≠ a → b ∉ cx.tabs → s.heap.get? b = some o → s'.heap.get? b = some o)
    (ha : s.heap.get? a = some oa) (h1 : ∀ es ep, oa.data ≠ .dict es ep) (h2 : ∀ v, oa.data ≠ .cell v) : FrOk cx ex env xs s'.heap ρ := by
  refine F.move hr (fun o e => k _ o (fun q => ?_) F.ek.notTabL e) (fun p hp v c => ?_)
  · obtain ⟨m, ⟨o', es, ep, e', hd, _⟩, _⟩ := F.loc
    rw [q, ha] at e'; cases e'; exact h1 _ _ hd
  · obtain ⟨o, e, hd⟩ := c
    refine ⟨o, k _ o (fun q => ?_) (F.ek.cells p hp).1 e, hd⟩
    rw [q, ha] at e; cases e; exact h2 _ hd

/- the tests of a clause -/
def TsOk (cx : Cx) (n : Nat) (env : Env) (xs : List Str) (ifs : List Expr) (f : List (Option V) → Option Bool) : Prop :=
  ∀ (ex : List Addr) (A : Around) (s : Shared) (ρ : List (Option V)) (b : Bool) (Q : Bool → Shared → Prop) (E : Value → Shared → Prop),
    cx.I s.heap → Room n A → Alive cx ex s.heap → FrOk cx ex env xs s.heap ρ → f ρ = some b → (∀ s', Go cx s s' → Q b s') →
    wpAny (model cx.prog cx.w) A (forIn ifs true fun c r => if r = true then do let ok ← PySem.isTrue c env (eval c env); pure (ForInStep.yield ok) else pure (ForInStep.yield r)) Q E s
theorem ts_nil : TsOk cx n env xs [] (fun _ => some true) := by
  intro ex A s ρ b Q E hI hR hex F h hQ
  cases h
  exact wpAny_tests_nil (hQ s (.refl s))
theorem ts_one {c : Expr} {f : List (Option V) → Option Bool} (hc : TrOk cx n env xs c f) : TsOk cx n env xs [c] f := by
  intro ex A s ρ b Q E hI hR hex F h hQ
  exact wpAny_tests_one (hc ex A s ρ b _ _ hI hR hex F h hQ)

/- what is done with an item: the list D is filled -/
def BdOk (cx : Cx) (n : Nat) (env : Env) (xs : List Str) (D : Addr) (tw : List Addr) (body : Sem Unit) (bodyF : List (Option V) → Option (List V × List (Option V))) : Prop :=
  ∀ (ex : List Addr) (A : Around) (s : Shared) (ρ ρ' : List (Option V)) (outs ys : List V) (vs : List Value) (Q : Unit → Shared → Prop) (E : Value → Shared → Prop),
    cx.I s.heap → Room n A → Alive cx (D :: ex) s.heap → FrOk cx (D :: ex) env xs s.heap ρ → bodyF ρ = some (ys, ρ') → cx.n₁ ≤ D →
    s.heap.PlainList D vs.toArray → RelL cx (D :: ex) s.heap outs vs → outs.length + ys.length ≤ 2 ^ 20 →
    (∀ s' vs', GoN cx D tw s s' → FrOk cx (D :: ex) env xs s'.heap ρ' → s'.heap.PlainList D vs'.toArray → RelL cx (D :: ex) s'.heap (outs ++ ys) vs' → Q () s') →
    wpAny (model cx.prog cx.w) A body Q E s

def oneF (f : List (Option V) → Option V) (ρ : List (Option V)) : Option (List V × List (Option V)) := match f ρ with
  | some y => some ([y], ρ)
  | none => none
/-- the innermost: the element is appended -/
theorem bd_elt {elt : Expr} {f : List (Option V) → Option V} {D : Addr} (he : EvOk cx n env xs elt f) :
    BdOk cx n env xs D [] (do let _ ← call (.builtin "list.append") [.ref D, ← eval elt env]) (oneF f) := by
  intro ex A s ρ ρ' outs ys vs Q E hI hR hex F h hn hD hr hlen hQ
  unfold oneF at h
  split at h
  · rename_i y q
    cases h
    refine wpAny_bind (he _ A s ρ y _ _ hI hR hex F q fun v s₁ g₁ r₁ => ?_)
    have ht : D ∉ cx.tabs := fun q => absurd (cx.It _ q) (Nat.not_lt.mpr hn)
    have hD₁ : s₁.heap.PlainList D vs.toArray := hD.at fun o e => g₁.kp _ o (by simp) ht e
    have hvs : vs.length = outs.length := hr.length.symm
    refine wpAny_bind (wpAny_list_append_plain (hsz := by rw [List.size_toArray, hvs]; simp only [List.length_singleton] at hlen; exact Nat.le_trans (Nat.le_trans (Nat.le_add_right _ _) hlen) (by decide)) hD₁ fun h' hD' hs' => wpAny_pure ?_)
    obtain ⟨k, e⟩ := hD₁
    have gD : GoB cx [D] s₁ { s₁ with heap := h' } := GoB.same (tk := s₁.toks) e (fun q => by obtain ⟨_, _, _, z, _⟩ := q; cases z) hn hs'
    have gN : GoN cx D [] s₁ { s₁ with heap := h' } := ⟨gD, fun _ h => nomatch h⟩
    have gt : GoN cx D [] s { s₁ with heap := h' } := (GoN.of_go g₁).trans' gN (fun _ h => nomatch h)
    have e2 : vs.toArray.push v = (vs ++ [v]).toArray := by simp
    rw [e2] at hD'
    refine hQ _ (vs ++ [v]) gt ?_ hD' ?_
    · exact (F.go g₁).other (fun d v r => r.goN gN) (fun b o hb htb eb => gN.kp b o (by simpa using hb) htb eb) e (fun _ _ z => by cases z) (fun _ z => by cases z)
    · exact (hr.goN gt).snoc (r₁.goN gN)
  · cases h

def loopF (bf : V → List (Option V) → Option (List (Option V))) (tf : List (Option V) → Option Bool) (bodyF : List (Option V) → Option (List V × List (Option V))) : List V → List (Option V) → Option (List V × List (Option V))
  | [], ρ => some ([], ρ)
  | d :: ds, ρ => match bf d ρ with
    | none => none
    | some ρ₁ => match tf ρ₁ with
      | none => none
      | some false => loopF bf tf bodyF ds ρ₁
      | some true => match bodyF ρ₁ with
        | none => none
        | some (ys, ρ₂) => match loopF bf tf bodyF ds ρ₂ with
          | none => none
          | some (zs, ρ₃) => some (ys ++ zs, ρ₃)

end Mine

open PySem PySem.W PyProof.Rows

namespace Mine
variable {cx : Cx} {n : Nat} {env : Env} {xs : List Str}

theorem letOwned_ok {A : Around} {s : Shared} {t : Expr} {I : Addr} {v : Value} {o : Obj} {vs : Array Value} {Q : Unit → Shared → Prop} {E : Value → Shared → Prop} (ho : s.heap.get? I = some o) (hd : o.data = .fields vs)
    (hc : o.cls = .type "list_iterator" ∨ o.cls = .type "range_iterator") (q : Q () s) : wpAny (model cx.prog cx.w) A (letOwnedTupleGo t (.ref I) v) Q E s := by
  have key : wpAny (model cx.prog cx.w) A (do
      let (.ref r, .ref a) := ((Value.ref I), v) | return
      let o ← load r
      match o.cls, o.data with
      | .type n, .fields vs =>
        if ["enumerate", "zip", "dict_itemiterator", "dict_reverseitemiterator", "odict_iterator", "itertools.zip_longest", "itertools.pairwise"].contains n && vs[0]? == some (rawInt a) then
          rule "for.unpacks-the-owned-tuple"
          updateField r 0 .none
      | _, _ => pure () : Sem Unit) Q E s := by
    cases v with
    | ref a =>
      refine wpAny_bind (wpAny_load ho ?_)
      rw [hd]
      rcases hc with hc | hc <;> (rw [hc]; exact wpAny_pure q)
    | _ => exact wpAny_pure q
  cases t <;> first | exact wpAny_pure q | exact key

theorem src_ns {ex : List Addr} {A : Around} {ds : List V} {h₀ h : Heap} {I : Addr} {fp : List Addr} {P : Nat → Value → Prop} {St : Nat → Heap → Prop} (S : SrcAt cx ex A ds h₀ h I fp P St) {i : Nat} {h' : Heap} (st : St i h') :
    ∀ o, h'.get? I = some o → seqish o = false := fun o e => by
  obtain ⟨o', vs, e', hd, _⟩ := S.obj i h' st
  rw [e'] at e; cases e
  unfold seqish; rw [hd]

structure LoopAt (cx : Cx) (D : Addr) (ex W : List Addr) (env : Env) (xs : List Str) (s₀ s : Shared) (outs : List V) (ρ : List (Option V)) : Prop where
  go : GoN cx D W s₀ s
  inv : cx.I s.heap
  al : Alive cx (D :: ex) s.heap
  fr : FrOk cx (D :: ex) env xs s.heap ρ
  acc : ∃ vs, s.heap.PlainList D vs.toArray ∧ RelL cx (D :: ex) s.heap outs vs

theorem alive_list {s : Shared} {D : Addr} {vs : List Value} (h : s.heap.PlainList D vs.toArray) : ∃ o, s.heap.get? D = some o ∧ seqish o = true := by
  obtain ⟨k, e⟩ := h; exact ⟨_, e, rfl⟩

theorem loop_ok {elt : Expr} {gens : List Comprehension} {scope : Scope} {pos p : Pos} {depth : Nat} {target : Expr} {ifs : List Expr} {body : Sem Unit} {I D : Addr} {tw twb ex W : List Addr} {A : Around}
    {bf : V → List (Option V) → Option (List (Option V))} {tf : List (Option V) → Option Bool} {bodyF : List (Option V) → Option (List V × List (Option V))}
    {ds : List V} {h₀ hs : Heap} {fp exS : List Addr} {P : Nat → Value → Prop} {St : Nat → Heap → Prop} {s₀ : Shared} {outs₀ ys : List V} {ρ ρ' : List (Option V)} {R : Result → Shared → Prop}
    (hturn : compTurn (.ListComp elt gens scope pos) depth (.ref I) (.ref D) env = (do
      standAt p
      match ← pyNext (.ref I) with
      | none => pure (.done .next)
      | some v =>
        letOwnedTupleGo target (.ref I) v
        assign target env v
        let mut ok := true
        for c in ifs do
          if ok then ok ← PySem.isTrue c env (eval c env)
        if ok then body
        again (.compLoop (.ListComp elt gens scope pos) depth (.ref I) (.ref D) env)))
    (hT : TgOk cx n env xs target tw bf) (hS : TsOk cx n env xs ifs tf) (hB : BdOk cx n env xs D twb body bodyF) (hR : Room n A) (hD : cx.n₁ ≤ D)
    (S : SrcAt cx exS A ds h₀ hs I fp P St)
    (hfp : ∀ b ∈ fp, b ≠ D ∧ b ∉ tw ∧ b ∉ twb) (htw : ∀ a ∈ tw ++ twb, a ≠ D ∧ a ∉ cx.tabs) (hID : I ≠ D)
    (hW : ∀ a ∈ I :: tw ++ twb, a ∈ W) (hW0 : ∀ a ∈ W, ∀ o, s₀.heap.get? a = some o → seqish o = false)
    (hitems : ∀ i v d, P i v → ds[i]? = some d → Rel cx (D :: ex) s₀.heap d v)
    (L : LoopAt cx D ex W env xs s₀ s₀ outs₀ ρ) (hst : St 0 s₀.heap)
    (hF : loopF bf tf bodyF ds ρ = some (ys, ρ')) (hlen : outs₀.length + ys.length ≤ 2 ^ 20)
    (hEnd : ∀ s', LoopAt cx D ex W env xs s₀ s' (outs₀ ++ ys) ρ' → R (.ok .next) s') :
    codeAny (model cx.prog cx.w) A (.compLoop (.ListComp elt gens scope pos) depth (.ref I) (.ref D) env) R s₀ := by
  have hIt : I ∉ cx.tabs := fun q => absurd (cx.It _ q) (Nat.not_lt.mpr S.lo)
  refine codeAny_loop rfl (fun k s => ∃ i outs ρi rest, k = ds.length + 1 - i ∧ i ≤ ds.length ∧ LoopAt cx D ex W env xs s₀ s outs ρi ∧ St i s.heap ∧ loopF bf tf bodyF (ds.drop i) ρi = some (rest, ρ') ∧ outs ++ rest = outs₀ ++ ys) ?_ (ds.length + 1)
    ⟨0, outs₀, ρ, ys, rfl, Nat.zero_le _, L, hst, by simpa using hF, rfl⟩
  rintro k s ⟨i, outs, ρi, rest, rfl, hi, L, st, hF, hys⟩
  show wpAny _ A ((compTurn (.ListComp elt gens scope pos) depth (.ref I) (.ref D) env).onRaise (fun x => do noteFrame x env; theTreesLotGoes x)) _ _ s
  refine wpAny_noted ?_
  rw [hturn]
  refine wpAny_bind (wpAny_standAt (wpAny_bind ?_))
  obtain ⟨vs, hacc, hrel⟩ := L.acc
  -- what a turn of the iterator alone does
  have next : ∀ (h' : Heap) (tk : Nat), (∀ b o, b ∉ [I] → s.heap.get? b = some o → h'.get? b = some o) → GoN cx D [I] s { s with heap := h', toks := tk } := fun h' tk hk => by
    refine ⟨⟨fun b o h1 _ e => hk b o (fun q => h1 (List.mem_cons_of_mem _ q)) e, fun inv => cx.Ik _ _ inv fun b o e hb => hk b o (fun q => ?_) e, rfl, rfl, rfl⟩, fun a ha o e => ?_⟩
    · rw [List.mem_singleton.mp q] at hb e
      obtain ⟨o', vs', e', hd, hc⟩ := S.obj i _ st
      rw [e'] at e; cases e
      rcases hb with hb | hb
      · exact absurd hb (Nat.not_lt.mpr S.lo)
      · exact S.nco i _ st _ e' hb
    · rw [List.mem_singleton.mp ha] at e; exact src_ns S st o e
  have nextF : ∀ (h' : Heap) (tk : Nat), (∀ b o, b ∉ [I] → s.heap.get? b = some o → h'.get? b = some o) → FrOk cx (D :: ex) env xs h' ρi := fun h' tk hk => by
    obtain ⟨o', vs', e', hd, hc⟩ := S.obj i _ st
    exact L.fr.other (s' := { s with heap := h', toks := tk }) (fun d v r => r.goN (next h' tk hk)) (fun b o hb _ e => hk b o (by simpa using hb) e) e' (fun es ep z => by rw [hd] at z; cases z) (fun v z => by rw [hd] at z; cases z)
  have nextA : ∀ (h' : Heap) (tk : Nat), (∀ b o, b ∉ [I] → s.heap.get? b = some o → h'.get? b = some o) → h'.PlainList D vs.toArray := fun h' tk hk => hacc.at fun o e => hk D o (by simp; exact Ne.symm hID) e
  by_cases hlt : i < ds.length
  · refine S.W.item i s _ _ hlt st fun v h₁ tk₁ hP st₁ hk₁ => ?_
    have g₁ := next h₁ tk₁ hk₁
    have F₁ := nextF h₁ tk₁ hk₁
    have A₁ := nextA h₁ tk₁ hk₁
    have al₁ := L.al.goN g₁ (alive_list (s := { s with heap := h₁, toks := tk₁ }) A₁)
    obtain ⟨o₁, vs₁, eo₁, hd₁, hc₁⟩ := S.obj (i + 1) _ st₁
    refine wpAny_bind (letOwned_ok (s := { s with heap := h₁, toks := tk₁ }) eo₁ hd₁ hc₁ ?_)
    have hdrop : ds.drop i = ds[i] :: ds.drop (i + 1) := List.drop_eq_getElem_cons hlt
    rw [hdrop] at hF
    unfold loopF at hF
    have rv : Rel cx (D :: ex) h₁ ds[i] v := ((hitems i v _ hP (by rw [List.getElem?_eq_getElem hlt])).goN L.go).goN g₁
    split at hF
    · cases hF
    · rename_i ρ₁ hbf
      refine wpAny_bind (hT (D :: ex) A { s with heap := h₁, toks := tk₁ } ρi ρ₁ ds[i] v _ _ (g₁.inv L.inv) hR al₁ F₁ rv hbf fun s₂ g₂ own₂ F₂ => ?_)
      have g₂N : GoN cx D tw { s with heap := h₁, toks := tk₁ } s₂ := ⟨g₂.mono fun a ha => List.mem_cons_of_mem _ ha, fun a ha o e => by obtain ⟨o', e', q, _⟩ := own₂ a ha; rw [e'] at e; cases e; exact q⟩
      have A₂ : s₂.heap.PlainList D vs.toArray := A₁.at fun o e => g₂.kp D o (fun q => (htw D (List.mem_append_left _ q)).1 rfl) (fun q => absurd (cx.It _ q) (Nat.not_lt.mpr hD)) e
      have al₂ := al₁.goN g₂N (alive_list A₂)
      have st₂ : St (i + 1) s₂.heap := S.W.frame _ _ _ st₁ fun b hb o e => g₂.kp b o (hfp b hb).2.1 (S.fpo b hb).1 e
      split at hF
      · cases hF
      · rename_i htf
        refine wpAny_bind (hS (D :: ex) A s₂ ρ₁ false _ _ (g₂.inv (g₁.inv L.inv)) hR al₂ F₂ htf fun s₃ g₃ => ?_)
        refine wpAny_pure ⟨rfl, ds.length + 1 - (i + 1), by omega, i + 1, outs, ρ₁, rest, rfl, hlt, ?_, ?_, hF, hys⟩
        · have A₃ : s₃.heap.PlainList D vs.toArray := A₂.at fun o e => g₃.kp D o (by simp) (fun q => absurd (cx.It _ q) (Nat.not_lt.mpr hD)) e
          have gall := ((L.go.trans' g₁ (fun a ha => by rw [List.mem_singleton.mp ha]; exact ⟨hID, hIt⟩)).trans' g₂N (fun a ha => htw a (List.mem_append_left _ ha))).trans' (GoN.of_go g₃) (fun _ h => nomatch h)
          have gstep := (g₁.trans' g₂N (fun a ha => htw a (List.mem_append_left _ ha))).trans' (GoN.of_go g₃) (fun _ h => nomatch h)
          refine ⟨gall.ext (fun a ha => ?_) hW0, g₃.inv (g₂.inv (g₁.inv L.inv)), exLt al₂ g₃, F₂.go g₃, vs, A₃, hrel.goN gstep⟩
          simp only [List.append_nil, List.mem_append, List.mem_singleton] at ha
          rcases ha with (ha | ha) | ha
          · exact ha
          · exact hW a (by simp [ha])
          · exact hW a (by simp [ha])
        · exact S.W.frame _ _ _ st₂ fun b hb o e => g₃.kp b o (by simp) (S.fpo b hb).1 e
      · rename_i htf
        refine wpAny_bind (hS (D :: ex) A s₂ ρ₁ true _ _ (g₂.inv (g₁.inv L.inv)) hR al₂ F₂ htf fun s₃ g₃ => ?_)
        split at hF
        · cases hF
        · rename_i ys₁ ρ₂ hbody
          split at hF
          · cases hF
          · rename_i zs ρ₃ hrest
            cases hF
            have A₃ : s₃.heap.PlainList D vs.toArray := A₂.at fun o e => g₃.kp D o (by simp) (fun q => absurd (cx.It _ q) (Nat.not_lt.mpr hD)) e
            have gstep := (g₁.trans' g₂N (fun a ha => htw a (List.mem_append_left _ ha))).trans' (GoN.of_go g₃) (fun _ h => nomatch h)
            have hI₃ := g₃.inv (g₂.inv (g₁.inv L.inv))
            have st₃ : St (i + 1) s₃.heap := S.W.frame _ _ _ st₂ fun b hb o e => g₃.kp b o (by simp) (S.fpo b hb).1 e
            have hsub : outs.length + ys₁.length ≤ 2 ^ 20 := by
              have := congrArg List.length hys
              rw [List.length_append, List.length_append, List.length_append] at this
              omega
            show wpAny _ _ (if true = true then (do body; again _) else _) _ _ _
            rw [if_pos rfl]
            refine wpAny_bind (hB ex A s₃ ρ₁ ρ₂ outs ys₁ vs _ _ hI₃ hR (exLt al₂ g₃) (F₂.go g₃) hbody hD A₃ (hrel.goN gstep) hsub fun s₄ vs' g₄ F₄ A₄ r₄ => ?_)
            have gall := (L.go.trans' gstep (fun a ha => by
              simp only [List.append_nil, List.mem_append, List.mem_singleton] at ha
              rcases ha with rfl | ha
              · exact ⟨hID, hIt⟩
              · exact htw a (List.mem_append_left _ ha))).trans' g₄ (fun a ha => htw a (List.mem_append_right _ ha))
            refine wpAny_pure ⟨rfl, ds.length + 1 - (i + 1), by omega, i + 1, outs ++ ys₁, ρ₂, zs, rfl, hlt, ⟨gall.ext (fun a ha => ?_) hW0, g₄.inv hI₃, (exLt al₂ g₃).goN g₄ (alive_list A₄), F₄, vs', A₄, r₄⟩, ?_, hrest, by rw [List.append_assoc]; exact hys⟩
            · simp only [List.append_nil, List.mem_append, List.mem_singleton] at ha
              rcases ha with (ha | ha | ha) | ha
              · exact ha
              · exact hW a (by simp [ha])
              · exact hW a (by simp [ha])
              · exact hW a (by simp [ha])
            · exact S.W.frame _ _ _ st₃ fun b hb o e => g₄.kp b o (fun q => (List.mem_cons.mp q).elim (hfp b hb).1 (hfp b hb).2.2) (S.fpo b hb).1 e
  · have hin : i = ds.length := Nat.le_antisymm hi (Nat.not_lt.mp hlt)
    subst hin
    refine S.W.done s _ _ st fun h₁ tk₁ hk₁ => wpAny_pure ?_
    rw [List.drop_length] at hF
    unfold loopF at hF
    cases hF
    rw [List.append_nil] at hys
    subst hys
    have g₁ := next h₁ tk₁ hk₁
    have A₁ := nextA h₁ tk₁ hk₁
    refine hEnd _ ⟨(L.go.trans' g₁ (fun a ha => by rw [List.mem_singleton.mp ha]; exact ⟨hID, hIt⟩)).ext (fun a ha => ?_) hW0, g₁.inv L.inv, L.al.goN g₁ (alive_list (s := { s with heap := h₁, toks := tk₁ }) A₁), nextF h₁ tk₁ hk₁, vs, A₁, hrel.goN g₁⟩
    rcases List.mem_append.mp ha with ha | ha
    · exact ha
    · exact hW a (by rw [List.mem_singleton.mp ha]; simp)

end Mine

open PySem PySem.W PyProof.Rows

namespace Mine
variable {cx : Cx} {n : Nat} {env : Env} {xs : List Str}

theorem wp_newEnv {A : Around} {s : Shared} {scope : Scope} {globals : Addr} {closure : List (Str × Addr)} {qual : Str} {func : Option Addr} {code : Value} {around : Option Env} {builtins : Addr} {binds : List (Str × Value)}
    {Q : Env → Shared → Prop} {E : Value → Shared → Prop}
    (h : ∀ h', (∀ b o, s.heap.get? b = some o → h'.get? b = some o) → h'.Ns s.heap.objs.size (fun _ => none) →
      ((∀ p ∈ closure, p.2 < s.heap.objs.size) → Good closure → Good (cellsFrom (s.heap.objs.size + 1) scope.names closure) ∧
        ∀ p ∈ cellsFrom (s.heap.objs.size + 1) scope.names closure, p ∈ closure ∨ (s.heap.objs.size + 1 ≤ p.2 ∧ h'.IsCell p.2 none)) →
      wpAny (model cx.prog cx.w) A (forIn binds PUnit.unit fun x _ => do storeName (newEnv scope s.heap.objs.size globals (cellsFrom (s.heap.objs.size + 1) scope.names closure) qual func code around builtins) x.1 x.2; pure (ForInStep.yield PUnit.unit))
        (fun _ s' => Q (newEnv scope s.heap.objs.size globals (cellsFrom (s.heap.objs.size + 1) scope.names closure) qual func code around builtins) s') E { s with heap := h' }) :
    wpAny (model cx.prog cx.w) A (newFunctionEnv scope globals closure binds qual func code around builtins) Q E s := by
  have key : ∀ (cls : Value), wpAny (model cx.prog cx.w) A (do
      let locals ← alloc { cls := cls, data := .dict #[] }
      let cells ← (forIn scope.names closure fun x r => if (x.2 == NameKind.cell) = true then do let a ← alloc { cls := .type "cell", data := .cell none }; pure (ForInStep.yield ((x.1, a) :: r)) else pure (ForInStep.yield r))
      forIn binds PUnit.unit fun x _ => do storeName (newEnv scope locals globals cells qual func code around builtins) x.1 x.2; pure (ForInStep.yield PUnit.unit)
      pure (newEnv scope locals globals cells qual func code around builtins)) Q E s := by
    intro cls
    refine wpAny_bind (wpAny_alloc ?_)
    refine wpAny_bind (wpAny_layCells _ (fun name kind cells => by cases hkc : kind == NameKind.cell <;> simp [hkc]) _ _ _ _ ?_)
    rw [show ({ s with heap := s.heap.push { cls := cls, data := .dict #[] } } : Shared).heap.objs.size = s.heap.objs.size + 1 from Heap.size_push ..]
    refine wpAny_bind (wpAny_mono (h _ (fun b o e => pushCells_keeps _ _ b o (Heap.get?_push_of_some _ e)) ((Heap.Ns.new s.heap cls).keeps (pushCells_keeps _ _)) (fun h1 h2 => ?_)) (fun _ s' q => wpAny_pure q) fun _ _ x => x)
    have := cellsFrom_gen scope.names (s.heap.push { cls := cls, data := .dict #[] }) closure (fun p hp => by rw [Heap.size_push]; exact Nat.lt_succ_of_lt (h1 p hp)) h2
    rw [Heap.size_push] at this
    exact this
  cases around with
  | none => exact key (.type "frame")
  | some outer => exact key (.type "dict")

theorem codeAny_compStart_at {A : Around} {s : Shared} {elt : Expr} {gens : List Comprehension} {scope : Scope} {pos : Pos} {depth : Nat} {g : Comprehension} {it acc : Value} {R : Result → Shared → Prop}
    (hg : gens[depth]? = some g) (ha : g.is_async = 0)
    (h0 : codeAny (model cx.prog cx.w) A (.compLoop (.ListComp elt gens scope pos) depth it acc env) R s)
    (h : wpAny (model cx.prog cx.w) A (pyIter it) (fun it' s' => codeAny (model cx.prog cx.w) A (.compLoop (.ListComp elt gens scope pos) depth it' acc env) R s')
      (notedBy (model cx.prog cx.w) A env fun x s' => R (.error x) s') s) :
    codeAny (model cx.prog cx.w) A (.compStart (.ListComp elt gens scope pos) depth it acc env) R s := by
  refine codeAny_of_tree ?_
  show wpAny _ _ ((compStart (.ListComp elt gens scope pos) depth it acc env).onRaise (fun x => do noteFrame x env; standAt theWindowsPlace)) _ _ s
  refine wpAny_notedAt ?_
  unfold compStart
  have hc : clausesOf (.ListComp elt gens scope pos) = gens := rfl
  rw [hc, hg]
  show wpAny _ _ (if ((g.is_async != 0) = true) then _ else _) _ _ s
  rw [ha]
  show wpAny _ _ (ask >>= _) _ _ s
  refine wpAny_bind (wpAny_askSetting (wpAny_ite ?_))
  split
  · first
      | exact wpAny_bind (wpAny_pure (wpAny_pure (And.intro rfl h0)))
      | exact wpAny_pure (And.intro rfl h0)
  · exact wpAny_bind (wpAny_rule (wpAny_bind (wpAny_standAt (wpAny_bind (wpAny_mono h (fun it' s' h' => wpAny_pure (And.intro rfl h')) fun _ _ x => x)))))

def compF (k : Nat) (sf : List (Option V) → Option (List V)) (bf : V → List (Option V) → Option (List (Option V))) (tf : List (Option V) → Option Bool) (bodyF : List (Option V) → Option (List V × List (Option V)))
    (ρ : List (Option V)) : Option V :=
  match sf ρ with
  | none => none
  | some ds => match loopF bf tf bodyF ds (nones k ρ) with
    | none => none
    | some (ys, _) => capL .list (some ys)

/-- the head of a comprehension and its end; the loop is a premise -/
theorem comp_block {elt iter : Expr} {g : Comprehension} {gs : List Comprehension} {scope : Scope} {pos : Pos} {sf : List (Option V) → Option (List V)} {cl : List (Str × Addr)} {tg ys : List Str}
    {loop : List V → List (Option V) → Option (List V × List (Option V))} {use : Option (Value → Sem Unit)}
    {ex : List Addr} {A : Around} {s : Shared} {ρ : List (Option V)} {d : V} {Q : Value → Shared → Prop} {E : Value → Shared → Prop}
    (hg : g.iter = iter) (hga : g.is_async = 0) (hs : SrOk cx n env xs iter sf)
    (hfold : ∀ x, foldedSetIterable iter env x = pure x) (hcl : clOf scope.names env.cells = some cl) (hkind : scope.kind = .function)
    (hnames : ∀ x ∈ scope.names, x.2 = .local → scope.names.lookup x.1 = some .local) (hchk : chk scope.names env.scope.names ys xs = true)
    (tw : Addr → List Addr) (htw : ∀ C a, a ∈ tw C → a = C ∨ (C < a ∧ ∃ x, (x, a) ∈ cellsFrom (C + 1) scope.names cl))
    (hloop : ∀ (C D I : Addr) (ds : List V) (h₀ hs : Heap) (fp : List Addr) (P : Nat → Value → Prop) (St : Nat → Heap → Prop) (s₀ : Shared) (outs : List V) (ρ' : List (Option V)) (R : Result → Shared → Prop),
      SrcAt cx ex A ds h₀ hs I fp P St → (∀ b ∈ fp, b < D) → D < C → cx.n₁ ≤ D → loop ds (nones tg.length ρ) = some (outs, ρ') → outs.length ≤ 2 ^ 20 → St 0 s₀.heap →
      (∀ a ∈ I :: tw C, ∀ o, s₀.heap.get? a = some o → seqish o = false) → (∀ i v d, P i v → ds[i]? = some d → Rel cx (D :: ex) s₀.heap d v) →
      LoopAt cx D ex (I :: tw C) (cEnv scope cl C env) (tg ++ ys) s₀ s₀ [] (nones tg.length ρ) →
      (∀ s', LoopAt cx D ex (I :: tw C) (cEnv scope cl C env) (tg ++ ys) s₀ s' outs ρ' → R (.ok .next) s') →
      codeAny (model cx.prog cx.w) A (.compLoop (.ListComp elt (g :: gs) scope pos) 0 (.ref I) (.ref D) (cEnv scope cl C env)) R s₀)
    (hI : cx.I s.heap) (hR : Room n A) (hex : Alive cx ex s.heap) (F : FrOk cx ex env xs s.heap ρ)
    (hf : (match sf ρ with | none => none | some ds => match loop ds (nones tg.length ρ) with | none => none | some (ys, _) => capL .list (some ys)) = some d)
    (hQ : ∀ D C s' m, Go cx s s' → s.heap.get? C = Option.none → Rel cx ex s'.heap d (.ref D) → s'.heap.Ns C m → cx.n₁ ≤ C →
      compPost (model cx.prog cx.w) A E use Q (.ref D) C (.ok .next) s') :
    wpAny (model cx.prog cx.w) A (comprehension (.ListComp elt (g :: gs) scope pos) scope env (firstIterPos (g :: gs) pos) (newList []) false (eval iter env) use) Q E s := by
  split at hf
  · cases hf
  · rename_i ds hsf
    split at hf
    · cases hf
    · rename_i outs ρ' hlp
      obtain ⟨_, e, hlen, rfl⟩ := capL_some hf
      cases e
      refine wpAny_comprehension_free (use := use) rfl (by rw [hg]; exact hfold) (closureFor_of (clOf_sound hcl).1) hkind hnames ?_
      refine hs ex A s ρ ds _ E hI hR hex F hsf ?_
      intro I fp P St s₂ g₂ S
      have hI₂ := g₂.inv hI
      have hex₂ := exLt hex g₂
      have F₂ := F.go g₂
      refine wpAny_newObj_type (wp_newEnv fun h₁ k₁ ns₁ cells₁ => ?_)
      generalize hH : s₂.heap.push { cls := .type "list", data := .seq ([] : List Value).toArray } = H at k₁ ns₁ cells₁
      have hHs : H.objs.size = s₂.heap.objs.size + 1 := by rw [← hH, Heap.size_push]
      have kH : ∀ b o, s₂.heap.get? b = some o → H.get? b = some o := fun b o e => hH ▸ Heap.get?_push_of_some _ e
      have hDat : H.PlainList s₂.heap.objs.size ([] : List Value).toArray := ⟨0, hH ▸ Heap.get?_push_size _ rfl⟩
      generalize hD : s₂.heap.objs.size = D at *
      generalize hC : H.objs.size = C at *
      have hDC : D < C := by rw [hHs]; exact Nat.lt_succ_self _
      have hDn : cx.n₁ ≤ D := hD ▸ new_lo hI₂
      have hCn : cx.n₁ ≤ C := Nat.le_trans hDn (Nat.le_of_lt hDC)
      have g₃ : Go cx s₂ { s₂ with heap := h₁ } := Go.keep (tk := s₂.toks) fun b o e => k₁ b o (kH b o e)
      have hI₃ := g₃.inv hI₂
      have hclos : ∀ p ∈ cl, p.2 < C := fun p hp => by
        obtain ⟨_, q1, _, _⟩ := clOf_sound hcl
        obtain ⟨v, o, e, _⟩ := F₂.ali _ (mem_of_lookup (q1 p hp))
        have := Heap.lt_size e
        rw [hD] at this
        exact Nat.lt_trans this hDC
      have hgood : Good cl := fun p hp q hq e => by
        obtain ⟨_, q1, _, _⟩ := clOf_sound hcl
        exact F.ek.inj _ _ _ (q1 p hp) (e ▸ q1 q hq)
      have hcells := cells₁ hclos hgood
      have hnone : s₂.heap.get? C = Option.none := none_of_le (by rw [hD]; exact Nat.le_of_lt hDC)
      have hDnone : s₂.heap.get? D = Option.none := none_of_le (by rw [hD]; exact Nat.le_refl _)
      have FC : FrOk cx (D :: ex) (cEnv scope cl C env) (tg ++ ys) h₁ (nones tg.length ρ) :=
        fr_comp (h := s₂.heap) (F₂.avoid hDnone) hCn hkind hcl hchk (fun b o e => k₁ b o (kH b o e)) hnone (by rw [hD]; exact Nat.le_of_lt hDC) ns₁ hcells
      have hst : St 0 h₁ := S.W.frame _ _ _ S.st fun b _ o e => k₁ b o (kH b o e)
      have hD₁ : h₁.PlainList D ([] : List Value).toArray := hDat.at fun o e => k₁ _ o e
      have al : Alive cx (D :: ex) h₁ := fun b hb => by
        rcases List.mem_cons.mp hb with rfl | hb
        · exact ⟨fun q => absurd (cx.It _ q) (Nat.not_lt.mpr hDn), alive_list (s := { s₂ with heap := h₁ }) hD₁⟩
        · exact exLt (s' := { s₂ with heap := h₁ }) hex₂ g₃ b hb
      have hns : ∀ a ∈ I :: tw C, ∀ o, h₁.get? a = some o → seqish o = false := fun a ha o e => by
        rcases List.mem_cons.mp ha with rfl | ha
        · exact src_ns S hst o e
        · rcases htw C a ha with rfl | ⟨_, x, hx⟩
          · obtain ⟨o', es, ep, e', hd, _⟩ := ns₁
            rw [e'] at e; cases e; unfold seqish; rw [hd]
          · obtain ⟨v, o', e', hd⟩ := FC.ali _ hx
            have e'' : h₁.get? a = some o' := e'
            rw [e''] at e; cases e; unfold seqish; rw [hd]
      have L : LoopAt cx D ex (I :: tw C) (cEnv scope cl C env) (tg ++ ys) { s₂ with heap := h₁ } { s₂ with heap := h₁ } [] (nones tg.length ρ) :=
        ⟨⟨GoB.refl _, hns⟩, hI₃, al, FC, [], hD₁, .nil⟩
      have loop : ∀ R : Result → Shared → Prop, (∀ s', LoopAt cx D ex (I :: tw C) (cEnv scope cl C env) (tg ++ ys) { s₂ with heap := h₁ } s' outs ρ' → R (.ok .next) s') →
          codeAny (model cx.prog cx.w) A (.compLoop (.ListComp elt (g :: gs) scope pos) 0 (.ref I) (.ref D) (cEnv scope cl C env)) R { s₂ with heap := h₁ } := fun R hR' =>
        hloop C D I ds _ _ fp P St { s₂ with heap := h₁ } outs ρ' R S (fun b hb => by have := (S.fpo b hb).2; rw [hD] at this; exact this) hDC hDn hlp hlen hst hns (fun i v d hP hd => ((S.items i v d hP hd).avoid hDnone).move fun b o h1 _ e => ⟨h1, k₁ b o (kH b o e)⟩) L hR'
      have fin : ∀ s', LoopAt cx D ex (I :: tw C) (cEnv scope cl C env) (tg ++ ys) { s₂ with heap := h₁ } s' outs ρ' → compPost (model cx.prog cx.w) A E use Q (.ref D) C (.ok .next) s' := fun s' L' => by
        obtain ⟨vs, hacc, hrel⟩ := L'.acc
        obtain ⟨m, hm, _⟩ := L'.fr.loc
        have gs' : GoB cx (D :: I :: tw C) s s' := (GoB.up (g₂.trans g₃)).trans L'.go.toGoB
        refine hQ D C s' m (gs'.drop fun a ha => .inr ?_) (fresh_back g₂ hCn hnone) ?_ hm hCn
        · rcases List.mem_cons.mp ha with rfl | ha
          · exact fresh_back g₂ hDn hDnone
          · rcases List.mem_cons.mp ha with rfl | ha
            · exact S.fr
            · rcases htw C a ha with rfl | ⟨hlt, _⟩
              · exact fresh_back g₂ hCn hnone
              · exact fresh_back g₂ (Nat.le_trans hCn (Nat.le_of_lt hlt)) (none_of_le (by rw [hD]; exact Nat.le_of_lt (Nat.lt_trans hDC hlt)))
        · refine .list (fun q => ?_) (fun q => absurd (cx.It _ q) (Nat.not_lt.mpr hDn)) hacc hrel.less hlen
          obtain ⟨_, o, e, _⟩ := hex₂ D q
          rw [hDnone] at e; cases e
      refine wpAny_pure ?_
      show codeAny (model cx.prog cx.w) A (.compStart (.ListComp elt (g :: gs) scope pos) 0 (.ref I) (.ref D) (cEnv scope cl C env)) (compPost (model cx.prog cx.w) A E use Q (.ref D) C) { s₂ with heap := h₁ }
      exact codeAny_compStart_at (g := g) rfl hga (loop _ fin) (S.W.self 0 _ _ _ hst (loop _ fin))

end Mine

open PySem PySem.W PyProof.Rows

namespace Mine
variable {cx : Cx} {n : Nat} {env : Env} {xs : List Str}

theorem post_none {E : Value → Shared → Prop} {A : Around} {ex : List Addr} {Q : Value → Shared → Prop} {D C : Addr} {s s' : Shared} {m : Str → Option Value} {d : V} (hQ : ∀ v s', Go cx s s' → Rel cx ex s'.heap d v → Q v s')
    (g : Go cx s s') (hC : s.heap.get? C = Option.none) (r : Rel cx ex s'.heap d (.ref D)) (hm : s'.heap.Ns C m) (hn : cx.n₁ ≤ C) : compPost (model cx.prog cx.w) A E none Q (.ref D) C (.ok .next) s' := by
  refine ⟨m, hm, fun h' hs' => ?_⟩
  obtain ⟨o, es, ep, ho, hd, _⟩ := id hm
  have hso : seqish o = false := by unfold seqish; rw [hd]
  have hco : ¬ CodeObj o := fun q => by obtain ⟨_, _, vs, e, _⟩ := q; rw [hd] at e; cases e
  refine hQ _ _ (((GoB.up g).trans (GoB.same (tk := s'.toks) ho hco hn hs')).drop fun a ha => .inr ?_) (r.same ho hso hs')
  rw [List.mem_singleton.mp ha]; exact hC

/-- one clause -/
theorem loop1 {elt iter target : Expr} {ifs : List Expr} {scope : Scope} {pos : Pos} {tg ys : List Str} {cl : List (Str × Addr)}
    {bf : V → List (Option V) → Option (List (Option V))} {tf : List (Option V) → Option Bool} {ef : List (Option V) → Option V} (tw : Addr → List Addr)
    (htw : ∀ C a, a ∈ tw C → a = C ∨ (C < a ∧ ∃ x, (x, a) ∈ cellsFrom (C + 1) scope.names cl))
    (hT : ∀ C, TgOk cx n (cEnv scope cl C env) (tg ++ ys) target (tw C) bf) (hS : ∀ C, TsOk cx n (cEnv scope cl C env) (tg ++ ys) ifs tf) (hE : ∀ C, EvOk cx n (cEnv scope cl C env) (tg ++ ys) elt ef)
    {ex : List Addr} {A : Around} (hR : Room n A) :
    (∀ (C D I : Addr) (ds : List V) (h₀ hs : Heap) (fp : List Addr) (P : Nat → Value → Prop) (St : Nat → Heap → Prop) (s₀ : Shared) (outs : List V) (ρ' : List (Option V)) (R : Result → Shared → Prop),
      SrcAt cx ex A ds h₀ hs I fp P St → (∀ b ∈ fp, b < D) → D < C → cx.n₁ ≤ D → loopF bf tf (oneF ef) ds (nones tg.length ρ) = some (outs, ρ') → outs.length ≤ 2 ^ 20 → St 0 s₀.heap →
      (∀ a ∈ I :: tw C, ∀ o, s₀.heap.get? a = some o → seqish o = false) → (∀ i v d, P i v → ds[i]? = some d → Rel cx (D :: ex) s₀.heap d v) →
      LoopAt cx D ex (I :: tw C) (cEnv scope cl C env) (tg ++ ys) s₀ s₀ [] (nones tg.length ρ) →
      (∀ s', LoopAt cx D ex (I :: tw C) (cEnv scope cl C env) (tg ++ ys) s₀ s' outs ρ' → R (.ok .next) s') →
      codeAny (model cx.prog cx.w) A (.compLoop (.ListComp elt [⟨target, iter, ifs, 0⟩] scope pos) 0 (.ref I) (.ref D) (cEnv scope cl C env)) R s₀) := by
  intro C D I ds h₀ hs fp P St s₀ outs ρ' R S hfp hDC hn hlp hlen hst hns hitems L hEnd
  have lo : ∀ a ∈ tw C, C ≤ a := fun a ha => (htw C a ha).elim (fun q => q ▸ Nat.le_refl _) fun q => Nat.le_of_lt q.1
  refine loop_ok (exS := ex) (twb := []) (outs₀ := []) (compTurn_list ..) (hT C) (hS C) (bd_elt (hE C)) hR hn S ?_ ?_ ?_ ?_ hns hitems L hst hlp (by simpa using hlen) (by simpa using hEnd)
  · intro b hb
    have h1 := hfp b hb
    exact ⟨Nat.ne_of_lt h1, fun q => absurd (Nat.lt_trans h1 hDC) (Nat.not_lt.mpr (lo b q)), by simp⟩
  · intro a ha
    rw [List.append_nil] at ha
    have h1 := lo a ha
    exact ⟨Nat.ne_of_gt (Nat.lt_of_lt_of_le hDC h1), fun q => absurd (cx.It _ q) (Nat.not_lt.mpr (Nat.le_trans hn (Nat.le_trans (Nat.le_of_lt hDC) h1)))⟩
  · exact Nat.ne_of_lt (hfp I S.inn)
  · intro a ha; simpa using ha

theorem ev_comp1 {elt iter target : Expr} {ifs : List Expr} {scope : Scope} {pos : Pos} {sf : List (Option V) → Option (List V)} {cl : List (Str × Addr)} (tg ys : List Str)
    {bf : V → List (Option V) → Option (List (Option V))} {tf : List (Option V) → Option Bool} {ef : List (Option V) → Option V} (tw : Addr → List Addr)
    (hs : SrOk cx n env xs iter sf) (hcl : clOf scope.names env.cells = some cl) (hkind : scope.kind = .function)
    (hnames : ∀ x ∈ scope.names, x.2 = .local → scope.names.lookup x.1 = some .local) (hchk : chk scope.names env.scope.names ys xs = true)
    (htw : ∀ C a, a ∈ tw C → a = C ∨ (C < a ∧ ∃ x, (x, a) ∈ cellsFrom (C + 1) scope.names cl))
    (hT : ∀ C, TgOk cx n (cEnv scope cl C env) (tg ++ ys) target (tw C) bf) (hS : ∀ C, TsOk cx n (cEnv scope cl C env) (tg ++ ys) ifs tf) (hE : ∀ C, EvOk cx n (cEnv scope cl C env) (tg ++ ys) elt ef)
    (hfold : ∀ x, foldedSetIterable iter env x = pure x := by intro _; rfl) :
    EvOk cx n env xs (.ListComp elt [⟨target, iter, ifs, 0⟩] scope pos) (compF tg.length sf bf tf (oneF ef)) := by
  intro ex A s ρ d Q E hI hR hex F hf hQ
  rw [eval_ListComp]
  exact comp_block (loop := loopF bf tf (oneF ef)) (use := none) rfl rfl hs hfold hcl hkind hnames hchk tw htw (loop1 tw htw hT hS hE hR) hI hR hex F hf
    fun D C s' m g hC r hm hn => post_none hQ g hC r hm hn

/-- a second clause -/
def innF (sf : List (Option V) → Option (List V)) (bf : V → List (Option V) → Option (List (Option V))) (tf : List (Option V) → Option Bool) (bodyF : List (Option V) → Option (List V × List (Option V)))
    (ρ : List (Option V)) : Option (List V × List (Option V)) := match sf ρ with
  | none => none
  | some ds => loopF bf tf bodyF ds ρ

theorem turn2_0 (elt i₁ t₁ i₂ t₂ : Expr) (f₁ f₂ : List Expr) (scope : Scope) (pos : Pos) (it acc : Value) (env : Env) :
    compTurn (.ListComp elt [⟨t₁, i₁, f₁, 0⟩, ⟨t₂, i₂, f₂, 0⟩] scope pos) 0 it acc env = (do
      standAt i₁.pos
      match ← pyNext it with
      | none => pure (.done .next)
      | some v =>
        letOwnedTupleGo t₁ it v
        assign t₁ env v
        let mut ok := true
        for c in f₁ do
          if ok then ok ← PySem.isTrue c env (eval c env)
        if ok then (do
            let x ← eval i₂ env
            standAt i₂.pos
            let x ← foldedSetIterable i₂ env x
            let _ ← runOwn (.compStart (.ListComp elt [⟨t₁, i₁, f₁, 0⟩, ⟨t₂, i₂, f₂, 0⟩] scope pos) 1 (← holding [x] (pyIter x)) acc env) env)
        again (.compLoop (.ListComp elt [⟨t₁, i₁, f₁, 0⟩, ⟨t₂, i₂, f₂, 0⟩] scope pos) 0 it acc env)) := by
  unfold compTurn
  refine congrArg (fun f => standAt i₁.pos >>= f) (funext fun _ => congrArg (fun f => pyNext it >>= f) (funext fun r => ?_))
  cases r with
  | none => rfl
  | some v =>
    refine congrArg (fun f => letOwnedTupleGo t₁ it v >>= f) (funext fun _ => congrArg (fun f => assign t₁ env v >>= f) (funext fun _ => ?_))
    refine congrArg (fun f => _ >>= f) (funext fun ok => ?_)
    cases ok with
    | false => rfl
    | true =>
      show (do
            let x ← eval i₂ env
            standAt i₂.pos
            let x ← foldedSetIterable i₂ env x
            let y ← holding [x] (pyIter x)
            let _ ← runOwn (.compStart (.ListComp elt [⟨t₁, i₁, f₁, 0⟩, ⟨t₂, i₂, f₂, 0⟩] scope pos) 1 y acc env) env
            again (.compLoop (.ListComp elt [⟨t₁, i₁, f₁, 0⟩, ⟨t₂, i₂, f₂, 0⟩] scope pos) 0 it acc env)) = _
      simp only [if_true, bind_assoc, pure_bind]
theorem turn2_1 (elt i₁ t₁ i₂ t₂ : Expr) (f₁ f₂ : List Expr) (scope : Scope) (pos : Pos) (it acc : Value) (env : Env) :
    compTurn (.ListComp elt [⟨t₁, i₁, f₁, 0⟩, ⟨t₂, i₂, f₂, 0⟩] scope pos) 1 it acc env = (do
      standAt i₂.pos
      match ← pyNext it with
      | none => pure (.done .next)
      | some v =>
        letOwnedTupleGo t₂ it v
        assign t₂ env v
        let mut ok := true
        for c in f₂ do
          if ok then ok ← PySem.isTrue c env (eval c env)
        if ok then
          (do let _ ← call (.builtin "list.append") [acc, ← eval elt env])
        again (.compLoop (.ListComp elt [⟨t₁, i₁, f₁, 0⟩, ⟨t₂, i₂, f₂, 0⟩] scope pos) 1 it acc env)) := by rfl

theorem bd_inner {elt i₁ t₁ i₂ t₂ : Expr} {f₁ f₂ : List Expr} {scope : Scope} {pos : Pos} {D : Addr} {tw : List Addr} {sf : List (Option V) → Option (List V)}
    {bf : V → List (Option V) → Option (List (Option V))} {tf : List (Option V) → Option Bool} {ef : List (Option V) → Option V}
    (hs : SrOk cx n env xs i₂ sf) (hT : TgOk cx n env xs t₂ tw bf) (hS : TsOk cx n env xs f₂ tf) (hE : EvOk cx n env xs elt ef)
    (hfold : ∀ x, foldedSetIterable i₂ env x = pure x) (htw : ∀ a ∈ tw, a ≠ D ∧ a ∉ cx.tabs ∧ (a = env.locals ∨ ∃ p ∈ env.cells, p.2 = a)) :
    BdOk cx n env xs D tw (do
        let x ← eval i₂ env
        standAt i₂.pos
        let x ← foldedSetIterable i₂ env x
        let _ ← runOwn (.compStart (.ListComp elt [⟨t₁, i₁, f₁, 0⟩, ⟨t₂, i₂, f₂, 0⟩] scope pos) 1 (← holding [x] (pyIter x)) (.ref D) env) env) (innF sf bf tf (oneF ef)) := by
  intro ex A s ρ ρ' outs ys vs Q E hI hR hex F h hn hD hr hlen hQ
  unfold innF at h
  split at h
  · cases h
  · rename_i ds hsf
    refine wpAny_bind (wpAny_mono (hs (D :: ex) A s ρ ds _ E hI hR hex F hsf fun I fp P St s₁ g₁ S => ?_) (fun xv s₁ h₁ => wpAny_bind (wpAny_standAt (wpAny_bind (wpAny_of_eq (hfold xv) (wpAny_bind (wpAny_holding h₁)))))) fun _ _ x => x)
    refine wpAny_bind (wpAny_runOwn ?_)
    rw [mark_none]
    have hI₁ := g₁.inv hI
    have ht : D ∉ cx.tabs := fun q => absurd (cx.It _ q) (Nat.not_lt.mpr hn)
    have hD₁ : s₁.heap.PlainList D vs.toArray := hD.at fun o e => g₁.kp _ o (by simp) ht e
    have F₁ := F.go g₁
    have own : ∀ a ∈ tw, ∃ o, s.heap.get? a = some o ∧ seqish o = false ∧ ((∃ es ep, o.data = .dict es ep) ∨ ∃ v, o.data = .cell v) := by
      intro a ha
      rcases (htw a ha).2.2 with rfl | ⟨p, hp, rfl⟩
      · obtain ⟨m, ⟨o, es, ep, ho, hd, _⟩, _⟩ := F.loc
        exact ⟨o, ho, by unfold seqish; rw [hd], .inl ⟨_, _, hd⟩⟩
      · obtain ⟨v, o, ho, hd⟩ := F.ali p hp
        exact ⟨o, ho, by unfold seqish; rw [hd], .inr ⟨_, hd⟩⟩
    have own₁ : ∀ a ∈ tw, ∃ o, s₁.heap.get? a = some o ∧ seqish o = false ∧ ((∃ es ep, o.data = .dict es ep) ∨ ∃ v, o.data = .cell v) := fun a ha => by
      obtain ⟨o, e, q⟩ := own a ha
      exact ⟨o, g₁.kp a o (by simp) (htw a ha).2.1 e, q⟩
    have hDfp : ∀ b ∈ fp, b ≠ D := fun b hb q => S.fex b hb (q ▸ .head _)
    have hns : ∀ a ∈ I :: tw, ∀ o, s₁.heap.get? a = some o → seqish o = false := fun a ha o e => by
      rcases List.mem_cons.mp ha with rfl | ha
      · exact src_ns S S.st o e
      · obtain ⟨o', e', q, _⟩ := own₁ a ha
        rw [e'] at e; cases e; exact q
    have L : LoopAt cx D ex (I :: tw) env xs s₁ s₁ outs ρ := ⟨⟨GoB.refl _, hns⟩, hI₁, exLt hex g₁, F₁, vs, hD₁, hr.go0 g₁⟩
    have loop : codeAny (model cx.prog cx.w) A (.compLoop (.ListComp elt [⟨t₁, i₁, f₁, 0⟩, ⟨t₂, i₂, f₂, 0⟩] scope pos) 1 (.ref I) (.ref D) env)
        (fun r s' => match r with | .ok f => wpAny (model cx.prog cx.w) A (pure ()) Q E s' | .error e => cameBackBy (model cx.prog cx.w) A env E e s') s₁ := by
      refine loop_ok (exS := D :: ex) (twb := []) (W := I :: tw) (turn2_1 ..) hT hS (bd_elt hE) hR hn S ?_ ?_ (hDfp I S.inn) ?_ hns S.items L S.st h hlen fun s' L' => wpAny_pure ?_
      · intro b hb
        refine ⟨hDfp b hb, fun q => ?_, by simp⟩
        obtain ⟨o, e, k1, k2⟩ := S.fk b hb
        obtain ⟨o', e', _, hd⟩ := own₁ b q
        rw [e'] at e; cases e
        rcases hd with ⟨es, ep, hd⟩ | ⟨v, hd⟩
        · exact k1 _ _ hd
        · exact k2 _ hd
      · intro a ha
        rw [List.append_nil] at ha
        exact ⟨(htw a ha).1, (htw a ha).2.1⟩
      · intro a ha; simpa using ha
      · obtain ⟨vs', h1, h2⟩ := L'.acc
        refine hQ s' vs' ⟨(((GoB.up g₁).trans L'.go.toGoB).drop fun a ha => ?_), fun a ha o e => ?_⟩ L'.fr h1 h2
        · rcases List.mem_cons.mp ha with rfl | ha
          · exact .inl (.head _)
          · rcases List.mem_cons.mp ha with rfl | ha
            · exact .inr S.fr
            · exact .inl (.tail _ ha)
        · obtain ⟨o', e', q, _⟩ := own a ha
          rw [e'] at e; cases e; exact q
    exact codeAny_compStart_at (g := ⟨t₂, i₂, f₂, 0⟩) rfl rfl loop (S.W.self 0 _ _ _ S.st loop)

/-- two clauses -/
theorem ev_comp2 {elt i₁ t₁ i₂ t₂ : Expr} {f₁ f₂ : List Expr} {scope : Scope} {pos : Pos} {sf sf₂ : List (Option V) → Option (List V)} {cl : List (Str × Addr)} (tg ys : List Str)
    {bf bf₂ : V → List (Option V) → Option (List (Option V))} {tf tf₂ : List (Option V) → Option Bool} {ef : List (Option V) → Option V} (tw tw₂ : Addr → List Addr)
    (hs : SrOk cx n env xs i₁ sf) (hcl : clOf scope.names env.cells = some cl) (hkind : scope.kind = .function)
    (hnames : ∀ x ∈ scope.names, x.2 = .local → scope.names.lookup x.1 = some .local) (hchk : chk scope.names env.scope.names ys xs = true)
    (htw : ∀ C a, a ∈ tw C → a = C ∨ (C < a ∧ ∃ x, (x, a) ∈ cellsFrom (C + 1) scope.names cl))
    (htw₂ : ∀ C a, a ∈ tw₂ C → a = C ∨ (C < a ∧ ∃ x, (x, a) ∈ cellsFrom (C + 1) scope.names cl))
    (hT : ∀ C, TgOk cx n (cEnv scope cl C env) (tg ++ ys) t₁ (tw C) bf) (hS : ∀ C, TsOk cx n (cEnv scope cl C env) (tg ++ ys) f₁ tf)
    (hs₂ : ∀ C, SrOk cx n (cEnv scope cl C env) (tg ++ ys) i₂ sf₂)
    (hT₂ : ∀ C, TgOk cx n (cEnv scope cl C env) (tg ++ ys) t₂ (tw₂ C) bf₂) (hS₂ : ∀ C, TsOk cx n (cEnv scope cl C env) (tg ++ ys) f₂ tf₂) (hE : ∀ C, EvOk cx n (cEnv scope cl C env) (tg ++ ys) elt ef)
    (hfold : ∀ x, foldedSetIterable i₁ env x = pure x := by intro _; rfl) (hfold₂ : ∀ C x, foldedSetIterable i₂ (cEnv scope cl C env) x = pure x := by intro _ _; rfl) :
    EvOk cx n env xs (.ListComp elt [⟨t₁, i₁, f₁, 0⟩, ⟨t₂, i₂, f₂, 0⟩] scope pos) (compF tg.length sf bf tf (innF sf₂ bf₂ tf₂ (oneF ef))) := by
  intro ex A s ρ d Q E hI hR hex F hf hQ
  rw [eval_ListComp]
  have htwA : ∀ C a, a ∈ tw C ++ tw₂ C → a = C ∨ (C < a ∧ ∃ x, (x, a) ∈ cellsFrom (C + 1) scope.names cl) := fun C a ha => (List.mem_append.mp ha).elim (htw C a) (htw₂ C a)
  refine comp_block (loop := loopF bf tf (innF sf₂ bf₂ tf₂ (oneF ef))) (use := none) rfl rfl hs hfold hcl hkind hnames hchk (fun C => tw C ++ tw₂ C) htwA ?_ hI hR hex F hf
    fun D C s' m g hC r hm hn => post_none hQ g hC r hm hn
  intro C D I ds h₀ hs' fp P St s₀ outs ρ' R S hfp hDC hn hlp hlen hst hns hitems L hEnd
  have lo : ∀ a ∈ tw C ++ tw₂ C, C ≤ a := fun a ha => (htwA C a ha).elim (fun q => q ▸ Nat.le_refl _) fun q => Nat.le_of_lt q.1
  have far : ∀ a ∈ tw C ++ tw₂ C, a ≠ D ∧ a ∉ cx.tabs := fun a ha => by
    have h1 := lo a ha
    exact ⟨Nat.ne_of_gt (Nat.lt_of_lt_of_le hDC h1), fun q => absurd (cx.It _ q) (Nat.not_lt.mpr (Nat.le_trans hn (Nat.le_trans (Nat.le_of_lt hDC) h1)))⟩
  refine loop_ok (exS := ex) (twb := tw₂ C) (outs₀ := []) (turn2_0 ..) (hT C) (hS C) (bd_inner (hs₂ C) (hT₂ C) (hS₂ C) (hE C) (hfold₂ C) ?_) hR hn S ?_ far ?_ ?_ hns hitems L hst hlp (by simpa using hlen) (by simpa using hEnd)
  · intro a ha
    refine ⟨(far a (List.mem_append_right _ ha)).1, (far a (List.mem_append_right _ ha)).2, ?_⟩
    rcases htw₂ C a ha with q | ⟨_, x, hx⟩
    · exact .inl q
    · exact .inr ⟨_, hx, rfl⟩
  · intro b hb
    have h1 := hfp b hb
    have nb : ∀ a ∈ tw C ++ tw₂ C, b ≠ a := fun a ha q => absurd (Nat.lt_trans h1 hDC) (Nat.not_lt.mpr (q ▸ lo a ha))
    exact ⟨Nat.ne_of_lt h1, fun q => nb b (List.mem_append_left _ q) rfl, fun q => nb b (List.mem_append_right _ q) rfl⟩
  · exact Nat.ne_of_lt (hfp I S.inn)
  · intro a ha; simpa using ha

end Mine

open PySem PySem.W PyProof.Rows

namespace Mine
variable {cx : Cx} {n : Nat} {env : Env} {xs : List Str}

inductive Fl where
  | next (ρ : List (Option V))
  | ret (d : V)

def ownOf (env : Env) : List Addr := env.locals :: (env.cells.filter fun p => env.kindOf p.1 == some .cell).map (·.2)
theorem own_cases {env : Env} {a : Addr} (h : a ∈ ownOf env) : a = env.locals ∨ ∃ p ∈ env.cells, env.kindOf p.1 = some .cell ∧ p.2 = a := by
  rcases List.mem_cons.mp h with rfl | h
  · exact .inl rfl
  · obtain ⟨p, hp, rfl⟩ := List.mem_map.mp h
    exact .inr ⟨p, (List.mem_filter.mp hp).1, by simpa using (List.mem_filter.mp hp).2, rfl⟩
theorem own_addr {env : Env} {x : Str} (hk : env.kindOf x = some .local ∨ (env.kindOf x = some .cell ∧ (env.cells.lookup x).isSome = true)) : addrOf env x ∈ ownOf env := by
  rcases hk with hk | ⟨hk, hc⟩
  · rw [show addrOf env x = env.locals from if_pos hk]; exact .head _
  · obtain ⟨c, hc⟩ := Option.isSome_iff_exists.mp hc
    rw [show addrOf env x = c from by unfold addrOf; rw [if_neg (by rw [hk]; decide), hc]; rfl]
    exact .tail _ (List.mem_map.mpr ⟨(x, c), List.mem_filter.mpr ⟨mem_of_lookup hc, by simp [hk]⟩, rfl⟩)
theorem own_ob {ex : List Addr} {h : Heap} {ρ : List (Option V)} (F : FrOk cx ex env xs h ρ) {a : Addr} (ha : a ∈ ownOf env) :
    ∃ o, h.get? a = some o ∧ seqish o = false ∧ ¬ CodeObj o ∧ ((∃ es ep, o.data = .dict es ep) ∨ ∃ v, o.data = .cell v) ∧ cx.n₁ ≤ a := by
  rcases own_cases ha with rfl | ⟨p, hp, hkp, rfl⟩
  · obtain ⟨m, ⟨o, es, ep, ho, hd, _⟩, _⟩ := F.loc
    exact ⟨o, ho, by unfold seqish; rw [hd], (fun q => by obtain ⟨_, _, vs, e, _⟩ := q; rw [hd] at e; cases e), .inl ⟨_, _, hd⟩, F.ek.lo⟩
  · obtain ⟨v, o, ho, hd⟩ := F.ali p hp
    exact ⟨o, ho, by unfold seqish; rw [hd], (fun q => by obtain ⟨_, _, vs, e, _⟩ := q; rw [hd] at e; cases e), .inr ⟨_, hd⟩, (F.ek.cells p hp).2.2 hkp⟩

/-- objects that are no lists change -/
theorem Rel.ns {ex own : List Addr} {s s' : Shared} {d : V} {v : Value} (r : Rel cx ex s.heap d v) (g : GoB cx own s s') (ns : ∀ a ∈ own, ∀ o, s.heap.get? a = some o → seqish o = false) : Rel cx ex s'.heap d v :=
  r.moveS fun b o _ h2 q e => g.kp b o (fun z => by have := ns b z o e; rw [q] at this; cases this) h2 e
theorem RelL.ns {ex own : List Addr} {s s' : Shared} {d : List V} {v : List Value} (r : RelL cx ex s.heap d v) (g : GoB cx own s s') (ns : ∀ a ∈ own, ∀ o, s.heap.get? a = some o → seqish o = false) : RelL cx ex s'.heap d v :=
  r.moveS fun b o _ h2 q e => g.kp b o (fun z => by have := ns b z o e; rw [q] at this; cases this) h2 e
theorem Alive.ns {ex own : List Addr} {s s' : Shared} (h : Alive cx ex s.heap) (g : GoB cx own s s') (ns : ∀ a ∈ own, ∀ o, s.heap.get? a = some o → seqish o = false) : Alive cx ex s'.heap := fun b hb => by
  obtain ⟨t, o, e, q⟩ := h b hb
  exact ⟨t, o, g.kp b o (fun z => by have := ns b z o e; rw [q] at this; cases this) t e, q⟩
theorem own_ns {ex : List Addr} {h : Heap} {ρ : List (Option V)} (F : FrOk cx ex env xs h ρ) : ∀ a ∈ ownOf env, ∀ o, h.get? a = some o → seqish o = false := fun a ha o e => by
  obtain ⟨o', e', q, _⟩ := own_ob F ha
  rw [e'] at e; cases e; exact q

def StOk (cx : Cx) (n : Nat) (env : Env) (xs : List Str) (st : Stmt) (F : List (Option V) → Option Fl) : Prop :=
  ∀ (ex : List Addr) (A : Around) (s : Shared) (ρ : List (Option V)) (fl : Fl) (Q : Flow → Shared → Prop) (E : Value → Shared → Prop),
    cx.I s.heap → Room n A → Alive cx ex s.heap → FrOk cx ex env xs s.heap ρ → F ρ = some fl →
    (∀ ρ' s', GoB cx (ownOf env) s s' → FrOk cx ex env xs s'.heap ρ' → fl = .next ρ' → Q .next s') →
    (∀ d v s', GoB cx (ownOf env) s s' → Rel cx ex s'.heap d v → fl = .ret d → Q (.ret v) s') →
    wpAny (model cx.prog cx.w) A (exec st env) Q E s
def SsOk (cx : Cx) (n : Nat) (env : Env) (xs : List Str) (sts : List Stmt) (F : List (Option V) → Option Fl) : Prop :=
  ∀ (ex : List Addr) (A : Around) (s : Shared) (ρ : List (Option V)) (fl : Fl) (Q : Flow → Shared → Prop) (E : Value → Shared → Prop),
    cx.I s.heap → Room n A → Alive cx ex s.heap → FrOk cx ex env xs s.heap ρ → F ρ = some fl →
    (∀ ρ' s', GoB cx (ownOf env) s s' → FrOk cx ex env xs s'.heap ρ' → fl = .next ρ' → Q .next s') →
    (∀ d v s', GoB cx (ownOf env) s s' → Rel cx ex s'.heap d v → fl = .ret d → Q (.ret v) s') →
    wpAny (model cx.prog cx.w) A (execs sts env) Q E s

theorem ss_nil : SsOk cx n env xs [] (fun ρ => some (.next ρ)) := by
  intro ex A s ρ fl Q E hI hR hex F h hN hT
  cases h
  exact wpAny_execs_nil (hN ρ s (GoB.refl s) F rfl)
def seqF (f g : List (Option V) → Option Fl) (ρ : List (Option V)) : Option Fl := match f ρ with
  | none => none
  | some (.ret d) => some (.ret d)
  | some (.next ρ') => g ρ'
theorem ss_cons {st : Stmt} {sts : List Stmt} {f g : List (Option V) → Option Fl} (h₁ : StOk cx n env xs st f) (h₂ : SsOk cx n env xs sts g) : SsOk cx n env xs (st :: sts) (seqF f g) := by
  intro ex A s ρ fl Q E hI hR hex F h hN hT
  refine wpAny_execs_cons ?_
  unfold seqF at h
  split at h
  · cases h
  · rename_i d q
    cases h
    exact h₁ ex A s ρ _ _ _ hI hR hex F q (fun _ _ _ _ z => by cases z) fun d v s' g r z => hT d v s' g r z
  · rename_i ρ' q
    refine h₁ ex A s ρ _ _ _ hI hR hex F q (fun ρ₁ s₁ g₁ F₁ z => ?_) fun d v s' g r z => by cases z
    cases z
    exact h₂ ex A s₁ ρ' fl _ _ (g₁.inv hI) hR (hex.ns g₁ (own_ns F)) F₁ h (fun ρ₂ s₂ g₂ F₂ z => hN ρ₂ s₂ (g₁.trans g₂) F₂ z) fun d v s₂ g₂ r z => hT d v s₂ (g₁.trans g₂) r z

def asgF (i : Nat) (f : List (Option V) → Option V) (ρ : List (Option V)) : Option Fl := match f ρ with
  | none => none
  | some d => some (.next (setSlot ρ i (some d)))
theorem st_asg {x : Str} {px pos : Pos} {e : Expr} {f : List (Option V) → Option V} (i : Nat) (he : EvOk cx n env xs e f) (hi : xs[i]? = some x) (hu : ∀ j, xs[j]? = some x → j = i)
    (hk : env.kindOf x = some .local ∨ (env.kindOf x = some .cell ∧ (env.cells.lookup x).isSome = true))
    (hs : swapsWith e (some (.Name x px)) pos.line env = pure false := by rfl) : StOk cx n env xs (.Assign [.Name x px] e pos) (asgF i f) := by
  intro ex A s ρ fl Q E hI hR hex F h hN hT
  unfold asgF at h
  split at h
  · cases h
  · rename_i d q
    cases h
    refine wpAny_Assign_Name (he ex A s ρ d _ _ hI hR hex F q fun v s₁ g₁ r₁ => store_ok i (F.go g₁) r₁ hi hu hk fun s₂ g₂ F₂ => ?_) hs
    exact hN _ s₂ ((GoB.up g₁).trans (g₂.toGoB.mono fun a ha => List.mem_singleton.mp ha ▸ own_addr hk)) F₂ rfl

def tgF (bf : V → List (Option V) → Option (List (Option V))) (f : List (Option V) → Option V) (ρ : List (Option V)) : Option Fl := match f ρ with
  | none => none
  | some d => match bf d ρ with
    | none => none
    | some ρ' => some (.next ρ')
theorem st_tup {elts : List Expr} {k : Nat} {tp pos : Pos} {e : Expr} {tw : List Addr} {bf : V → List (Option V) → Option (List (Option V))} {f : List (Option V) → Option V} (he : EvOk cx n env xs e f)
    (ht : TgOk cx n env xs (.Tuple elts k tp) tw bf) (htw : ∀ a ∈ tw, a ∈ ownOf env)
    (hs : swapsWithSole [.Tuple elts k tp] e pos.line env = pure false := by rfl)
    (hw : swappedStores [.Tuple elts k tp] e env = pure none := by rfl) : StOk cx n env xs (.Assign [.Tuple elts k tp] e pos) (tgF bf f) := by
  intro ex A s ρ fl Q E hI hR hex F h hN hT
  unfold tgF at h
  split at h
  · cases h
  · rename_i d q
    split at h
    · cases h
    · rename_i ρ' hb
      cases h
      refine Assign_Tuple (he ex A s ρ d _ _ hI hR hex F q fun v s₁ g₁ r₁ => ?_) hs hw
      refine ht ex A s₁ ρ ρ' d v _ _ (g₁.inv hI) hR (exLt hex g₁) (F.go g₁) r₁ hb fun s₂ g₂ _ F₂ => ?_
      exact hN _ s₂ ((GoB.up g₁).trans (g₂.mono htw)) F₂ rfl

/-- x = [..] whose value is stored before the comprehension's own variables go -/
theorem st_used {elt iter target : Expr} {ifs : List Expr} {scope : Scope} {cpos : Pos} {sf : List (Option V) → Option (List V)} {cl : List (Str × Addr)} {x : Str} {px pos : Pos} (i : Nat) (tg ys : List Str)
    {bf : V → List (Option V) → Option (List (Option V))} {tf : List (Option V) → Option Bool} {ef : List (Option V) → Option V} (tw : Addr → List Addr)
    (hi : xs[i]? = some x) (hu : ∀ j, xs[j]? = some x → j = i) (hk : env.kindOf x = some .local)
    (hs : SrOk cx n env xs iter sf) (hcl : clOf scope.names env.cells = some cl) (hkind : scope.kind = .function)
    (hnames : ∀ x ∈ scope.names, x.2 = .local → scope.names.lookup x.1 = some .local) (hchk : chk scope.names env.scope.names ys xs = true)
    (htw : ∀ C a, a ∈ tw C → a = C ∨ (C < a ∧ ∃ x, (x, a) ∈ cellsFrom (C + 1) scope.names cl))
    (hT : ∀ C, TgOk cx n (cEnv scope cl C env) (tg ++ ys) target (tw C) bf) (hS : ∀ C, TsOk cx n (cEnv scope cl C env) (tg ++ ys) ifs tf) (hE : ∀ C, EvOk cx n (cEnv scope cl C env) (tg ++ ys) elt ef)
    (hsw : swapsWith (.ListComp elt [⟨target, iter, ifs, 0⟩] scope cpos) (some (.Name x px)) pos.line env = pure true := by rfl)
    (hfold : ∀ x, foldedSetIterable iter env x = pure x := by intro _; rfl) :
    StOk cx n env xs (.Assign [.Name x px] (.ListComp elt [⟨target, iter, ifs, 0⟩] scope cpos) pos) (asgF i (compF tg.length sf bf tf (oneF ef))) := by
  intro ex A s ρ fl Q E hI hR hex F h hN hT'
  unfold asgF at h
  split at h
  · cases h
  · rename_i d q
    cases h
    rw [exec_Assign_Name_used _ _ _ _ hsw]
    refine wpAny_bind (wpAny_standAt (wpAny_bind ?_))
    show wpAny _ A (do let _ ← comprehension (.ListComp elt [⟨target, iter, ifs, 0⟩] scope cpos) scope env _ (newList []) false (eval iter env) (some (assign (.Name x px) env))) _ _ s
    refine wpAny_bind (wpAny_mono (comp_block (loop := loopF bf tf (oneF ef)) (use := some (assign (.Name x px) env)) (Q := fun _ s' => Q .next s') rfl rfl hs hfold hcl hkind hnames hchk tw htw (loop1 tw htw hT hS hE hR) hI hR hex F q ?_)
      (fun _ s' hq => wpAny_pure (wpAny_pure hq)) fun _ _ e => e)
    intro D C s' m g hC r hm hn
    show wpAny _ A (assign (.Name x px) env (.ref D)) _ _ _
    refine PyProof.Rows.assign_Name (store_ok i (F.go g) r hi hu (.inl hk) fun s₂ g₂ F₂ => ?_)
    obtain ⟨o, es, ep, ho, hd, hrest⟩ := id hm
    have hCL : C ≠ addrOf env x := by
      rw [show addrOf env x = env.locals from if_pos hk]
      rintro rfl
      obtain ⟨m₀, ⟨o₀, _, _, ho₀, _⟩, _⟩ := F.loc
      rw [hC] at ho₀; cases ho₀
    have hCt : C ∉ cx.tabs := fun q => absurd (cx.It _ q) (Nat.not_lt.mpr hn)
    have ho₂ : s₂.heap.get? C = some o := g₂.toGoB.kp C o (fun q => hCL (List.mem_singleton.mp q)) hCt ho
    have hso : seqish o = false := by unfold seqish; rw [hd]
    have hco : ¬ CodeObj o := fun q => by obtain ⟨_, _, vs, e, _⟩ := q; rw [hd] at e; cases e
    refine ⟨m, hm.at' fun o e => g₂.toGoB.kp C o (fun q => hCL (List.mem_singleton.mp q)) hCt e, fun h' hs' => ?_⟩
    have g₃ : GoB cx [C] s₂ { s₂ with heap := h' } := GoB.same (tk := s₂.toks) ho₂ hco hn hs'
    refine hN _ _ (((GoB.up g).trans ((g₂.toGoB.mono fun a ha => ?_).trans (g₃.mono fun a ha => ?_))).drop (own := C :: ownOf env) fun a ha => ?_) (F₂.same hs' ho₂ hso ?_ fun v z => by rw [hd] at z; cases z) rfl
    · exact List.mem_cons_of_mem _ (List.mem_singleton.mp ha ▸ own_addr (.inl hk))
    · exact List.mem_singleton.mp ha ▸ .head _
    · rcases List.mem_cons.mp ha with rfl | ha
      · exact .inr hC
      · exact .inl ha
    · rw [show addrOf env x = env.locals from if_pos hk] at hCL; exact hCL

def ifF (t : List (Option V) → Option Bool) (f g : List (Option V) → Option Fl) (ρ : List (Option V)) : Option Fl := match t ρ with
  | none => none
  | some true => f ρ
  | some false => g ρ
theorem st_if {c : Expr} {b o : List Stmt} {pos : Pos} {t : List (Option V) → Option Bool} {f g : List (Option V) → Option Fl} (hc : TrOk cx n env xs c t) (hb : SsOk cx n env xs b f) (ho : SsOk cx n env xs o g) :
    StOk cx n env xs (.If c b o pos) (ifF t f g) := by
  intro ex A s ρ fl Q E hI hR hex F h hN hT
  refine wpAny_If ?_
  unfold ifF at h
  split at h
  · cases h
  · rename_i q
    refine hc ex A s ρ true _ _ hI hR hex F q fun s₁ g₁ => ?_
    rw [if_pos rfl]
    exact hb ex A s₁ ρ fl _ _ (g₁.inv hI) hR (exLt hex g₁) (F.go g₁) h (fun ρ₂ s₂ g₂ F₂ z => hN ρ₂ s₂ ((GoB.up g₁).trans g₂) F₂ z) fun d v s₂ g₂ r z => hT d v s₂ ((GoB.up g₁).trans g₂) r z
  · rename_i q
    refine hc ex A s ρ false _ _ hI hR hex F q fun s₁ g₁ => ?_
    rw [if_neg (by decide)]
    exact ho ex A s₁ ρ fl _ _ (g₁.inv hI) hR (exLt hex g₁) (F.go g₁) h (fun ρ₂ s₂ g₂ F₂ z => hN ρ₂ s₂ ((GoB.up g₁).trans g₂) F₂ z) fun d v s₂ g₂ r z => hT d v s₂ ((GoB.up g₁).trans g₂) r z
/-- an If whose second branch the run never takes -/
def onlyF (t : List (Option V) → Option Bool) (f : List (Option V) → Option Fl) (ρ : List (Option V)) : Option Fl := match t ρ with
  | some true => f ρ
  | _ => none
theorem st_if1 {c : Expr} {b o : List Stmt} {pos : Pos} {t : List (Option V) → Option Bool} {f : List (Option V) → Option Fl} (hc : TrOk cx n env xs c t) (hb : SsOk cx n env xs b f) : StOk cx n env xs (.If c b o pos) (onlyF t f) := by
  intro ex A s ρ fl Q E hI hR hex F h hN hT
  refine wpAny_If ?_
  unfold onlyF at h
  split at h
  · rename_i q
    refine hc ex A s ρ true _ _ hI hR hex F q fun s₁ g₁ => ?_
    rw [if_pos rfl]
    exact hb ex A s₁ ρ fl _ _ (g₁.inv hI) hR (exLt hex g₁) (F.go g₁) h (fun ρ₂ s₂ g₂ F₂ z => hN ρ₂ s₂ ((GoB.up g₁).trans g₂) F₂ z) fun d v s₂ g₂ r z => hT d v s₂ ((GoB.up g₁).trans g₂) r z
  · cases h
def elseF (t : List (Option V) → Option Bool) (f : List (Option V) → Option Fl) (ρ : List (Option V)) : Option Fl := match t ρ with
  | some false => f ρ
  | _ => none
theorem st_if0 {c : Expr} {b o : List Stmt} {pos : Pos} {t : List (Option V) → Option Bool} {f : List (Option V) → Option Fl} (hc : TrOk cx n env xs c t) (hb : SsOk cx n env xs o f) : StOk cx n env xs (.If c b o pos) (elseF t f) := by
  intro ex A s ρ fl Q E hI hR hex F h hN hT
  refine wpAny_If ?_
  unfold elseF at h
  split at h
  · rename_i q
    refine hc ex A s ρ false _ _ hI hR hex F q fun s₁ g₁ => ?_
    rw [if_neg (by decide)]
    exact hb ex A s₁ ρ fl _ _ (g₁.inv hI) hR (exLt hex g₁) (F.go g₁) h (fun ρ₂ s₂ g₂ F₂ z => hN ρ₂ s₂ ((GoB.up g₁).trans g₂) F₂ z) fun d v s₂ g₂ r z => hT d v s₂ ((GoB.up g₁).trans g₂) r z
  · cases h

def retF (f : List (Option V) → Option V) (ρ : List (Option V)) : Option Fl := match f ρ with
  | none => none
  | some d => some (.ret d)
theorem st_ret {e : Expr} {pos : Pos} {f : List (Option V) → Option V} (he : EvOk cx n env xs e f) : StOk cx n env xs (.Return (some e) pos) (retF f) := by
  intro ex A s ρ fl Q E hI hR hex F h hN hT
  unfold retF at h
  split at h
  · cases h
  · rename_i d q
    cases h
    exact wpAny_Return_some (he ex A s ρ d _ _ hI hR hex F q fun v s₁ g₁ r₁ => hT d v s₁ (GoB.up g₁) r₁ rfl)
theorem st_ret0 {pos : Pos} : StOk cx n env xs (.Return none pos) (fun _ => some (.ret .none)) := by
  intro ex A s ρ fl Q E hI hR hex F h hN hT
  cases h
  exact wpAny_Return_none (hT _ _ s (GoB.refl s) .none rfl)
def dropF (f : List (Option V) → Option V) (ρ : List (Option V)) : Option Fl := match f ρ with
  | none => none
  | some _ => some (.next ρ)
theorem st_expr {e : Expr} {pos : Pos} {f : List (Option V) → Option V} (he : EvOk cx n env xs e f) (hi : interactive env = false := by rfl) (hs : swapsWith e none pos.line env = pure false := by rfl) :
    StOk cx n env xs (.Expr e pos) (dropF f) := by
  intro ex A s ρ fl Q E hI hR hex F h hN hT
  unfold dropF at h
  split at h
  · cases h
  · rename_i d q
    cases h
    exact wpAny_Expr_any (he ex A s ρ d _ _ hI hR hex F q fun v s₁ g₁ r₁ => hN ρ s₁ (GoB.up g₁) (F.go g₁) rfl) hi hs

def whileF (t : List (Option V) → Option Bool) (f : List (Option V) → Option Fl) : Nat → List (Option V) → Option Fl
  | 0, _ => none
  | k + 1, ρ => match t ρ with
    | none => none
    | some false => some (.next ρ)
    | some true => match f ρ with
      | none => none
      | some (.ret d) => some (.ret d)
      | some (.next ρ') => whileF t f k ρ'
theorem st_while {c : Expr} {b : List Stmt} {pos : Pos} {t : List (Option V) → Option Bool} {f : List (Option V) → Option Fl} (k : Nat) (hc : TrOk cx n env xs c t) (hb : SsOk cx n env xs b f) :
    StOk cx n env xs (.While c b [] pos) (whileF t f k) := by
  intro ex A s ρ fl Q E hI hR hex F h hN hT
  refine wpAny_While ?_
  refine codeAny_whileLoop (fun k s₁ => ∃ ρ₁, GoB cx (ownOf env) s s₁ ∧ cx.I s₁.heap ∧ Alive cx ex s₁.heap ∧ FrOk cx ex env xs s₁.heap ρ₁ ∧ whileF t f k ρ₁ = some fl) ?_ k ⟨ρ, GoB.refl s, hI, hex, F, h⟩
  rintro k s₁ ⟨ρ₁, g₁, hI₁, hex₁, F₁, h₁⟩
  cases k with
  | zero => cases h₁
  | succ k =>
    unfold whileF at h₁
    split at h₁
    · cases h₁
    · rename_i q
      cases h₁
      refine hc ex A s₁ ρ₁ false _ _ hI₁ hR hex₁ F₁ q fun s₂ g₂ => ?_
      rw [if_neg (by decide)]
      exact wpAny_execs_nil (hN ρ₁ s₂ (g₁.trans (GoB.up g₂)) (F₁.go g₂) rfl)
    · rename_i q
      refine hc ex A s₁ ρ₁ true _ _ hI₁ hR hex₁ F₁ q fun s₂ g₂ => ?_
      rw [if_pos rfl]
      split at h₁
      · cases h₁
      · rename_i d q'
        cases h₁
        exact hb ex A s₂ ρ₁ _ _ _ (g₂.inv hI₁) hR (exLt hex₁ g₂) (F₁.go g₂) q' (fun _ _ _ _ z => by cases z) fun d v s₃ g₃ r z => hT d v s₃ ((g₁.trans (GoB.up g₂)).trans g₃) r z
      · rename_i ρ' q'
        refine hb ex A s₂ ρ₁ _ _ _ (g₂.inv hI₁) hR (exLt hex₁ g₂) (F₁.go g₂) q' (fun ρ₃ s₃ g₃ F₃ z => ?_) fun d v s₃ g₃ r z => by cases z
        cases z
        exact ⟨k, Nat.lt_succ_self _, ρ', (g₁.trans (GoB.up g₂)).trans g₃, g₃.inv (g₂.inv hI₁), (exLt hex₁ g₂).ns g₃ (own_ns (F₁.go g₂)), F₃, h₁⟩

def forF (bf : V → List (Option V) → Option (List (Option V))) (f : List (Option V) → Option Fl) : List V → List (Option V) → Option Fl
  | [], ρ => some (.next ρ)
  | d :: ds, ρ => match bf d ρ with
    | none => none
    | some ρ₁ => match f ρ₁ with
      | none => none
      | some (.ret v) => some (.ret v)
      | some (.next ρ₂) => forF bf f ds ρ₂
def forsF (sf : List (Option V) → Option (List V)) (bf : V → List (Option V) → Option (List (Option V))) (f : List (Option V) → Option Fl) (ρ : List (Option V)) : Option Fl := match sf ρ with
  | none => none
  | some ds => forF bf f ds ρ
theorem st_for {target iter : Expr} {b : List Stmt} {pos : Pos} {sf : List (Option V) → Option (List V)} {tw : List Addr} {bf : V → List (Option V) → Option (List (Option V))} {f : List (Option V) → Option Fl}
    (hs : SrOk cx n env xs iter sf) (ht : TgOk cx n env xs target tw bf) (htw : ∀ a ∈ tw, a ∈ ownOf env) (hb : SsOk cx n env xs b f)
    (hfold : ∀ x, foldedSetIterable iter env x = pure x := by intro _; rfl) : StOk cx n env xs (.For target iter b [] pos) (forsF sf bf f) := by
  intro ex A s ρ fl Q E hI hR hex F h hN hT
  unfold forsF at h
  split at h
  · cases h
  · rename_i ds hsf
    refine wpAny_For ?_ hfold
    refine hs ex A s ρ ds _ E hI hR hex F hsf fun I fp P St s₁ g₁ S => ?_
    have hI₁ := g₁.inv hI
    have F₁ := F.go g₁
    have hex₁ := exLt hex g₁
    have hIt : I ∉ cx.tabs := fun q => absurd (cx.It _ q) (Nat.not_lt.mpr S.lo)
    have ns₁ : ∀ a ∈ I :: ownOf env, ∀ o, s₁.heap.get? a = some o → seqish o = false := fun a ha o e => by
      rcases List.mem_cons.mp ha with rfl | ha
      · exact src_ns S S.st o e
      · exact own_ns F₁ a ha o e
    have hfp : ∀ b ∈ fp, b ∉ ownOf env := fun b hb q => by
      obtain ⟨o, e, k1, k2⟩ := S.fk b hb
      obtain ⟨o', e', _, _, hd, _⟩ := own_ob F₁ q
      rw [e'] at e; cases e
      rcases hd with ⟨es, ep, hd⟩ | ⟨v, hd⟩
      · exact k1 _ _ hd
      · exact k2 _ hd
    have fin : ∀ s', GoB cx (I :: ownOf env) s₁ s' → GoB cx (ownOf env) s s' := fun s' g' =>
      ((GoB.up g₁).trans g').drop fun a ha => (List.mem_cons.mp ha).elim (fun q => .inr (q ▸ S.fr)) .inl
    refine codeAny_forLoop_any (fun k s₂ => ∃ i ρ₂, k = ds.length + 1 - i ∧ i ≤ ds.length ∧ GoB cx (I :: ownOf env) s₁ s₂ ∧ cx.I s₂.heap ∧ Alive cx ex s₂.heap ∧ FrOk cx ex env xs s₂.heap ρ₂ ∧ St i s₂.heap ∧ forF bf f (ds.drop i) ρ₂ = some fl) ?_ (ds.length + 1)
      ⟨0, ρ, rfl, Nat.zero_le _, GoB.refl _, hI₁, hex₁, F₁, S.st, by simpa using h⟩
    rintro k s₂ ⟨i, ρ₂, rfl, hi, g₂, hI₂, hex₂, F₂, st, hF⟩
    have next : ∀ (h' : Heap) (tk : Nat), (∀ b o, b ∉ [I] → s₂.heap.get? b = some o → h'.get? b = some o) → GoB cx [I] s₂ { s₂ with heap := h', toks := tk } := fun h' tk hk => by
      refine ⟨fun b o h1 _ e => hk b o h1 e, fun inv => cx.Ik _ _ inv fun b o e hb => hk b o (fun q => ?_) e, rfl, rfl, rfl⟩
      rw [List.mem_singleton.mp q] at hb e
      obtain ⟨o', vs', e', hd, hc⟩ := S.obj i _ st
      rw [e'] at e; cases e
      rcases hb with hb | hb
      · exact absurd hb (Nat.not_lt.mpr S.lo)
      · exact S.nco i _ st _ e' hb
    have nsI : ∀ a ∈ [I], ∀ o, s₂.heap.get? a = some o → seqish o = false := fun a ha o e => by rw [List.mem_singleton.mp ha] at e; exact src_ns S st o e
    have nextF : ∀ (h' : Heap) (tk : Nat), (∀ b o, b ∉ [I] → s₂.heap.get? b = some o → h'.get? b = some o) → FrOk cx ex env xs h' ρ₂ := fun h' tk hk => by
      obtain ⟨o', vs', e', hd, hc⟩ := S.obj i _ st
      exact F₂.other (s' := { s₂ with heap := h', toks := tk }) (fun d v r => r.ns (next h' tk hk) nsI) (fun b o hb _ e => hk b o (by simpa using hb) e) e' (fun es ep z => by rw [hd] at z; cases z) (fun v z => by rw [hd] at z; cases z)
    by_cases hlt : i < ds.length
    · refine S.W.item i s₂ _ _ hlt st fun v h₁ tk₁ hP st₁ hk₁ => ?_
      have g₃ := next h₁ tk₁ hk₁
      obtain ⟨o₁, vs₁, eo₁, hd₁, hc₁⟩ := S.obj (i + 1) _ st₁
      refine letOwned_ok (s := { s₂ with heap := h₁, toks := tk₁ }) eo₁ hd₁ hc₁ ?_
      have hdrop : ds.drop i = ds[i] :: ds.drop (i + 1) := List.drop_eq_getElem_cons hlt
      rw [hdrop] at hF
      unfold forF at hF
      have rv : Rel cx ex h₁ ds[i] v := ((S.items i v _ hP (by rw [List.getElem?_eq_getElem hlt])).ns g₂ ns₁).ns g₃ nsI
      split at hF
      · cases hF
      · rename_i ρ₃ hbf
        refine ht ex A { s₂ with heap := h₁, toks := tk₁ } ρ₂ ρ₃ ds[i] v _ _ (g₃.inv hI₂) hR (hex₂.ns g₃ nsI) (nextF h₁ tk₁ hk₁) rv hbf fun s₄ g₄ own₄ F₄ => ?_
        have ns₄ : ∀ a ∈ tw, ∀ o, h₁.get? a = some o → seqish o = false := fun a ha o e => by obtain ⟨o', e', q, _⟩ := own₄ a ha; have e' : h₁.get? a = some o' := e'; rw [e'] at e; cases e; exact q
        have hex₄ : Alive cx ex s₄.heap := (hex₂.ns g₃ nsI).ns g₄ ns₄
        have st₄ : St (i + 1) s₄.heap := S.W.frame _ _ _ st₁ fun b hb o e => g₄.kp b o (fun q => hfp b hb (htw b q)) (S.fpo b hb).1 e
        have gI : GoB cx (I :: ownOf env) s₁ s₄ := (g₂.trans (g₃.mono fun a ha => List.mem_singleton.mp ha ▸ .head _)).trans (g₄.mono fun a ha => .tail _ (htw a ha))
        split at hF
        · cases hF
        · rename_i d q
          cases hF
          refine hb ex A s₄ ρ₃ _ _ _ (g₄.inv (g₃.inv hI₂)) hR hex₄ F₄ q (fun _ _ _ _ z => by cases z) fun d v s₅ g₅ r z => ?_
          exact hT d v s₅ (fin s₅ (gI.trans (g₅.mono fun a ha => .tail _ ha))) r z
        · rename_i ρ₅ q
          refine hb ex A s₄ ρ₃ _ _ _ (g₄.inv (g₃.inv hI₂)) hR hex₄ F₄ q (fun ρ₆ s₅ g₅ F₅ z => ?_) fun d v s₅ g₅ r z => by cases z
          cases z
          refine ⟨ds.length + 1 - (i + 1), by omega, i + 1, ρ₅, rfl, hlt, gI.trans (g₅.mono fun a ha => .tail _ ha), g₅.inv (g₄.inv (g₃.inv hI₂)), hex₄.ns g₅ (own_ns F₄), F₅, ?_, hF⟩
          exact S.W.frame _ _ _ st₄ fun b hb o e => g₅.kp b o (hfp b hb) (S.fpo b hb).1 e
    · have hin : i = ds.length := Nat.le_antisymm hi (Nat.not_lt.mp hlt)
      subst hin
      refine S.W.done s₂ _ _ st fun h₁ tk₁ hk₁ => wpAny_execs_nil ?_
      rw [List.drop_length] at hF
      unfold forF at hF
      cases hF
      exact hN ρ₂ _ (fin _ (g₂.trans ((next h₁ tk₁ hk₁).mono fun a ha => List.mem_singleton.mp ha ▸ .head _))) (nextF h₁ tk₁ hk₁) rfl

end Mine

open PySem PySem.W PyProof.Rows

namespace Mine
variable {cx : Cx} {n : Nat} {env : Env} {xs : List Str}

theorem nodup_uniq : ∀ {xs : List Str} (_ : xs.Nodup) {i j : Nat} {x : Str}, xs[i]? = some x → xs[j]? = some x → j = i
  | [], _, i, _, _, hi, _ => by simp at hi
  | y :: ys, h, 0, 0, x, hi, hj => rfl
  | y :: ys, h, 0, j + 1, x, hi, hj => by
    have e : y = x := by simpa using hi
    have := List.mem_of_getElem? (show ys[j]? = some x by simpa using hj)
    exact absurd (e ▸ this) (List.nodup_cons.mp h).1
  | y :: ys, h, i + 1, 0, x, hi, hj => by
    have e : y = x := by simpa using hj
    have := List.mem_of_getElem? (show ys[i]? = some x by simpa using hi)
    exact absurd (e ▸ this) (List.nodup_cons.mp h).1
  | y :: ys, h, i + 1, j + 1, x, hi, hj => by
    rw [nodup_uniq (List.nodup_cons.mp h).2 (show ys[i]? = some x by simpa using hi) (show ys[j]? = some x by simpa using hj)]

theorem cellsFrom_keeps (x : Str) : ∀ (names : List (Str × NameKind)) (k : Nat) (acc : List (Str × Addr)), (acc.lookup x).isSome = true → ((cellsFrom k names acc).lookup x).isSome = true
  | [], _, _, h => h
  | (y, kd) :: r, k, acc, h => by
    unfold cellsFrom
    split
    · refine cellsFrom_keeps x r _ _ ?_
      rw [List.lookup_cons]
      split
      · rfl
      · exact h
    · exact cellsFrom_keeps x r _ _ h
theorem cellsFrom_has (x : Str) : ∀ (names : List (Str × NameKind)) (k : Nat) (acc : List (Str × Addr)), (x, NameKind.cell) ∈ names → ((cellsFrom k names acc).lookup x).isSome = true
  | (y, kd) :: r, k, acc, h => by
    unfold cellsFrom
    rcases List.mem_cons.mp h with e | h
    · cases e
      rw [if_pos (by decide)]
      refine cellsFrom_keeps x r _ _ ?_
      rw [List.lookup_cons]; simp
    · split <;> exact cellsFrom_has x r _ _ h

theorem set_mid (pre : List (Option V)) (x y : Option V) (r : List (Option V)) : setSlot (pre ++ y :: r) pre.length x = pre ++ x :: r := by
  induction pre with
  | nil => rfl
  | cons p pre ih => exact congrArg (p :: ·) ih

theorem bind_all {ex : List Addr} {A : Around} (hxs : xs.Nodup) (rc : List (Option V)) : ∀ (names : List Str) (vs : List Value) (ds : List V) (pre : List (Option V)) (s : Shared) (Q : Shared → Prop) (E : Value → Shared → Prop), names.length = vs.length →
    RelL cx ex s.heap ds vs → (∀ j x, names[j]? = some x → xs[pre.length + j]? = some x) → (∀ x ∈ names, env.kindOf x = some .local ∨ (env.kindOf x = some .cell ∧ (env.cells.lookup x).isSome = true)) →
    FrOk cx ex env xs s.heap (pre ++ nones names.length rc) → (∀ s', GoB cx (ownOf env) s s' → FrOk cx ex env xs s'.heap (pre ++ ds.map some ++ rc) → Q s') →
    wpAny (model cx.prog cx.w) A (forIn (names.zip vs) PUnit.unit fun x _ => do storeName env x.1 x.2; pure (ForInStep.yield PUnit.unit)) (fun _ s' => Q s') E s
  | [], [], ds, pre, s, Q, E, hl, r, hx, hk, F, hQ => by
    cases r
    refine wpAny_pure (hQ s (GoB.refl s) ?_)
    simpa [nones] using F
  | [], _ :: _, _, _, _, _, _, hl, _, _, _, _, _ => by cases hl
  | _ :: _, [], _, _, _, _, _, hl, _, _, _, _, _ => by cases hl
  | x :: names, v :: vs, ds, pre, s, Q, E, hl, r, hx, hk, F, hQ => by
    cases r with
    | cons r1 r2 =>
      rename_i d ds
      rw [List.zip_cons_cons, List.forIn_cons]
      have h0 : xs[pre.length]? = some x := by simpa using hx 0 x rfl
      refine wpAny_bind (wpAny_bind (store_ok pre.length F r1 h0 (fun j hj => nodup_uniq hxs h0 hj) (hk x (.head _)) fun s₁ g₁ F₁ => wpAny_pure ?_))
      have g₁' : GoB cx (ownOf env) s s₁ := g₁.toGoB.mono fun a ha => List.mem_singleton.mp ha ▸ own_addr (hk x (.head _))
      refine bind_all hxs rc names vs ds (pre ++ [some d]) s₁ Q E (by simpa using hl) (r2.ns g₁' (own_ns F)) (fun j y hj => ?_) (fun y hy => hk y (.tail _ hy)) ?_ fun s₂ g₂ F₂ => hQ s₂ (g₁'.trans g₂) ?_
      · have := hx (j + 1) y (by simpa using hj)
        rw [List.length_append, List.length_singleton, Nat.add_assoc, Nat.add_comm 1 j]; exact this
      · rw [show (x :: names).length = names.length + 1 from rfl, nones, set_mid] at F₁
        simpa using F₁
      · simpa using F₂

def fEnv (scope : Scope) (L : Addr) (cl : List (Str × Addr)) (q : Str) (fa : Addr) (cd : Value) : Env := newEnv scope L mainGlobals (cellsFrom (L + 1) scope.names cl) q (some fa) cd none builtinsNs

def endF (o : Option Fl) : Option V := match o with
  | none => none
  | some (.ret d) => some d
  | some (.next _) => some .none

/-- a contract for one list of addresses to be avoided -/
def FnAt (cx : Cx) (n : Nat) (ex : List Addr) (f : Value) (Φ : List V → Option V) : Prop :=
  ∀ (A : Around) (s : Shared) (vs : List Value) (ds : List V) (d : V) (Q : Value → Shared → Prop) (E : Value → Shared → Prop),
    cx.I s.heap → Room n A → Alive cx ex s.heap → RelL cx ex s.heap ds vs → Φ ds = some d →
    (∀ v s', Go cx s s' → Rel cx ex s'.heap d v → Q v s') → wpAny (model cx.prog cx.w) A (call f vs) Q E s

/-- what the binder does with the values of a call -/
def BindOk (cx : Cx) (h : Heap) (fd : FuncData) (names : List Str) (pf : List V → Option (List V)) : Prop :=
  ∀ ex s vs ds ds', s.heap = h → RelL cx ex s.heap ds vs → pf ds = some ds' → ∃ vs', BindsTo s fd ⟨vs, []⟩ (names.zip vs') ∧ RelL cx ex s.heap ds' vs' ∧ names.length = vs'.length
def FunIs (cx : Cx) (h : Heap) (a : Addr) (names : List Str) (pf : List V → Option (List V)) (scope : Scope) (body : List Stmt) (cl : List (Str × Addr)) (K : Value → Str → Prop) : Prop :=
  ∃ o fd, h.get? a = some o ∧ o.data = .func fd ∧ fd.scope = scope ∧ fd.body = .stmts body ∧ fd.globals = mainGlobals ∧ fd.builtins = builtinsNs ∧ fd.closure = cl ∧ h.CodeRec fd.code fd.qualname ∧ BindOk cx h fd names pf ∧ K fd.code fd.qualname

/-- a call, up to the body of the function -/
theorem call_skel {xs : List Str} {a : Addr} {names : List Str} {scope : Scope} {body : List Stmt} {cl : List (Str × Addr)} {pf : List V → Option (List V)} {ex : List Addr} {K : Value → Str → Prop} (rc : List (Option V))
    (hfun : ∀ h, cx.I h → FunIs cx h a names pf scope body cl K)
    (hkind : scope.kind = .function) (hco : scope.isCoroutine = false) (hgen : scope.isGenerator = false)
    (hxs : xs.Nodup) (hn : ∀ (j : Nat) (x : Str), names[j]? = some x → xs[j]? = some x)
    (hpar : ∀ x ∈ names, scope.names.lookup x = some .local ∨ scope.names.lookup x = some .cell)
    (hcl : ∀ p ∈ cl, scope.names.lookup p.1 = some .free) (hgood : Good cl)
    (hcap : ∀ h, cx.I h → (∀ p ∈ cl, p.2 ∉ cx.tabs ∧ ∃ v, h.IsCell p.2 v) ∧ ∀ (i : Nat) (x : Str) (d : V), xs[i]? = some x → slot (nones names.length rc) i = some d → scope.names.lookup x = some .free ∧ isCell scope.names x = false ∧ ∃ a v, cl.lookup x = some a ∧ h.IsCell a (some v) ∧ Rel cx ex h d v)
    {A : Around} {s : Shared} {vs : List Value} {ds ds' : List V} {Q : Value → Shared → Prop} {E : Value → Shared → Prop}
    (hI : cx.I s.heap) (hR : Room (n + 1) A) (hex : Alive cx ex s.heap) (hr : RelL cx ex s.heap ds vs) (hpf : pf ds = some ds')
    (hB : ∀ L q cd s₂ E', (∃ qn, q = qn ++ (".<locals>." : Str) ∧ K cd qn) → (∀ X s', GoB cx (X ++ ownOf (fEnv scope L cl q a cd)) s₂ s' → GoB cx X s s') → GoB cx (ownOf (fEnv scope L cl q a cd)) s s₂ → (∀ a ∈ ownOf (fEnv scope L cl q a cd), s.heap.get? a = none) → cx.I s₂.heap → Alive cx ex s₂.heap →
      FrOk cx ex (fEnv scope L cl q a cd) xs s₂.heap (ds'.map some ++ rc) → Room n (A.deeper (fEnv scope L cl q a cd)) →
      wpAny (model cx.prog cx.w) (A.deeper (fEnv scope L cl q a cd)) (execs body (fEnv scope L cl q a cd)) (fun f s' => Q (match f with | .ret v => v | _ => .none) s') E' s₂) :
    wpAny (model cx.prog cx.w) A (call (.ref a) vs) Q E s := by
  obtain ⟨o, fd, ho, hd, hsc, hbo, hgl, hbl, hclo, hcd, hbi, hK⟩ := hfun _ hI
  obtain ⟨vs', hb, hr', hlen⟩ := hbi ex s vs ds ds' rfl hr hpf
  refine wpAny_call (codeAny_call_function hR.lim ho hd (hsc ▸ hco) (hsc ▸ hgen) hbo hcd (hb _ _ _ _ ?_))
  rw [hsc, hgl, hbl, hclo]
  refine wp_newEnv fun h₁ k₁ ns₁ cells₁ => ?_
  obtain ⟨hcap1, hcap2⟩ := hcap _ hI
  have hcells := cells₁ (fun p hp => by obtain ⟨_, v, o, e, _⟩ := hcap1 p hp; exact Heap.lt_size e) hgood
  have g₁ : Go cx s { s with heap := h₁ } := Go.keep (tk := s.toks) k₁
  have hI₁ := g₁.inv hI
  generalize hL : s.heap.objs.size = L at *
  have hLn : cx.n₁ ≤ L := hL ▸ new_lo hI
  have hnone : s.heap.get? L = Option.none := none_of_le (by rw [hL]; exact Nat.le_refl _)
  have hrel : ∀ {d v}, Rel cx ex s.heap d v → Rel cx ex h₁ d v := fun r => r.move fun b o h1 _ e => ⟨h1, k₁ b o e⟩
  have hlook : ∀ x, (fEnv scope L cl (fd.qualname ++ ".<locals>.") a fd.code).kindOf x = scope.names.lookup x := fun x => rfl
  have F₀ : FrOk cx ex (fEnv scope L cl (fd.qualname ++ ".<locals>.") a fd.code) xs h₁ (nones names.length rc) := by
    refine ⟨⟨hkind, rfl, rfl, hLn, fun p hp => ?_, fun x y b hx hy => hcells.1 _ (mem_of_lookup hx) _ (mem_of_lookup hy) rfl⟩, ⟨_, ns₁, fun i x d h1 h2 h3 => ?_⟩, fun i x d h1 h2 h3 => ?_, fun p hp => ?_⟩
    · rcases hcells.2 p hp with z | ⟨z, _⟩
      · obtain ⟨q1, v, o, e, _⟩ := hcap1 p z
        have hlt := Heap.lt_size e
        rw [hL] at hlt
        refine ⟨q1, Nat.ne_of_lt hlt, fun hk => ?_⟩
        rw [hlook, hcl p z] at hk; cases hk
      · have hlo : cx.n₁ ≤ p.2 := Nat.le_trans hLn (Nat.le_of_succ_le z)
        exact ⟨fun q => absurd (cx.It _ q) (Nat.not_lt.mpr hlo), Nat.ne_of_gt z, fun _ => hlo⟩
    · rw [hlook] at h3
      rw [(hcap2 i x d h1 h2).1] at h3; cases h3
    · obtain ⟨q1, q2, b, v, q3, q4, q5⟩ := hcap2 i x d h1 h2
      refine ⟨b, v, ?_, q4.keeps k₁, hrel q5⟩
      show (cellsFrom (L + 1) scope.names cl).lookup x = some b
      rw [cellsFrom_other x _ _ _ q2]; exact q3
    · rcases hcells.2 p hp with z | ⟨_, z⟩
      · obtain ⟨_, v, q⟩ := hcap1 p z
        exact ⟨v, q.keeps k₁⟩
      · exact ⟨none, z⟩
  have hfr : ∀ b ∈ ownOf (fEnv scope L cl (fd.qualname ++ ".<locals>.") a fd.code), s.heap.get? b = none := fun b hb => by
    rcases own_cases hb with rfl | ⟨p, hp, hk, rfl⟩
    · exact hnone
    · rcases hcells.2 p hp with z | ⟨z, _⟩
      · rw [hlook, hcl p z] at hk; cases hk
      · exact none_of_le (by rw [hL]; exact Nat.le_of_succ_le z)
  refine bind_all (env := fEnv scope L cl (fd.qualname ++ ".<locals>.") a fd.code) hxs rc names vs' ds' [] { s with heap := h₁ } (fun s' => s'.heap.NoLimit ∧ codeAny (model cx.prog cx.w) A (.func body (fEnv scope L cl (fd.qualname ++ ".<locals>.") a fd.code)) _ s') _ hlen (hr'.move fun b o h1 _ e => ⟨h1, k₁ b o e⟩) (by simpa using hn)
    (fun x hx => ?_) F₀ fun s₂ g₂ F₂ => ?_
  · rcases hpar x hx with h | h
    · exact .inl h
    · exact .inr ⟨h, cellsFrom_has x _ _ _ (mem_of_lookup h)⟩
  · have hI₂ := g₂.inv hI₁
    have g₁₂ : GoB cx (ownOf (fEnv scope L cl (fd.qualname ++ ".<locals>.") a fd.code)) s s₂ := (GoB.up g₁).trans g₂
    refine ⟨cx.Il _ hI₂, codeAny_func ?_⟩
    rw [List.nil_append] at F₂
    exact hB L (fd.qualname ++ ".<locals>.") fd.code s₂ _ ⟨_, rfl, hK⟩ (fun X s' g => ((g₁₂.mono fun b hb => List.mem_append_right X hb).trans g).drop fun b hb => (List.mem_append.mp hb).imp id (hfr b)) g₁₂ hfr hI₂ ((exLt hex g₁).ns g₂ (own_ns F₀)) F₂ hR.deeper

theorem fn_body {xs : List Str} {a : Addr} {names : List Str} {scope : Scope} {body : List Stmt} {cl : List (Str × Addr)} {pf : List V → Option (List V)} {F : List (Option V) → Option Fl} {ex : List Addr} {K : Value → Str → Prop} (rc : List (Option V))
    (hfun : ∀ h, cx.I h → FunIs cx h a names pf scope body cl K)
    (hkind : scope.kind = .function) (hco : scope.isCoroutine = false) (hgen : scope.isGenerator = false)
    (hxs : xs.Nodup) (hn : ∀ (j : Nat) (x : Str), names[j]? = some x → xs[j]? = some x)
    (hpar : ∀ x ∈ names, scope.names.lookup x = some .local ∨ scope.names.lookup x = some .cell)
    (hcl : ∀ p ∈ cl, scope.names.lookup p.1 = some .free) (hgood : Good cl)
    (hcap : ∀ h, cx.I h → (∀ p ∈ cl, p.2 ∉ cx.tabs ∧ ∃ v, h.IsCell p.2 v) ∧ ∀ (i : Nat) (x : Str) (d : V), xs[i]? = some x → slot (nones names.length rc) i = some d → scope.names.lookup x = some .free ∧ isCell scope.names x = false ∧ ∃ a v, cl.lookup x = some a ∧ h.IsCell a (some v) ∧ Rel cx ex h d v)
    (hB : ∀ L q cd, SsOk cx n (fEnv scope L cl q a cd) xs body F) :
    FnAt cx (n + 1) ex (.ref a) (fun ds => match pf ds with | none => none | some ds' => endF (F (ds'.map some ++ rc))) := by
  intro A s vs ds d Q E hI hR hex hr hΦ hQ
  dsimp only at hΦ
  split at hΦ
  · cases hΦ
  · rename_i ds' hpf
    refine call_skel rc hfun hkind hco hgen hxs hn hpar hcl hgood hcap hI hR hex hr hpf fun L q cd s₂ E' _ fin _ _ hI₂ hex₂ F₂ hR₂ => ?_
    cases hF : F (ds'.map some ++ rc) with
    | none => rw [hF] at hΦ; cases hΦ
    | some fl =>
      rw [hF] at hΦ
      refine hB L q cd ex _ s₂ _ fl _ _ hI₂ hR₂ hex₂ F₂ hF (fun ρ' s' g _ e => ?_) fun d' v s' g r e => ?_
      · subst e
        cases hΦ
        exact hQ _ s' (fin [] s' g) .none
      · subst e
        cases hΦ
        exact hQ v s' (fin [] s' g) r

def scalar : V → Bool
  | .list _ => false
  | .tup _ => false
  | _ => true
theorem FnAt.ok {n : Nat} {f : Value} {Φ : List V → Option V} (h : FnAt cx n [] f Φ) (hs : ∀ ds d, Φ ds = some d → scalar d = true) : FnOk cx n f Φ := by
  intro ex A s vs ds d Q E hI hR hex hr hΦ hQ
  refine h A s vs ds d Q E hI hR (fun _ q => nomatch q) (hr.move fun b o _ _ e => ⟨by simp, e⟩) hΦ fun v s' g r => hQ v s' g ?_
  have := hs ds d hΦ
  cases r with
  | none => exact .none
  | bool b => exact .bool b
  | int i t => exact .int i t
  | fn a => exact .fn a
  | list => cases this
  | tup => cases this

/-- a function of the top -/
theorem fn_top {a : Addr} {K : Value → Str → Prop} (names : List Str) {scope : Scope} {body : List Stmt} {pf : List V → Option (List V)} {F : List (Option V) → Option Fl} (xs : List Str)
    (hfun : ∀ h, cx.I h → FunIs cx h a names pf scope body [] K)
    (hB : ∀ L q cd, SsOk cx n (fEnv scope L [] q a cd) xs body F)
    (hkind : scope.kind = .function) (hco : scope.isCoroutine = false) (hgen : scope.isGenerator = false)
    (hxs : xs.Nodup) (hn : names = xs.take names.length)
    (hpar : ∀ x ∈ names, scope.names.lookup x = some .local ∨ scope.names.lookup x = some .cell) :
    FnOk cx (n + 1) (.ref a) (fun ds => match pf ds with | none => none | some ds' => endF (F (ds'.map some))) := by
  intro ex
  have := fn_body (ex := ex) (rc := []) hfun hkind hco hgen hxs (fun j x h => by rw [hn, List.getElem?_take] at h; split at h; exact h; cases h) hpar (fun _ h => nomatch h) (fun _ h => nomatch h)
    (fun h hI => ⟨(fun _ h => nomatch h), fun i x d _ h2 => by
      have z := (slot_nones names.length [] i d h2).2
      simp [slot] at z⟩) hB
  simp only [List.append_nil] at this
  exact this

def exactly (k : Nat) (ds : List V) : Option (List V) := if ds.length = k then some ds else none
end Mine

open PySem PySem.W PyProof.Rows

namespace Mine
variable {cx : Cx} {n : Nat} {env : Env} {xs : List Str}

/- the program's functions, by their place -/
def topSt (k : Nat) : Stmt := PySem.Challenge.pw_ic0005_01.main.body.getD k (.Pass ⟨0, 0, 0, 0⟩)
def fBody : Stmt → List Stmt
  | .FunctionDef _ _ body _ _ _ _ _ _ _ => body
  | _ => []
def fScope : Stmt → Scope
  | .FunctionDef _ _ _ _ _ _ scope _ _ _ => scope
  | _ => { kind := .function, names := [], isGenerator := false, isCoroutine := false, more := [] }
def fsc (k : Nat) : Scope := fScope (topSt k)
def fst (k i : Nat) : Stmt := (fBody (topSt k)).getD i (.Pass ⟨0, 0, 0, 0⟩)

def uq : List Str → Nat → Str → Bool
  | [], _, _ => false
  | y :: ys, 0, x => y == x && ys.all (· != x)
  | y :: ys, i + 1, x => y != x && uq ys i x
theorem uq_ok : ∀ {xs : List Str} {i : Nat} {x : Str}, uq xs i x = true → xs[i]? = some x ∧ ∀ j, xs[j]? = some x → j = i
  | y :: ys, 0, x, h => by
    unfold uq at h
    rw [Bool.and_eq_true] at h
    refine ⟨by rw [eq_of_beq h.1]; rfl, fun j hj => ?_⟩
    cases j with
    | zero => rfl
    | succ j =>
      have hm := List.mem_of_getElem? (show ys[j]? = some x by simpa using hj)
      have := List.all_eq_true.mp h.2 x hm
      simp at this
  | y :: ys, i + 1, x, h => by
    unfold uq at h
    rw [Bool.and_eq_true] at h
    obtain ⟨h1, h2⟩ := uq_ok h.2
    refine ⟨by simpa using h1, fun j hj => ?_⟩
    cases j with
    | zero =>
      have e : y = x := by simpa using hj
      have := h.1
      rw [e] at this
      simp at this
    | succ j => rw [h2 j (by simpa using hj)]
def namesOk (names : List (Str × NameKind)) : Bool := names.all fun x => x.2 != .local || names.lookup x.1 == some .local
theorem names_ok {names : List (Str × NameKind)} (h : namesOk names = true) : ∀ x ∈ names, x.2 = .local → names.lookup x.1 = some .local := fun x hx hl => by
  have := List.all_eq_true.mp h x hx
  rw [hl] at this
  simpa using this

theorem cellsFrom_ge (x : Str) : ∀ (names : List (Str × NameKind)) (k : Nat) (acc : List (Str × Addr)) (a : Addr), isCell names x = true → (cellsFrom k names acc).lookup x = some a → k ≤ a
  | [], _, _, _, h, _ => by cases h
  | (y, kd) :: r, k, acc, a, h, e => by
    unfold cellsFrom at e
    by_cases hr : isCell r x = true
    · split at e
      · exact Nat.le_of_succ_le (cellsFrom_ge x r _ _ a hr e)
      · exact cellsFrom_ge x r _ _ a hr e
    · have hr' : isCell r x = false := by simpa using hr
      unfold isCell at h
      rw [List.any_cons, show (r.any fun p => p.1 == x && p.2 == .cell) = false from hr', Bool.or_false, Bool.and_eq_true] at h
      rw [if_pos h.2, cellsFrom_other x r _ _ hr'] at e
      have hy : x = y := (eq_of_beq h.1).symm
      subst hy
      rw [List.lookup_cons] at e
      simp at e
      rw [e]
      exact Nat.le_refl _

def ownName (names : List (Str × NameKind)) (x : Str) : Bool := names.lookup x == some .local || names.lookup x == some .cell
theorem own_kind {names : List (Str × NameKind)} {x : Str} (h : ownName names x = true) : names.lookup x = some .local ∨ names.lookup x = some .cell := by
  unfold ownName at h
  rw [Bool.or_eq_true] at h
  exact h.imp (by simp) (by simp)
theorem c_kind {scope : Scope} {cl : List (Str × Addr)} {C : Addr} {x : Str} (h : ownName scope.names x = true) :
    (cEnv scope cl C env).kindOf x = some .local ∨ ((cEnv scope cl C env).kindOf x = some .cell ∧ ((cEnv scope cl C env).cells.lookup x).isSome = true) := by
  rcases own_kind h with h | h
  · left; rw [cEnv_kind, h]
  · right
    refine ⟨by rw [cEnv_kind, h], cellsFrom_has x _ _ _ (mem_of_lookup h)⟩
theorem tw_one {scope : Scope} {cl : List (Str × Addr)} {x : Str} (h : ownName scope.names x = true) :
    ∀ C a, a ∈ [addrOf (cEnv scope cl C env) x] → a = C ∨ (C < a ∧ ∃ x, (x, a) ∈ cellsFrom (C + 1) scope.names cl) := by
  intro C a ha
  rw [List.mem_singleton] at ha
  subst ha
  rcases own_kind h with h | h
  · left
    show addrOf (cEnv scope cl C env) x = (cEnv scope cl C env).locals
    exact if_pos (by rw [cEnv_kind, h])
  · right
    obtain ⟨c, hc⟩ := Option.isSome_iff_exists.mp (cellsFrom_has x scope.names (C + 1) cl (mem_of_lookup h))
    have e : addrOf (cEnv scope cl C env) x = c := by
      unfold addrOf
      rw [if_neg (by rw [cEnv_kind, h]; exact fun z => nomatch z)]
      show ((cellsFrom (C + 1) scope.names cl).lookup x).getD 0 = c
      rw [hc]; rfl
    rw [e]
    have hx : isCell scope.names x = true := by
      unfold isCell
      exact List.any_eq_true.mpr ⟨(x, .cell), mem_of_lookup h, by simp⟩
    exact ⟨cellsFrom_ge x _ _ _ c hx hc, x, mem_of_lookup hc⟩
theorem tw_two {scope : Scope} {cl : List (Str × Addr)} {x y : Str} (h : ownName scope.names x = true) (h' : ownName scope.names y = true) :
    ∀ C a, a ∈ [addrOf (cEnv scope cl C env) x, addrOf (cEnv scope cl C env) y] → a = C ∨ (C < a ∧ ∃ x, (x, a) ∈ cellsFrom (C + 1) scope.names cl) := by
  intro C a ha
  rcases List.mem_cons.mp ha with rfl | ha
  · exact tw_one h C _ (.head _)
  · exact tw_one h' C a ha

def setB (i : Nat) (d : V) (ρ : List (Option V)) : Option (List (Option V)) := some (setSlot ρ i (some d))
def pairB (i j : Nat) (d : V) (ρ : List (Option V)) : Option (List (Option V)) := match d with
  | .tup [a, b] => some (setSlot (setSlot ρ i (some a)) j (some b))
  | .list [a, b] => some (setSlot (setSlot ρ i (some a)) j (some b))
  | _ => none
theorem ct_name {scope : Scope} {cl : List (Str × Addr)} {C : Addr} {x : Str} {pos : Pos} (i : Nat) (hu : uq xs i x = true) (h : ownName scope.names x = true) :
    TgOk cx n (cEnv scope cl C env) xs (.Name x pos) [addrOf (cEnv scope cl C env) x] (setB i) := tg_name i (uq_ok hu).1 (uq_ok hu).2 (c_kind h)
theorem ct_pair {scope : Scope} {cl : List (Str × Addr)} {C : Addr} {x y : Str} {px py pos : Pos} {k : Nat} (i j : Nat) (hu : uq xs i x = true) (h : ownName scope.names x = true) (hu' : uq xs j y = true) (h' : ownName scope.names y = true) :
    TgOk cx n (cEnv scope cl C env) xs (.Tuple [.Name x px, .Name y py] k pos) [addrOf (cEnv scope cl C env) x, addrOf (cEnv scope cl C env) y] (pairB i j) :=
  tg_pair i j (uq_ok hu).1 (uq_ok hu).2 (c_kind h) (uq_ok hu').1 (uq_ok hu').2 (c_kind h')

/-- [elt for x in ..] -/
theorem comp1 {elt iter : Expr} {x : Str} {px : Pos} {ifs : List Expr} {scope : Scope} {pos : Pos} {sf : List (Option V) → Option (List V)} {cl : List (Str × Addr)} (tg ys : List Str)
    {tf : List (Option V) → Option Bool} {ef : List (Option V) → Option V} (hs : SrOk cx n env xs iter sf)
    (hS : ∀ C, TsOk cx n (cEnv scope cl C env) (tg ++ ys) ifs tf) (hE : ∀ C, EvOk cx n (cEnv scope cl C env) (tg ++ ys) elt ef)
    (hcl : clOf scope.names env.cells = some cl) (hkind : scope.kind = .function)
    (hnames : namesOk scope.names = true) (hchk : chk scope.names env.scope.names ys xs = true) (hu : uq (tg ++ ys) 0 x = true) (ho : ownName scope.names x = true)
    (hfold : ∀ x, foldedSetIterable iter env x = pure x) :
    EvOk cx n env xs (.ListComp elt [⟨.Name x px, iter, ifs, 0⟩] scope pos) (compF tg.length sf (setB 0) tf (oneF ef)) :=
  ev_comp1 tg ys (fun C => [addrOf (cEnv scope cl C env) x]) hs hcl hkind (names_ok hnames) hchk (tw_one ho) (fun C => ct_name 0 hu ho) hS hE hfold
/-- [elt for x, y in ..] -/
theorem comp1p {elt iter : Expr} {x y : Str} {px py pp : Pos} {k : Nat} {ifs : List Expr} {scope : Scope} {pos : Pos} {sf : List (Option V) → Option (List V)} {cl : List (Str × Addr)} (tg ys : List Str)
    {tf : List (Option V) → Option Bool} {ef : List (Option V) → Option V} (hs : SrOk cx n env xs iter sf)
    (hS : ∀ C, TsOk cx n (cEnv scope cl C env) (tg ++ ys) ifs tf) (hE : ∀ C, EvOk cx n (cEnv scope cl C env) (tg ++ ys) elt ef)
    (hcl : clOf scope.names env.cells = some cl) (hkind : scope.kind = .function)
    (hnames : namesOk scope.names = true) (hchk : chk scope.names env.scope.names ys xs = true) (hu : uq (tg ++ ys) 0 x = true) (ho : ownName scope.names x = true) (hu' : uq (tg ++ ys) 1 y = true) (ho' : ownName scope.names y = true)
    (hfold : ∀ x, foldedSetIterable iter env x = pure x) :
    EvOk cx n env xs (.ListComp elt [⟨.Tuple [.Name x px, .Name y py] k pp, iter, ifs, 0⟩] scope pos) (compF tg.length sf (pairB 0 1) tf (oneF ef)) :=
  ev_comp1 tg ys (fun C => [addrOf (cEnv scope cl C env) x, addrOf (cEnv scope cl C env) y]) hs hcl hkind (names_ok hnames) hchk (tw_two ho ho') (fun C => ct_pair 0 1 hu ho hu' ho') hS hE hfold
/-- [elt for x in .. for y in ..] -/
theorem comp2 {elt i₁ i₂ : Expr} {x y : Str} {px py : Pos} {f₁ f₂ : List Expr} {scope : Scope} {pos : Pos} {sf sf₂ : List (Option V) → Option (List V)} {cl : List (Str × Addr)} (tg ys : List Str)
    {tf tf₂ : List (Option V) → Option Bool} {ef : List (Option V) → Option V} (hs : SrOk cx n env xs i₁ sf)
    (hS : ∀ C, TsOk cx n (cEnv scope cl C env) (tg ++ ys) f₁ tf) (hs₂ : ∀ C, SrOk cx n (cEnv scope cl C env) (tg ++ ys) i₂ sf₂)
    (hS₂ : ∀ C, TsOk cx n (cEnv scope cl C env) (tg ++ ys) f₂ tf₂) (hE : ∀ C, EvOk cx n (cEnv scope cl C env) (tg ++ ys) elt ef)
    (hcl : clOf scope.names env.cells = some cl) (hkind : scope.kind = .function)
    (hnames : namesOk scope.names = true) (hchk : chk scope.names env.scope.names ys xs = true) (hu : uq (tg ++ ys) 0 x = true) (ho : ownName scope.names x = true) (hu' : uq (tg ++ ys) 1 y = true) (ho' : ownName scope.names y = true)
    (hfold : ∀ x, foldedSetIterable i₁ env x = pure x) (hfold₂ : ∀ C x, foldedSetIterable i₂ (cEnv scope cl C env) x = pure x) :
    EvOk cx n env xs (.ListComp elt [⟨.Name x px, i₁, f₁, 0⟩, ⟨.Name y py, i₂, f₂, 0⟩] scope pos) (compF tg.length sf (setB 0) tf (innF sf₂ (setB 1) tf₂ (oneF ef))) :=
  ev_comp2 tg ys (fun C => [addrOf (cEnv scope cl C env) x]) (fun C => [addrOf (cEnv scope cl C env) y]) hs hcl hkind (names_ok hnames) hchk (tw_one ho) (tw_one ho') (fun C => ct_name 0 hu ho) hS hs₂ (fun C => ct_name 1 hu' ho') hS₂ hE hfold hfold₂
/-- x = [elt for y in ..], x a local -/
theorem used1 {elt iter : Expr} {x y : Str} {px py : Pos} {ifs : List Expr} {scope : Scope} {cpos pos : Pos} {sf : List (Option V) → Option (List V)} {cl : List (Str × Addr)} (i : Nat) (tg ys : List Str)
    {tf : List (Option V) → Option Bool} {ef : List (Option V) → Option V} (hux : uq xs i x = true) (hk : env.kindOf x = some .local) (hs : SrOk cx n env xs iter sf)
    (hS : ∀ C, TsOk cx n (cEnv scope cl C env) (tg ++ ys) ifs tf) (hE : ∀ C, EvOk cx n (cEnv scope cl C env) (tg ++ ys) elt ef)
    (hcl : clOf scope.names env.cells = some cl) (hkind : scope.kind = .function)
    (hnames : namesOk scope.names = true) (hchk : chk scope.names env.scope.names ys xs = true) (hu : uq (tg ++ ys) 0 y = true) (ho : ownName scope.names y = true)
    (hsw : swapsWith (.ListComp elt [⟨.Name y py, iter, ifs, 0⟩] scope cpos) (some (.Name x px)) pos.line env = pure true)
    (hfold : ∀ x, foldedSetIterable iter env x = pure x) :
    StOk cx n env xs (.Assign [.Name x px] (.ListComp elt [⟨.Name y py, iter, ifs, 0⟩] scope cpos) pos) (asgF i (compF tg.length sf (setB 0) tf (oneF ef))) :=
  st_used i tg ys (fun C => [addrOf (cEnv scope cl C env) y]) (uq_ok hux).1 (uq_ok hux).2 hk hs hcl hkind (names_ok hnames) hchk (tw_one ho) (fun C => ct_name 0 hu ho) hS hE hsw hfold

/- names of a function's frame -/
theorem f_kind {scope : Scope} {L : Addr} {cl : List (Str × Addr)} {q : Str} {fa : Addr} {cd : Value} {x : Str} (h : ownName scope.names x = true) :
    (fEnv scope L cl q fa cd).kindOf x = some .local ∨ ((fEnv scope L cl q fa cd).kindOf x = some .cell ∧ ((fEnv scope L cl q fa cd).cells.lookup x).isSome = true) := by
  rcases own_kind h with h | h
  · left; exact h
  · right; exact ⟨h, cellsFrom_has x _ _ _ (mem_of_lookup h)⟩
theorem asg {scope : Scope} {L : Addr} {cl : List (Str × Addr)} {q : Str} {fa : Addr} {cd : Value} {x : Str} {px pos : Pos} {e : Expr} {f : List (Option V) → Option V} (i : Nat)
    (he : EvOk cx n (fEnv scope L cl q fa cd) xs e f) (hu : uq xs i x = true) (h : ownName scope.names x = true)
    (hs : swapsWith e (some (.Name x px)) pos.line (fEnv scope L cl q fa cd) = pure false) : StOk cx n (fEnv scope L cl q fa cd) xs (.Assign [.Name x px] e pos) (asgF i f) :=
  st_asg i he (uq_ok hu).1 (uq_ok hu).2 (f_kind h) hs
theorem asg2 {scope : Scope} {L : Addr} {cl : List (Str × Addr)} {q : Str} {fa : Addr} {cd : Value} {x y : Str} {px py tp pos : Pos} {k : Nat} {e : Expr} {f : List (Option V) → Option V} (i j : Nat)
    (he : EvOk cx n (fEnv scope L cl q fa cd) xs e f) (hu : uq xs i x = true) (h : ownName scope.names x = true) (hu' : uq xs j y = true) (h' : ownName scope.names y = true)
    (hs : swapsWithSole [.Tuple [.Name x px, .Name y py] k tp] e pos.line (fEnv scope L cl q fa cd) = pure false)
    (hw : swappedStores [.Tuple [.Name x px, .Name y py] k tp] e (fEnv scope L cl q fa cd) = pure none) : StOk cx n (fEnv scope L cl q fa cd) xs (.Assign [.Tuple [.Name x px, .Name y py] k tp] e pos) (tgF (pairB i j) f) :=
  st_tup he (tg_pair i j (uq_ok hu).1 (uq_ok hu).2 (f_kind h) (uq_ok hu').1 (uq_ok hu').2 (f_kind h')) (fun a ha => by
    rcases List.mem_cons.mp ha with rfl | ha
    · exact own_addr (f_kind h)
    · rw [List.mem_singleton.mp ha]; exact own_addr (f_kind h')) hs hw
theorem for1 {scope : Scope} {L : Addr} {cl : List (Str × Addr)} {q : Str} {fa : Addr} {cd : Value} {x : Str} {px pos : Pos} {iter : Expr} {b : List Stmt} {sf : List (Option V) → Option (List V)} {f : List (Option V) → Option Fl} (i : Nat)
    (hs : SrOk cx n (fEnv scope L cl q fa cd) xs iter sf) (hb : SsOk cx n (fEnv scope L cl q fa cd) xs b f) (hu : uq xs i x = true) (h : ownName scope.names x = true)
    (hfold : ∀ x, foldedSetIterable iter (fEnv scope L cl q fa cd) x = pure x) : StOk cx n (fEnv scope L cl q fa cd) xs (.For (.Name x px) iter b [] pos) (forsF sf (setB i) f) :=
  st_for hs (tg_name i (uq_ok hu).1 (uq_ok hu).2 (f_kind h)) (fun a ha => by rw [List.mem_singleton.mp ha]; exact own_addr (f_kind h)) hb hfold

theorem FnOk.mono {f : Value} {Φ : List V → Option V} {k : Nat} (h : FnOk cx k f Φ) (hk : k ≤ n) : FnOk cx n f Φ :=
  fun ex A s vs ds d Q E hI hR => h ex A s vs ds d Q E hI (hR.mono hk)

/-- a call of a global name -/
theorem gcall {f : Str} {p pos : Pos} {e : Expr} {rest : List Expr} {Φ : List V → Option V} {fv : Value} {g : List (Option V) → Option (List V)} (hv : glob cx f = some fv)
    (hc : Cal cx fv) (hf : FnOk cx n fv Φ) (ha : ArOk cx n env xs (e :: rest) g) (hk : env.kindOf f = some .globalImplicit)
    (he : starEach (e :: rest) env = (false, eval e env) :: starEach rest env) (hplain : ∀ pos, (backTo pos (starEach rest env)).any (·.1) = false) (hd : (f == ("__debug__" : Str)) = false) :
    EvOk cx n env xs (.Call (.Name f p) (e :: rest) [] pos) (fun ρ => callO Φ (g ρ)) := ev_call hk hv hc hf ha he hplain hd

structure Globs (cx : Cx) : Prop where
  int2 : glob cx ("_int2digits" : Str) = some (.ref 21)
  dig2 : glob cx ("_digits2int" : Str) = some (.ref 28)
  ins : glob cx ("insort_left" : Str) = some (.ref 37)
  bis : glob cx ("bisect_left" : Str) = some (.ref 46)
  within : glob cx ("_law_within" : Str) = some (.ref 51)
  rows : glob cx ("_law_rows" : Str) = some (.ref 56)
  has : glob cx ("_law_has" : Str) = some (.ref 63)
  len : glob cx ("len" : Str) = some (.builtin "len")
  min : glob cx ("min" : Str) = some (.builtin "min")
  max : glob cx ("max" : Str) = some (.builtin "max")
  sum : glob cx ("sum" : Str) = some (.builtin "sum")
  sorted : glob cx ("sorted" : Str) = some (.builtin "sorted")
  int : glob cx ("int" : Str) = some (.type "int")
  range : glob cx ("range" : Str) = some (.type "range")

end Mine

open PySem PySem.W PyProof.Rows

namespace Mine
variable {cx : Cx} {n : Nat}
def andV (f g : List (Option V) → Option V) (ρ : List (Option V)) : Option V := match boolOf (f ρ) with | some true => g ρ | some false => some (.bool false) | none => none
def ifV (t : List (Option V) → Option Bool) (f g : List (Option V) → Option V) (ρ : List (Option V)) : Option V := match t ρ with | some true => f ρ | some false => g ρ | none => none

def pfB : List V → Option (List V)
  | [a, x] => some [a, x, .int 0, .none, .none]
  | [a, x, l, h] => some [a, x, l, h, .none]
  | _ => none
def xsB : List Str := [("a" : Str), ("x" : Str), ("lo" : Str), ("hi" : Str), ("key" : Str), ("mid" : Str)]
def FB0 : List (Option V) → Option Fl := (elseF (fun ρ => boolOf (bind2 (fun ρ => slot ρ 2) (fun _ => some (.int 0)) V.lt ρ)) (fun ρ => some (.next ρ)))
theorem stB0 {L : Addr} {q : Str} {a : Addr} {cd : Value} (G : Globs cx) : StOk cx n (fEnv (fsc 5) L [] q a cd) xsB (fst 5 0) FB0 := (st_if0 (tr_cmp (ev_name 2 rfl (.inl rfl) rfl rfl) ev_int op_lt rfl) ss_nil)
def FB1 : List (Option V) → Option Fl := (ifF (fun ρ => boolOf (bind2 (fun ρ => slot ρ 3) (fun _ => some .none) V.isNone ρ)) (seqF (asgF 3 (fun ρ => callO fLen ((consO (fun ρ => slot ρ 0) (fun _ => some [])) ρ))) (fun ρ => some (.next ρ))) (fun ρ => some (.next ρ)))
theorem stB1 {L : Addr} {q : Str} {a : Addr} {cd : Value} (G : Globs cx) : StOk cx n (fEnv (fsc 5) L [] q a cd) xsB (fst 5 1) FB1 := (st_if (tr_cmp (ev_name 3 rfl (.inl rfl) rfl rfl) ev_none op_is rfl) (ss_cons (asg 3 (gcall G.len trivial fn_len (ar_cons (ev_name 0 rfl (.inl rfl) rfl rfl) ar_nil rfl) rfl rfl (fun _ => rfl) rfl) rfl rfl rfl) ss_nil) ss_nil)
def FB2 : List (Option V) → Option Fl := (onlyF (fun ρ => boolOf (bind2 (fun ρ => slot ρ 4) (fun _ => some .none) V.isNone ρ)) (seqF (whileF (fun ρ => boolOf (bind2 (fun ρ => slot ρ 2) (fun ρ => slot ρ 3) V.lt ρ)) (seqF (asgF 5 (bind2 (bind2 (fun ρ => slot ρ 2) (fun ρ => slot ρ 3) V.add) (fun _ => some (.int 2)) V.fdiv)) (seqF (ifF (fun ρ => boolOf (bind2 (bind2 (fun ρ => slot ρ 0) (fun ρ => slot ρ 5) V.item) (fun ρ => slot ρ 1) V.lt ρ)) (seqF (asgF 2 (bind2 (fun ρ => slot ρ 5) (fun _ => some (.int 1)) V.add)) (fun ρ => some (.next ρ))) (seqF (asgF 3 (fun ρ => slot ρ 5)) (fun ρ => some (.next ρ)))) (fun ρ => some (.next ρ)))) 64) (fun ρ => some (.next ρ))))
theorem stB2 {L : Addr} {q : Str} {a : Addr} {cd : Value} (G : Globs cx) : StOk cx n (fEnv (fsc 5) L [] q a cd) xsB (fst 5 2) FB2 := (st_if1 (tr_cmp (ev_name 4 rfl (.inl rfl) rfl rfl) ev_none op_is rfl) (ss_cons (st_while 64 (tr_cmp (ev_name 2 rfl (.inl rfl) rfl rfl) (ev_name 3 rfl (.inl rfl) rfl rfl) op_lt rfl) (ss_cons (asg 5 (ev_bin (ev_bin (ev_name 2 rfl (.inl rfl) rfl rfl) (ev_name 3 rfl (.inl rfl) rfl rfl) op_add) ev_int op_fdiv) rfl rfl rfl) (ss_cons (st_if (tr_cmp (ev_item (ev_name 0 rfl (.inl rfl) rfl rfl) (ev_name 5 rfl (.inl rfl) rfl rfl) (fun _ _ => rfl)) (ev_name 1 rfl (.inl rfl) rfl rfl) op_lt rfl) (ss_cons (asg 2 (ev_bin (ev_name 5 rfl (.inl rfl) rfl rfl) ev_int op_add) rfl rfl rfl) ss_nil) (ss_cons (asg 3 (ev_name 5 rfl (.inl rfl) rfl rfl) rfl rfl rfl) ss_nil)) ss_nil))) ss_nil))
def FB3 : List (Option V) → Option Fl := (retF (fun ρ => slot ρ 2))
theorem stB3 {L : Addr} {q : Str} {a : Addr} {cd : Value} (G : Globs cx) : StOk cx n (fEnv (fsc 5) L [] q a cd) xsB (fst 5 3) FB3 := (st_ret (ev_name 2 rfl (.inl rfl) rfl rfl))
def FB : List (Option V) → Option Fl := seqF FB0 (seqF FB1 (seqF FB2 (seqF FB3 (fun ρ => some (.next ρ)))))
def phiB (ds : List V) : Option V := match pfB ds with | none => none | some ds => endF (FB (ds.map some))
theorem body_B {L : Addr} {q : Str} {a : Addr} {cd : Value} (G : Globs cx) : SsOk cx n (fEnv (fsc 5) L [] q a cd) xsB (fBody (topSt 5)) FB := ss_cons (stB0 G) (ss_cons (stB1 G) (ss_cons (stB2 G) (ss_cons (stB3 G) ss_nil)))
def xsH : List Str := [("order" : Str), ("number" : Str), ("place" : Str)]
def FH0 : List (Option V) → Option Fl := (asgF 2 (fun ρ => callO phiB ((consO (fun ρ => slot ρ 0) (consO (fun ρ => slot ρ 1) (fun _ => some []))) ρ)))
theorem stH0 {L : Addr} {q : Str} {a : Addr} {cd : Value} (G : Globs cx) (cB : Cal cx (.ref 46)) (hB : FnOk cx n (.ref 46) phiB) : StOk cx n (fEnv (fsc 9) L [] q a cd) xsH (fst 9 0) FH0 := (asg 2 (gcall G.bis cB hB (ar_cons (ev_name 0 rfl (.inl rfl) rfl rfl) (ar_cons (ev_name 1 rfl (.inl rfl) rfl rfl) ar_nil rfl) rfl) rfl rfl (fun _ => rfl) rfl) rfl rfl rfl)
def FH1 : List (Option V) → Option Fl := (retF (andV (bind2 (fun ρ => slot ρ 2) (fun ρ => callO fLen ((consO (fun ρ => slot ρ 0) (fun _ => some [])) ρ)) V.lt) (bind2 (bind2 (fun ρ => slot ρ 0) (fun ρ => slot ρ 2) V.item) (fun ρ => slot ρ 1) V.eq)))
theorem stH1 {L : Addr} {q : Str} {a : Addr} {cd : Value} (G : Globs cx) (cB : Cal cx (.ref 46)) (hB : FnOk cx n (.ref 46) phiB) : StOk cx n (fEnv (fsc 9) L [] q a cd) xsH (fst 9 1) FH1 := (st_ret (ev_and (ev_cmp (ev_name 2 rfl (.inl rfl) rfl rfl) (gcall G.len trivial fn_len (ar_cons (ev_name 0 rfl (.inl rfl) rfl rfl) ar_nil rfl) rfl rfl (fun _ => rfl) rfl) op_lt rfl) (ev_cmp (ev_item (ev_name 0 rfl (.inl rfl) rfl rfl) (ev_name 2 rfl (.inl rfl) rfl rfl) (fun _ _ => rfl)) (ev_name 1 rfl (.inl rfl) rfl rfl) op_eq rfl)))
def FH : List (Option V) → Option Fl := seqF FH0 (seqF FH1 (fun ρ => some (.next ρ)))
def phiH (ds : List V) : Option V := match exactly 2 ds with | none => none | some ds => endF (FH (ds.map some))
theorem body_H {L : Addr} {q : Str} {a : Addr} {cd : Value} (G : Globs cx) (cB : Cal cx (.ref 46)) (hB : FnOk cx n (.ref 46) phiB) : SsOk cx n (fEnv (fsc 9) L [] q a cd) xsH (fBody (topSt 9)) FH := ss_cons (stH0 G cB hB) (ss_cons (stH1 G cB hB) ss_nil)
def xsR : List Str := [("many" : Str), ("rows" : Str), ("turn" : Str)]
def FR0 : List (Option V) → Option Fl := (asgF 1 (fun ρ => capL .list ((consO (fun ρ => capL .list ((consO (fun _ => some (.int 0)) (fun _ => some [])) ρ)) (consO (fun ρ => capL .list ((consO (fun _ => some (.int 1)) (fun _ => some [])) ρ)) (fun _ => some []))) ρ)))
theorem stR0 {L : Addr} {q : Str} {a : Addr} {cd : Value} (G : Globs cx) : StOk cx n (fEnv (fsc 8) L [] q a cd) xsR (fst 8 0) FR0 := (asg 1 (ev_list (ar_cons (ev_list (ar_cons ev_int ar_nil rfl)) (ar_cons (ev_list (ar_cons ev_int ar_nil rfl)) ar_nil rfl) rfl)) rfl rfl rfl)
def FR1 : List (Option V) → Option Fl := (forsF (fun ρ => rangeO ((fun ρ => slot ρ 0) ρ)) (setB 2) (seqF (asgF 1 (compF 2 (fun ρ => listO ((fun ρ => slot ρ 1) ρ)) (setB 0) (fun _ => some true) (innF (fun ρ => listO ((fun ρ => slot ρ 3) ρ)) (setB 1) (fun ρ => boolOf (bind2 (compF 1 (fun ρ => rangeO ((fun ρ => callO fLen ((consO (fun ρ => slot ρ 0) (fun _ => some [])) ρ)) ρ)) (setB 0) (fun ρ => boolOf (bind2 (bind2 (fun ρ => slot ρ 1) (fun ρ => slot ρ 0) V.item) (bind2 (fun ρ => slot ρ 2) (fun ρ => slot ρ 0) V.item) V.gt ρ)) (oneF (fun ρ => slot ρ 0))) (fun ρ => capL .list ((fun _ => some []) ρ)) V.eq ρ)) (oneF (bind2 (fun ρ => slot ρ 0) (fun ρ => slot ρ 1) V.add))))) (fun ρ => some (.next ρ))))
theorem stR1 {L : Addr} {q : Str} {a : Addr} {cd : Value} (G : Globs cx) : StOk cx n (fEnv (fsc 8) L [] q a cd) xsR (fst 8 1) FR1 := (for1 2 (sr_range (ev_name 0 rfl (.inl rfl) rfl rfl) rfl G.range rfl) (ss_cons (asg 1 (comp2 [("one" : Str), ("other" : Str)] [("many" : Str), ("rows" : Str), ("turn" : Str)] (sr_list (ev_name 1 rfl (.inr (.inl rfl)) rfl rfl)) (fun _ => ts_nil) (fun _ => (sr_list (ev_name 3 rfl (.inr (.inl rfl)) rfl rfl))) (fun _ => (ts_one (tr_cmp (comp1 [("k" : Str)] [("one" : Str), ("other" : Str), ("many" : Str), ("rows" : Str), ("turn" : Str)] (sr_range (gcall G.len trivial fn_len (ar_cons (ev_name 0 rfl (.inr (.inl rfl)) rfl rfl) ar_nil rfl) rfl rfl (fun _ => rfl) rfl) rfl G.range rfl) (fun _ => (ts_one (tr_cmp (ev_item (ev_name 1 rfl (.inr (.inl rfl)) rfl rfl) (ev_name 0 rfl (.inl rfl) rfl rfl) (fun _ _ => rfl)) (ev_item (ev_name 2 rfl (.inr (.inl rfl)) rfl rfl) (ev_name 0 rfl (.inl rfl) rfl rfl) (fun _ _ => rfl)) op_gt rfl))) (fun _ => (ev_name 0 rfl (.inl rfl) rfl rfl)) rfl rfl rfl rfl rfl rfl (fun _ => rfl)) (ev_list ar_nil) op_eq rfl))) (fun _ => (ev_bin (ev_name 0 rfl (.inr (.inl rfl)) rfl rfl) (ev_name 1 rfl (.inr (.inl rfl)) rfl rfl) op_add)) rfl rfl rfl rfl rfl rfl rfl rfl (fun _ => rfl) (fun _ _ => rfl)) rfl rfl rfl) ss_nil) rfl rfl (fun _ => rfl))
def FR2 : List (Option V) → Option Fl := (retF (fun ρ => slot ρ 1))
theorem stR2 {L : Addr} {q : Str} {a : Addr} {cd : Value} (G : Globs cx) : StOk cx n (fEnv (fsc 8) L [] q a cd) xsR (fst 8 2) FR2 := (st_ret (ev_name 1 rfl (.inr (.inl rfl)) rfl rfl))
def FR : List (Option V) → Option Fl := seqF FR0 (seqF FR1 (seqF FR2 (fun ρ => some (.next ρ))))
def phiR (ds : List V) : Option V := match exactly 1 ds with | none => none | some ds => endF (FR (ds.map some))
theorem body_R {L : Addr} {q : Str} {a : Addr} {cd : Value} (G : Globs cx) : SsOk cx n (fEnv (fsc 8) L [] q a cd) xsR (fBody (topSt 8)) FR := ss_cons (stR0 G) (ss_cons (stR1 G) (ss_cons (stR2 G) ss_nil))
end Mine

open PySem PySem.W PyProof.Rows

namespace Mine

structure TabIs (tabs : List Addr) (h : Heap) (c P : Addr) (pos : Pos) (qual : Str) : Prop where
  hd : CodeHd h c P
  tab : h.get? P = some (tabObj #[]) ∨ ∃ c' oc, h.get? P = some (tabObj #[rawInt pos.line, rawInt pos.col, .ref c']) ∧ h.CodeRec (.ref c') qual ∧ h.get? c' = some oc ∧ CodeObj oc ∧ c' ∉ tabs

variable {cx : Cx} {n : Nat} {env : Env} {xs : List Str}

def MadeFn (tabs : List Addr) (h : Heap) (f : Addr) (name qual : Str) (params : Arguments) (body : List Stmt) (scope : Scope) (clos : List (Str × Addr)) : Prop :=
  ∃ c' ctv doc pm, h.get? f = some (kdv_obj name qual params (.stmts body) scope clos .none doc pm c' ctv) ∧ h.CodeRec (.ref c') qual ∧ c' < f ∧ c' ∉ tabs

theorem def_ok {ex : List Addr} {A : Around} {s : Shared} {ρ : List (Option V)} {x qual : Str} {params : Arguments} {body : List Stmt} {scope : Scope} {pos : Pos} {c P : Addr} {clos : List (Str × Addr)} (i : Nat) {Q : Flow → Shared → Prop} {E : Value → Shared → Prop}
    (hI : cx.I s.heap) (F : FrOk cx ex env xs s.heap ρ) (hu : uq xs i x = true) (hk : env.kindOf x = some .local ∨ (env.kindOf x = some .cell ∧ (env.cells.lookup x).isSome = true))
    (hcode : env.code = .ref c) (hPt : P ∈ cx.tabs) (hq : qualnameIn env x x = qual) (htab : ∀ h, cx.I h → TabIs cx.tabs h c P pos qual) (hba : ∀ h, cx.I h → h.BuiltinsAt cx.mg P) (hgP : mainGlobals ≠ P)
    (hset : ∀ h h' c' oc, cx.I h → Heap.ExtBut P h h' → h'.get? P = some (tabObj #[rawInt pos.line, rawInt pos.col, .ref c']) → h'.CodeRec (.ref c') qual → h'.get? c' = some oc → CodeObj oc → h.objs.size ≤ c' → h.objs.size ≤ h'.objs.size → cx.I h')
    (hclos : closOf scope.names env.cells [] = some clos) (hd0 : params.defaults = []) (hk0 : params.kw_defaults = []) (ha : annTrees params none env = [])
    (hQ : ∀ f s', GoB cx [addrOf env x] s s' → FrOk cx ex env xs s'.heap (setSlot ρ i (some (.fn f))) → s.heap.objs.size ≤ f → MadeFn cx.tabs s'.heap f x qual params body scope clos → Q .next s') :
    wpAny (model cx.prog cx.w) A (exec (.FunctionDef x params body [] none [] scope none x pos) env) Q E s := by
  refine nestDef_K hd0 hk0 ha ?_
  rw [makeFunction_eq]
  simp only [List.zip_nil_right, List.filterMap_nil, List.isEmpty_nil, if_true, pure_bind]
  rw [hq]
  have T := htab _ hI
  have hg := cx.Ig _ hI
  have fin : ∀ (h' : Heap) (tk : Nat) (c' : Addr) (ctv doc pm : Value), Heap.ExtBut P s.heap h' → s.heap.objs.size ≤ h'.objs.size → c' ∉ cx.tabs → h'.CodeRec (.ref c') qual → (cx.I s.heap → cx.I (h'.push (kdv_obj x qual params (.stmts body) scope clos .none doc pm c' ctv))) →
      wpAny (model cx.prog cx.w) A (storeName env x (.ref h'.objs.size)) (fun _ s'' => Q .next s'') E { s with heap := h'.push (kdv_obj x qual params (.stmts body) scope clos .none doc pm c' ctv), toks := tk } := by
    intro h' tk c' ctv doc pm hx hsz hct hrec hinv
    have g₁ : Go cx s { s with heap := h'.push (kdv_obj x qual params (.stmts body) scope clos .none doc pm c' ctv), toks := tk } :=
      ⟨fun b o _ hb e => Heap.get?_push_of_some _ (hx b o (fun z => hb (z ▸ hPt)) e), hinv, rfl, rfl, rfl⟩
    refine store_ok i (F.go g₁) (.fn h'.objs.size) (uq_ok hu).1 (uq_ok hu).2 hk fun s₂ g₂ F₂ => ?_
    have hfn : cx.n₁ ≤ h'.objs.size := Nat.le_trans (new_lo hI) hsz
    have hclt : c' < h'.objs.size := by
      obtain ⟨c₂, oc, vs, t, e1, e2, _⟩ := id hrec
      cases e1
      exact Heap.lt_size e2
    have hft : h'.objs.size ∉ cx.tabs := fun q => absurd (cx.It _ q) (Nat.not_lt.mpr hfn)
    obtain ⟨ob, hob, _, hnc⟩ := g₂.ob
    have hfa : h'.objs.size ≠ addrOf env x := fun q => by
      rcases own_cases (own_addr hk) with e | ⟨p, hp, _, e⟩
      · obtain ⟨m, ⟨o, es, ep, ho, hd, _⟩, _⟩ := (F.go g₁).loc
        have := Heap.get?_push_size h' (o := kdv_obj x qual params (.stmts body) scope clos .none doc pm c' ctv) rfl
        rw [q, e] at this
        have ho : (h'.push (kdv_obj x qual params (.stmts body) scope clos .none doc pm c' ctv)).get? env.locals = some o := ho
        rw [this] at ho; cases ho; cases hd
      · obtain ⟨v, o, ho, hd⟩ := (F.go g₁).ali p hp
        have := Heap.get?_push_size h' (o := kdv_obj x qual params (.stmts body) scope clos .none doc pm c' ctv) rfl
        rw [q, ← e] at this
        have ho : (h'.push (kdv_obj x qual params (.stmts body) scope clos .none doc pm c' ctv)).get? p.2 = some o := ho
        rw [this] at ho; cases ho; cases hd
    refine hQ h'.objs.size s₂ ((GoB.up g₁).trans g₂.toGoB) F₂ hsz ⟨c', ctv, doc, pm, g₂.toGoB.kp _ _ (fun q => hfa (List.mem_singleton.mp q)) hft (Heap.get?_push_size _ rfl), ?_, hclt, hct⟩
    obtain ⟨c₂, oc, vs, t, e1, e2, e3, e4⟩ := hrec.push (kdv_obj x qual params (.stmts body) scope clos .none doc pm c' ctv)
    cases e1
    refine ⟨_, oc, vs, t, rfl, ?_, e3, e4⟩
    exact g₂.toGoB.kp _ _ (fun z => by
        have hz := List.mem_singleton.mp z
        obtain ⟨o', ho', _, _, hk', _⟩ := own_ob (F.go g₁) (own_addr hk)
        have ho' : (h'.push (kdv_obj x qual params (.stmts body) scope clos .none doc pm c' ctv)).get? (addrOf env x) = some o' := ho'
        rw [← hz, e2] at ho'
        cases ho'
        rcases hk' with ⟨es, ep, hd⟩ | ⟨v, hd⟩ <;> (rw [e3] at hd; cases hd)) hct e2
  rcases T.tab with hP | ⟨c', oc, hP, hrec, hoc, hco, hct⟩
  · refine kdv_makeTail (mg := cx.mg) (ps := #[]) (closureFor_of hclos) F.ek.glob hg hcode T.hd hP trivial rfl hgP (hba _ hI) fun c' ctv doc h' tk hx hge hlt hrec htb => ?_
    have hsz : s.heap.objs.size ≤ h'.objs.size := Nat.le_trans hge (Nat.le_of_lt hlt)
    obtain ⟨oc, hoc, hco⟩ : ∃ oc, h'.get? c' = some oc ∧ CodeObj oc := by
      obtain ⟨c2, oc, vs, t, e1, e2, e3, e4⟩ := id hrec
      cases e1
      exact ⟨oc, e2, _, t, vs, e3, e4⟩
    refine fin h' tk c' ctv _ _ hx hsz (fun q => absurd (cx.It _ q) (Nat.not_lt.mpr (Nat.le_trans (new_lo hI) hge))) hrec fun _ => ?_
    refine hset s.heap _ c' oc hI (fun b o hb e => Heap.get?_push_of_some _ (hx b o hb e)) (Heap.get?_push_of_some _ (by simpa using htb)) (hrec.push _) (Heap.get?_push_of_some _ hoc) hco hge ?_
    rw [Heap.size_push]; exact Nat.le_succ_of_le hsz
  · refine kdv_makeTailHit (mg := cx.mg) (closureFor_of hclos) F.ek.glob hg hcode T.hd hP (by simp [TriplesOk, rawInt]) (cv := .ref c') (by simp [codeAmong, rawInt]) (hba _ hI) fun ctv doc h' tk hk' hsz => ?_
    refine fin h' tk c' ctv _ _ (fun b o _ e => hk' b o e) hsz hct (hrec.keeps hk') fun hI' => ?_
    exact cx.Ik _ _ hI' fun b o e _ => Heap.get?_push_of_some _ (hk' b o e)

structure DefCx (cx : Cx) (c P : Addr) (pos : Pos) (qual : Str) : Prop where
  tab : ∀ h, cx.I h → TabIs cx.tabs h c P pos qual
  set : ∀ h h' c' oc, cx.I h → Heap.ExtBut P h h' → h'.get? P = some (tabObj #[rawInt pos.line, rawInt pos.col, .ref c']) → h'.CodeRec (.ref c') qual → h'.get? c' = some oc → CodeObj oc → h.objs.size ≤ c' → h.objs.size ≤ h'.objs.size → cx.I h'
  mem : P ∈ cx.tabs
  gP : mainGlobals ≠ P
  ba : ∀ h, cx.I h → h.BuiltinsAt cx.mg P

/- another context over the same heap -/
mutual
theorem Rel.conv {cx' : Cx} (ht : cx'.tabs = cx.tabs) {ex : List Addr} {h : Heap} : ∀ {d : V} {v : Value}, Rel cx ex h d v → Rel cx' ex h d v
  | _, _, .none => .none
  | _, _, .bool b => .bool b
  | _, _, .int i t => .int i t
  | _, _, .fn a => .fn a
  | _, _, .list h1 h2 p r z => .list h1 (ht ▸ h2) p (RelL.conv ht r) z
  | _, _, .tup h1 h2 p r z => .tup h1 (ht ▸ h2) p (RelL.conv ht r) z
theorem RelL.conv {cx' : Cx} (ht : cx'.tabs = cx.tabs) {ex : List Addr} {h : Heap} : ∀ {l : List V} {vs : List Value}, RelL cx ex h l vs → RelL cx' ex h l vs
  | _, _, .nil => .nil
  | _, _, .cons a r => .cons (Rel.conv ht a) (RelL.conv ht r)
end

/-- the context in which the objects below m stand too; the one at f = m - 1 is there -/
def subCx (cx : Cx) (f : Addr) (J : Heap → Prop) (hf : cx.n₁ ≤ f + 1) (hJ : ∀ h h', J h → (∀ b o, h.get? b = some o → b < f + 1 → h'.get? b = some o) → J h') (hJf : ∀ h, J h → ∃ o, h.get? f = some o) : Cx where
  prog := cx.prog
  w := cx.w
  tabs := cx.tabs
  n₁ := f + 1
  mg := cx.mg
  mb := cx.mb
  I := fun h => cx.I h ∧ J h
  Ik := fun h h' i k => ⟨cx.Ik h h' i.1 fun b o e hb => k b o e (hb.imp (fun q => Nat.lt_of_lt_of_le q hf) id), hJ h h' i.2 fun b o e hb => k b o e (.inl hb)⟩
  Ig := fun h i => cx.Ig h i.1
  Ib := fun h i => cx.Ib h i.1
  Il := fun h i => cx.Il h i.1
  It := fun b hb => Nat.lt_of_lt_of_le (cx.It b hb) hf
  In := fun h i => let ⟨_, e⟩ := hJf h i.2; Heap.lt_size e

/-- a call through a name whose value is the function f, in states where P stands -/
theorem callWith_P {P : Heap → Prop} {A : Around} {s : Shared} {pos : Pos} {f : Addr} {e : Expr} {rest : List Expr} {Q : Value → Shared → Prop} {E : Value → Shared → Prop} (hc : ∀ h, P h → ∃ o fd, h.get? f = some o ∧ o.data = .func fd)
    (h : wpAny (model cx.prog cx.w) A (spliced (backTo pos (starEach (e :: rest) env))) (fun vs s₁ => P s₁.heap ∧ wpAny (model cx.prog cx.w) A (call (.ref f) vs) Q E s₁) E s)
    (he : starEach (e :: rest) env = (false, eval e env) :: starEach rest env) (hplain : (backTo pos (starEach rest env)).any (·.1) = false) :
    wpAny (model cx.prog cx.w) A (callWith pos (.ref f) [] (backTo pos (starEach (e :: rest) env)) []) Q E s := by
  rw [he] at h ⊢
  have hp : ((backTo pos ((false, eval e env) :: starEach rest env)).any (·.1) || ([] : List (Option Str × Sem Value)).any (·.1.isNone)) = false := by
    show ((false || (backTo pos (starEach rest env)).any (·.1)) || false) = false
    rw [hplain]; rfl
  refine callWith_of (P := P) hp (fun hh hI => ?_) (Calls.evalArgs_plain h)
  obtain ⟨o, fd, e1, e2⟩ := hc hh hI
  refine ⟨.frame, .inl rfl, (Looks.ld (part := none) e1).andThen ?_⟩
  rw [e2]; exact .now

def fnCall (nm : List (Option V) → Option V) (a : Addr) (Φ : List V → Option V) (g : List (Option V) → Option (List V)) (ρ : List (Option V)) : Option V :=
  match nm ρ with | some (.fn b) => if b = a then callO Φ (g ρ) else none | _ => none
theorem callv {f : Str} {p pos : Pos} {e : Expr} {rest : List Expr} {Φ : List V → Option V} {a : Addr} {nm : List (Option V) → Option V} {g : List (Option V) → Option (List V)} (hn : EvOk cx n env xs (.Name f p) nm)
    (hc : Cal cx (.ref a)) (hf : FnOk cx n (.ref a) Φ) (ha : ArOk cx n env xs (e :: rest) g)
    (he : starEach (e :: rest) env = (false, eval e env) :: starEach rest env) (hplain : ∀ pos, (backTo pos (starEach rest env)).any (·.1) = false) :
    EvOk cx n env xs (.Call (.Name f p) (e :: rest) [] pos) (fnCall nm a Φ g) := ev_callv hn hc hf ha he hplain

end Mine

open PySem PySem.W PyProof.Rows

namespace Mine
variable {cx : Cx} {n : Nat}

def inD : Stmt := fst 2 0
def xsJ : List Str := [("L" : Str), ("R" : Str), ("mid" : Str), ("shift" : Str), ("digits" : Str), ("inner" : Str), ("n" : Str)]
def FJ0 (f : Addr) (Φ : List V → Option V) : List (Option V) → Option Fl := (ifF (fun ρ => boolOf (bind2 (bind2 (fun ρ => slot ρ 0) (fun _ => some (.int 1)) V.add) (fun ρ => slot ρ 1) V.eq ρ)) (seqF (retF (bind2 (fun ρ => slot ρ 4) (fun ρ => slot ρ 0) V.item)) (fun ρ => some (.next ρ))) (fun ρ => some (.next ρ)))
theorem stJ0 {L : Addr} {cl : List (Str × Addr)} {q : Str} {a : Addr} {cd : Value} (f : Addr) (Φ : List V → Option V) (cJ : Cal cx (.ref f)) (hJ : FnOk cx n (.ref f) Φ) : StOk cx n (fEnv (fScope inD) L cl q a cd) xsJ ((fBody inD).getD 0 (.Pass ⟨0, 0, 0, 0⟩)) (FJ0 f Φ) := (st_if (tr_cmp (ev_bin (ev_name 0 rfl (.inl rfl) rfl rfl) ev_int op_add) (ev_name 1 rfl (.inl rfl) rfl rfl) op_eq rfl) (ss_cons (st_ret (ev_item (ev_name 4 rfl (.inr (.inr rfl)) rfl rfl) (ev_name 0 rfl (.inl rfl) rfl rfl) (fun _ _ => rfl))) ss_nil) ss_nil)
def FJ1 (f : Addr) (Φ : List V → Option V) : List (Option V) → Option Fl := (asgF 2 (bind2 (bind2 (fun ρ => slot ρ 0) (fun ρ => slot ρ 1) V.add) (fun _ => some (.int 1)) V.shr))
theorem stJ1 {L : Addr} {cl : List (Str × Addr)} {q : Str} {a : Addr} {cd : Value} (f : Addr) (Φ : List V → Option V) (cJ : Cal cx (.ref f)) (hJ : FnOk cx n (.ref f) Φ) : StOk cx n (fEnv (fScope inD) L cl q a cd) xsJ ((fBody inD).getD 1 (.Pass ⟨0, 0, 0, 0⟩)) (FJ1 f Φ) := (asg 2 (ev_bin (ev_bin (ev_name 0 rfl (.inl rfl) rfl rfl) (ev_name 1 rfl (.inl rfl) rfl rfl) op_add) ev_int op_shr) rfl rfl rfl)
def FJ2 (f : Addr) (Φ : List V → Option V) : List (Option V) → Option Fl := (asgF 3 (bind2 (bind2 (fun ρ => slot ρ 2) (fun ρ => slot ρ 0) V.sub) (fun ρ => slot ρ 6) V.mul))
theorem stJ2 {L : Addr} {cl : List (Str × Addr)} {q : Str} {a : Addr} {cd : Value} (f : Addr) (Φ : List V → Option V) (cJ : Cal cx (.ref f)) (hJ : FnOk cx n (.ref f) Φ) : StOk cx n (fEnv (fScope inD) L cl q a cd) xsJ ((fBody inD).getD 2 (.Pass ⟨0, 0, 0, 0⟩)) (FJ2 f Φ) := (asg 3 (ev_bin (ev_bin (ev_name 2 rfl (.inl rfl) rfl rfl) (ev_name 0 rfl (.inl rfl) rfl rfl) op_sub) (ev_name 6 rfl (.inr (.inr rfl)) rfl rfl) op_mul) rfl rfl rfl)
def FJ3 (f : Addr) (Φ : List V → Option V) : List (Option V) → Option Fl := (retF (bind2 (bind2 (fnCall (fun ρ => slot ρ 5) f Φ (consO (fun ρ => slot ρ 2) (consO (fun ρ => slot ρ 1) (fun _ => some [])))) (fun ρ => slot ρ 3) V.shl) (fnCall (fun ρ => slot ρ 5) f Φ (consO (fun ρ => slot ρ 0) (consO (fun ρ => slot ρ 2) (fun _ => some [])))) V.add))
theorem stJ3 {L : Addr} {cl : List (Str × Addr)} {q : Str} {a : Addr} {cd : Value} (f : Addr) (Φ : List V → Option V) (cJ : Cal cx (.ref f)) (hJ : FnOk cx n (.ref f) Φ) : StOk cx n (fEnv (fScope inD) L cl q a cd) xsJ ((fBody inD).getD 3 (.Pass ⟨0, 0, 0, 0⟩)) (FJ3 f Φ) := (st_ret (ev_bin (ev_bin (callv (ev_name 5 rfl (.inr (.inr rfl)) rfl rfl) cJ hJ (ar_cons (ev_name 2 rfl (.inl rfl) rfl rfl) (ar_cons (ev_name 1 rfl (.inl rfl) rfl rfl) ar_nil rfl) rfl) rfl (fun _ => rfl)) (ev_name 3 rfl (.inl rfl) rfl rfl) op_shl) (callv (ev_name 5 rfl (.inr (.inr rfl)) rfl rfl) cJ hJ (ar_cons (ev_name 0 rfl (.inl rfl) rfl rfl) (ar_cons (ev_name 2 rfl (.inl rfl) rfl rfl) ar_nil rfl) rfl) rfl (fun _ => rfl)) op_add))
def FJ (f : Addr) (Φ : List V → Option V) : List (Option V) → Option Fl := (seqF (FJ0 f Φ) (seqF (FJ1 f Φ) (seqF (FJ2 f Φ) (seqF (FJ3 f Φ) (fun ρ => some (.next ρ))))))
theorem body_J {L : Addr} {cl : List (Str × Addr)} {q : Str} {a : Addr} {cd : Value} (f : Addr) (Φ : List V → Option V) (cJ : Cal cx (.ref f)) (hJ : FnOk cx n (.ref f) Φ) : SsOk cx n (fEnv (fScope inD) L cl q a cd) xsJ (fBody inD) (FJ f Φ) := (ss_cons (stJ0 f Φ cJ hJ) (ss_cons (stJ1 f Φ cJ hJ) (ss_cons (stJ2 f Φ cJ hJ) (ss_cons (stJ3 f Φ cJ hJ) ss_nil))))

def intOnly : Option V → Option V
  | some (.int i) => some (.int i)
  | _ => none
def rcJ (f : Addr) (l : List V) : List (Option V) := [none, none, some (.list l), some (.fn f), some (.int 1)]
def phiJ (f : Addr) (l : List V) : Nat → List V → Option V
  | 0, _ => none
  | k + 1, ds => match exactly 2 ds with
    | none => none
    | some ds => intOnly (endF (FJ f (phiJ f l k) (ds.map some ++ rcJ f l)))

theorem FnAt.weak {ex : List Addr} {f : Value} {Φ Φ' : List V → Option V} (h : FnAt cx n ex f Φ') (hs : ∀ ds d, Φ ds = some d → Φ' ds = some d) : FnAt cx n ex f Φ :=
  fun A s vs ds d Q E hI hR hex hr hΦ => h A s vs ds d Q E hI hR hex hr (hs ds d hΦ)

def parJ : Arguments := match inD with | .FunctionDef _ p _ _ _ _ _ _ _ _ => p | _ => { posonlyargs := [], args := [], vararg := none, kwonlyargs := [], kw_defaults := [], kwarg := none, defaults := [] }
def posJ : Pos := match inD with | .FunctionDef _ _ _ _ _ _ _ _ _ p => p | _ => ⟨0, 0, 0, 0⟩
def qJ : Str := ("_digits2int" : Str) ++ (".<locals>." : Str) ++ ("inner" : Str)

theorem bind_plain2 {h : Heap} {a b : Str} {fd : FuncData} (hb : ∀ u v, bindArgs fd ⟨[u, v], []⟩ = pure [(a, u), (b, v)]) : BindOk cx h fd [a, b] (exactly 2) := by
  intro ex s vs ds ds' _ r e
  unfold exactly at e
  split at e
  · rename_i hl
    cases e
    have hl2 := r.length
    rw [hl] at hl2
    match vs, hl2 with
    | [u, v], _ => exact ⟨[u, v], .of_eq (hb u v), r, rfl⟩
  · cases e

/-- what stands while the inner function of _digits2int runs -/
structure JD (f cd ci cn : Addr) (l : List V) (vd : Value) (t : Tok) (tabs : List Addr) (h : Heap) : Prop where
  made : MadeFn tabs h f ("inner" : Str) qJ parJ (fBody inD) (fScope inD) [(("n" : Str), cn), (("inner" : Str), ci), (("digits" : Str), cd)]
  digits : h.IsCell cd (some vd)
  inner : h.IsCell ci (some (.ref f))
  n : h.IsCell cn (some (.int 1 t))
  lt : cd < f ∧ ci < f ∧ cn < f
  list : ∃ a vs ns, vd = .ref a ∧ a < f ∧ a ∉ tabs ∧ h.PlainList a vs.toArray ∧ IntsAre vs ns ∧ l = ns.map V.int ∧ l.length ≤ 2 ^ 20
  nt : cd ∉ tabs ∧ ci ∉ tabs ∧ cn ∉ tabs ∧ f ∉ tabs

theorem JD.stands {f cd ci cn : Addr} {l : List V} {vd : Value} {t : Tok} {tabs : List Addr} {h h' : Heap} (j : JD f cd ci cn l vd t tabs h) (k : ∀ b o, h.get? b = some o → b < f + 1 → h'.get? b = some o) : JD f cd ci cn l vd t tabs h' where
  made := by
    obtain ⟨c', ctv, doc, pm, e, ⟨c, oc, vs, tq, e1, e2, r⟩, hlt, hct⟩ := j.made
    cases e1
    exact ⟨_, ctv, doc, pm, k _ _ e (Nat.lt_succ_self _), ⟨_, oc, vs, tq, rfl, k _ _ e2 (Nat.lt_succ_of_lt hlt), r⟩, hlt, hct⟩
  digits := let ⟨o, e, d⟩ := j.digits; ⟨o, k _ _ e (Nat.lt_succ_of_lt j.lt.1), d⟩
  inner := let ⟨o, e, d⟩ := j.inner; ⟨o, k _ _ e (Nat.lt_succ_of_lt j.lt.2.1), d⟩
  n := let ⟨o, e, d⟩ := j.n; ⟨o, k _ _ e (Nat.lt_succ_of_lt j.lt.2.2), d⟩
  lt := j.lt
  list := let ⟨a, vs, ns, e1, e2, e3, ⟨ep, e4⟩, r⟩ := j.list; ⟨a, vs, ns, e1, e2, e3, ⟨ep, k _ _ e4 (Nat.lt_succ_of_lt e2)⟩, r⟩
  nt := j.nt

theorem JD.go {f cd ci cn : Addr} {l : List V} {vd : Value} {t : Tok} {tabs : List Addr} {h h' : Heap} (j : JD f cd ci cn l vd t tabs h) (k : ∀ b o, b ∉ tabs → h.get? b = some o → h'.get? b = some o) : JD f cd ci cn l vd t tabs h' where
  made := by
    obtain ⟨c', ctv, doc, pm, e, ⟨c, oc, vs, tq, e1, e2, r⟩, hlt, hct⟩ := j.made
    cases e1
    exact ⟨_, ctv, doc, pm, k _ _ j.nt.2.2.2 e, ⟨_, oc, vs, tq, rfl, k _ _ hct e2, r⟩, hlt, hct⟩
  digits := let ⟨o, e, d⟩ := j.digits; ⟨o, k _ _ j.nt.1 e, d⟩
  inner := let ⟨o, e, d⟩ := j.inner; ⟨o, k _ _ j.nt.2.1 e, d⟩
  n := let ⟨o, e, d⟩ := j.n; ⟨o, k _ _ j.nt.2.2.1 e, d⟩
  lt := j.lt
  list := let ⟨a, vs, ns, e1, e2, e3, ⟨ep, e4⟩, r⟩ := j.list; ⟨a, vs, ns, e1, e2, e3, ⟨ep, k _ _ e3 e4⟩, r⟩
  nt := j.nt

def cxD (cx : Cx) (f cd ci cn : Addr) (l : List V) (vd : Value) (t : Tok) (hf : cx.n₁ ≤ f) : Cx :=
  subCx cx f (JD f cd ci cn l vd t cx.tabs) (Nat.le_succ_of_le hf) (fun _ _ j k => j.stands k) (fun _ j => let ⟨_, _, _, _, e, _⟩ := j.made; ⟨_, e⟩)

theorem fun_J {f cd ci cn : Addr} {l : List V} {vd : Value} {t : Tok} {hf : cx.n₁ ≤ f} : ∀ h, (cxD cx f cd ci cn l vd t hf).I h →
    FunIs (cxD cx f cd ci cn l vd t hf) h f [("L" : Str), ("R" : Str)] (exactly 2) (fScope inD) (fBody inD) [(("n" : Str), cn), (("inner" : Str), ci), (("digits" : Str), cd)] (fun _ _ => True) := by
  rintro h ⟨_, j⟩
  obtain ⟨c', ctv, doc, pm, e, hr, hlt⟩ := j.made
  exact ⟨_, _, e, rfl, rfl, rfl, rfl, rfl, rfl, hr, bind_plain2 fun _ _ => rfl, trivial⟩
theorem cal_J {f cd ci cn : Addr} {l : List V} {vd : Value} {t : Tok} {hf : cx.n₁ ≤ f} : Cal (cxD cx f cd ci cn l vd t hf) (.ref f) := fun h hI => by
  obtain ⟨_, j⟩ := hI
  obtain ⟨c', ctv, doc, pm, e, _⟩ := j.made
  exact ⟨_, _, e, rfl⟩

theorem inner_J {f cd ci cn : Addr} {l : List V} {vd : Value} {t : Tok} {hf : cx.n₁ ≤ f} (hne : cd ≠ ci ∧ cd ≠ cn ∧ ci ≠ cn) : ∀ k, FnOk (cxD cx f cd ci cn l vd t hf) (n + k) (.ref f) (phiJ f l k)
  | 0 => by
    intro ex A s vs ds d Q E _ _ _ _ h
    cases h
  | k + 1 => by
    have ih : FnOk (cxD cx f cd ci cn l vd t hf) (n + k) (.ref f) (phiJ f l k) := inner_J hne k
    have key := fn_body (cx := cxD cx f cd ci cn l vd t hf) (n := n + k) (ex := []) (F := FJ f (phiJ f l k)) (xs := xsJ) (rcJ f l) fun_J rfl rfl rfl (by decide) (fun j x hj => by
        match j with
        | 0 => exact hj
        | 1 => exact hj
        | j + 2 => simp at hj)
      (fun x hx => by
        rcases List.mem_cons.mp hx with rfl | hx
        · exact .inl rfl
        · rw [List.mem_singleton.mp hx]; exact .inl rfl)
      (fun p hp => by
        rcases List.mem_cons.mp hp with rfl | hp
        · rfl
        · rcases List.mem_cons.mp hp with rfl | hp
          · rfl
          · rw [List.mem_singleton.mp hp]; rfl)
      (fun p hp q hq e => by
        have : ∀ p ∈ [(("n" : Str), cn), (("inner" : Str), ci), (("digits" : Str), cd)], p = (("n" : Str), cn) ∨ p = (("inner" : Str), ci) ∨ p = (("digits" : Str), cd) := fun p hp => by simpa using hp
        rcases this p hp with rfl | rfl | rfl <;> rcases this q hq with rfl | rfl | rfl <;> first | rfl | (exfalso; revert e; first | exact hne.1 | exact hne.2.1 | exact hne.2.2 | exact hne.1.symm | exact hne.2.1.symm | exact hne.2.2.symm))
      (fun h hI => by
        obtain ⟨_, j⟩ := hI
        refine ⟨fun p hp => ?_, fun i x d h1 h2 => ?_⟩
        · have : p = (("n" : Str), cn) ∨ p = (("inner" : Str), ci) ∨ p = (("digits" : Str), cd) := by simpa using hp
          rcases this with rfl | rfl | rfl
          · exact ⟨j.nt.2.2.1, _, j.n⟩
          · exact ⟨j.nt.2.1, _, j.inner⟩
          · exact ⟨j.nt.1, _, j.digits⟩
        · match i with
          | 0 => cases h2
          | 1 => cases h2
          | 2 => cases h2
          | 3 => cases h2
          | 4 =>
            cases h1; cases h2
            obtain ⟨a, vs, ns, rfl, e2, e3, e4, e5, rfl, e7⟩ := j.list
            exact ⟨rfl, rfl, cd, _, rfl, j.digits, .list (by simp) e3 e4 (rel_ints e5) e7⟩
          | 5 =>
            cases h1; cases h2
            exact ⟨rfl, rfl, ci, _, rfl, j.inner, .fn f⟩
          | 6 =>
            cases h1; cases h2
            exact ⟨rfl, rfl, cn, _, rfl, j.n, .int 1 t⟩
          | i + 7 => simp [xsJ] at h1)
      (fun L q c => body_J f (phiJ f l k) cal_J ih)
    refine (key.weak fun ds d hd => ?_).ok fun ds d hd => ?_
    · unfold phiJ at hd
      split at hd
      · cases hd
      · rename_i ds' he
        try rw [he]
        unfold intOnly at hd
        split at hd
        · rename_i i hi
          cases hd
          exact hi
        · cases hd
    · unfold phiJ at hd
      split at hd
      · cases hd
      · unfold intOnly at hd
        split at hd
        · cases hd; rfl
        · cases hd

theorem fnCall_eq (nm : List (Option V) → Option V) (a : Addr) (Φ Φ' : List V → Option V) (g : List (Option V) → Option (List V)) (ρ : List (Option V)) (b b' : Addr) (r r' : List (Option V)) (h1 : nm r = some (.fn b)) (h2 : nm r' = some (.fn b')) (hg : g r = g r')
    (h : ∀ ds, Φ ds = Φ' ds) : fnCall nm b Φ g r = fnCall nm b' Φ' g r' := by
  unfold fnCall
  rw [h1, h2, hg]
  simp only [if_true]
  unfold callO
  cases g r' with
  | none => rfl
  | some l => exact h l

theorem phiJ_any (f f' : Addr) (l : List V) : ∀ (k : Nat) (ds : List V), phiJ f l k ds = phiJ f' l k ds
  | 0, _ => rfl
  | k + 1, ds => by
    have ih := phiJ_any f f' l k
    unfold phiJ
    cases he : exactly 2 ds with
    | none => rfl
    | some ds' =>
      dsimp only
      have hl : ds'.length = 2 := by
        unfold exactly at he
        split at he
        · rename_i q; cases he; exact q
        · cases he
      match ds', hl with
      | [x, y], _ =>
        have ih' : phiJ f l k = phiJ f' l k := funext ih
        rw [ih']
        generalize phiJ f' l k = Φ
        simp only [FJ, seqF, FJ0, FJ1, FJ2, FJ3, ifF, asgF, retF, bind2, slot, setSlot, fnCall, rcJ, consO, List.map_cons, List.map_nil, List.cons_append, List.nil_append, if_true]
        cases V.add x (.int 1) with
        | none => rfl
        | some u =>
          simp only []
          cases boolOf (V.eq u y) with
          | none => rfl
          | some b =>
            cases b with
            | true =>
              simp only [slot, setSlot, if_true]
              cases V.item (.list l) x <;> rfl
            | false =>
              simp only [slot, setSlot, if_true]
              cases V.add x y with
              | none => rfl
              | some m =>
                simp only [slot, setSlot, if_true]
                cases V.shr m (.int 1) with
                | none => rfl
                | some m =>
                  simp only [slot, setSlot, if_true]
                  cases V.sub m x with
                  | none => rfl
                  | some w =>
                    simp only [slot, setSlot, if_true]
                    cases V.mul w (.int 1) with
                    | none => rfl
                    | some w =>
                      simp only [slot, setSlot, if_true]

def phiD : List V → Option V
  | [.list l, .int 1] => if (intsOf l).isSome = true then (if l.isEmpty = true then some (.int 0) else phiJ 0 l 6 [.int 0, .int l.length]) else none
  | _ => none
def xsD : List Str := [("digits" : Str), ("n" : Str), ("inner" : Str)]

theorem ints_all : ∀ {l : List V} {ns : List Int}, intsOf l = some ns → l = ns.map V.int
  | [], _, e => by cases e; rfl
  | .int i :: l, _, e => by
    unfold intsOf at e
    split at e
    · rename_i q
      cases e
      rw [ints_all q]; rfl
    · cases e
  | .none :: _, _, e | .bool _ :: _, _, e | .list _ :: _, _, e | .tup _ :: _, _, e | .fn _ :: _, _, e => by cases e

def argsD : List (Option V) → Option (List V) := consO (fun _ => some (.int 0)) (consO (fun ρ => callO fLen ((consO (fun ρ => slot ρ 0) (fun _ => some [])) ρ)) (fun _ => some []))

theorem fn_D (H : DefCx cx 27 23 posJ qJ) (G : Globs cx) (hfun : ∀ h, cx.I h → FunIs cx h 28 [("digits" : Str), ("n" : Str)] (exactly 2) (fsc 2) (fBody (topSt 2)) [] (fun cd qn => cd = .ref 27 ∧ qn = ("_digits2int" : Str))) : FnOk cx (n + 6 + 1) (.ref 28) phiD := by
  intro ex A s vs ds d Q E hI hR hex hr hΦ hQ
  unfold phiD at hΦ
  split at hΦ
  · rename_i l
    split at hΦ
    · rename_i hns
      obtain ⟨ns, hns⟩ := Option.isSome_iff_exists.mp hns
      refine call_skel (cx := cx) (n := n + 6) (ex := []) (xs := xsD) (rc := []) hfun rfl rfl rfl (by decide) (fun j x hj => by
          match j with
          | 0 => exact hj
          | 1 => exact hj
          | j + 2 => simp at hj)
        (fun x hx => by
          rcases List.mem_cons.mp hx with rfl | hx
          · exact .inr rfl
          · rw [List.mem_singleton.mp hx]; exact .inr rfl)
        (fun _ h => nomatch h) (fun _ h => nomatch h)
        (fun h hI => ⟨(fun _ h => nomatch h), fun i x d _ h2 => by
          have z := (slot_nones 2 [] i d h2).2
          simp [slot] at z⟩)
        hI hR (fun _ h => nomatch h) (hr.move fun b o _ _ e => ⟨by simp, e⟩) (ds' := [.list l, .int 1]) rfl fun L q c s₂ E' hc fin g₂ hfr hI₂ hex₂ F₂ hR₂ => ?_
      obtain ⟨qn, rfl, rfl, rfl⟩ := hc
      have F₂ : FrOk cx [] (fEnv (fsc 2) L [] (("_digits2int" : Str) ++ (".<locals>." : Str)) 28 (.ref 27)) xsD s₂.heap [some (.list l), some (.int 1)] := F₂
      refine wpAny_execs_cons (def_ok 2 hI₂ F₂ rfl (.inr ⟨rfl, rfl⟩) rfl H.mem rfl H.tab H.ba H.gP H.set rfl rfl rfl rfl fun f s₃ g₃ F₃ hf made => ?_)
      have hdL : Rel cx [] s₂.heap (.list l) (.none) ∨ True := .inr trivial
      obtain ⟨ca, vd, hca, hcell, rd⟩ := F₂.cel 0 ("digits" : Str) (.list l) rfl rfl (.inl rfl)
      obtain ⟨na, vn, hna, hcelln, rn⟩ := F₂.cel 1 ("n" : Str) (.int 1) rfl rfl (.inl rfl)
      obtain ⟨ia, vi, hia, hcelli, ri⟩ := F₃.cel 2 ("inner" : Str) (.fn f) rfl rfl (.inl rfl)
      cases hca; cases hna; cases hia; cases ri
      cases rn with
      | int _ t =>
      cases rd with
      | list r1 r2 r3 r4 r5 =>
      rename_i vs' a'
      have hIA : addrOf (fEnv (fsc 2) L [] (("_digits2int" : Str) ++ (".<locals>." : Str)) 28 (.ref 27)) ("inner" : Str) = L + 1 + 1 + 1 := rfl
      rw [hIA] at g₃
      have nt : ∀ x a, (fEnv (fsc 2) L [] (("_digits2int" : Str) ++ (".<locals>." : Str)) 28 (.ref 27)).cells.lookup x = some a → a ∉ cx.tabs := fun x a h => F₂.ek.notTabC h
      have lt : ∀ x a, (fEnv (fsc 2) L [] (("_digits2int" : Str) ++ (".<locals>." : Str)) 28 (.ref 27)).cells.lookup x = some a → a < f := fun x a h => by
        obtain ⟨v, o, e, _⟩ := F₂.ali _ (mem_of_lookup h)
        exact Nat.lt_of_lt_of_le (Heap.lt_size e) hf
      have ne1 : L + 1 ≠ L + 1 + 1 + 1 := Nat.ne_of_lt (Nat.lt_succ_of_lt (Nat.lt_succ_self _))
      have ne2 : L + 1 + 1 ≠ L + 1 + 1 + 1 := Nat.ne_of_lt (Nat.lt_succ_self _)
      have ne3 : L + 1 ≠ L + 1 + 1 := Nat.ne_of_lt (Nat.lt_succ_self _)
      have hfn : cx.n₁ ≤ f := Nat.le_trans (new_lo hI₂) hf
      have hlist : a' < f ∧ s₃.heap.PlainList a' vs'.toArray := by
        obtain ⟨k, e⟩ := r3
        refine ⟨Nat.lt_of_lt_of_le (Heap.lt_size e) hf, k, g₃.kp a' _ (fun q => ?_) r2 e⟩
        obtain ⟨v, o, e', hd⟩ := F₂.ali (("inner" : Str), L + 1 + 1 + 1) (.head _)
        rw [List.mem_singleton.mp q] at e
        have e' : s₂.heap.get? (L + 1 + 1 + 1) = some o := e'
        rw [e'] at e; cases e; cases hd
      have J : JD f (L + 1) (L + 1 + 1 + 1) (L + 1 + 1) l (.ref a') t cx.tabs s₃.heap := {
        made := made
        digits := let ⟨o, e, hd⟩ := hcell; ⟨o, g₃.kp _ o (fun q => ne1 (List.mem_singleton.mp q)) (nt ("digits" : Str) _ rfl) e, hd⟩
        inner := hcelli
        n := let ⟨o, e, hd⟩ := hcelln; ⟨o, g₃.kp _ o (fun q => ne2 (List.mem_singleton.mp q)) (nt ("n" : Str) _ rfl) e, hd⟩
        lt := ⟨lt ("digits" : Str) _ rfl, lt ("inner" : Str) _ rfl, lt ("n" : Str) _ rfl⟩
        list := ⟨a', vs', ns, rfl, hlist.1, r2, hlist.2, ints_of r4 hns, ints_all hns, r5⟩
        nt := ⟨nt ("digits" : Str) _ rfl, nt ("inner" : Str) _ rfl, nt ("n" : Str) _ rfl, fun q => absurd (cx.It _ q) (Nat.not_lt.mpr hfn)⟩ }
      have hI₃ := g₃.inv hI₂
      have J' : ∀ s', Go cx s₃ s' → JD f (L + 1) (L + 1 + 1 + 1) (L + 1 + 1) l (.ref a') t cx.tabs s'.heap := fun s' g => J.go fun b o hb e => g.kp b o (by simp) hb e
      have go3 : GoB cx (ownOf (fEnv (fsc 2) L [] (("_digits2int" : Str) ++ (".<locals>." : Str)) 28 (.ref 27))) s₂ s₃ := g₃.mono fun a ha => List.mem_singleton.mp ha ▸ hIA ▸ own_addr (.inr ⟨rfl, rfl⟩)
      have hend : ∀ v s', Go cx s₃ s' → Rel cx [] s'.heap d v → Q v s' := fun v s' g r => hQ v s' (fin [] s' (go3.trans (GoB.up g))) (by
        have : scalar d = true := by
          split at hΦ
          · cases hΦ; rfl
          · unfold phiJ intOnly at hΦ
            split at hΦ
            · cases hΦ
            · split at hΦ
              · cases hΦ; rfl
              · cases hΦ
        cases r with
        | none => exact .none
        | bool b => exact .bool b
        | int i t => exact .int i t
        | fn a => exact .fn a
        | list => cases this
        | tup => cases this)
      have ht : TrOk cx (n + 6) (fEnv (fsc 2) L [] (("_digits2int" : Str) ++ (".<locals>." : Str)) 28 (.ref 27)) xsD (.Name ("digits" : Str) ⟨0, 0, 0, 0⟩) (fun ρ => truthO (slot ρ 0)) := tr_any (ev_name 0 rfl (.inr (.inl rfl)) rfl rfl) rfl
      refine wpAny_execs_cons (wpAny_Return_some (wpAny_IfExp ?_))
      refine tr_any (ev_name 0 rfl (.inr (.inl rfl)) rfl rfl) rfl [] _ s₃ _ (!l.isEmpty) _ _ hI₃ hR₂ (fun _ h => nomatch h) F₃ rfl fun s₄ g₄ => ?_
      by_cases hemp : l.isEmpty = true
      · rw [if_pos hemp] at hΦ
        cases hΦ
        rw [hemp]
        exact wpAny_Constant_int (hend _ _ (g₄.trans Go.tok) (.int _ _))
      · rw [if_neg hemp] at hΦ
        have hemp' : l.isEmpty = false := by simpa using hemp
        rw [hemp', Bool.not_false, if_pos rfl]
        have hI₄ := g₄.inv hI₃
        have F₄ := F₃.go g₄
        refine wpAny_Call_NameR (ev_name (cx := cx) (n := n + 6) (xs := xsD) 2 rfl (.inr (.inl rfl)) rfl rfl [] _ s₄ _ (.fn f) _ _ hI₄ hR₂ (fun _ h => nomatch h) F₄ rfl fun fv s₅ g₅ r₅ => ?_)
        cases r₅
        refine callWith_P (P := fun h => cx.I h ∧ JD f (L + 1) (L + 1 + 1 + 1) (L + 1 + 1) l (.ref a') t cx.tabs h) (fun h j => by obtain ⟨_, _, _, _, e, _⟩ := j.2.made; exact ⟨_, _, e, rfl⟩) ?_ rfl rfl
        refine ar_cons (cx := cx) (n := n + 6) (xs := xsD) ev_int (ar_cons (gcall G.len trivial fn_len (ar_cons (ev_name 0 rfl (.inr (.inl rfl)) rfl rfl) ar_nil rfl) rfl rfl (fun _ => rfl) rfl) ar_nil rfl) rfl [] _ s₅ _ [.int 0, .int l.length] _ _ _ (g₅.inv hI₄) hR₂ (fun _ h => nomatch h) (F₄.go g₅) rfl fun vs₆ s₆ g₆ r₆ => ?_
        have hI₆ := g₆.inv (g₅.inv hI₄)
        have J₆ := J' s₆ ((g₄.trans g₅).trans g₆)
        refine ⟨⟨hI₆, J₆⟩, ?_⟩
        have hΦ' : phiJ f l 6 [.int 0, .int l.length] = some d := by rw [phiJ_any f 0]; exact hΦ
        refine inner_J (cx := cx) (n := n) (hf := hfn) ⟨ne1, ne3, ne2.symm⟩ 6 [] _ s₆ vs₆ [.int 0, .int l.length] d _ _ ⟨hI₆, J₆⟩ hR₂ (fun _ h => nomatch h) (RelL.conv (cx := cx) (cx' := cxD cx f (L + 1) (L + 1 + 1 + 1) (L + 1 + 1) l (.ref a') t hfn) rfl r₆) hΦ' fun v s₇ g₇ r₇ => ?_
        exact hend v s₇ (((g₄.trans g₅).trans g₆).trans ⟨g₇.kp, fun _ => (g₇.inv ⟨hI₆, J₆⟩).1, g₇.gens, g₇.drawn, g₇.os⟩) (Rel.conv (cx := cxD cx f (L + 1) (L + 1 + 1 + 1) (L + 1 + 1) l (.ref a') t hfn) (cx' := cx) rfl r₇)
    · cases hΦ
  · cases hΦ

end Mine

open PySem PySem.W PyProof.Rows

namespace Mine
variable {cx : Cx} {n : Nat} {env : Env} {xs : List Str}

section
variable {prog : Program} {w : World} {A : Around} {E : Value → Shared → Prop} {s : Shared}
theorem setItem_plain {l : Addr} {items : Array Value} {k : Int} {t : Tok} {v : Value} {Q : Unit → Shared → Prop} (hl : s.heap.PlainList l items)
    (h0 : 0 ≤ k) (hfit : k < 2 ^ 62) (hn : k < items.size)
    (hQ : ∀ h', h'.PlainList l (items.setIfInBounds k.toNat v) → Heap.SameBut l s.heap h' → Q () { s with heap := h' }) :
    wpAny (model prog w) A (setItem (.ref l) (.int k t) v) Q E s := by
  obtain ⟨n, ho⟩ := hl
  exact ki_setAt ho h0 (by omega) hn (hQ _ ⟨n, by
    rw [Heap.get?_update_self _ ho (by rfl)]
    simp only [Obj.mapSeq, Array.size_setIfInBounds, beq_self_eq_true, if_true]⟩ (Heap.SameBut.update ..))
end

def bitsO : Option V → Option V
  | some (.int i) => if i.natAbs ≤ 2 ^ 32 then some (.int (Builtin.Int.intBits i)) else none
  | _ => none
theorem ev_bits {o : Expr} {apos pos : Pos} {f : List (Option V) → Option V} (ho : EvOk cx n env xs o f) (hbase : attributeBase o ("bit_length" : Str) env (eval o env) = eval o env) (hline : (apos.endLine == pos.line) = true) :
    EvOk cx n env xs (.Call (.Attribute o ("bit_length" : Str) apos) [] [] pos) (fun ρ => bitsO (f ρ)) := by
  intro ex A s ρ d Q E hI hR hex F h hQ
  dsimp only at h
  unfold bitsO at h
  split at h
  · rename_i i q
    split at h
    · cases h
      refine wpAny_Call_method (T := "int") (id := "int.bit_length") hbase rfl hline PySem.F.plainAttrs_int PySem.F.slot_int_bit_length PySem.F.type_int_bit_length ?_
      refine ho ex A s ρ _ _ _ hI hR hex F q fun v s₁ g₁ r₁ => ?_
      cases r₁ with
      | int _ t =>
      refine ⟨typeIs_int s₁ i t, (fun a z => by cases z), ?_⟩
      refine callWith_of (P := fun _ => True) rfl (fun _ _ => ⟨.machine, .inr (.inl rfl), Looks.of_pure rfl⟩) ?_
      show wpAny _ A (evalArgs (.builtin "int.bit_length") true [] []) _ _ _
      have e : evalArgs (.builtin "int.bit_length") true [] [] = pure ⟨[], []⟩ := rfl
      rw [e]
      refine wpAny_pure ⟨trivial, ?_⟩
      exact call_int_bit_length (hQ _ _ (g₁.trans Go.tok) (.int _ _))
    · cases h
  · cases h

end Mine

open PySem PySem.W PyProof.Rows

namespace Mine
variable {cx : Cx} {n : Nat}

def inK : Stmt := fst 1 1
def xsK : List Str := [("x" : Str), ("L" : Str), ("R" : Str), ("mid" : Str), ("shift" : Str), ("upper" : Str), ("lower" : Str), ("a_digits" : Str), ("inner" : Str), ("n" : Str)]
def testK : List (Option V) → Option Bool := (fun ρ => boolOf (bind2 (bind2 (fun ρ => slot ρ 1) (fun _ => some (.int 1)) V.add) (fun ρ => slot ρ 2) V.eq ρ))
def testKe : Expr := match (fBody inK).getD 0 (.Pass ⟨0, 0, 0, 0⟩) with | .If c _ _ _ => c | _ => .Constant .none 0 ⟨0, 0, 0, 0⟩
theorem tr_K {L : Addr} {cl : List (Str × Addr)} {q : Str} {a : Addr} {cd : Value} : TrOk cx n (fEnv (fScope inK) L cl q a cd) xsK testKe testK := (tr_cmp (ev_bin (ev_name 1 rfl (.inl rfl) rfl rfl) ev_int op_add) (ev_name 2 rfl (.inl rfl) rfl rfl) op_eq rfl)
def FK1 : List (Option V) → Option Fl := (asgF 3 (bind2 (bind2 (fun ρ => slot ρ 1) (fun ρ => slot ρ 2) V.add) (fun _ => some (.int 1)) V.shr))
theorem stK1 {L : Addr} {cl : List (Str × Addr)} {q : Str} {a : Addr} {cd : Value} : StOk cx n (fEnv (fScope inK) L cl q a cd) xsK ((fBody inK).getD 1 (.Pass ⟨0, 0, 0, 0⟩)) FK1 := (asg 3 (ev_bin (ev_bin (ev_name 1 rfl (.inl rfl) rfl rfl) (ev_name 2 rfl (.inl rfl) rfl rfl) op_add) ev_int op_shr) rfl rfl rfl)
def FK2 : List (Option V) → Option Fl := (asgF 4 (bind2 (bind2 (fun ρ => slot ρ 3) (fun ρ => slot ρ 1) V.sub) (fun ρ => slot ρ 9) V.mul))
theorem stK2 {L : Addr} {cl : List (Str × Addr)} {q : Str} {a : Addr} {cd : Value} : StOk cx n (fEnv (fScope inK) L cl q a cd) xsK ((fBody inK).getD 2 (.Pass ⟨0, 0, 0, 0⟩)) FK2 := (asg 4 (ev_bin (ev_bin (ev_name 3 rfl (.inl rfl) rfl rfl) (ev_name 1 rfl (.inl rfl) rfl rfl) op_sub) (ev_name 9 rfl (.inr (.inr rfl)) rfl rfl) op_mul) rfl rfl rfl)
def FK3 : List (Option V) → Option Fl := (asgF 5 (bind2 (fun ρ => slot ρ 0) (fun ρ => slot ρ 4) V.shr))
theorem stK3 {L : Addr} {cl : List (Str × Addr)} {q : Str} {a : Addr} {cd : Value} : StOk cx n (fEnv (fScope inK) L cl q a cd) xsK ((fBody inK).getD 3 (.Pass ⟨0, 0, 0, 0⟩)) FK3 := (asg 5 (ev_bin (ev_name 0 rfl (.inl rfl) rfl rfl) (ev_name 4 rfl (.inl rfl) rfl rfl) op_shr) rfl rfl rfl)
def FK4 : List (Option V) → Option Fl := (asgF 6 (bind2 (fun ρ => slot ρ 0) (bind2 (fun ρ => slot ρ 5) (fun ρ => slot ρ 4) V.shl) V.xor))
theorem stK4 {L : Addr} {cl : List (Str × Addr)} {q : Str} {a : Addr} {cd : Value} : StOk cx n (fEnv (fScope inK) L cl q a cd) xsK ((fBody inK).getD 4 (.Pass ⟨0, 0, 0, 0⟩)) FK4 := (asg 6 (ev_bin (ev_name 0 rfl (.inl rfl) rfl rfl) (ev_bin (ev_name 5 rfl (.inl rfl) rfl rfl) (ev_name 4 rfl (.inl rfl) rfl rfl) op_shl) op_xor) rfl rfl rfl)
def argsK1 : List (Option V) → Option (List V) := (consO (fun ρ => slot ρ 6) (consO (fun ρ => slot ρ 1) (consO (fun ρ => slot ρ 3) (fun _ => some []))))
def argsKe1 : List Expr := match (fBody inK).getD 5 (.Pass ⟨0, 0, 0, 0⟩) with | .Expr (.Call _ as _ _) _ => as | _ => []
theorem ar_K1 {L : Addr} {cl : List (Str × Addr)} {q : Str} {a : Addr} {cd : Value} : ArOk cx n (fEnv (fScope inK) L cl q a cd) xsK argsKe1 argsK1 := (ar_cons (ev_name 6 rfl (.inl rfl) rfl rfl) (ar_cons (ev_name 1 rfl (.inl rfl) rfl rfl) (ar_cons (ev_name 3 rfl (.inl rfl) rfl rfl) ar_nil rfl) rfl) rfl)
def argsK2 : List (Option V) → Option (List V) := (consO (fun ρ => slot ρ 5) (consO (fun ρ => slot ρ 3) (consO (fun ρ => slot ρ 2) (fun _ => some []))))
def argsKe2 : List Expr := match (fBody inK).getD 6 (.Pass ⟨0, 0, 0, 0⟩) with | .Expr (.Call _ as _ _) _ => as | _ => []
theorem ar_K2 {L : Addr} {cl : List (Str × Addr)} {q : Str} {a : Addr} {cd : Value} : ArOk cx n (fEnv (fScope inK) L cl q a cd) xsK argsKe2 argsK2 := (ar_cons (ev_name 5 rfl (.inl rfl) rfl rfl) (ar_cons (ev_name 3 rfl (.inl rfl) rfl rfl) (ar_cons (ev_name 2 rfl (.inl rfl) rfl rfl) ar_nil rfl) rfl) rfl)
def xsI : List Str := [("a" : Str), ("n" : Str), ("a_digits" : Str), ("inner" : Str)]
def FI0 : List (Option V) → Option Fl := asgF 2 (bind2 (fun ρ => capL .list ((consO (fun _ => some (.int 0)) (fun _ => some [])) ρ)) (bind2 (bind2 (bind2 (fun ρ => bitsO (slot ρ 0)) (fun ρ => slot ρ 1) V.add) (fun _ => some (.int 1)) V.sub) (fun ρ => slot ρ 1) V.fdiv) V.mul)
theorem stI0 {L : Addr} {q : Str} {a : Addr} {cd : Value} : StOk cx n (fEnv (fsc 1) L [] q a cd) xsI (fst 1 0) FI0 := asg 2 (ev_bin (ev_list (ar_cons ev_int ar_nil rfl)) (ev_bin (ev_bin (ev_bin (ev_bits (ev_name 0 rfl (.inl rfl) rfl rfl) rfl rfl) (ev_name 1 rfl (.inr (.inl rfl)) rfl rfl) op_add) ev_int op_sub) (ev_name 1 rfl (.inr (.inl rfl)) rfl rfl) op_fdiv) op_mul) rfl rfl rfl
def rcK : List (Option V) := [none, none, none, none, none, none, some (.int 1)]
def pureK : List (Option V) → Option Fl := seqF FK1 (seqF FK2 (seqF FK3 FK4))
def phiK : Nat → List V → List Int → Option (List Int)
  | 0, _, _ => none
  | k + 1, ds, l => match exactly 3 ds with
    | none => none
    | some ds => match testK (ds.map some ++ rcK) with
      | none => none
      | some true => (match ds with
        | [.int x, .int i, _] => if 0 ≤ i ∧ i < l.length ∧ i < 2 ^ 62 then some (l.set i.toNat x) else none
        | _ => none)
      | some false => match pureK (ds.map some ++ rcK) with
        | some (.next ρ) => (match argsK1 ρ with
          | none => none
          | some as => match phiK k as l with
            | none => none
            | some l' => match argsK2 ρ with
              | none => none
              | some bs => phiK k bs l')
        | _ => none
theorem seq_next {f g : List (Option V) → Option Fl} {ρ ρ' : List (Option V)} (h : seqF f g ρ = some (.next ρ')) : ∃ ρ₁, f ρ = some (.next ρ₁) ∧ g ρ₁ = some (.next ρ') := by
  unfold seqF at h
  split at h
  · cases h
  · cases h
  · exact ⟨_, by assumption, h⟩

def parK : Arguments := match inK with | .FunctionDef _ p _ _ _ _ _ _ _ _ => p | _ => { posonlyargs := [], args := [], vararg := none, kwonlyargs := [], kw_defaults := [], kwarg := none, defaults := [] }
def posK : Pos := match inK with | .FunctionDef _ _ _ _ _ _ _ _ _ p => p | _ => ⟨0, 0, 0, 0⟩
def qK : Str := ("_int2digits" : Str) ++ (".<locals>." : Str) ++ ("inner" : Str)
theorem bind_plain3 {h : Heap} {a b c : Str} {fd : FuncData} (hb : ∀ u v w, bindArgs fd ⟨[u, v, w], []⟩ = pure [(a, u), (b, v), (c, w)]) : BindOk cx h fd [a, b, c] (exactly 3) := by
  intro ex s vs ds ds' _ r e
  unfold exactly at e
  split at e
  · rename_i hl
    cases e
    have hl2 := r.length
    rw [hl] at hl2
    match vs, hl2 with
    | [u, v, w], _ => exact ⟨[u, v, w], .of_eq (hb u v w), r, rfl⟩
  · cases e

abbrev closK (ca ci cn : Addr) : List (Str × Addr) := [(("n" : Str), cn), (("inner" : Str), ci), (("a_digits" : Str), ca)]
/-- what stands while the inner function of _int2digits runs -/
structure JK (f ca ci cn D : Addr) (t : Tok) (tabs : List Addr) (h : Heap) : Prop where
  made : MadeFn tabs h f ("inner" : Str) qK parK (fBody inK) (fScope inK) (closK ca ci cn)
  digits : h.IsCell ca (some (.ref D))
  inner : h.IsCell ci (some (.ref f))
  n : h.IsCell cn (some (.int 1 t))
  lt : ca < f ∧ ci < f ∧ cn < f
  nt : ca ∉ tabs ∧ ci ∉ tabs ∧ cn ∉ tabs ∧ f ∉ tabs
theorem JK.any {f ca ci cn D : Addr} {t : Tok} {tabs : List Addr} {h h' : Heap} (j : JK f ca ci cn D t tabs h) (k : ∀ b o, b < f + 1 → b ∉ tabs → seqish o = false → h.get? b = some o → h'.get? b = some o) : JK f ca ci cn D t tabs h' where
  made := by
    obtain ⟨c', ctv, doc, pm, e, ⟨c, oc, vs, tq, e1, e2, e3, e4⟩, hlt, hct⟩ := j.made
    cases e1
    exact ⟨_, ctv, doc, pm, k _ _ (Nat.lt_succ_self _) j.nt.2.2.2 rfl e, ⟨_, oc, vs, tq, rfl, k _ _ (Nat.lt_succ_of_lt hlt) hct (by unfold seqish; rw [e3]) e2, e3, e4⟩, hlt, hct⟩
  digits := let ⟨o, e, d⟩ := j.digits; ⟨o, k _ _ (Nat.lt_succ_of_lt j.lt.1) j.nt.1 (by unfold seqish; rw [d]) e, d⟩
  inner := let ⟨o, e, d⟩ := j.inner; ⟨o, k _ _ (Nat.lt_succ_of_lt j.lt.2.1) j.nt.2.1 (by unfold seqish; rw [d]) e, d⟩
  n := let ⟨o, e, d⟩ := j.n; ⟨o, k _ _ (Nat.lt_succ_of_lt j.lt.2.2) j.nt.2.2.1 (by unfold seqish; rw [d]) e, d⟩
  lt := j.lt
  nt := j.nt

def cxK (cx : Cx) (f ca ci cn D : Addr) (t : Tok) (hf : cx.n₁ ≤ f) : Cx :=
  subCx cx f (JK f ca ci cn D t cx.tabs) (Nat.le_succ_of_le hf) (fun _ _ j k => j.any fun b o hb _ _ e => k b o e hb) (fun _ j => let ⟨_, _, _, _, e, _⟩ := j.made; ⟨_, e⟩)

theorem fun_K {f ca ci cn D : Addr} {t : Tok} {hf : cx.n₁ ≤ f} : ∀ h, (cxK cx f ca ci cn D t hf).I h →
    FunIs (cxK cx f ca ci cn D t hf) h f [("x" : Str), ("L" : Str), ("R" : Str)] (exactly 3) (fScope inK) (fBody inK) (closK ca ci cn) (fun _ _ => True) := by
  rintro h ⟨_, j⟩
  obtain ⟨c', ctv, doc, pm, e, hr, hlt⟩ := j.made
  exact ⟨_, _, e, rfl, rfl, rfl, rfl, rfl, rfl, hr, bind_plain3 fun _ _ _ => rfl, trivial⟩

theorem ints_set {vs : List Value} {l : List Int} (h : IntsAre vs l) : ∀ (i : Nat) (x : Int) (t : Tok), IntsAre (vs.set i (.int x t)) (l.set i x) := by
  induction h with
  | nil => intro i x t; exact .nil
  | cons a b r ih =>
    intro i x t
    cases i with
    | zero => exact .cons _ _ r
    | succ i => exact .cons _ _ (ih i x t)

/-- only D, a list, changes -/
theorem FrOk.goD {ex : List Addr} {env : Env} {xs : List Str} {D : Addr} {s s' : Shared} {ρ : List (Option V)} {vs : Array Value} (F : FrOk cx (D :: ex) env xs s.heap ρ) (g : GoB cx [D] s s') (hD : s.heap.PlainList D vs) : FrOk cx (D :: ex) env xs s'.heap ρ := by
  obtain ⟨k, e⟩ := hD
  exact F.other (fun d v r => r.go g (fun a ha => List.mem_singleton.mp ha ▸ .head _)) (fun b o hb ht e => g.kp b o (fun q => hb (List.mem_singleton.mp q)) ht e) e (fun _ _ z => by cases z) (fun _ z => by cases z)

theorem inner_K {f ca ci cn D : Addr} {t : Tok} {hf : cx.n₁ ≤ f} (hne : ca ≠ ci ∧ ca ≠ cn ∧ ci ≠ cn) (hD : cx.n₁ ≤ D) (hDt : D ∉ cx.tabs) : ∀ (k : Nat) (A : Around) (s : Shared) (vs : List Value) (ds : List V) (l l' : List Int) (vD : List Value)
    (Q : Value → Shared → Prop) (E : Value → Shared → Prop), (cxK cx f ca ci cn D t hf).I s.heap → Room (n + k) A → RelL (cxK cx f ca ci cn D t hf) [D] s.heap ds vs → s.heap.PlainList D vD.toArray → IntsAre vD l → phiK k ds l = some l' →
    (∀ s' vD', GoB (cxK cx f ca ci cn D t hf) [D] s s' → s'.heap.PlainList D vD'.toArray → IntsAre vD' l' → Q .none s') → wpAny (model cx.prog cx.w) A (call (.ref f) vs) Q E s
  | 0, A, s, vs, ds, l, l', vD, Q, E, _, _, _, _, _, h, _ => by cases h
  | k + 1, A, s, vs, ds, l, l', vD, Q, E, hI, hR, hr, hDp, hints, h, hQ => by
    unfold phiK at h
    split at h
    · cases h
    · rename_i ds' hex'
      have hds : ds' = ds := by
        unfold exactly at hex'
        split at hex'
        · cases hex'; rfl
        · cases hex'
      have hl3 : ds.length = 3 := by
        unfold exactly at hex'
        split at hex'
        · assumption
        · cases hex'
      subst hds
      have hal : Alive (cxK cx f ca ci cn D t hf) [D] s.heap := fun b hb => by
        rw [List.mem_singleton.mp hb]
        obtain ⟨ep, e⟩ := hDp
        exact ⟨hDt, _, e, rfl⟩
      refine call_skel (cx := cxK cx f ca ci cn D t hf) (n := n + k) (ex := [D]) (xs := xsK) rcK fun_K rfl rfl rfl (by decide) (fun j x hj => by
          match j with
          | 0 => exact hj
          | 1 => exact hj
          | 2 => exact hj
          | j + 3 => simp at hj)
        (fun x hx => by
          have : x = ("x" : Str) ∨ x = ("L" : Str) ∨ x = ("R" : Str) := by simpa using hx
          rcases this with rfl | rfl | rfl <;> exact .inl rfl)
        (fun p hp => by
          have : p = (("n" : Str), cn) ∨ p = (("inner" : Str), ci) ∨ p = (("a_digits" : Str), ca) := by simpa using hp
          rcases this with rfl | rfl | rfl <;> rfl)
        (fun p hp q hq e => by
          have : ∀ p ∈ closK ca ci cn, p = (("n" : Str), cn) ∨ p = (("inner" : Str), ci) ∨ p = (("a_digits" : Str), ca) := fun p hp => by simpa using hp
          rcases this p hp with rfl | rfl | rfl <;> rcases this q hq with rfl | rfl | rfl <;> first | rfl | (exfalso; revert e; first | exact hne.1 | exact hne.2.1 | exact hne.2.2 | exact hne.1.symm | exact hne.2.1.symm | exact hne.2.2.symm))
        (fun h hI => by
          obtain ⟨_, j⟩ := hI
          refine ⟨fun p hp => ?_, fun i x d h1 h2 => ?_⟩
          · have : p = (("n" : Str), cn) ∨ p = (("inner" : Str), ci) ∨ p = (("a_digits" : Str), ca) := by simpa using hp
            rcases this with rfl | rfl | rfl
            · exact ⟨j.nt.2.2.1, _, j.n⟩
            · exact ⟨j.nt.2.1, _, j.inner⟩
            · exact ⟨j.nt.1, _, j.digits⟩
          · match i with
            | 0 => cases h2
            | 1 => cases h2
            | 2 => cases h2
            | 3 => cases h2
            | 4 => cases h2
            | 5 => cases h2
            | 6 => cases h2
            | 7 => cases h2
            | 8 => cases h2
            | 9 =>
              cases h1; cases h2
              exact ⟨rfl, rfl, cn, _, rfl, j.n, .int 1 t⟩
            | i + 10 => simp [xsK] at h1)
        hI hR hal hr hex' fun L q c s₂ E' _ fin g₂ hfr hI₂ hex₂ F₂ hR₂ => ?_
      have hDown : D ∉ ownOf (fEnv (fScope inK) L (closK ca ci cn) q f c) := fun q => by
        obtain ⟨ep, e⟩ := hDp
        rw [hfr D q] at e; cases e
      have hD₂ : s₂.heap.PlainList D vD.toArray := by
        obtain ⟨ep, e⟩ := hDp
        exact ⟨ep, g₂.kp D _ hDown hDt e⟩
      refine wpAny_execs_cons (wpAny_If ?_)
      split at h
      · cases h
      · rename_i htest
        refine tr_K [D] _ s₂ _ true _ _ hI₂ hR₂ hex₂ F₂ htest fun s₃ g₃ => ?_
        rw [if_pos rfl]
        have F₃ := F₂.go g₃
        have hI₃ := g₃.inv hI₂
        split at h
        · rename_i x i dR
          split at h
          · rename_i hb
            cases h
            refine wpAny_execs_cons (wpAny_Assign_Subscript ?_)
            refine ev_name (cx := cxK cx f ca ci cn D t hf) (n := n + k) (xs := xsK) 0 rfl (.inl rfl) rfl rfl [D] _ s₃ _ (.int x) _ _ hI₃ hR₂ (exLt hex₂ g₃) F₃ rfl fun vx s₄ g₄ r₄ => ?_
            have F₄ := F₃.go g₄
            have hI₄ := g₄.inv hI₃
            refine wpAny_Name (wpAny_loadName_free (name := ("a_digits" : Str)) (c := ca) F₄.ek.kind rfl rfl hI₄.2.digits ?_) rfl
            refine ev_name (cx := cxK cx f ca ci cn D t hf) (n := n + k) (xs := xsK) 1 rfl (.inl rfl) rfl rfl [D] _ s₄ _ (.int i) _ _ hI₄ hR₂ (exLt (exLt hex₂ g₃) g₄) F₄ rfl fun vi s₅ g₅ r₅ => ?_
            cases r₄ with
            | int _ tx =>
            cases r₅ with
            | int _ ti =>
            have hI₅ := g₅.inv hI₄
            have g₂₅ := (g₃.trans g₄).trans g₅
            have hD₅ : s₅.heap.PlainList D vD.toArray := hD₂.at fun o e => g₂₅.kp D o (by simp) hDt e
            have hlen : vD.length = l.length := hints.length
            refine setItem_plain hD₅ hb.1 hb.2.2 (by rw [List.size_toArray, hlen]; exact hb.2.1) fun h' hp' hs' => ?_
            refine wpAny_execs_cons (wpAny_Return_none ?_)
            have hgD : GoB (cxK cx f ca ci cn D t hf) [D] s₅ { s₅ with heap := h' } := by
              obtain ⟨ep, eD⟩ := hD₅
              refine ⟨fun b o hb _ e => (hs'.2 b (fun q => hb (by simp [q]))).trans e, fun hi => ⟨cx.Ik _ _ hi.1 fun b o e hb => (hs'.2 b (fun q => ?_)).trans e, hi.2.any fun b o _ _ hs e => (hs'.2 b (fun q => ?_)).trans e⟩, rfl, rfl, rfl⟩
              · subst q
                rcases hb with hb | hb
                · exact absurd hb (Nat.not_lt.mpr hD)
                · rw [eD] at e; cases e
                  obtain ⟨_, _, _, z, _⟩ := hb; cases z
              · subst q; rw [eD] at e; cases e; cases hs
            refine hQ _ (vD.set i.toNat (.int x tx)) (fin [D] _ ((GoB.up g₂₅).trans (hgD.mono fun a ha => List.mem_append_left _ ha))) ?_ (ints_set hints _ _ _)
            simpa using hp'
          · cases h
        · cases h
      · rename_i htest
        refine tr_K [D] _ s₂ _ false _ _ hI₂ hR₂ hex₂ F₂ htest fun s₃ g₃ => ?_
        rw [if_neg (by decide)]
        refine wpAny_execs_nil ?_
        split at h
        · rename_i ρ hpure
          obtain ⟨ρ₁, p1, hpure⟩ := seq_next hpure
          obtain ⟨ρ₂, p2, hpure⟩ := seq_next hpure
          obtain ⟨ρ₃, p3, p4⟩ := seq_next hpure
          have al : ∀ s' (g : GoB (cxK cx f ca ci cn D t hf) (ownOf (fEnv (fScope inK) L (closK ca ci cn) q f c)) s₂ s'), s'.heap.PlainList D vD.toArray := fun s' g => hD₂.at fun o e => g.kp D o hDown hDt e
          have alive : ∀ (s' : Shared) (v : List Value), s'.heap.PlainList D v.toArray → Alive (cxK cx f ca ci cn D t hf) [D] s'.heap := fun s' v hp b hb => by
            rw [List.mem_singleton.mp hb]
            obtain ⟨ep, e⟩ := hp
            exact ⟨hDt, _, e, rfl⟩
          have F₃ := F₂.go g₃
          have hI₃ := g₃.inv hI₂
          have g₂₃ : GoB (cxK cx f ca ci cn D t hf) (ownOf (fEnv (fScope inK) L (closK ca ci cn) q f c)) s₂ s₃ := GoB.up g₃
          refine wpAny_execs_cons (stK1 [D] _ s₃ _ _ _ _ hI₃ hR₂ (alive s₃ _ (al s₃ g₂₃)) F₃ p1 (fun ρ' s₄ g₄ F₄ e => ?_) fun _ _ _ _ _ e => by cases e)
          cases e
          have hI₄ := g₄.inv hI₃
          have g₂₄ := g₂₃.trans g₄
          refine wpAny_execs_cons (stK2 [D] _ s₄ _ _ _ _ hI₄ hR₂ (alive s₄ _ (al s₄ g₂₄)) F₄ p2 (fun ρ' s₅ g₅ F₅ e => ?_) fun _ _ _ _ _ e => by cases e)
          cases e
          have hI₅ := g₅.inv hI₄
          have g₂₅ := g₂₄.trans g₅
          refine wpAny_execs_cons (stK3 [D] _ s₅ _ _ _ _ hI₅ hR₂ (alive s₅ _ (al s₅ g₂₅)) F₅ p3 (fun ρ' s₆ g₆ F₆ e => ?_) fun _ _ _ _ _ e => by cases e)
          cases e
          have hI₆ := g₆.inv hI₅
          have g₂₆ := g₂₅.trans g₆
          refine wpAny_execs_cons (stK4 [D] _ s₆ _ _ _ _ hI₆ hR₂ (alive s₆ _ (al s₆ g₂₆)) F₆ p4 (fun ρ' s₇ g₇ F₇ e => ?_) fun _ _ _ _ _ e => by cases e)
          cases e
          have hI₇ := g₇.inv hI₆
          have g₂₇ := g₂₆.trans g₇
          have hD₇ := al s₇ g₂₇
          split at h
          · cases h
          · rename_i as hargs₁
            split at h
            · cases h
            · rename_i lm hcall₁
              split at h
              · cases h
              · rename_i bs hargs₂
                refine wpAny_execs_cons (wpAny_Expr_any (wpAny_Call_NameR (wpAny_Name (wpAny_loadName_free (name := ("inner" : Str)) (c := ci) F₇.ek.kind rfl rfl hI₇.2.inner ?_) rfl)))
                refine callWith_P (cx := cxK cx f ca ci cn D t hf) (P := (cxK cx f ca ci cn D t hf).I) (fun h j => by obtain ⟨_, _, _, _, e, _⟩ := j.2.made; exact ⟨_, _, e, rfl⟩) ?_ rfl rfl
                refine ar_K1 [D] _ s₇ _ as _ _ _ hI₇ hR₂ (alive s₇ _ hD₇) F₇ hargs₁ fun vs₈ s₈ g₈ r₈ => ?_
                have hI₈ := g₈.inv hI₇
                have hD₈ : s₈.heap.PlainList D vD.toArray := hD₇.at fun o e => g₈.kp D o (by simp) hDt e
                refine ⟨hI₈, inner_K hne hD hDt k _ s₈ vs₈ as l lm vD _ _ hI₈ hR₂ r₈ hD₈ hints hcall₁ fun s₉ vD₉ g₉ hD₉ hints₉ => ?_⟩
                have hI₉ := g₉.inv hI₈
                have F₉ := (F₇.go g₈).goD g₉ hD₈
                refine wpAny_execs_cons (wpAny_Expr_any (wpAny_Call_NameR (wpAny_Name (wpAny_loadName_free (name := ("inner" : Str)) (c := ci) F₉.ek.kind rfl rfl hI₉.2.inner ?_) rfl)))
                refine callWith_P (cx := cxK cx f ca ci cn D t hf) (P := (cxK cx f ca ci cn D t hf).I) (fun h j => by obtain ⟨_, _, _, _, e, _⟩ := j.2.made; exact ⟨_, _, e, rfl⟩) ?_ rfl rfl
                refine ar_K2 [D] _ s₉ _ bs _ _ _ hI₉ hR₂ (alive s₉ _ hD₉) F₉ hargs₂ fun vs₁₀ s₁₀ g₁₀ r₁₀ => ?_
                have hI₁₀ := g₁₀.inv hI₉
                have hD₁₀ : s₁₀.heap.PlainList D vD₉.toArray := hD₉.at fun o e => g₁₀.kp D o (by simp) hDt e
                refine ⟨hI₁₀, inner_K hne hD hDt k _ s₁₀ vs₁₀ bs lm l' vD₉ _ _ hI₁₀ hR₂ r₁₀ hD₁₀ hints₉ h fun s₁₁ vD₁₁ g₁₁ hD₁₁ hints₁₁ => ?_⟩
                refine wpAny_execs_nil (hQ s₁₁ vD₁₁ (fin [D] s₁₁ ?_) hD₁₁ hints₁₁)
                have up : ∀ {x y : Shared}, GoB (cxK cx f ca ci cn D t hf) [D] x y → GoB (cxK cx f ca ci cn D t hf) ([D] ++ ownOf (fEnv (fScope inK) L (closK ca ci cn) q f c)) x y := fun g => g.mono fun a ha => List.mem_append_left _ ha
                exact (g₂₇.mono fun a ha => List.mem_append_right _ ha).trans ((GoB.up g₈).trans ((up g₉).trans ((GoB.up g₁₀).trans (up g₁₁))))
        · cases h

end Mine

open PySem PySem.W PyProof.Rows

namespace Mine
variable {cx : Cx} {n : Nat}

def zerosI (a : Int) : Option (List Int) := match FI0 [some (.int a), some (.int 1)] with
  | some (.next ρ) => (match slot ρ 2 with
    | some (.list z) => intsOf z
    | _ => none)
  | _ => none
def capI (l : List Int) : Option V := if l.length ≤ 2 ^ 20 then some (.list (l.map V.int)) else none
def phiI : List V → Option V
  | [.int a, .int 1] => match zerosI a with
    | none => none
    | some l => if a = 0 then capI l else match phiK 4 [.int a, .int 0, .int l.length] l with
      | none => none
      | some l' => capI l'
  | _ => none

/-- all that lists in a heap -/
def exAll (cx : Cx) (h : Heap) : List Addr := (List.range h.objs.size).filter fun b => decide (b ∉ cx.tabs) && (match h.get? b with | some o => seqish o | none => false)
theorem mem_exAll {h : Heap} {b : Addr} {o : Obj} (e : h.get? b = some o) (ht : b ∉ cx.tabs) (hs : seqish o = true) : b ∈ exAll cx h := by
  unfold exAll
  rw [List.mem_filter]
  exact ⟨List.mem_range.mpr (Heap.lt_size e), by simp [ht, e, hs]⟩
theorem alive_exAll {h : Heap} : Alive cx (exAll cx h) h := fun b hb => by
  unfold exAll at hb
  rw [List.mem_filter] at hb
  obtain ⟨_, hb⟩ := hb
  rw [Bool.and_eq_true] at hb
  refine ⟨by simpa using hb.1, ?_⟩
  have h2 := hb.2
  split at h2
  · rename_i o e; exact ⟨o, e, h2⟩
  · cases h2

theorem fn_I (hall : ∀ h, cx.I h → ∀ b, b < cx.n₁ → ∃ o, h.get? b = some o) (H : DefCx cx 20 16 posK qK) (G : Globs cx) (hfun : ∀ h, cx.I h → FunIs cx h 21 [("a" : Str), ("n" : Str)] (exactly 2) (fsc 1) (fBody (topSt 1)) [] (fun cd qn => cd = .ref 20 ∧ qn = ("_int2digits" : Str))) : FnOk cx (n + 4 + 1) (.ref 21) phiI := by
  intro ex A s vs ds d Q E hI hR hex hr hΦ hQ
  unfold phiI at hΦ
  split at hΦ
  · rename_i a
    split at hΦ
    · cases hΦ
    · rename_i l hz
      have hr0 : RelL cx (exAll cx s.heap) s.heap [.int a, .int 1] vs := by
        cases hr with
        | cons r1 r2 => cases r2 with
          | cons r2 r3 => cases r3; cases r1; cases r2; exact .cons (.int _ _) (.cons (.int _ _) .nil)
      refine call_skel (cx := cx) (n := n + 4) (ex := exAll cx s.heap) (xs := xsI) (rc := []) hfun rfl rfl rfl (by decide) (fun j x hj => by
          match j with
          | 0 => exact hj
          | 1 => exact hj
          | j + 2 => simp at hj)
        (fun x hx => by
          rcases List.mem_cons.mp hx with rfl | hx
          · exact .inl rfl
          · rw [List.mem_singleton.mp hx]; exact .inr rfl)
        (fun _ h => nomatch h) (fun _ h => nomatch h)
        (fun h hI => ⟨(fun _ h => nomatch h), fun i x d _ h2 => by
          have z := (slot_nones 2 [] i d h2).2
          simp [slot] at z⟩)
        hI hR alive_exAll hr0 (ds' := [.int a, .int 1]) rfl fun L q c s₂ E' hc fin g₂ hfr hI₂ hex₂ F₂ hR₂ => ?_
      obtain ⟨qn, rfl, rfl, rfl⟩ := hc
      generalize henv : fEnv (fsc 1) L [] (("_int2digits" : Str) ++ (".<locals>." : Str)) 21 (.ref 20) = env at *
      have F₂ : FrOk cx (exAll cx s.heap) env xsI s₂.heap [some (.int a), some (.int 1)] := F₂
      unfold zerosI at hz
      split at hz
      · rename_i ρ₁ hF0
        split at hz
        · rename_i z hslot
          have hρ : ρ₁ = [some (.int a), some (.int 1), some (.list z)] := by
            unfold FI0 asgF at hF0
            split at hF0
            · cases hF0
            · rename_i d0 _
              cases hF0
              have : some d0 = some (V.list z) := hslot
              rw [Option.some.inj this]; rfl
          subst hρ
          refine wpAny_execs_cons ?_
          have st0 : StOk cx (n + 4) env xsI (fst 1 0) FI0 := henv ▸ stI0
          refine st0 _ _ s₂ _ _ _ _ hI₂ hR₂ hex₂ F₂ hF0 (fun ρ' s₃ g₃ F₃ e => ?_) fun _ _ _ _ _ e => by cases e
          cases e
          have hI₃ := g₃.inv hI₂
          refine wpAny_execs_cons ?_
          subst henv
          refine def_ok 3 hI₃ F₃ rfl (.inr ⟨rfl, rfl⟩) rfl H.mem rfl H.tab H.ba H.gP H.set rfl rfl rfl rfl fun f s₄ g₄ F₄ hf made => ?_
          have hI₄ := g₄.inv hI₃
          obtain ⟨ca, vd, hca, hcell, rd⟩ := F₃.cel 2 ("a_digits" : Str) (.list z) rfl rfl (.inl rfl)
          obtain ⟨na, vn, hna, hcelln, rn⟩ := F₃.cel 1 ("n" : Str) (.int 1) rfl rfl (.inl rfl)
          obtain ⟨ia, vi, hia, hcelli, ri⟩ := F₄.cel 3 ("inner" : Str) (.fn f) rfl rfl (.inl rfl)
          cases hca; cases hna; cases hia; cases ri
          cases rn with
          | int _ t =>
          cases rd with
          | list r1 r2 r3 r4 r5 =>
          rename_i vD D
          have hIA : addrOf (fEnv (fsc 1) L [] (("_int2digits" : Str) ++ (".<locals>." : Str)) 21 (.ref 20)) ("inner" : Str) = L + 1 + 1 + 1 := rfl
          rw [hIA] at g₄
          have nt : ∀ x b, (fEnv (fsc 1) L [] (("_int2digits" : Str) ++ (".<locals>." : Str)) 21 (.ref 20)).cells.lookup x = some b → b ∉ cx.tabs := fun x a h => F₂.ek.notTabC h
          have lt : ∀ x b, (fEnv (fsc 1) L [] (("_int2digits" : Str) ++ (".<locals>." : Str)) 21 (.ref 20)).cells.lookup x = some b → b < f := fun x a h => by
            obtain ⟨v, o, e, _⟩ := F₃.ali _ (mem_of_lookup h)
            exact Nat.lt_of_lt_of_le (Heap.lt_size e) hf
          have ne1 : L + 1 + 1 ≠ L + 1 + 1 + 1 := Nat.ne_of_lt (Nat.lt_succ_self _)
          have ne2 : L + 1 ≠ L + 1 + 1 + 1 := Nat.ne_of_lt (Nat.lt_succ_of_lt (Nat.lt_succ_self _))
          have ne3 : L + 1 ≠ L + 1 + 1 := Nat.ne_of_lt (Nat.lt_succ_self _)
          have hfn : cx.n₁ ≤ f := Nat.le_trans (new_lo hI₃) hf
          have hints : IntsAre vD l := ints_of r4 hz
          -- D is new
          have g₀₃ : GoB cx (ownOf (fEnv (fsc 1) L [] (("_int2digits" : Str) ++ (".<locals>." : Str)) 21 (.ref 20))) s s₃ := g₂.trans g₃
          have hDown : D ∉ ownOf (fEnv (fsc 1) L [] (("_int2digits" : Str) ++ (".<locals>." : Str)) 21 (.ref 20)) := fun q => by
            obtain ⟨o, e, hs, _⟩ := own_ob F₃ q
            obtain ⟨k, e'⟩ := r3
            rw [e'] at e; cases e; cases hs
          have hDnew : s.heap.get? D = none := by
            cases e : s.heap.get? D with
            | none => rfl
            | some o =>
              have e3 := g₀₃.kp D o hDown r2 e
              obtain ⟨k, e'⟩ := r3
              rw [e'] at e3; cases e3
              exact absurd (mem_exAll e r2 rfl) r1
          have hDn : cx.n₁ ≤ D := Nat.le_of_not_lt fun q => by
            obtain ⟨o, e⟩ := hall _ hI D q
            rw [hDnew] at e; cases e
          have hD₄ : s₄.heap.PlainList D vD.toArray := by
            obtain ⟨k, e⟩ := r3
            refine ⟨k, g₄.kp D _ (fun q => ?_) r2 e⟩
            obtain ⟨v, o, e', hd⟩ := F₃.ali (("inner" : Str), L + 1 + 1 + 1) (.head _)
            rw [List.mem_singleton.mp q] at e
            have e' : s₃.heap.get? (L + 1 + 1 + 1) = some o := e'
            rw [e'] at e; cases e; cases hd
          have J : JK f (L + 1 + 1) (L + 1 + 1 + 1) (L + 1) D t cx.tabs s₄.heap := {
            made := made
            digits := let ⟨o, e, hd⟩ := hcell; ⟨o, g₄.kp _ o (fun q => ne1 (List.mem_singleton.mp q)) (nt ("a_digits" : Str) _ rfl) e, hd⟩
            inner := hcelli
            n := let ⟨o, e, hd⟩ := hcelln; ⟨o, g₄.kp _ o (fun q => ne2 (List.mem_singleton.mp q)) (nt ("n" : Str) _ rfl) e, hd⟩
            lt := ⟨lt ("a_digits" : Str) _ rfl, lt ("inner" : Str) _ rfl, lt ("n" : Str) _ rfl⟩
            nt := ⟨nt ("a_digits" : Str) _ rfl, nt ("inner" : Str) _ rfl, nt ("n" : Str) _ rfl, fun q => absurd (cx.It _ q) (Nat.not_lt.mpr hfn)⟩ }
          have g₂₄ : GoB cx (ownOf (fEnv (fsc 1) L [] (("_int2digits" : Str) ++ (".<locals>." : Str)) 21 (.ref 20))) s₂ s₄ := g₃.trans (g₄.mono fun b hb => List.mem_singleton.mp hb ▸ hIA ▸ own_addr (.inr ⟨rfl, rfl⟩))
          have J' : ∀ s', Go cx s₄ s' → JK f (L + 1 + 1) (L + 1 + 1 + 1) (L + 1) D t cx.tabs s'.heap := fun s' g => J.any fun b o _ hb _ e => g.kp b o (by simp) hb e
          have hend : ∀ (s' : Shared) (v : List Value) (lf : List Int), GoB cx ([D] ++ ownOf (fEnv (fsc 1) L [] (("_int2digits" : Str) ++ (".<locals>." : Str)) 21 (.ref 20))) s₂ s' → s'.heap.PlainList D v.toArray → IntsAre v lf → capI lf = some d →
              Q (.ref D) s' := fun s' v lf g hp hi hc => by
            unfold capI at hc
            split at hc
            · rename_i hlen
              cases hc
              refine hQ _ s' ((fin [D] s' g).drop fun b hb => .inr (List.mem_singleton.mp hb ▸ hDnew)) (.list (fun q => ?_) r2 hp (rel_ints hi) (by rw [List.length_map]; exact hlen))
              obtain ⟨_, o, e, _⟩ := hex D q
              rw [hDnew] at e; cases e
            · cases hc
          refine wpAny_execs_cons (wpAny_If ?_)
          refine tr_any (cx := cx) (n := n + 4) (xs := xsI) (ev_name 0 rfl (.inl rfl) rfl rfl) rfl _ _ s₄ _ (a != 0) _ _ hI₄ hR₂ ((hex₂.ns g₃ (own_ns F₂)).ns g₄ (fun b hb o e => own_ns F₃ b (List.mem_singleton.mp hb ▸ hIA ▸ own_addr (.inr ⟨rfl, rfl⟩)) o e)) F₄ rfl fun s₅ g₅ => ?_
          have hI₅ := g₅.inv hI₄
          have J₅ := J' s₅ g₅
          have hD₅ : s₅.heap.PlainList D vD.toArray := hD₄.at fun o e => g₅.kp D o (by simp) r2 e
          by_cases ha : a = 0
          · rw [if_pos ha] at hΦ
            rw [ha]
            rw [if_neg (by decide)]
            refine wpAny_execs_nil (wpAny_execs_cons (wpAny_Return_some (wpAny_Name (wpAny_loadName_cell (c := L + 1 + 1) F₄.ek.kind rfl rfl J₅.digits ?_) rfl)))
            exact hend s₅ vD l ((g₂₄.trans (GoB.up g₅)).mono fun b hb => List.mem_append_right _ hb) hD₅ hints hΦ
          · rw [if_neg ha] at hΦ
            rw [if_pos (by simpa using ha)]
            split at hΦ
            · cases hΦ
            · rename_i l' hK
              refine wpAny_execs_cons (wpAny_Expr_any (wpAny_Call_NameR (wpAny_Name (wpAny_loadName_cell (c := L + 1 + 1 + 1) F₄.ek.kind rfl rfl J₅.inner ?_) rfl)))
              refine callWith_P (cx := cx) (P := fun h => cx.I h ∧ JK f (L + 1 + 1) (L + 1 + 1 + 1) (L + 1) D t cx.tabs h) (fun h j => by obtain ⟨_, _, _, _, e, _⟩ := j.2.made; exact ⟨_, _, e, rfl⟩) ?_ rfl rfl
              have hex₅ := exLt ((hex₂.ns g₃ (own_ns F₂)).ns g₄ (fun b hb o e => own_ns F₃ b (List.mem_singleton.mp hb ▸ hIA ▸ own_addr (.inr ⟨rfl, rfl⟩)) o e)) g₅
              have hzl : z.length = l.length := by rw [ints_all hz, List.length_map]
              refine ar_cons (cx := cx) (n := n + 4) (xs := xsI) (ev_name 0 rfl (.inl rfl) rfl rfl) (ar_cons ev_int (ar_cons (gcall G.len trivial fn_len (ar_cons (ev_name 2 rfl (.inr (.inl rfl)) rfl rfl) ar_nil rfl) rfl rfl (fun _ => rfl) rfl) ar_nil rfl) rfl) rfl _ _ s₅ _ [.int a, .int 0, .int z.length] _ _ _ hI₅ hR₂ hex₅ (F₄.go g₅) rfl fun vs₆ s₆ g₆ r₆ => ?_
              have hI₆ := g₆.inv hI₅
              have J₆ := J' s₆ (g₅.trans g₆)
              have hD₆ : s₆.heap.PlainList D vD.toArray := hD₅.at fun o e => g₆.kp D o (by simp) r2 e
              refine ⟨⟨hI₆, J₆⟩, ?_⟩
              have r₆' : RelL (cxK cx f (L + 1 + 1) (L + 1 + 1 + 1) (L + 1) D t hfn) [D] s₆.heap [.int a, .int 0, .int z.length] vs₆ := by
                cases r₆ with
                | cons r1 r2 => cases r2 with
                  | cons r2 r3 => cases r3 with
                    | cons r3 r4 => cases r4; cases r1; cases r2; cases r3; exact .cons (.int _ _) (.cons (.int _ _) (.cons (.int _ _) .nil))
              refine inner_K (cx := cx) (n := n) (hf := hfn) ⟨ne1, ne3.symm, ne2.symm⟩ hDn r2 4 _ s₆ vs₆ [.int a, .int 0, .int z.length] l l' vD _ _ ⟨hI₆, J₆⟩ hR₂ r₆' hD₆ hints (by rw [hzl]; exact hK) fun s₇ vD₇ g₇ hD₇ hints₇ => ?_
              have I₇ := g₇.inv ⟨hI₆, J₆⟩
              refine wpAny_execs_nil (wpAny_execs_cons (wpAny_Return_some (wpAny_Name (wpAny_loadName_cell (c := L + 1 + 1) F₄.ek.kind rfl rfl I₇.2.digits ?_) rfl)))
              refine hend s₇ vD₇ l' ?_ hD₇ hints₇ hΦ
              have g₇' : GoB cx [D] s₆ s₇ := ⟨g₇.kp, fun _ => I₇.1, g₇.gens, g₇.drawn, g₇.os⟩
              exact ((g₂₄.trans (GoB.up (g₅.trans g₆))).mono fun b hb => List.mem_append_right _ hb).trans (g₇'.mono fun b hb => List.mem_append_left _ hb)
        · cases hz
      · cases hz
  · cases hΦ

end Mine

open PySem PySem.W PyProof.Rows

namespace Mine
variable {cx : Cx} {n : Nat}

def insAt {α : Type} (l : List α) (i : Nat) (x : α) : List α := l.take i ++ x :: l.drop i
theorem ints_app {vs ws : List Value} {l r : List Int} (h : IntsAre vs l) (h' : IntsAre ws r) : IntsAre (vs ++ ws) (l ++ r) := by
  induction h with
  | nil => exact h'
  | cons a b _ ih => exact .cons _ _ ih
theorem ints_take {vs : List Value} {l : List Int} (h : IntsAre vs l) : ∀ i, IntsAre (vs.take i) (l.take i) := by
  induction h with
  | nil => intro i; rw [List.take_nil, List.take_nil]; exact .nil
  | cons a b _ ih =>
    intro i
    cases i with
    | zero => exact .nil
    | succ i => exact .cons _ _ (ih i)
theorem ints_drop {vs : List Value} {l : List Int} (h : IntsAre vs l) : ∀ i, IntsAre (vs.drop i) (l.drop i) := by
  induction h with
  | nil => intro i; rw [List.drop_nil, List.drop_nil]; exact .nil
  | cons a b r ih =>
    intro i
    cases i with
    | zero => exact .cons _ _ r
    | succ i => exact ih i
theorem ints_ins {vs : List Value} {l : List Int} (h : IntsAre vs l) (i : Nat) (x : Int) (t : Tok) : IntsAre (insAt vs i (.int x t)) (insAt l i x) := ints_app (ints_take h i) (.cons _ _ (ints_drop h i))

section
variable {prog : Program} {w : World} {A : Around} {E : Value → Shared → Prop} {s : Shared}
theorem insert_plain {D : Addr} {vs : List Value} {i : Int} {u : Tok} {y : Value} {Q : Value → Shared → Prop} (hl : s.heap.PlainList D vs.toArray) (h0 : 0 ≤ i) (hi : i ≤ vs.length) (hz : vs.length ≤ 2 ^ 20)
    (h : ∀ h', h'.PlainList D (insAt vs i.toNat y).toArray → Heap.SameBut D s.heap h' → Q .none { s with heap := h' }) :
    wpAny (model prog w) A (call (.builtin "list.insert") [.ref D, .int i u, y]) Q E s := by
  obtain ⟨n, ho⟩ := hl
  have hf : Builtin.List.listFitsIndex i = true := fitsIndex_of h0 (by omega)
  have he : (fun xs : Array Value => have k := if i < 0 then (i + (xs.size : Int)).toNat else min i.toNat xs.size; (xs.extract 0 k).push y ++ xs.extract k) vs.toArray = (insAt vs i.toNat y).toArray := by
    show (vs.toArray.extract 0 (if i < 0 then (i + (vs.toArray.size : Int)).toNat else min i.toNat vs.toArray.size)).push y ++ vs.toArray.extract (if i < 0 then (i + (vs.toArray.size : Int)).toNat else min i.toNat vs.toArray.size) = _
    rw [if_neg (by omega), List.size_toArray, Nat.min_eq_left (by omega)]
    apply Array.toList_inj.mp
    simp [insAt]
    exact List.take_of_length_le (by rw [List.length_drop]; exact Nat.le_refl _)
  refine call_meets PySem.F.slot_list_insert ⟨_, ho, rfl⟩ PySem.F.entry_list_insert (PySem.F.args_list_insert_3 _ _ _) (PySem.AutoSeq1.list_insert_list_int_val_1 D _ n i u y (by simp [hf]) (by rw [List.size_toArray]; exact Nat.le_trans hz (by decide))) ⟨ho, h _ ?_ (Heap.SameBut.update ..)⟩
  rw [← he]
  exact ⟨_, Heap.get?_update_self _ ho rfl⟩
end

def pfN : List V → Option (List V)
  | [a, x] => some [a, x, .int 0, .none, .none]
  | _ => none
def xsN : List Str := [("a" : Str), ("x" : Str), ("lo" : Str), ("hi" : Str), ("key" : Str)]

theorem ins_ok (G : Globs cx) (cB : Cal cx (.ref 46)) (hB : FnOk cx n (.ref 46) phiB)
    (hfun : ∀ h, cx.I h → FunIs cx h 37 xsN pfN (fsc 4) (fBody (topSt 4)) [] (fun _ _ => True)) {A : Around} {s : Shared} {vs vD : List Value} {x i : Int} {l : List Int} {D : Addr} {Q : Value → Shared → Prop} {E : Value → Shared → Prop}
    (hI : cx.I s.heap) (hR : Room (n + 1) A) (hD : cx.n₁ ≤ D) (hr : RelL cx [] s.heap [.fn D, .int x] vs) (hDp : s.heap.PlainList D vD.toArray) (hints : IntsAre vD l) (hlen : l.length < 2 ^ 20)
    (hphi : phiB [.list (l.map V.int), .int x, .int 0, .none] = some (.int i)) (hi : 0 ≤ i ∧ i ≤ l.length)
    (hQ : ∀ s' vD', GoB cx [D] s s' → s'.heap.PlainList D vD'.toArray → IntsAre vD' (insAt l i.toNat x) → Q .none s') : wpAny (model cx.prog cx.w) A (call (.ref 37) vs) Q E s := by
  have hDt : D ∉ cx.tabs := fun q => absurd (cx.It _ q) (Nat.not_lt.mpr hD)
  refine call_skel (cx := cx) (n := n) (ex := []) (xs := xsN) (rc := []) hfun rfl rfl rfl (by decide) (fun j x hj => hj)
    (fun x hx => by
      have : x = ("a" : Str) ∨ x = ("x" : Str) ∨ x = ("lo" : Str) ∨ x = ("hi" : Str) ∨ x = ("key" : Str) := by simpa [xsN] using hx
      rcases this with rfl | rfl | rfl | rfl | rfl <;> exact .inl rfl)
    (fun _ h => nomatch h) (fun _ h => nomatch h)
    (fun h hI => ⟨(fun _ h => nomatch h), fun i x d _ h2 => by
      have z := (slot_nones xsN.length [] i d h2).2
      simp [slot] at z⟩)
    hI hR (fun _ h => nomatch h) hr (ds' := [.fn D, .int x, .int 0, .none, .none]) rfl fun L q c s₂ E' _ fin g₂ hfr hI₂ hex₂ F₂ hR₂ => ?_
  have F₂ : FrOk cx [] (fEnv (fsc 4) L [] q 37 c) xsN s₂.heap [some (.fn D), some (.int x), some (.int 0), some .none, some .none] := F₂
  have hDown : D ∉ ownOf (fEnv (fsc 4) L [] q 37 c) := fun q => by
    obtain ⟨ep, e⟩ := hDp
    rw [hfr D q] at e; cases e
  have hD₂ : s₂.heap.PlainList D vD.toArray := by
    obtain ⟨ep, e⟩ := hDp
    exact ⟨ep, g₂.kp D _ hDown hDt e⟩
  refine wpAny_execs_cons (wpAny_If ?_)
  refine tr_cmp (cx := cx) (n := n) (xs := xsN) (ev_name 4 rfl (.inl rfl) rfl rfl) ev_none op_is rfl [] _ s₂ _ true _ _ hI₂ hR₂ hex₂ F₂ rfl fun s₃ g₃ => ?_
  rw [if_pos rfl]
  have F₃ := F₂.go g₃
  have hI₃ := g₃.inv hI₂
  refine wpAny_execs_cons (wpAny_Assign_Name (wpAny_Call_NameR (Calls.Name_function_global F₃.ek.kind rfl ?_ rfl)) rfl)
  have glob_of : ∀ {f : Str} {v : Value} {A : Around} {s : Shared} {Q : Value → Shared → Prop} {E : Value → Shared → Prop}, glob cx f = some v → cx.I s.heap → Q v s → wpAny (model cx.prog cx.w) A (loadGlobal (fEnv (fsc 4) L [] q 37 c) f) Q E s := by
    intro f v A s Q E hv hI hq
    unfold glob at hv
    split at hv
    · rename_i w hw
      cases hv
      exact Calls.loadGlobal_global (cx.Ig _ hI) hw hq
    · rename_i hw
      exact Calls.loadGlobal_builtin (cx.Ig _ hI) hw (cx.Ib _ hI) hv hq
  refine glob_of G.bis hI₃ ?_
  refine callWith_any cB ?_ rfl rfl
  refine ar_cons (cx := cx) (n := n) (xs := xsN) (ev_name 0 rfl (.inl rfl) rfl rfl) (ar_cons (ev_name 1 rfl (.inl rfl) rfl rfl) (ar_cons (ev_name 2 rfl (.inl rfl) rfl rfl) (ar_cons (ev_name 3 rfl (.inl rfl) rfl rfl) ar_nil rfl) rfl) rfl) rfl
    [] _ s₃ _ [.fn D, .int x, .int 0, .none] _ _ _ hI₃ hR₂ (fun _ h => nomatch h) F₃ rfl fun vs₄ s₄ g₄ r₄ => ?_
  have hI₄ := g₄.inv hI₃
  have hD₄ : s₄.heap.PlainList D vD.toArray := hD₂.at fun o e => (g₃.trans g₄).kp D o (by simp) hDt e
  have r₄' : RelL cx [] s₄.heap [.list (l.map V.int), .int x, .int 0, .none] vs₄ := by
    cases r₄ with
    | cons r1 r2 =>
      cases r1
      exact .cons (.list (by simp) hDt hD₄ (rel_ints hints) (by rw [List.length_map]; exact Nat.le_of_lt hlen)) r2
  refine ⟨hI₄, hB [] _ s₄ vs₄ _ _ _ _ hI₄ hR₂ (fun _ h => nomatch h) r₄' hphi fun vi s₅ g₅ r₅ => ?_⟩
  have hI₅ := g₅.inv hI₄
  have g₂₅ := (g₃.trans g₄).trans g₅
  refine store_ok (xs := xsN) 2 (F₂.go g₂₅) r₅ (x := ("lo" : Str)) (uq_ok (xs := xsN) (i := 2) (x := ("lo" : Str)) rfl).1 (uq_ok (xs := xsN) (i := 2) (x := ("lo" : Str)) rfl).2 (.inl rfl) fun s₆ g₆ F₆ => ?_
  have hI₆ := g₆.inv hI₅
  have g₅₆ : GoB cx (ownOf (fEnv (fsc 4) L [] q 37 c)) s₅ s₆ := g₆.toGoB.mono fun a ha => List.mem_singleton.mp ha ▸ own_addr (.inl rfl)
  have g₂₆ := (GoB.up g₂₅).trans g₅₆
  have F₆ : FrOk cx [] (fEnv (fsc 4) L [] q 37 c) xsN s₆.heap [some (.fn D), some (.int x), some (.int i), some .none, some .none] := F₆
  refine wpAny_execs_nil (wpAny_execs_cons (wpAny_Expr_any ?_))
  refine wpAny_Call_method (T := "list") (id := "list.insert") rfl rfl rfl PySem.F.plainAttrs_list PySem.F.slot_list_insert PySem.F.type_list_insert ?_
  refine ev_name (cx := cx) (n := n) (xs := xsN) 0 rfl (.inl rfl) rfl rfl [] _ s₆ _ (.fn D) _ _ hI₆ hR₂ (fun _ h => nomatch h) F₆ rfl fun va s₇ g₇ r₇ => ?_
  cases r₇
  have hI₇ := g₇.inv hI₆
  have hD₇ : s₇.heap.PlainList D vD.toArray := hD₂.at fun o e => (g₂₆.trans (GoB.up g₇)).kp D o hDown hDt e
  refine ⟨hD₇.isList.typeIs, (fun a z => by cases z; obtain ⟨k, e⟩ := hD₇; exact ⟨_, e, rfl⟩), ?_⟩
  refine callWith_of (P := fun _ => True) rfl (fun _ _ => ⟨.machine, .inr (.inl rfl), Looks.of_pure rfl⟩) (Calls.evalArgs_plain ?_)
  refine ar_cons (cx := cx) (n := n) (xs := xsN) (ev_name 2 rfl (.inl rfl) rfl rfl) (ar_cons (ev_name 1 rfl (.inl rfl) rfl rfl) ar_nil rfl) rfl [] _ s₇ _ [.int i, .int x] _ _ _ hI₇ hR₂ (fun _ h => nomatch h) (F₆.go g₇) rfl fun vs₈ s₈ g₈ r₈ => ?_
  have hI₈ := g₈.inv hI₇
  have hD₈ : s₈.heap.PlainList D vD.toArray := hD₇.at fun o e => g₈.kp D o (by simp) hDt e
  cases r₈ with
  | cons r1 r2 => cases r2 with
    | cons r2 r3 =>
      cases r3; cases r1; cases r2
      refine ⟨trivial, insert_plain hD₈ hi.1 (by rw [hints.length]; exact hi.2) (by rw [hints.length]; exact Nat.le_of_lt hlen) fun h' hp' hs' => ?_⟩
      obtain ⟨ep, eD⟩ := hD₈
      have gD : GoB cx [D] s₈ { s₈ with heap := h' } := GoB.same (tk := s₈.toks) eD (fun q => by obtain ⟨_, _, _, z, _⟩ := q; cases z) hD hs'
      refine wpAny_execs_nil (hQ _ _ (fin [D] _ ?_) hp' (ints_ins hints _ _ _))
      exact ((g₂₆.trans (GoB.up (g₇.trans g₈))).mono fun b hb => List.mem_append_right _ hb).trans (gD.mono fun b hb => List.mem_append_left _ hb)

end Mine

open PySem PySem.W PyProof.Rows

namespace Mine
variable {cx : Cx} {n : Nat}

def xsW : List Str := [("one" : Str), ("other" : Str), ("many" : Str), ("left" : Str), ("right" : Str)]
def FW0 : List (Option V) → Option Fl := (tgF (pairB 3 4) (fun ρ => capL .tup ((consO (bind2 (bind2 (fun ρ => callO phiI ((consO (fun ρ => slot ρ 0) (consO (fun _ => some (.int 1)) (fun _ => some []))) ρ)) (bind2 (fun ρ => capL .list ((consO (fun _ => some (.int 0)) (fun _ => some [])) ρ)) (fun ρ => slot ρ 2) V.mul) V.add) (fun ρ => slot ρ 2) V.upto) (consO (bind2 (bind2 (fun ρ => callO phiI ((consO (fun ρ => slot ρ 1) (consO (fun _ => some (.int 1)) (fun _ => some []))) ρ)) (bind2 (fun ρ => capL .list ((consO (fun _ => some (.int 0)) (fun _ => some [])) ρ)) (fun ρ => slot ρ 2) V.mul) V.add) (fun ρ => slot ρ 2) V.upto) (fun _ => some []))) ρ)))
theorem stW0 {L : Addr} {q : Str} {a : Addr} {cd : Value} (G : Globs cx) (cI : Cal cx (.ref 21)) (hI2 : FnOk cx n (.ref 21) phiI) : StOk cx n (fEnv (fsc 7) L [] q a cd) xsW (fst 7 0) FW0 := (asg2 3 4 (ev_tup (ar_cons (ev_upto (ev_bin (gcall G.int2 cI hI2 (ar_cons (ev_name 0 rfl (.inl rfl) rfl rfl) (ar_cons ev_int ar_nil rfl) rfl) rfl rfl (fun _ => rfl) rfl) (ev_bin (ev_list (ar_cons ev_int ar_nil rfl)) (ev_name 2 rfl (.inl rfl) rfl rfl) op_mul) op_add) (ev_name 2 rfl (.inl rfl) rfl rfl)) (ar_cons (ev_upto (ev_bin (gcall G.int2 cI hI2 (ar_cons (ev_name 1 rfl (.inl rfl) rfl rfl) (ar_cons ev_int ar_nil rfl) rfl) rfl rfl (fun _ => rfl) rfl) (ev_bin (ev_list (ar_cons ev_int ar_nil rfl)) (ev_name 2 rfl (.inl rfl) rfl rfl) op_mul) op_add) (ev_name 2 rfl (.inl rfl) rfl rfl)) ar_nil rfl) rfl)) rfl rfl rfl rfl rfl rfl)
def FW1 : List (Option V) → Option Fl := (retF (bind2 (compF 1 (fun ρ => rangeO ((fun ρ => slot ρ 2) ρ)) (setB 0) (fun ρ => boolOf (bind2 (bind2 (fun ρ => slot ρ 4) (fun ρ => slot ρ 0) V.item) (bind2 (fun ρ => slot ρ 5) (fun ρ => slot ρ 0) V.item) V.gt ρ)) (oneF (fun ρ => slot ρ 0))) (fun ρ => capL .list ((fun _ => some []) ρ)) V.eq))
theorem stW1 {L : Addr} {q : Str} {a : Addr} {cd : Value} (G : Globs cx) (cI : Cal cx (.ref 21)) (hI2 : FnOk cx n (.ref 21) phiI) : StOk cx n (fEnv (fsc 7) L [] q a cd) xsW (fst 7 1) FW1 := (st_ret (ev_cmp (comp1 [("k" : Str)] [("one" : Str), ("other" : Str), ("many" : Str), ("left" : Str), ("right" : Str)] (sr_range (ev_name 2 rfl (.inl rfl) rfl rfl) rfl G.range rfl) (fun _ => (ts_one (tr_cmp (ev_item (ev_name 4 rfl (.inr (.inl rfl)) rfl rfl) (ev_name 0 rfl (.inl rfl) rfl rfl) (fun _ _ => rfl)) (ev_item (ev_name 5 rfl (.inr (.inl rfl)) rfl rfl) (ev_name 0 rfl (.inl rfl) rfl rfl) (fun _ _ => rfl)) op_gt rfl))) (fun _ => (ev_name 0 rfl (.inl rfl) rfl rfl)) rfl rfl rfl rfl rfl rfl (fun _ => rfl)) (ev_list ar_nil) op_eq rfl))
def FW : List (Option V) → Option Fl := seqF FW0 (seqF FW1 (fun ρ => some (.next ρ)))
def phiW (ds : List V) : Option V := match exactly 3 ds with | none => none | some ds => endF (FW (ds.map some))
theorem body_W {L : Addr} {q : Str} {a : Addr} {cd : Value} (G : Globs cx) (cI : Cal cx (.ref 21)) (hI2 : FnOk cx n (.ref 21) phiI) : SsOk cx n (fEnv (fsc 7) L [] q a cd) xsW (fBody (topSt 7)) FW := ss_cons (stW0 G cI hI2) (ss_cons (stW1 G cI hI2) ss_nil)
structure Cals (cx : Cx) (n : Nat) : Prop where
  cR : Cal cx (.ref 56)
  hR : FnOk cx n (.ref 56) phiR
  cD : Cal cx (.ref 28)
  hD2 : FnOk cx n (.ref 28) phiD
  cH : Cal cx (.ref 63)
  hH : FnOk cx n (.ref 63) phiH
  cW : Cal cx (.ref 51)
  hW : FnOk cx n (.ref 51) phiW
def xsZ : List Str := [("script" : Str), ("many" : Str), ("rows" : Str), ("order" : Str), ("row" : Str), ("size" : Str), ("pairs" : Str), ("turned" : Str), ("least" : Str), ("back" : Str), ("counts" : Str), ("one" : Str), ("other" : Str), ("third" : Str), ("low" : Str), ("high" : Str), ("plain" : Str)]
def FZ0 : List (Option V) → Option Fl := (asgF 1 (bind2 (fun ρ => callO fSum ((consO (fun ρ => slot ρ 0) (fun _ => some [])) ρ)) (fun _ => some (.int 4)) V.fmod))
theorem stZ0 {L : Addr} {q : Str} {a : Addr} {cd : Value} (G : Globs cx) (C : Cals cx n) : StOk cx n (fEnv (fsc 10) L [] q a cd) xsZ (fst 10 0) FZ0 := (asg 1 (ev_bin (gcall G.sum trivial fn_sum (ar_cons (ev_name 0 rfl (.inl rfl) rfl rfl) ar_nil rfl) rfl rfl (fun _ => rfl) rfl) ev_int op_fmod) rfl rfl rfl)
def FZ3 : List (Option V) → Option Fl := (ifF (orO (fun ρ => boolOf (bind2 (fun ρ => callO fLen ((consO (fun ρ => slot ρ 2) (fun _ => some [])) ρ)) (bind2 (fun ρ => capL .list ((consO (fun _ => some (.int 2)) (consO (fun _ => some (.int 3)) (consO (fun _ => some (.int 6)) (consO (fun _ => some (.int 20)) (fun _ => some []))))) ρ)) (fun ρ => slot ρ 1) V.item) V.ne ρ)) (fun ρ => boolOf (bind2 (fun ρ => slot ρ 3) (fun ρ => callO fSorted ((consO (compF 1 (fun ρ => listO ((fun ρ => slot ρ 2) ρ)) (setB 0) (fun _ => some true) (oneF (fun ρ => callO fSum ((consO (compF 1 (fun ρ => rangeO ((fun ρ => callO fLen ((consO (fun ρ => slot ρ 0) (fun _ => some [])) ρ)) ρ)) (setB 0) (fun ρ => boolOf (bind2 (bind2 (fun ρ => slot ρ 1) (fun ρ => slot ρ 0) V.item) (fun _ => some (.int 1)) V.eq ρ)) (oneF (bind2 (fun _ => some (.int 2)) (fun ρ => slot ρ 0) V.pow))) (fun _ => some [])) ρ)))) (fun _ => some [])) ρ)) V.ne ρ))) (seqF (retF (fun _ => some (.bool false))) (fun ρ => some (.next ρ))) (fun ρ => some (.next ρ)))
theorem stZ3 {L : Addr} {q : Str} {a : Addr} {cd : Value} (G : Globs cx) (C : Cals cx n) : StOk cx n (fEnv (fsc 10) L [] q a cd) xsZ (fst 10 3) FZ3 := (st_if (tr_or (tr_cmp (gcall G.len trivial fn_len (ar_cons (ev_name 2 rfl (.inr (.inl rfl)) rfl rfl) ar_nil rfl) rfl rfl (fun _ => rfl) rfl) (ev_item (ev_list (ar_cons ev_int (ar_cons ev_int (ar_cons ev_int (ar_cons ev_int ar_nil rfl) rfl) rfl) rfl)) (ev_name 1 rfl (.inr (.inl rfl)) rfl rfl) (fun _ _ => rfl)) op_ne rfl) (tr_cmp (ev_name 3 rfl (.inl rfl) rfl rfl) (gcall G.sorted trivial fn_sorted (ar_cons (comp1 [("row" : Str)] [("script" : Str), ("many" : Str), ("rows" : Str), ("order" : Str), ("-" : Str), ("size" : Str), ("pairs" : Str), ("turned" : Str), ("least" : Str), ("back" : Str), ("counts" : Str), ("one" : Str), ("other" : Str), ("third" : Str), ("low" : Str), ("high" : Str), ("plain" : Str)] (sr_list (ev_name 2 rfl (.inr (.inl rfl)) rfl rfl)) (fun _ => ts_nil) (fun _ => (gcall G.sum trivial fn_sum (ar_cons (comp1 [("k" : Str)] [("row" : Str), ("script" : Str), ("many" : Str), ("rows" : Str), ("order" : Str), ("-" : Str), ("size" : Str), ("pairs" : Str), ("turned" : Str), ("least" : Str), ("back" : Str), ("counts" : Str), ("one" : Str), ("other" : Str), ("third" : Str), ("low" : Str), ("high" : Str), ("plain" : Str)] (sr_range (gcall G.len trivial fn_len (ar_cons (ev_name 0 rfl (.inr (.inl rfl)) rfl rfl) ar_nil rfl) rfl rfl (fun _ => rfl) rfl) rfl G.range rfl) (fun _ => (ts_one (tr_cmp (ev_item (ev_name 1 rfl (.inr (.inl rfl)) rfl rfl) (ev_name 0 rfl (.inl rfl) rfl rfl) (fun _ _ => rfl)) ev_int op_eq rfl))) (fun _ => (ev_bin ev_int (ev_name 0 rfl (.inl rfl) rfl rfl) op_pow)) rfl rfl rfl rfl rfl rfl (fun _ => rfl)) ar_nil rfl) rfl rfl (fun _ => rfl) rfl)) rfl rfl rfl rfl rfl rfl (fun _ => rfl)) ar_nil rfl) rfl rfl (fun _ => rfl) rfl) op_ne rfl)) (ss_cons (st_ret ev_bool) ss_nil) ss_nil)
def FZ4 : List (Option V) → Option Fl := (asgF 5 (bind2 (fun _ => some (.int 2)) (fun ρ => slot ρ 1) V.pow))
theorem stZ4 {L : Addr} {q : Str} {a : Addr} {cd : Value} (G : Globs cx) (C : Cals cx n) : StOk cx n (fEnv (fsc 10) L [] q a cd) xsZ (fst 10 4) FZ4 := (asg 5 (ev_bin ev_int (ev_name 1 rfl (.inr (.inl rfl)) rfl rfl) op_pow) rfl rfl rfl)
def FZ5 : List (Option V) → Option Fl := (asgF 6 (compF 2 (fun ρ => rangeO ((fun ρ => slot ρ 5) ρ)) (setB 0) (fun _ => some true) (innF (fun ρ => rangeO ((fun ρ => slot ρ 7) ρ)) (setB 1) (andO (fun ρ => boolOf (bind2 (fun ρ => slot ρ 0) (fun ρ => slot ρ 1) V.ne ρ)) (fun ρ => truthO ((fun ρ => callO phiW ((consO (fun ρ => slot ρ 0) (consO (fun ρ => slot ρ 1) (consO (fun ρ => slot ρ 3) (fun _ => some [])))) ρ)) ρ))) (oneF (fun ρ => capL .tup ((consO (fun ρ => slot ρ 0) (consO (fun ρ => slot ρ 1) (fun _ => some []))) ρ))))))
theorem stZ5 {L : Addr} {q : Str} {a : Addr} {cd : Value} (G : Globs cx) (C : Cals cx n) : StOk cx n (fEnv (fsc 10) L [] q a cd) xsZ (fst 10 5) FZ5 := (asg 6 (comp2 [("one" : Str), ("other" : Str)] [("script" : Str), ("many" : Str), ("rows" : Str), ("order" : Str), ("row" : Str), ("size" : Str), ("pairs" : Str), ("turned" : Str), ("least" : Str), ("back" : Str), ("counts" : Str), ("-" : Str), ("-" : Str), ("third" : Str), ("low" : Str), ("high" : Str), ("plain" : Str)] (sr_range (ev_name 5 rfl (.inr (.inl rfl)) rfl rfl) rfl G.range rfl) (fun _ => ts_nil) (fun _ => (sr_range (ev_name 7 rfl (.inr (.inl rfl)) rfl rfl) rfl G.range rfl)) (fun _ => (ts_one (tr_and (tr_cmp (ev_name 0 rfl (.inl rfl) rfl rfl) (ev_name 1 rfl (.inl rfl) rfl rfl) op_ne rfl) (tr_any (gcall G.within C.cW C.hW (ar_cons (ev_name 0 rfl (.inl rfl) rfl rfl) (ar_cons (ev_name 1 rfl (.inl rfl) rfl rfl) (ar_cons (ev_name 3 rfl (.inr (.inl rfl)) rfl rfl) ar_nil rfl) rfl) rfl) rfl rfl (fun _ => rfl) rfl) rfl)))) (fun _ => (ev_tup (ar_cons (ev_name 0 rfl (.inl rfl) rfl rfl) (ar_cons (ev_name 1 rfl (.inl rfl) rfl rfl) ar_nil rfl) rfl))) rfl rfl rfl rfl rfl rfl rfl rfl (fun _ => rfl) (fun _ _ => rfl)) rfl rfl rfl)
def FZ6 : List (Option V) → Option Fl := (ifF (fun ρ => boolOf (bind2 (fun ρ => callO fLen ((consO (fun ρ => slot ρ 6) (fun _ => some [])) ρ)) (bind2 (bind2 (fun _ => some (.int 3)) (fun ρ => slot ρ 1) V.pow) (fun ρ => slot ρ 5) V.sub) V.ne ρ)) (seqF (retF (fun _ => some (.bool false))) (fun ρ => some (.next ρ))) (fun ρ => some (.next ρ)))
theorem stZ6 {L : Addr} {q : Str} {a : Addr} {cd : Value} (G : Globs cx) (C : Cals cx n) : StOk cx n (fEnv (fsc 10) L [] q a cd) xsZ (fst 10 6) FZ6 := (st_if (tr_cmp (gcall G.len trivial fn_len (ar_cons (ev_name 6 rfl (.inr (.inl rfl)) rfl rfl) ar_nil rfl) rfl rfl (fun _ => rfl) rfl) (ev_bin (ev_bin ev_int (ev_name 1 rfl (.inr (.inl rfl)) rfl rfl) op_pow) (ev_name 5 rfl (.inr (.inl rfl)) rfl rfl) op_sub) op_ne rfl) (ss_cons (st_ret ev_bool) ss_nil) ss_nil)
def FZ7 : List (Option V) → Option Fl := (forsF (fun ρ => listO ((fun ρ => slot ρ 2) ρ)) (setB 4) (seqF (ifF (fun ρ => boolOf (bind2 (compF 2 (fun ρ => listO ((fun ρ => slot ρ 6) ρ)) (pairB 0 1) (fun ρ => boolOf (bind2 (bind2 (fun ρ => slot ρ 6) (fun ρ => slot ρ 0) V.item) (bind2 (fun ρ => slot ρ 6) (fun ρ => slot ρ 1) V.item) V.gt ρ)) (oneF (fun _ => some (.int 1)))) (fun ρ => capL .list ((fun _ => some []) ρ)) V.ne ρ)) (seqF (retF (fun _ => some (.bool false))) (fun ρ => some (.next ρ))) (fun ρ => some (.next ρ))) (seqF (asgF 7 (compF 1 (fun ρ => rangeO ((fun ρ => slot ρ 5) ρ)) (setB 0) (fun _ => some true) (oneF (bind2 (fun _ => some (.int 1)) (bind2 (fun ρ => slot ρ 5) (bind2 (bind2 (fun ρ => slot ρ 6) (fun _ => some (.int 1)) V.sub) (fun ρ => slot ρ 0) V.sub) V.item) V.sub)))) (seqF (ifF (fun ρ => notO ((fun ρ => truthO ((fun ρ => callO phiH ((consO (fun ρ => slot ρ 3) (consO (fun ρ => callO phiD ((consO (fun ρ => slot ρ 7) (consO (fun _ => some (.int 1)) (fun _ => some []))) ρ)) (fun _ => some []))) ρ)) ρ)) ρ)) (seqF (retF (fun _ => some (.bool false))) (fun ρ => some (.next ρ))) (fun ρ => some (.next ρ))) (seqF (asgF 8 (compF 1 (fun ρ => rangeO ((fun ρ => slot ρ 5) ρ)) (setB 0) (andO (fun ρ => boolOf (bind2 (bind2 (fun ρ => slot ρ 5) (fun ρ => slot ρ 0) V.item) (fun _ => some (.int 1)) V.eq ρ)) (fun ρ => boolOf (bind2 (compF 2 (fun ρ => listO ((fun ρ => slot ρ 7) ρ)) (pairB 0 1) (andO (fun ρ => boolOf (bind2 (fun ρ => slot ρ 1) (fun ρ => slot ρ 2) V.eq ρ)) (fun ρ => boolOf (bind2 (bind2 (fun ρ => slot ρ 7) (fun ρ => slot ρ 0) V.item) (fun _ => some (.int 1)) V.eq ρ))) (oneF (fun ρ => slot ρ 0))) (fun ρ => capL .list ((fun _ => some []) ρ)) V.eq ρ))) (oneF (fun ρ => slot ρ 0)))) (seqF (asgF 9 (compF 1 (fun ρ => rangeO ((fun ρ => slot ρ 5) ρ)) (setB 0) (fun _ => some true) (oneF (fun ρ => callO fInt ((consO (bind2 (compF 1 (fun ρ => listO ((fun ρ => slot ρ 9) ρ)) (setB 0) (orO (fun ρ => boolOf (bind2 (fun ρ => slot ρ 0) (fun ρ => slot ρ 1) V.eq ρ)) (fun ρ => boolOf (bind2 (fun ρ => capL .tup ((consO (fun ρ => slot ρ 0) (consO (fun ρ => slot ρ 1) (fun _ => some []))) ρ)) (fun ρ => slot ρ 8) V.isIn ρ))) (oneF (fun ρ => slot ρ 0))) (fun ρ => capL .list ((fun _ => some []) ρ)) V.ne) (fun _ => some [])) ρ))))) (seqF (ifF (orO (fun ρ => boolOf (bind2 (fun ρ => slot ρ 9) (fun ρ => slot ρ 4) V.ne ρ)) (fun ρ => boolOf (bind2 (compF 2 (fun ρ => listO ((fun ρ => slot ρ 8) ρ)) (setB 0) (fun _ => some true) (innF (fun ρ => listO ((fun ρ => slot ρ 10) ρ)) (setB 1) (fun ρ => boolOf (bind2 (fun ρ => capL .tup ((consO (fun ρ => slot ρ 0) (consO (fun ρ => slot ρ 1) (fun _ => some []))) ρ)) (fun ρ => slot ρ 8) V.isIn ρ)) (oneF (fun _ => some (.int 1))))) (fun ρ => capL .list ((fun _ => some []) ρ)) V.ne ρ))) (seqF (retF (fun _ => some (.bool false))) (fun ρ => some (.next ρ))) (fun ρ => some (.next ρ))) (fun ρ => some (.next ρ)))))))))
theorem stZ7 {L : Addr} {q : Str} {a : Addr} {cd : Value} (G : Globs cx) (C : Cals cx n) : StOk cx n (fEnv (fsc 10) L [] q a cd) xsZ (fst 10 7) FZ7 := (for1 4 (sr_list (ev_name 2 rfl (.inr (.inl rfl)) rfl rfl)) (ss_cons (st_if (tr_cmp (comp1p [("one" : Str), ("other" : Str)] [("script" : Str), ("many" : Str), ("rows" : Str), ("order" : Str), ("row" : Str), ("size" : Str), ("pairs" : Str), ("turned" : Str), ("least" : Str), ("back" : Str), ("counts" : Str), ("-" : Str), ("-" : Str), ("third" : Str), ("low" : Str), ("high" : Str), ("plain" : Str)] (sr_list (ev_name 6 rfl (.inr (.inl rfl)) rfl rfl)) (fun _ => (ts_one (tr_cmp (ev_item (ev_name 6 rfl (.inr (.inl rfl)) rfl rfl) (ev_name 0 rfl (.inl rfl) rfl rfl) (fun _ _ => rfl)) (ev_item (ev_name 6 rfl (.inr (.inl rfl)) rfl rfl) (ev_name 1 rfl (.inl rfl) rfl rfl) (fun _ _ => rfl)) op_gt rfl))) (fun _ => ev_int) rfl rfl rfl rfl rfl rfl rfl rfl (fun _ => rfl)) (ev_list ar_nil) op_ne rfl) (ss_cons (st_ret ev_bool) ss_nil) ss_nil) (ss_cons (used1 7 [("lot" : Str)] [("script" : Str), ("many" : Str), ("rows" : Str), ("order" : Str), ("row" : Str), ("size" : Str), ("pairs" : Str), ("turned" : Str), ("least" : Str), ("back" : Str), ("counts" : Str), ("one" : Str), ("other" : Str), ("third" : Str), ("low" : Str), ("high" : Str), ("plain" : Str)] rfl rfl (sr_range (ev_name 5 rfl (.inr (.inl rfl)) rfl rfl) rfl G.range rfl) (fun _ => ts_nil) (fun _ => (ev_bin ev_int (ev_item (ev_name 5 rfl (.inr (.inl rfl)) rfl rfl) (ev_bin (ev_bin (ev_name 6 rfl (.inr (.inl rfl)) rfl rfl) ev_int op_sub) (ev_name 0 rfl (.inl rfl) rfl rfl) op_sub) (fun _ _ => rfl)) op_sub)) rfl rfl rfl rfl rfl rfl rfl (fun _ => rfl)) (ss_cons (st_if (tr_not (tr_any (gcall G.has C.cH C.hH (ar_cons (ev_name 3 rfl (.inl rfl) rfl rfl) (ar_cons (gcall G.dig2 C.cD C.hD2 (ar_cons (ev_name 7 rfl (.inl rfl) rfl rfl) (ar_cons ev_int ar_nil rfl) rfl) rfl rfl (fun _ => rfl) rfl) ar_nil rfl) rfl) rfl rfl (fun _ => rfl) rfl) rfl)) (ss_cons (st_ret ev_bool) ss_nil) ss_nil) (ss_cons (asg 8 (comp1 [("lot" : Str)] [("script" : Str), ("many" : Str), ("rows" : Str), ("order" : Str), ("row" : Str), ("size" : Str), ("pairs" : Str), ("turned" : Str), ("least" : Str), ("back" : Str), ("counts" : Str), ("one" : Str), ("other" : Str), ("third" : Str), ("low" : Str), ("high" : Str), ("plain" : Str)] (sr_range (ev_name 5 rfl (.inr (.inl rfl)) rfl rfl) rfl G.range rfl) (fun _ => (ts_one (tr_and (tr_cmp (ev_item (ev_name 5 rfl (.inr (.inl rfl)) rfl rfl) (ev_name 0 rfl (.inr (.inl rfl)) rfl rfl) (fun _ _ => rfl)) ev_int op_eq rfl) (tr_cmp (comp1p [("one" : Str), ("other" : Str)] [("lot" : Str), ("script" : Str), ("many" : Str), ("rows" : Str), ("order" : Str), ("row" : Str), ("size" : Str), ("pairs" : Str), ("turned" : Str), ("least" : Str), ("back" : Str), ("counts" : Str), ("-" : Str), ("-" : Str), ("third" : Str), ("low" : Str), ("high" : Str), ("plain" : Str)] (sr_list (ev_name 7 rfl (.inr (.inl rfl)) rfl rfl)) (fun _ => (ts_one (tr_and (tr_cmp (ev_name 1 rfl (.inl rfl) rfl rfl) (ev_name 2 rfl (.inr (.inl rfl)) rfl rfl) op_eq rfl) (tr_cmp (ev_item (ev_name 7 rfl (.inr (.inl rfl)) rfl rfl) (ev_name 0 rfl (.inl rfl) rfl rfl) (fun _ _ => rfl)) ev_int op_eq rfl)))) (fun _ => (ev_name 0 rfl (.inl rfl) rfl rfl)) rfl rfl rfl rfl rfl rfl rfl rfl (fun _ => rfl)) (ev_list ar_nil) op_eq rfl)))) (fun _ => (ev_name 0 rfl (.inr (.inl rfl)) rfl rfl)) rfl rfl rfl rfl rfl rfl (fun _ => rfl)) rfl rfl rfl) (ss_cons (used1 9 [("lot" : Str)] [("script" : Str), ("many" : Str), ("rows" : Str), ("order" : Str), ("row" : Str), ("size" : Str), ("pairs" : Str), ("turned" : Str), ("least" : Str), ("back" : Str), ("counts" : Str), ("one" : Str), ("other" : Str), ("third" : Str), ("low" : Str), ("high" : Str), ("plain" : Str)] rfl rfl (sr_range (ev_name 5 rfl (.inr (.inl rfl)) rfl rfl) rfl G.range rfl) (fun _ => ts_nil) (fun _ => (gcall G.int trivial fn_int (ar_cons (ev_cmp (comp1 [("one" : Str)] [("lot" : Str), ("script" : Str), ("many" : Str), ("rows" : Str), ("order" : Str), ("row" : Str), ("size" : Str), ("pairs" : Str), ("turned" : Str), ("least" : Str), ("back" : Str), ("counts" : Str), ("-" : Str), ("other" : Str), ("third" : Str), ("low" : Str), ("high" : Str), ("plain" : Str)] (sr_list (ev_name 9 rfl (.inr (.inl rfl)) rfl rfl)) (fun _ => (ts_one (tr_or (tr_cmp (ev_name 0 rfl (.inl rfl) rfl rfl) (ev_name 1 rfl (.inr (.inl rfl)) rfl rfl) op_eq rfl) (tr_cmp (ev_tup (ar_cons (ev_name 0 rfl (.inl rfl) rfl rfl) (ar_cons (ev_name 1 rfl (.inr (.inl rfl)) rfl rfl) ar_nil rfl) rfl)) (ev_name 8 rfl (.inr (.inl rfl)) rfl rfl) op_in rfl)))) (fun _ => (ev_name 0 rfl (.inl rfl) rfl rfl)) rfl rfl rfl rfl rfl rfl (fun _ => rfl)) (ev_list ar_nil) op_ne rfl) ar_nil rfl) rfl rfl (fun _ => rfl) rfl)) rfl rfl rfl rfl rfl rfl rfl (fun _ => rfl)) (ss_cons (st_if (tr_or (tr_cmp (ev_name 9 rfl (.inl rfl) rfl rfl) (ev_name 4 rfl (.inr (.inl rfl)) rfl rfl) op_ne rfl) (tr_cmp (comp2 [("one" : Str), ("other" : Str)] [("script" : Str), ("many" : Str), ("rows" : Str), ("order" : Str), ("row" : Str), ("size" : Str), ("pairs" : Str), ("turned" : Str), ("least" : Str), ("back" : Str), ("counts" : Str), ("-" : Str), ("-" : Str), ("third" : Str), ("low" : Str), ("high" : Str), ("plain" : Str)] (sr_list (ev_name 8 rfl (.inr (.inl rfl)) rfl rfl)) (fun _ => ts_nil) (fun _ => (sr_list (ev_name 10 rfl (.inr (.inl rfl)) rfl rfl))) (fun _ => (ts_one (tr_cmp (ev_tup (ar_cons (ev_name 0 rfl (.inl rfl) rfl rfl) (ar_cons (ev_name 1 rfl (.inl rfl) rfl rfl) ar_nil rfl) rfl)) (ev_name 8 rfl (.inr (.inl rfl)) rfl rfl) op_in rfl))) (fun _ => ev_int) rfl rfl rfl rfl rfl rfl rfl rfl (fun _ => rfl) (fun _ _ => rfl)) (ev_list ar_nil) op_ne rfl)) (ss_cons (st_ret ev_bool) ss_nil) ss_nil) ss_nil)))))) rfl rfl (fun _ => rfl))
def FZ8 : List (Option V) → Option Fl := (asgF 10 (compF 1 (fun ρ => rangeO ((bind2 (fun ρ => slot ρ 5) (fun _ => some (.int 1)) V.add) ρ)) (setB 0) (fun _ => some true) (oneF (fun ρ => callO fLen ((consO (compF 1 (fun ρ => listO ((fun ρ => slot ρ 3) ρ)) (setB 0) (fun ρ => boolOf (bind2 (fun ρ => callO fSum ((consO (fun ρ => slot ρ 0) (fun _ => some [])) ρ)) (fun ρ => slot ρ 1) V.eq ρ)) (oneF (fun ρ => slot ρ 0))) (fun _ => some [])) ρ)))))
theorem stZ8 {L : Addr} {q : Str} {a : Addr} {cd : Value} (G : Globs cx) (C : Cals cx n) : StOk cx n (fEnv (fsc 10) L [] q a cd) xsZ (fst 10 8) FZ8 := (used1 10 [("whole" : Str)] [("script" : Str), ("many" : Str), ("rows" : Str), ("order" : Str), ("row" : Str), ("size" : Str), ("pairs" : Str), ("turned" : Str), ("least" : Str), ("back" : Str), ("counts" : Str), ("one" : Str), ("other" : Str), ("third" : Str), ("low" : Str), ("high" : Str), ("plain" : Str)] rfl rfl (sr_range (ev_bin (ev_name 5 rfl (.inr (.inl rfl)) rfl rfl) ev_int op_add) rfl G.range rfl) (fun _ => ts_nil) (fun _ => (gcall G.len trivial fn_len (ar_cons (comp1 [("row" : Str)] [("whole" : Str), ("script" : Str), ("many" : Str), ("rows" : Str), ("order" : Str), ("-" : Str), ("size" : Str), ("pairs" : Str), ("turned" : Str), ("least" : Str), ("back" : Str), ("counts" : Str), ("one" : Str), ("other" : Str), ("third" : Str), ("low" : Str), ("high" : Str), ("plain" : Str)] (sr_list (ev_name 3 rfl (.inr (.inl rfl)) rfl rfl)) (fun _ => (ts_one (tr_cmp (gcall G.sum trivial fn_sum (ar_cons (ev_name 0 rfl (.inl rfl) rfl rfl) ar_nil rfl) rfl rfl (fun _ => rfl) rfl) (ev_name 1 rfl (.inr (.inl rfl)) rfl rfl) op_eq rfl))) (fun _ => (ev_name 0 rfl (.inl rfl) rfl rfl)) rfl rfl rfl rfl rfl rfl (fun _ => rfl)) ar_nil rfl) rfl rfl (fun _ => rfl) rfl)) rfl rfl rfl rfl rfl rfl rfl (fun _ => rfl))
def FZ9 : List (Option V) → Option Fl := (ifF (fun ρ => boolOf (bind2 (fun ρ => slot ρ 10) (rev1 (fun ρ => slot ρ 10)) V.ne ρ)) (seqF (retF (fun _ => some (.bool false))) (fun ρ => some (.next ρ))) (fun ρ => some (.next ρ)))
theorem stZ9 {L : Addr} {q : Str} {a : Addr} {cd : Value} (G : Globs cx) (C : Cals cx n) : StOk cx n (fEnv (fsc 10) L [] q a cd) xsZ (fst 10 9) FZ9 := (st_if (tr_cmp (ev_name 10 rfl (.inl rfl) rfl rfl) (ev_rev (ev_name 10 rfl (.inl rfl) rfl rfl)) op_ne rfl) (ss_cons (st_ret ev_bool) ss_nil) ss_nil)
def FZ10 : List (Option V) → Option Fl := (tgF (pairB 11 12) (compF 1 (fun ρ => listO ((bind2 (bind2 (fun ρ => slot ρ 0) (fun ρ => capL .list ((consO (fun _ => some (.int 0)) (consO (fun _ => some (.int 0)) (fun _ => some []))) ρ)) V.add) (fun _ => some (.int 2)) V.upto) ρ)) (setB 0) (fun _ => some true) (oneF (bind2 (fun ρ => slot ρ 3) (bind2 (fun ρ => slot ρ 0) (fun ρ => callO fLen ((consO (fun ρ => slot ρ 3) (fun _ => some [])) ρ)) V.fmod) V.item))))
theorem stZ10 {L : Addr} {q : Str} {a : Addr} {cd : Value} (G : Globs cx) (C : Cals cx n) : StOk cx n (fEnv (fsc 10) L [] q a cd) xsZ (fst 10 10) FZ10 := (asg2 11 12 (comp1 [("number" : Str)] [("script" : Str), ("many" : Str), ("rows" : Str), ("order" : Str), ("row" : Str), ("size" : Str), ("pairs" : Str), ("turned" : Str), ("least" : Str), ("back" : Str), ("counts" : Str), ("one" : Str), ("other" : Str), ("third" : Str), ("low" : Str), ("high" : Str), ("plain" : Str)] (sr_list (ev_upto (ev_bin (ev_name 0 rfl (.inl rfl) rfl rfl) (ev_list (ar_cons ev_int (ar_cons ev_int ar_nil rfl) rfl)) op_add) ev_int)) (fun _ => ts_nil) (fun _ => (ev_item (ev_name 3 rfl (.inr (.inl rfl)) rfl rfl) (ev_bin (ev_name 0 rfl (.inl rfl) rfl rfl) (gcall G.len trivial fn_len (ar_cons (ev_name 3 rfl (.inr (.inl rfl)) rfl rfl) ar_nil rfl) rfl rfl (fun _ => rfl) rfl) op_fmod) (fun _ _ => rfl))) rfl rfl rfl rfl rfl rfl (fun _ => rfl)) rfl rfl rfl rfl rfl rfl)
def FZ11 : List (Option V) → Option Fl := (forsF (fun ρ => listO ((fun ρ => slot ρ 2) ρ)) (setB 13) (seqF (asgF 14 (compF 1 (fun ρ => rangeO ((fun ρ => slot ρ 5) ρ)) (setB 0) (fun _ => some true) (oneF (fun ρ => callO fMin ((consO (bind2 (fun ρ => slot ρ 12) (fun ρ => slot ρ 0) V.item) (consO (bind2 (fun ρ => slot ρ 13) (fun ρ => slot ρ 0) V.item) (fun _ => some []))) ρ))))) (seqF (asgF 15 (compF 1 (fun ρ => rangeO ((fun ρ => slot ρ 5) ρ)) (setB 0) (fun _ => some true) (oneF (fun ρ => callO fMax ((consO (bind2 (fun ρ => slot ρ 12) (fun ρ => slot ρ 0) V.item) (consO (bind2 (fun ρ => slot ρ 14) (fun ρ => slot ρ 0) V.item) (fun _ => some []))) ρ))))) (seqF (ifF (orO (fun ρ => notO ((fun ρ => truthO ((fun ρ => callO phiH ((consO (fun ρ => slot ρ 3) (consO (fun ρ => callO phiD ((consO (fun ρ => slot ρ 14) (consO (fun _ => some (.int 1)) (fun _ => some []))) ρ)) (fun _ => some []))) ρ)) ρ)) ρ)) (fun ρ => notO ((fun ρ => truthO ((fun ρ => callO phiH ((consO (fun ρ => slot ρ 3) (consO (fun ρ => callO phiD ((consO (fun ρ => slot ρ 15) (consO (fun _ => some (.int 1)) (fun _ => some []))) ρ)) (fun _ => some []))) ρ)) ρ)) ρ))) (seqF (retF (fun _ => some (.bool false))) (fun ρ => some (.next ρ))) (fun ρ => some (.next ρ))) (seqF (ifF (fun ρ => boolOf (bind2 (compF 1 (fun ρ => rangeO ((fun ρ => slot ρ 5) ρ)) (setB 0) (fun _ => some true) (oneF (fun ρ => callO fMax ((consO (bind2 (fun ρ => slot ρ 15) (fun ρ => slot ρ 0) V.item) (consO (bind2 (fun ρ => slot ρ 14) (fun ρ => slot ρ 0) V.item) (fun _ => some []))) ρ)))) (compF 1 (fun ρ => rangeO ((fun ρ => slot ρ 5) ρ)) (setB 0) (fun _ => some true) (oneF (fun ρ => callO fMin ((consO (bind2 (fun ρ => slot ρ 16) (fun ρ => slot ρ 0) V.item) (consO (fun ρ => callO fMax ((consO (bind2 (fun ρ => slot ρ 13) (fun ρ => slot ρ 0) V.item) (consO (bind2 (fun ρ => slot ρ 14) (fun ρ => slot ρ 0) V.item) (fun _ => some []))) ρ)) (fun _ => some []))) ρ)))) V.ne ρ)) (seqF (retF (fun _ => some (.bool false))) (fun ρ => some (.next ρ))) (fun ρ => some (.next ρ))) (fun ρ => some (.next ρ)))))))
theorem stZ11 {L : Addr} {q : Str} {a : Addr} {cd : Value} (G : Globs cx) (C : Cals cx n) : StOk cx n (fEnv (fsc 10) L [] q a cd) xsZ (fst 10 11) FZ11 := (for1 13 (sr_list (ev_name 2 rfl (.inr (.inl rfl)) rfl rfl)) (ss_cons (asg 14 (comp1 [("k" : Str)] [("script" : Str), ("many" : Str), ("rows" : Str), ("order" : Str), ("row" : Str), ("size" : Str), ("pairs" : Str), ("turned" : Str), ("least" : Str), ("back" : Str), ("counts" : Str), ("one" : Str), ("other" : Str), ("third" : Str), ("low" : Str), ("high" : Str), ("plain" : Str)] (sr_range (ev_name 5 rfl (.inr (.inl rfl)) rfl rfl) rfl G.range rfl) (fun _ => ts_nil) (fun _ => (gcall G.min trivial fn_min (ar_cons (ev_item (ev_name 12 rfl (.inr (.inl rfl)) rfl rfl) (ev_name 0 rfl (.inl rfl) rfl rfl) (fun _ _ => rfl)) (ar_cons (ev_item (ev_name 13 rfl (.inr (.inl rfl)) rfl rfl) (ev_name 0 rfl (.inl rfl) rfl rfl) (fun _ _ => rfl)) ar_nil rfl) rfl) rfl rfl (fun _ => rfl) rfl)) rfl rfl rfl rfl rfl rfl (fun _ => rfl)) rfl rfl rfl) (ss_cons (asg 15 (comp1 [("k" : Str)] [("script" : Str), ("many" : Str), ("rows" : Str), ("order" : Str), ("row" : Str), ("size" : Str), ("pairs" : Str), ("turned" : Str), ("least" : Str), ("back" : Str), ("counts" : Str), ("one" : Str), ("other" : Str), ("third" : Str), ("low" : Str), ("high" : Str), ("plain" : Str)] (sr_range (ev_name 5 rfl (.inr (.inl rfl)) rfl rfl) rfl G.range rfl) (fun _ => ts_nil) (fun _ => (gcall G.max trivial fn_max (ar_cons (ev_item (ev_name 12 rfl (.inr (.inl rfl)) rfl rfl) (ev_name 0 rfl (.inl rfl) rfl rfl) (fun _ _ => rfl)) (ar_cons (ev_item (ev_name 14 rfl (.inr (.inl rfl)) rfl rfl) (ev_name 0 rfl (.inl rfl) rfl rfl) (fun _ _ => rfl)) ar_nil rfl) rfl) rfl rfl (fun _ => rfl) rfl)) rfl rfl rfl rfl rfl rfl (fun _ => rfl)) rfl rfl rfl) (ss_cons (st_if (tr_or (tr_not (tr_any (gcall G.has C.cH C.hH (ar_cons (ev_name 3 rfl (.inl rfl) rfl rfl) (ar_cons (gcall G.dig2 C.cD C.hD2 (ar_cons (ev_name 14 rfl (.inr (.inl rfl)) rfl rfl) (ar_cons ev_int ar_nil rfl) rfl) rfl rfl (fun _ => rfl) rfl) ar_nil rfl) rfl) rfl rfl (fun _ => rfl) rfl) rfl)) (tr_not (tr_any (gcall G.has C.cH C.hH (ar_cons (ev_name 3 rfl (.inl rfl) rfl rfl) (ar_cons (gcall G.dig2 C.cD C.hD2 (ar_cons (ev_name 15 rfl (.inr (.inl rfl)) rfl rfl) (ar_cons ev_int ar_nil rfl) rfl) rfl rfl (fun _ => rfl) rfl) ar_nil rfl) rfl) rfl rfl (fun _ => rfl) rfl) rfl))) (ss_cons (st_ret ev_bool) ss_nil) ss_nil) (ss_cons (st_if (tr_cmp (comp1 [("k" : Str)] [("script" : Str), ("many" : Str), ("rows" : Str), ("order" : Str), ("row" : Str), ("size" : Str), ("pairs" : Str), ("turned" : Str), ("least" : Str), ("back" : Str), ("counts" : Str), ("one" : Str), ("other" : Str), ("third" : Str), ("low" : Str), ("high" : Str), ("plain" : Str)] (sr_range (ev_name 5 rfl (.inr (.inl rfl)) rfl rfl) rfl G.range rfl) (fun _ => ts_nil) (fun _ => (gcall G.max trivial fn_max (ar_cons (ev_item (ev_name 15 rfl (.inr (.inl rfl)) rfl rfl) (ev_name 0 rfl (.inl rfl) rfl rfl) (fun _ _ => rfl)) (ar_cons (ev_item (ev_name 14 rfl (.inr (.inl rfl)) rfl rfl) (ev_name 0 rfl (.inl rfl) rfl rfl) (fun _ _ => rfl)) ar_nil rfl) rfl) rfl rfl (fun _ => rfl) rfl)) rfl rfl rfl rfl rfl rfl (fun _ => rfl)) (comp1 [("k" : Str)] [("script" : Str), ("many" : Str), ("rows" : Str), ("order" : Str), ("row" : Str), ("size" : Str), ("pairs" : Str), ("turned" : Str), ("least" : Str), ("back" : Str), ("counts" : Str), ("one" : Str), ("other" : Str), ("third" : Str), ("low" : Str), ("high" : Str), ("plain" : Str)] (sr_range (ev_name 5 rfl (.inr (.inl rfl)) rfl rfl) rfl G.range rfl) (fun _ => ts_nil) (fun _ => (gcall G.min trivial fn_min (ar_cons (ev_item (ev_name 16 rfl (.inr (.inl rfl)) rfl rfl) (ev_name 0 rfl (.inl rfl) rfl rfl) (fun _ _ => rfl)) (ar_cons (gcall G.max trivial fn_max (ar_cons (ev_item (ev_name 13 rfl (.inr (.inl rfl)) rfl rfl) (ev_name 0 rfl (.inl rfl) rfl rfl) (fun _ _ => rfl)) (ar_cons (ev_item (ev_name 14 rfl (.inr (.inl rfl)) rfl rfl) (ev_name 0 rfl (.inl rfl) rfl rfl) (fun _ _ => rfl)) ar_nil rfl) rfl) rfl rfl (fun _ => rfl) rfl) ar_nil rfl) rfl) rfl rfl (fun _ => rfl) rfl)) rfl rfl rfl rfl rfl rfl (fun _ => rfl)) op_ne rfl) (ss_cons (st_ret ev_bool) ss_nil) ss_nil) ss_nil)))) rfl rfl (fun _ => rfl))
def FZ12 : List (Option V) → Option Fl := (asgF 16 (ifV (fun ρ => boolOf (bind2 (fun ρ => slot ρ 1) (fun _ => some (.int 3)) V.lt ρ)) (compF 1 (fun ρ => rangeO ((bind2 (fun _ => some (.int 2)) (fun ρ => slot ρ 5) V.pow) ρ)) (setB 0) (fun ρ => boolOf (bind2 (compF 2 (fun ρ => listO ((fun ρ => slot ρ 7) ρ)) (pairB 0 1) (fun ρ => boolOf (bind2 (bind2 (bind2 (fun ρ => slot ρ 2) (bind2 (fun _ => some (.int 2)) (fun ρ => slot ρ 0) V.pow) V.fdiv) (fun _ => some (.int 2)) V.fmod) (bind2 (bind2 (fun ρ => slot ρ 2) (bind2 (fun _ => some (.int 2)) (fun ρ => slot ρ 1) V.pow) V.fdiv) (fun _ => some (.int 2)) V.fmod) V.gt ρ)) (oneF (fun _ => some (.int 1)))) (fun ρ => capL .list ((fun _ => some []) ρ)) V.eq ρ)) (oneF (fun ρ => slot ρ 0))) (fun ρ => slot ρ 3)))
theorem stZ12 {L : Addr} {q : Str} {a : Addr} {cd : Value} (G : Globs cx) (C : Cals cx n) : StOk cx n (fEnv (fsc 10) L [] q a cd) xsZ (fst 10 12) FZ12 := (asg 16 (ev_ife (tr_cmp (ev_name 1 rfl (.inr (.inl rfl)) rfl rfl) ev_int op_lt rfl) (comp1 [("row" : Str)] [("script" : Str), ("many" : Str), ("rows" : Str), ("order" : Str), ("-" : Str), ("size" : Str), ("pairs" : Str), ("turned" : Str), ("least" : Str), ("back" : Str), ("counts" : Str), ("one" : Str), ("other" : Str), ("third" : Str), ("low" : Str), ("high" : Str), ("plain" : Str)] (sr_range (ev_bin ev_int (ev_name 5 rfl (.inr (.inl rfl)) rfl rfl) op_pow) rfl G.range rfl) (fun _ => (ts_one (tr_cmp (comp1p [("low" : Str), ("high" : Str)] [("row" : Str), ("script" : Str), ("many" : Str), ("rows" : Str), ("order" : Str), ("-" : Str), ("size" : Str), ("pairs" : Str), ("turned" : Str), ("least" : Str), ("back" : Str), ("counts" : Str), ("one" : Str), ("other" : Str), ("third" : Str), ("-" : Str), ("-" : Str), ("plain" : Str)] (sr_list (ev_name 7 rfl (.inr (.inl rfl)) rfl rfl)) (fun _ => (ts_one (tr_cmp (ev_bin (ev_bin (ev_name 2 rfl (.inr (.inl rfl)) rfl rfl) (ev_bin ev_int (ev_name 0 rfl (.inl rfl) rfl rfl) op_pow) op_fdiv) ev_int op_fmod) (ev_bin (ev_bin (ev_name 2 rfl (.inr (.inl rfl)) rfl rfl) (ev_bin ev_int (ev_name 1 rfl (.inl rfl) rfl rfl) op_pow) op_fdiv) ev_int op_fmod) op_gt rfl))) (fun _ => ev_int) rfl rfl rfl rfl rfl rfl rfl rfl (fun _ => rfl)) (ev_list ar_nil) op_eq rfl))) (fun _ => (ev_name 0 rfl (.inr (.inl rfl)) rfl rfl)) rfl rfl rfl rfl rfl rfl (fun _ => rfl)) (ev_name 3 rfl (.inl rfl) rfl rfl)) rfl rfl rfl)
def FZ13 : List (Option V) → Option Fl := (retF (bind2 (fun ρ => slot ρ 16) (fun ρ => slot ρ 3) V.eq))
theorem stZ13 {L : Addr} {q : Str} {a : Addr} {cd : Value} (G : Globs cx) (C : Cals cx n) : StOk cx n (fEnv (fsc 10) L [] q a cd) xsZ (fst 10 13) FZ13 := (st_ret (ev_cmp (ev_name 16 rfl (.inl rfl) rfl rfl) (ev_name 3 rfl (.inl rfl) rfl rfl) op_eq rfl))

end Mine

open PySem PySem.W PyProof.Rows

namespace Mine
variable {cx : Cx} {n : Nat}

def srcZ : List (Option V) → Option (List V) := (fun ρ => listO ((bind2 (bind2 (fun ρ => slot ρ 2) (bind2 (fun ρ => callO fLen ((consO (fun ρ => slot ρ 2) (fun _ => some [])) ρ)) (fun _ => some (.int 2)) V.fdiv) V.from) (bind2 (fun ρ => slot ρ 2) (bind2 (fun ρ => callO fLen ((consO (fun ρ => slot ρ 2) (fun _ => some [])) ρ)) (fun _ => some (.int 2)) V.fdiv) V.upto) V.add) ρ))
def insF : List V → List Int → Option (List Int)
  | [], l => if l.length ≤ 2 ^ 20 then some l else none
  | d :: ds, l => match phiD [d, .int 1] with
    | some (.int x) => (match phiB [.list (l.map V.int), .int x, .int 0, .none] with
      | some (.int i) => if 0 ≤ i ∧ i ≤ l.length ∧ l.length < 2 ^ 20 then insF ds (insAt l i.toNat x) else none
      | _ => none)
    | _ => none
def rowsF : List V → List (Option V) → List (Option V)
  | [], ρ => ρ
  | d :: ds, ρ => rowsF ds (setSlot ρ 4 (some d))
def FZs (ρ : List (Option V)) : Option Fl := match callO phiR ((consO (fun ρ => slot ρ 1) (fun _ => some [])) ρ) with
  | some (.list R) => (match srcZ [none, none, some (.list R)] with
    | some ds => (match insF ds [] with
      | some l => some (.next (setSlot (rowsF ds (setSlot ρ 2 (some (.list R)))) 3 (some (.list (l.map V.int)))))
      | none => none)
    | none => none)
  | _ => none

theorem rowsF_other : ∀ (ds : List V) (ρ ρ' : List (Option V)), (∀ j, j ≠ 3 → slot ρ j = slot ρ' j) → ∀ j, j ≠ 3 → slot (rowsF ds ρ) j = slot (rowsF ds ρ') j
  | [], _, _, h => h
  | d :: ds, ρ, ρ', h => rowsF_other ds _ _ fun j hj => by
    rw [slot_set, slot_set]
    split
    · rfl
    · exact h j hj
theorem rowsF_three : ∀ (ds : List V) (ρ : List (Option V)), slot (rowsF ds ρ) 3 = slot ρ 3
  | [], _ => rfl
  | d :: ds, ρ => by
    rw [rowsF, rowsF_three ds, slot_set, if_neg (by decide)]

theorem FrOk.map {ex ex' : List Addr} {env : Env} {xs : List Str} {h : Heap} {ρ ρ' : List (Option V)} (F : FrOk cx ex env xs h ρ)
    (hm : ∀ j d, slot ρ' j = some d → ∃ d0, slot ρ j = some d0 ∧ ∀ v, Rel cx ex h d0 v → Rel cx ex' h d v) : FrOk cx ex' env xs h ρ' where
  ek := F.ek
  loc := by
    obtain ⟨m, hn, hx⟩ := F.loc
    refine ⟨m, hn, fun i x d h1 h2 h3 => ?_⟩
    obtain ⟨d0, e0, r0⟩ := hm i d h2
    obtain ⟨v, a, b⟩ := hx i x d0 h1 e0 h3
    exact ⟨v, a, r0 v b⟩
  cel := fun i x d h1 h2 h3 => by
    obtain ⟨d0, e0, r0⟩ := hm i d h2
    obtain ⟨a, v, c1, c2, c3⟩ := F.cel i x d0 h1 e0 h3
    exact ⟨a, v, c1, c2, r0 v c3⟩
  ali := F.ali

theorem ss_12 {L : Addr} {q : Str} {a : Addr} {cd : Value} {rest : List Stmt} {F : List (Option V) → Option Fl} (G : Globs cx) (C : Cals cx (n + 1)) (cN : Cal cx (.ref 37)) (cB : Cal cx (.ref 46)) (hB : FnOk cx n (.ref 46) phiB)
    (hfunN : ∀ h, cx.I h → FunIs cx h 37 xsN pfN (fsc 4) (fBody (topSt 4)) [] (fun _ _ => True)) (hrest : SsOk cx (n + 1) (fEnv (fsc 10) L [] q a cd) xsZ rest F) :
    SsOk cx (n + 1) (fEnv (fsc 10) L [] q a cd) xsZ (fst 10 1 :: fst 10 2 :: rest) (seqF FZs F) := by
  intro ex A s ρ fl Q E hI hR hex F₀ h hN hT
  unfold seqF at h
  split at h
  · cases h
  · rename_i d hd
    exfalso
    unfold FZs at hd
    split at hd
    · split at hd
      · split at hd
        · cases hd
        · cases hd
      · cases hd
    · cases hd
  · rename_i ρ' hd
    unfold FZs at hd
    split at hd
    · rename_i R hR1
      split at hd
      · rename_i ds hsrc
        split at hd
        · rename_i l hins
          cases hd
          -- the first statement
          refine wpAny_execs_cons (Assign_Tuple (wpAny_Tuple (wpAny_items_cons ?_ rfl)) rfl rfl)
          refine gcall (cx := cx) (n := n + 1) (xs := xsZ) G.rows C.cR C.hR (ar_cons (ev_name 1 rfl (.inr (.inl rfl)) rfl rfl) ar_nil rfl) rfl rfl (fun _ => rfl) rfl ex A s ρ (.list R) _ _ hI hR hex F₀ hR1 fun vR s₁ g₁ rR => ?_
          have hI₁ := g₁.inv hI
          refine wpAny_items_cons (wpAny_List (wpAny_items_nil ⟨Nat.zero_le _, ?_⟩)) rfl
          refine wpAny_items_nil ⟨(by show 2 ≤ _; decide), ?_⟩
          generalize hDe : s₁.heap.objs.size = D at *
          have hDn : cx.n₁ ≤ D := hDe ▸ new_lo hI₁
          have hDt : D ∉ cx.tabs := fun q => absurd (cx.It _ q) (Nat.not_lt.mpr hDn)
          have hDnone : s₁.heap.get? D = none := none_of_le (by rw [hDe]; exact Nat.le_refl _)
          have hDnone0 : s.heap.get? D = none := fresh_back g₁ hDn hDnone
          have hDex : D ∉ ex := fun q => by
            obtain ⟨_, o, e, _⟩ := hex D q
            rw [hDnone0] at e; cases e
          generalize hH1 : s₁.heap.push { cls := .type "list", data := .seq ([] : List Value).toArray } = H1
          have k1 : ∀ b o, s₁.heap.get? b = some o → H1.get? b = some o := fun b o e => hH1 ▸ Heap.get?_push_of_some _ e
          have hH1s : H1.objs.size = D + 1 := by rw [← hH1, Heap.size_push, hDe]
          have hD1 : H1.PlainList D ([] : List Value).toArray := ⟨0, by rw [← hH1, ← hDe]; exact Heap.get?_push_size _ rfl⟩
          have hsame : ({ s₁ with heap := H1 } : Shared).heap = H1 := rfl
          generalize hH2 : H1.push (tupObj [vR, .ref D]) = H2
          have k2 : ∀ b o, H1.get? b = some o → H2.get? b = some o := fun b o e => hH2 ▸ Heap.get?_push_of_some _ e
          have g₂ : Go cx s₁ { s₁ with heap := H2 } := Go.keep (tk := s₁.toks) fun b o e => k2 b o (k1 b o e)
          have hI₂ := g₂.inv hI₁
          have hD2 : H2.PlainList D ([] : List Value).toArray := hD1.at fun o e => k2 _ o e
          have hT2 : H2.get? (D + 1) = some (tupObj [vR, .ref D]) := by rw [← hH2, ← hH1s]; exact Heap.get?_push_size _ rfl
          have hTn : cx.n₁ ≤ D + 1 := Nat.le_succ_of_le hDn
          have rT : Rel cx (D :: ex) H2 (.tup [.list R, .fn D]) (.ref (D + 1)) := by
            refine .tup (fun q => ?_) (fun q => absurd (cx.It _ q) (Nat.not_lt.mpr hTn)) hT2 (.cons ((rR.avoid hDnone).move fun b o h1 _ e => ⟨h1, k2 b o (k1 b o e)⟩) (.cons (.fn D) .nil)) (by show 2 ≤ 2 ^ 20; decide)
            rcases List.mem_cons.mp q with q | q
            · exact absurd q (Nat.ne_of_gt (Nat.lt_succ_self _))
            · obtain ⟨_, o, e, _⟩ := exLt hex g₁ _ q
              have := Heap.lt_size e
              rw [hDe] at this
              exact absurd this (Nat.not_lt.mpr (Nat.le_succ _))
          have al₂ : Alive cx (D :: ex) H2 := fun b hb => by
            rcases List.mem_cons.mp hb with rfl | hb
            · exact ⟨hDt, alive_list (s := { s₁ with heap := H2 }) hD2⟩
            · exact exLt (s' := { s₁ with heap := H2 }) (exLt hex g₁) g₂ b hb
          have F₂ : FrOk cx (D :: ex) (fEnv (fsc 10) L [] q a cd) xsZ H2 ρ := ((F₀.go g₁).avoid hDnone).go (s' := { s₁ with heap := H2 }) g₂
          show wpAny (model cx.prog cx.w) A (assign _ _ (.ref H1.objs.size)) _ _ { s₁ with heap := H2 }
          rw [hH1s]
          have kr : (fEnv (fsc 10) L [] q a cd).kindOf ("rows" : Str) = some .local ∨ ((fEnv (fsc 10) L [] q a cd).kindOf ("rows" : Str) = some .cell ∧ ((fEnv (fsc 10) L [] q a cd).cells.lookup ("rows" : Str)).isSome = true) := f_kind rfl
          have ko : (fEnv (fsc 10) L [] q a cd).kindOf ("order" : Str) = some .local ∨ ((fEnv (fsc 10) L [] q a cd).kindOf ("order" : Str) = some .cell ∧ ((fEnv (fsc 10) L [] q a cd).cells.lookup ("order" : Str)).isSome = true) := f_kind rfl
          have u2 := uq_ok (xs := xsZ) (i := 2) (x := ("rows" : Str)) rfl
          have u3 := uq_ok (xs := xsZ) (i := 3) (x := ("order" : Str)) rfl
          refine tg_pair (cx := cx) (n := n + 1) 2 3 u2.1 u2.2 kr u3.1 u3.2 ko (D :: ex) A { s₁ with heap := H2 } ρ _ _ _ _ _ hI₂ hR al₂ F₂ rT rfl fun s₃ g₃ own₃ F₃ => ?_
          have hI₃ := g₃.inv hI₂
          have g₃' : GoB cx (ownOf (fEnv (fsc 10) L [] q a cd)) { s₁ with heap := H2 } s₃ := g₃.mono fun b hb => by
            rcases List.mem_cons.mp hb with rfl | hb
            · exact own_addr kr
            · rw [List.mem_singleton.mp hb]; exact own_addr ko
          have g₀₃ : GoB cx (ownOf (fEnv (fsc 10) L [] q a cd)) s s₃ := (GoB.up (g₁.trans g₂)).trans g₃'
          have hDown : D ∉ ownOf (fEnv (fsc 10) L [] q a cd) := fun q => by
            obtain ⟨o, e, hs, _⟩ := own_ob F₂ q
            obtain ⟨k, e'⟩ := hD2
            rw [e'] at e; cases e; cases hs
          have hD₃ : s₃.heap.PlainList D ([] : List Value).toArray := hD2.at fun o e => g₃'.kp D o hDown hDt e
          have al₃ : Alive cx (D :: ex) s₃.heap := al₂.ns g₃' (own_ns F₂)
          -- the loop
          refine wpAny_execs_cons (wpAny_For ?_ (fun _ => rfl))
          generalize hρ₃ : setSlot (setSlot ρ 2 (some (V.list R))) 3 (some (.fn D)) = ρ₃ at F₃
          have s3a : slot ρ₃ 3 = some (.fn D) := by rw [← hρ₃, slot_set, if_pos rfl]
          have s3b : slot ρ₃ 2 = some (.list R) := by rw [← hρ₃, slot_set, if_neg (by decide), slot_set, if_pos rfl]
          have s3c : ∀ j, j ≠ 3 → slot ρ₃ j = slot (setSlot ρ 2 (some (V.list R))) j := fun j hj => by rw [← hρ₃, slot_set, if_neg hj]
          have hsrc₃ : srcZ ρ₃ = some ds := by
            have : srcZ ρ₃ = srcZ [none, none, slot ρ₃ 2] := rfl
            rw [this, s3b]; exact hsrc
          refine sr_list (cx := cx) (n := n + 1) (xs := xsZ) (ev_bin (ev_from (ev_name 2 rfl (.inr (.inl rfl)) rfl rfl) (ev_bin (gcall G.len trivial fn_len (ar_cons (ev_name 2 rfl (.inr (.inl rfl)) rfl rfl) ar_nil rfl) rfl rfl (fun _ => rfl) rfl) ev_int op_fdiv)) (ev_upto (ev_name 2 rfl (.inr (.inl rfl)) rfl rfl) (ev_bin (gcall G.len trivial fn_len (ar_cons (ev_name 2 rfl (.inr (.inl rfl)) rfl rfl) ar_nil rfl) rfl rfl (fun _ => rfl) rfl) ev_int op_fdiv)) op_add)
            (D :: ex) A s₃ ρ₃ ds _ _ hI₃ hR al₃ F₃ hsrc₃ fun I fp P St s₄ g₄ S => ?_
          have hI₄ := g₄.inv hI₃
          have F₄ := F₃.go g₄
          have al₄ := exLt al₃ g₄
          have hIt : I ∉ cx.tabs := fun q => absurd (cx.It _ q) (Nat.not_lt.mpr S.lo)
          have hD₄ : s₄.heap.PlainList D ([] : List Value).toArray := hD₃.at fun o e => g₄.kp D o (by simp) hDt e
          have hDfp : D ∉ fp := fun q => S.fex D q (.head _)
          have hDI : D ≠ I := fun q => hDfp (q ▸ S.inn)
          have hfp : ∀ b ∈ fp, b ∉ ownOf (fEnv (fsc 10) L [] q a cd) := fun b hb q => by
            obtain ⟨o, e, k1, k2⟩ := S.fk b hb
            obtain ⟨o', e', _, _, hd, _⟩ := own_ob F₄ q
            rw [e'] at e; cases e
            rcases hd with ⟨es, ep, hd⟩ | ⟨v, hd⟩
            · exact k1 _ _ hd
            · exact k2 _ hd
          have nsI : ∀ (i : Nat) (s : Shared), St i s.heap → ∀ a ∈ [I], ∀ o, s.heap.get? a = some o → seqish o = false := fun i s st a ha o e => by rw [List.mem_singleton.mp ha] at e; exact src_ns S st o e
          have alD : ∀ (s s' : Shared) (vs : List Value), Alive cx (D :: ex) s.heap → GoB cx [D] s s' → s'.heap.PlainList D vs.toArray → Alive cx (D :: ex) s'.heap := fun s s' vs al g hp b hb => by
            by_cases hbD : b = D
            · subst hbD; exact ⟨hDt, alive_list hp⟩
            · obtain ⟨t, o, e, q⟩ := al b hb
              exact ⟨t, o, g.kp b o (fun z => hbD (List.mem_singleton.mp z)) t e, q⟩
          generalize hρe : rowsF ds ρ₃ = ρe
          have kw : (fEnv (fsc 10) L [] q a cd).kindOf ("row" : Str) = some .local ∨ ((fEnv (fsc 10) L [] q a cd).kindOf ("row" : Str) = some .cell ∧ ((fEnv (fsc 10) L [] q a cd).cells.lookup ("row" : Str)).isSome = true) := f_kind rfl
          have u4 := uq_ok (xs := xsZ) (i := 4) (x := ("row" : Str)) rfl
          refine codeAny_forLoop_any (fun k s₅ => ∃ i ρ₅ l₅ vD, k = ds.length + 1 - i ∧ i ≤ ds.length ∧ GoB cx (I :: D :: ownOf (fEnv (fsc 10) L [] q a cd)) s₄ s₅ ∧ cx.I s₅.heap ∧ Alive cx (D :: ex) s₅.heap ∧ FrOk cx (D :: ex) (fEnv (fsc 10) L [] q a cd) xsZ s₅.heap ρ₅ ∧
              St i s₅.heap ∧ s₅.heap.PlainList D vD.toArray ∧ IntsAre vD l₅ ∧ insF (ds.drop i) l₅ = some l ∧ rowsF (ds.drop i) ρ₅ = ρe ∧ slot ρ₅ 3 = some (.fn D) ∧ ∀ i' v d, i ≤ i' → P i' v → ds[i']? = some d → Rel cx (D :: ex) s₅.heap d v) ?_ (ds.length + 1)
            ⟨0, ρ₃, [], [], rfl, Nat.zero_le _, GoB.refl _, hI₄, al₄, F₄, S.st, hD₄, .nil, by simpa using hins, by simpa using hρe, s3a, fun i' v d _ hP hd => S.items i' v d hP hd⟩
          rintro k s₅ ⟨i, ρ₅, l₅, vD, rfl, hi, g₅, hI₅, al₅, F₅, st, hD₅, hints₅, hins₅, hrow₅, h3₅, items₅⟩
          have next : ∀ (h' : Heap) (tk : Nat), (∀ b o, b ∉ [I] → s₅.heap.get? b = some o → h'.get? b = some o) → GoB cx [I] s₅ { s₅ with heap := h', toks := tk } := fun h' tk hk => by
            refine ⟨fun b o h1 _ e => hk b o h1 e, fun inv => cx.Ik _ _ inv fun b o e hb => hk b o (fun q => ?_) e, rfl, rfl, rfl⟩
            rw [List.mem_singleton.mp q] at hb e
            obtain ⟨o', vs', e', hd, hc⟩ := S.obj i _ st
            rw [e'] at e; cases e
            rcases hb with hb | hb
            · exact absurd hb (Nat.not_lt.mpr S.lo)
            · exact S.nco i _ st _ e' hb
          have nextF : ∀ (h' : Heap) (tk : Nat), (∀ b o, b ∉ [I] → s₅.heap.get? b = some o → h'.get? b = some o) → FrOk cx (D :: ex) (fEnv (fsc 10) L [] q a cd) xsZ h' ρ₅ := fun h' tk hk => by
            obtain ⟨o', vs', e', hd, hc⟩ := S.obj i _ st
            exact F₅.other (s' := { s₅ with heap := h', toks := tk }) (fun d v r => r.ns (next h' tk hk) (nsI i s₅ st)) (fun b o hb _ e => hk b o (by simpa using hb) e) e' (fun es ep z => by rw [hd] at z; cases z) (fun v z => by rw [hd] at z; cases z)
          have nextD : ∀ (h' : Heap), (∀ b o, b ∉ [I] → s₅.heap.get? b = some o → h'.get? b = some o) → h'.PlainList D vD.toArray := fun h' hk => hD₅.at fun o e => hk D o (by simpa using hDI) e
          by_cases hlt : i < ds.length
          · refine S.W.item i s₅ _ _ hlt st fun v h₁ tk₁ hP st₁ hk₁ => ?_
            have g₆ := next h₁ tk₁ hk₁
            obtain ⟨o₁, vs₁, eo₁, hd₁, hc₁⟩ := S.obj (i + 1) _ st₁
            refine letOwned_ok (s := { s₅ with heap := h₁, toks := tk₁ }) eo₁ hd₁ hc₁ ?_
            have hdrop : ds.drop i = ds[i] :: ds.drop (i + 1) := List.drop_eq_getElem_cons hlt
            rw [hdrop] at hins₅ hrow₅
            unfold insF at hins₅
            split at hins₅
            · rename_i x hphiD
              split at hins₅
              · rename_i y hphiB
                split at hins₅
                · rename_i hb
                  have al₆ := al₅.ns g₆ (nsI i s₅ st)
                  have rv : Rel cx (D :: ex) h₁ ds[i] v := (items₅ i v _ (Nat.le_refl _) hP (by rw [List.getElem?_eq_getElem hlt])).ns g₆ (nsI i s₅ st)
                  refine tg_name (cx := cx) (n := n + 1) 4 u4.1 u4.2 kw (D :: ex) A { s₅ with heap := h₁, toks := tk₁ } ρ₅ _ ds[i] v _ _ (g₆.inv hI₅) hR al₆ (nextF h₁ tk₁ hk₁) rv rfl fun s₇ g₇ own₇ F₇ => ?_
                  have g₇' : GoB cx (ownOf (fEnv (fsc 10) L [] q a cd)) { s₅ with heap := h₁, toks := tk₁ } s₇ := g₇.mono fun b hb => List.mem_singleton.mp hb ▸ own_addr kw
                  have hI₇ := g₇.inv (g₆.inv hI₅)
                  have al₇ := al₆.ns g₇' (own_ns (nextF h₁ tk₁ hk₁))
                  have hD₇ : s₇.heap.PlainList D vD.toArray := (nextD h₁ hk₁).at fun o e => g₇'.kp D o hDown hDt e
                  have st₇ : St (i + 1) s₇.heap := S.W.frame _ _ _ st₁ fun b hb' o e => g₇'.kp b o (hfp b hb') (S.fpo b hb').1 e
                  have h3₇ : slot (setSlot ρ₅ 4 (some ds[i])) 3 = some (.fn D) := by rw [slot_set, if_neg (by decide)]; exact h3₅
                  have h4₇ : slot (setSlot ρ₅ 4 (some ds[i])) 4 = some ds[i] := by rw [slot_set, if_pos rfl]
                  refine wpAny_execs_cons (wpAny_Expr_any (wpAny_Call_NameR (Calls.Name_function_global F₇.ek.kind rfl ?_ rfl)))
                  have glob_of : ∀ {f : Str} {v : Value} {A : Around} {s : Shared} {Q : Value → Shared → Prop} {E : Value → Shared → Prop}, glob cx f = some v → cx.I s.heap → Q v s → wpAny (model cx.prog cx.w) A (loadGlobal (fEnv (fsc 10) L [] q a cd) f) Q E s := by
                    intro f v A s Q E hv hI hq
                    unfold glob at hv
                    split at hv
                    · rename_i w hw
                      cases hv
                      exact Calls.loadGlobal_global (cx.Ig _ hI) hw hq
                    · rename_i hw
                      exact Calls.loadGlobal_builtin (cx.Ig _ hI) hw (cx.Ib _ hI) hv hq
                  refine glob_of G.ins hI₇ ?_
                  refine callWith_any cN ?_ rfl rfl
                  refine ar_cons (cx := cx) (n := n + 1) (xs := xsZ) (ev_name 3 rfl (.inl rfl) rfl rfl) (ar_cons (gcall G.dig2 C.cD C.hD2 (ar_cons (ev_name 4 rfl (.inr (.inl rfl)) rfl rfl) (ar_cons ev_int ar_nil rfl) rfl) rfl rfl (fun _ => rfl) rfl) ar_nil rfl) rfl
                    (D :: ex) A s₇ _ [.fn D, .int x] _ _ _ hI₇ hR al₇ F₇ (by simp only [consO, h3₇, h4₇, callO, hphiD]) fun vs₈ s₈ g₈ r₈ => ?_
                  have hI₈ := g₈.inv hI₇
                  have hD₈ : s₈.heap.PlainList D vD.toArray := hD₇.at fun o e => g₈.kp D o (by simp) hDt e
                  refine ⟨hI₈, ins_ok (cx := cx) (n := n) G cB hB hfunN hI₈ hR hDn (r₈.move fun b o _ _ e => ⟨by simp, e⟩) hD₈ hints₅ hb.2.2 hphiB ⟨hb.1, hb.2.1⟩ fun s₉ vD₉ g₉ hD₉ hints₉ => ?_⟩
                  refine wpAny_execs_nil ⟨ds.length + 1 - (i + 1), by omega, i + 1, setSlot ρ₅ 4 (some ds[i]), _, vD₉, rfl, hlt, ?_, g₉.inv hI₈, alD s₈ s₉ _ (exLt al₇ g₈) g₉ hD₉, (F₇.go g₈).goD g₉ hD₈, ?_, hD₉, hints₉, hins₅, hrow₅, h3₇, fun i' v' d' hi' hP' hd' => ?_⟩
                  · exact ((((g₅.trans (g₆.mono fun b hb => List.mem_singleton.mp hb ▸ .head _)).trans (g₇'.mono fun b hb => .tail _ (.tail _ hb))).trans (GoB.up g₈)).trans (g₉.mono fun b hb => List.mem_singleton.mp hb ▸ .tail _ (.head _)))
                  · exact S.W.frame _ _ _ (S.W.frame _ _ _ st₇ fun b hb' o e => g₈.kp b o (by simp) (S.fpo b hb').1 e) fun b hb' o e => g₉.kp b o (fun z => hDfp (List.mem_singleton.mp z ▸ hb')) (S.fpo b hb').1 e
                  · have r1 : Rel cx (D :: ex) s₇.heap d' v' := ((items₅ i' v' d' (Nat.le_of_succ_le hi') hP' hd').ns g₆ (nsI i s₅ st)).ns g₇' (own_ns (nextF h₁ tk₁ hk₁))
                    exact (r1.go0 g₈).go g₉ fun b hb => List.mem_singleton.mp hb ▸ .head _
                · cases hins₅
              · cases hins₅
            · cases hins₅
          · have hin : i = ds.length := Nat.le_antisymm hi (Nat.not_lt.mp hlt)
            subst hin
            refine S.W.done s₅ _ _ st fun h₁ tk₁ hk₁ => wpAny_execs_nil ?_
            rw [List.drop_length] at hins₅ hrow₅
            unfold insF at hins₅
            split at hins₅
            · rename_i hlen
              cases hins₅
              have hrow₅ : ρ₅ = ρe := hrow₅
              subst hrow₅
              have g₆ := next h₁ tk₁ hk₁
              have F₆ := nextF h₁ tk₁ hk₁
              have hD₆ := nextD h₁ hk₁
              have hI₆ := g₆.inv hI₅
              have al₆ := al₅.ns g₆ (nsI _ s₅ st)
              have Fend : FrOk cx ex (fEnv (fsc 10) L [] q a cd) xsZ h₁ (setSlot (rowsF ds (setSlot ρ 2 (some (.list R)))) 3 (some (.list (l.map V.int)))) := by
                refine F₆.map fun j d hj => ?_
                rw [slot_set] at hj
                by_cases h3 : j = 3
                · rw [if_pos h3] at hj
                  cases hj
                  subst h3
                  refine ⟨.fn D, h3₅, fun v r => ?_⟩
                  cases r
                  exact .list hDex hDt hD₆ (rel_ints hints₅) (by rw [List.length_map]; exact hlen)
                · rw [if_neg h3] at hj
                  refine ⟨d, ?_, fun v r => r.less⟩
                  rw [← hρe, rowsF_other ds ρ₃ _ s3c j h3]
                  exact hj
              have gAll : GoB cx (ownOf (fEnv (fsc 10) L [] q a cd)) s { s₅ with heap := h₁, toks := tk₁ } := by
                have g43 : GoB cx (D :: ownOf (fEnv (fsc 10) L [] q a cd)) s₃ { s₅ with heap := h₁, toks := tk₁ } := ((GoB.up g₄).trans (g₅.trans (g₆.mono fun b hb => List.mem_singleton.mp hb ▸ .head _))).drop fun b hb => by
                  rcases List.mem_cons.mp hb with rfl | hb
                  · exact .inr S.fr
                  · exact .inl hb
                exact ((g₀₃.mono fun b hb => List.mem_cons_of_mem D hb).trans g43).drop fun b hb => by
                  rcases List.mem_cons.mp hb with rfl | hb
                  · exact .inr hDnone0
                  · exact .inl hb
              refine hrest ex A { s₅ with heap := h₁, toks := tk₁ } _ fl _ _ hI₆ hR (fun b hb => al₆ b (.tail _ hb)) Fend h (fun ρ₉ s₉ g₉ F₉ e => hN ρ₉ s₉ (gAll.trans g₉) F₉ e) fun d v s₉ g₉ r e => hT d v s₉ (gAll.trans g₉) r e
            · cases hins₅
        · cases hd
      · cases hd
    · cases hd

end Mine

open PySem PySem.W PyProof.Rows

namespace Mine
variable {cx : Cx} {n : Nat}

def FZ : List (Option V) → Option Fl := seqF FZ0 (seqF FZs (seqF FZ3 (seqF FZ4 (seqF FZ5 (seqF FZ6 (seqF FZ7 (seqF FZ8 (seqF FZ9 (seqF FZ10 (seqF FZ11 (seqF FZ12 (seqF FZ13 (fun ρ => some (.next ρ))))))))))))))
def phiZ (ds : List V) : Option V := match exactly 1 ds with | none => none | some ds => endF (FZ (ds.map some))

structure Funs (cx : Cx) : Prop where
  f21 : ∀ h, cx.I h → FunIs cx h 21 [("a" : Str), ("n" : Str)] (exactly 2) (fsc 1) (fBody (topSt 1)) [] (fun cd qn => cd = .ref 20 ∧ qn = ("_int2digits" : Str))
  f28 : ∀ h, cx.I h → FunIs cx h 28 [("digits" : Str), ("n" : Str)] (exactly 2) (fsc 2) (fBody (topSt 2)) [] (fun cd qn => cd = .ref 27 ∧ qn = ("_digits2int" : Str))
  f37 : ∀ h, cx.I h → FunIs cx h 37 xsN pfN (fsc 4) (fBody (topSt 4)) [] (fun _ _ => True)
  f46 : ∀ h, cx.I h → FunIs cx h 46 xsN pfB (fsc 5) (fBody (topSt 5)) [] (fun _ _ => True)
  f51 : ∀ h, cx.I h → FunIs cx h 51 [("one" : Str), ("other" : Str), ("many" : Str)] (exactly 3) (fsc 7) (fBody (topSt 7)) [] (fun _ _ => True)
  f56 : ∀ h, cx.I h → FunIs cx h 56 [("many" : Str)] (exactly 1) (fsc 8) (fBody (topSt 8)) [] (fun _ _ => True)
  f63 : ∀ h, cx.I h → FunIs cx h 63 [("order" : Str), ("number" : Str)] (exactly 2) (fsc 9) (fBody (topSt 9)) [] (fun _ _ => True)
  f68 : ∀ h, cx.I h → FunIs cx h 68 [("script" : Str)] (exactly 1) (fsc 10) (fBody (topSt 10)) [] (fun _ _ => True)
theorem cal_of {a : Addr} {names : List Str} {pf : List V → Option (List V)} {scope : Scope} {body : List Stmt} {cl : List (Str × Addr)} {K : Value → Str → Prop} (h : ∀ h, cx.I h → FunIs cx h a names pf scope body cl K) : Cal cx (.ref a) :=
  fun hh hI => let ⟨o, fd, e, hd, _⟩ := h hh hI; ⟨o, fd, e, hd⟩

theorem all_par {names : List Str} {scope : Scope} (h : (names.all fun x => ownName scope.names x) = true) : ∀ x ∈ names, scope.names.lookup x = some .local ∨ scope.names.lookup x = some .cell :=
  fun x hx => own_kind (List.all_eq_true.mp h x hx)

theorem law_walk (hall : ∀ h, cx.I h → ∀ b, b < cx.n₁ → ∃ o, h.get? b = some o) (G : Globs cx) (U : Funs cx) (HD : DefCx cx 27 23 posJ qJ) (HI : DefCx cx 20 16 posK qK) : FnOk cx 8 (.ref 68) phiZ := by
  have hD : FnOk cx 7 (.ref 28) phiD := fn_D (n := 0) HD G U.f28
  have hI : FnOk cx 5 (.ref 21) phiI := fn_I (n := 0) hall HI G U.f21
  have hB : FnOk cx 1 (.ref 46) phiB := fn_top (n := 0) xsN xsB U.f46 (fun L q cd => body_B G) rfl rfl rfl (by decide) rfl (all_par rfl)
  have hH : FnOk cx 2 (.ref 63) phiH := fn_top (n := 1) [("order" : Str), ("number" : Str)] xsH U.f63 (fun L q cd => body_H G (cal_of U.f46) hB) rfl rfl rfl (by decide) rfl (all_par rfl)
  have hW : FnOk cx 6 (.ref 51) phiW := fn_top (n := 5) [("one" : Str), ("other" : Str), ("many" : Str)] xsW U.f51 (fun L q cd => body_W G (cal_of U.f21) hI) rfl rfl rfl (by decide) rfl (all_par rfl)
  have hR : FnOk cx 1 (.ref 56) phiR := fn_top (n := 0) [("many" : Str)] xsR U.f56 (fun L q cd => body_R G) rfl rfl rfl (by decide) rfl (all_par rfl)
  have C : Cals cx (6 + 1) := ⟨cal_of U.f56, hR.mono (by decide), cal_of U.f28, hD, cal_of U.f63, hH.mono (by decide), cal_of U.f51, hW.mono (by decide)⟩
  refine fn_top (n := 7) [("script" : Str)] xsZ U.f68 (fun L q cd => ?_) rfl rfl rfl (by decide) rfl (all_par rfl)
  exact ss_cons (stZ0 G C) (ss_12 (n := 6) G C (cal_of U.f37) (cal_of U.f46) (hB.mono (by decide)) U.f37 (ss_cons (stZ3 G C) (ss_cons (stZ4 G C) (ss_cons (stZ5 G C) (ss_cons (stZ6 G C) (ss_cons (stZ7 G C) (ss_cons (stZ8 G C) (ss_cons (stZ9 G C) (ss_cons (stZ10 G C) (ss_cons (stZ11 G C) (ss_cons (stZ12 G C) (ss_cons (stZ13 G C) ss_nil))))))))))))

end Mine

open PySem PySem.W PyProof.Rows

namespace Mine
def vI (l : List Int) : V := .list (l.map V.int)
def vR (l : List (List Int)) : V := .list (l.map vI)
def vP (l : List (Int × Int)) : V := .list (l.map fun p => .tup [.int p.1, .int p.2])

def rows0 : List (List Int) := [[0], [1]]
def ord0 : List Int := [0, 1]
def prs0 : List (Int × Int) := []
def TA0 : List (Option V) := [some (.int 0), some (vR rows0), some (vI ord0), some (vI [0])]
def TB0 : List (Option V) := TA0 ++ [some (.int 1)]
def TC0 : List (Option V) := TB0 ++ [some (vP prs0)]
def TD0 : List (Option V) := [some (.int 0), some (vR rows0), some (vI ord0), some (vI [1]), some (.int 1), some (vP prs0), some (vI [0]), some (vI [0]), some (vI [1])]
def TE0 : List (Option V) := TD0 ++ [some (vI [1, 1])]
theorem zs_0 (S : Option V) : FZs (S :: [some (.int 0)]) = some (.next (S :: TA0)) := by kernel_rfl
theorem z3_0 (S : Option V) : FZ3 (S :: TA0) = some (.next (S :: TA0)) := by kernel_rfl
theorem z4_0 (S : Option V) : FZ4 (S :: TA0) = some (.next (S :: TB0)) := by kernel_rfl
theorem z5_0 (S : Option V) : FZ5 (S :: TB0) = some (.next (S :: TC0)) := by kernel_rfl
theorem z6_0 (S : Option V) : FZ6 (S :: TC0) = some (.next (S :: TC0)) := by kernel_rfl
theorem z7_0 (S : Option V) : FZ7 (S :: TC0) = some (.next (S :: TD0)) := by kernel_rfl
theorem z8_0 (S : Option V) : FZ8 (S :: TD0) = some (.next (S :: TE0)) := by kernel_rfl
theorem z9_0 (S : Option V) : FZ9 (S :: TE0) = some (.next (S :: TE0)) := by kernel_rfl
def rows1 : List (List Int) := [[0, 0], [0, 1], [1, 1]]
def ord1 : List Int := [0, 2, 3]
def prs1 : List (Int × Int) := [(0, 1)]
def TA1 : List (Option V) := [some (.int 1), some (vR rows1), some (vI ord1), some (vI [0, 0])]
def TB1 : List (Option V) := TA1 ++ [some (.int 2)]
def TC1 : List (Option V) := TB1 ++ [some (vP prs1)]
def TD1 : List (Option V) := [some (.int 1), some (vR rows1), some (vI ord1), some (vI [1, 1]), some (.int 2), some (vP prs1), some (vI [0, 0]), some (vI [0]), some (vI [1, 1])]
def TE1 : List (Option V) := TD1 ++ [some (vI [1, 1, 1])]
theorem zs_1 (S : Option V) : FZs (S :: [some (.int 1)]) = some (.next (S :: TA1)) := by kernel_rfl
theorem z3_1 (S : Option V) : FZ3 (S :: TA1) = some (.next (S :: TA1)) := by kernel_rfl
theorem z4_1 (S : Option V) : FZ4 (S :: TA1) = some (.next (S :: TB1)) := by kernel_rfl
theorem z5_1 (S : Option V) : FZ5 (S :: TB1) = some (.next (S :: TC1)) := by kernel_rfl
theorem z6_1 (S : Option V) : FZ6 (S :: TC1) = some (.next (S :: TC1)) := by kernel_rfl
theorem z7_1 (S : Option V) : FZ7 (S :: TC1) = some (.next (S :: TD1)) := by kernel_rfl
theorem z8_1 (S : Option V) : FZ8 (S :: TD1) = some (.next (S :: TE1)) := by kernel_rfl
theorem z9_1 (S : Option V) : FZ9 (S :: TE1) = some (.next (S :: TE1)) := by kernel_rfl
def rows2 : List (List Int) := [[0, 0, 0, 0], [0, 0, 0, 1], [0, 0, 1, 1], [0, 1, 0, 1], [0, 1, 1, 1], [1, 1, 1, 1]]
def ord2 : List Int := [0, 8, 10, 12, 14, 15]
def prs2 : List (Int × Int) := [(0, 1), (0, 2), (0, 3), (1, 3), (2, 3)]
def TA2 : List (Option V) := [some (.int 2), some (vR rows2), some (vI ord2), some (vI [0, 0, 1, 1])]
def TB2 : List (Option V) := TA2 ++ [some (.int 4)]
def TC2 : List (Option V) := TB2 ++ [some (vP prs2)]
def TD2 : List (Option V) := [some (.int 2), some (vR rows2), some (vI ord2), some (vI [1, 1, 1, 1]), some (.int 4), some (vP prs2), some (vI [0, 0, 0, 0]), some (vI [0]), some (vI [1, 1, 1, 1])]
def TE2 : List (Option V) := TD2 ++ [some (vI [1, 1, 2, 1, 1])]
theorem zs_2 (S : Option V) : FZs (S :: [some (.int 2)]) = some (.next (S :: TA2)) := by kernel_rfl
theorem z3_2 (S : Option V) : FZ3 (S :: TA2) = some (.next (S :: TA2)) := by kernel_rfl
theorem z4_2 (S : Option V) : FZ4 (S :: TA2) = some (.next (S :: TB2)) := by kernel_rfl
theorem z5_2 (S : Option V) : FZ5 (S :: TB2) = some (.next (S :: TC2)) := by kernel_rfl
theorem z6_2 (S : Option V) : FZ6 (S :: TC2) = some (.next (S :: TC2)) := by kernel_rfl
theorem z7_2 (S : Option V) : FZ7 (S :: TC2) = some (.next (S :: TD2)) := by kernel_rfl
theorem z8_2 (S : Option V) : FZ8 (S :: TD2) = some (.next (S :: TE2)) := by kernel_rfl
theorem z9_2 (S : Option V) : FZ9 (S :: TE2) = some (.next (S :: TE2)) := by kernel_rfl
def rows3 : List (List Int) := [[0, 0, 0, 0, 0, 0, 0, 0], [0, 0, 0, 0, 0, 0, 0, 1], [0, 0, 0, 0, 0, 0, 1, 1], [0, 0, 0, 0, 0, 1, 0, 1], [0, 0, 0, 0, 0, 1, 1, 1], [0, 0, 0, 0, 1, 1, 1, 1], [0, 0, 0, 1, 0, 0, 0, 1], [0, 0, 0, 1, 0, 0, 1, 1], [0, 0, 0, 1, 0, 1, 0, 1], [0, 0, 0, 1, 0, 1, 1, 1], [0, 0, 0, 1, 1, 1, 1, 1], [0, 0, 1, 1, 0, 0, 1, 1], [0, 0, 1, 1, 0, 1, 1, 1], [0, 0, 1, 1, 1, 1, 1, 1], [0, 1, 0, 1, 0, 1, 0, 1], [0, 1, 0, 1, 0, 1, 1, 1], [0, 1, 0, 1, 1, 1, 1, 1], [0, 1, 1, 1, 0, 1, 1, 1], [0, 1, 1, 1, 1, 1, 1, 1], [1, 1, 1, 1, 1, 1, 1, 1]]
def ord3 : List Int := [0, 128, 136, 160, 168, 170, 192, 200, 204, 224, 232, 234, 236, 238, 240, 248, 250, 252, 254, 255]
def prs3 : List (Int × Int) := [(0, 1), (0, 2), (0, 3), (0, 4), (0, 5), (0, 6), (0, 7), (1, 3), (1, 5), (1, 7), (2, 3), (2, 6), (2, 7), (3, 7), (4, 5), (4, 6), (4, 7), (5, 7), (6, 7)]
def TA3 : List (Option V) := [some (.int 3), some (vR rows3), some (vI ord3), some (vI [0, 0, 0, 1, 0, 1, 1, 1])]
def TB3 : List (Option V) := TA3 ++ [some (.int 8)]
def TC3 : List (Option V) := TB3 ++ [some (vP prs3)]
def TD3 : List (Option V) := [some (.int 3), some (vR rows3), some (vI ord3), some (vI [1, 1, 1, 1, 1, 1, 1, 1]), some (.int 8), some (vP prs3), some (vI [0, 0, 0, 0, 0, 0, 0, 0]), some (vI [0]), some (vI [1, 1, 1, 1, 1, 1, 1, 1])]
def TE3 : List (Option V) := TD3 ++ [some (vI [1, 1, 3, 3, 4, 3, 3, 1, 1])]
theorem zs_3 (S : Option V) : FZs (S :: [some (.int 3)]) = some (.next (S :: TA3)) := by kernel_rfl
theorem z3_3 (S : Option V) : FZ3 (S :: TA3) = some (.next (S :: TA3)) := by kernel_rfl
theorem z4_3 (S : Option V) : FZ4 (S :: TA3) = some (.next (S :: TB3)) := by kernel_rfl
theorem z5_3 (S : Option V) : FZ5 (S :: TB3) = some (.next (S :: TC3)) := by kernel_rfl
theorem z6_3 (S : Option V) : FZ6 (S :: TC3) = some (.next (S :: TC3)) := by kernel_rfl
theorem z7_3 (S : Option V) : FZ7 (S :: TC3) = some (.next (S :: TD3)) := by kernel_rfl
theorem z8_3 (S : Option V) : FZ8 (S :: TD3) = some (.next (S :: TE3)) := by kernel_rfl
theorem z9_3 (S : Option V) : FZ9 (S :: TE3) = some (.next (S :: TE3)) := by kernel_rfl

end Mine

open PySem PySem.W PyProof.Rows

namespace Mine
theorem seq_to {f g : List (Option V) → Option Fl} {ρ ρ' : List (Option V)} (h : f ρ = some (.next ρ')) : seqF f g ρ = g ρ' := by unfold seqF; rw [h]
theorem seq_ret {f g : List (Option V) → Option Fl} {ρ : List (Option V)} {d : V} (h : f ρ = some (.ret d)) : seqF f g ρ = some (.ret d) := by unfold seqF; rw [h]
theorem seq_asg {f : List (Option V) → Option V} {g : List (Option V) → Option Fl} {ρ : List (Option V)} {i : Nat} {d : V} (h : f ρ = some d) : seqF (asgF i f) g ρ = g (setSlot ρ i (some d)) := by unfold seqF asgF; rw [h]
theorem seq_if {t : List (Option V) → Option Bool} {a g : List (Option V) → Option Fl} {ρ : List (Option V)} (h : t ρ = some false) : seqF (ifF t a (fun ρ => some (.next ρ))) g ρ = g ρ := by unfold seqF ifF; rw [h]
theorem for_cons {bf : V → List (Option V) → Option (List (Option V))} {f : List (Option V) → Option Fl} {d : V} {ds : List V} {ρ ρ₁ ρ₂ : List (Option V)} (h1 : bf d ρ = some ρ₁) (h2 : f ρ₁ = some (.next ρ₂)) : forF bf f (d :: ds) ρ = forF bf f ds ρ₂ := by
  rw [forF, h1]; dsimp only; rw [h2]
theorem ints_map : ∀ l : List Int, intsOf (l.map V.int) = some l
  | [] => rfl
  | i :: l => by rw [List.map_cons, intsOf, ints_map l]

def mn (a b : Int) : Int := if b < a then b else a
def mx (a b : Int) : Int := if b > a then b else a
theorem dis (a b c : Int) : mx (mn a b) c = mn (mx a c) (mx b c) := by
  unfold mx mn
  split <;> split <;> split <;> (first | omega | (split <;> (first | omega | (split <;> omega))))

def lowE : List (Option V) → Option V := (compF 1 (fun ρ => rangeO ((fun ρ => slot ρ 5) ρ)) (setB 0) (fun _ => some true) (oneF (fun ρ => callO fMin ((consO (bind2 (fun ρ => slot ρ 12) (fun ρ => slot ρ 0) V.item) (consO (bind2 (fun ρ => slot ρ 13) (fun ρ => slot ρ 0) V.item) (fun _ => some []))) ρ))))
def highE : List (Option V) → Option V := (compF 1 (fun ρ => rangeO ((fun ρ => slot ρ 5) ρ)) (setB 0) (fun _ => some true) (oneF (fun ρ => callO fMax ((consO (bind2 (fun ρ => slot ρ 12) (fun ρ => slot ρ 0) V.item) (consO (bind2 (fun ρ => slot ρ 14) (fun ρ => slot ρ 0) V.item) (fun _ => some []))) ρ))))
def tI1 : List (Option V) → Option Bool := (orO (fun ρ => notO ((fun ρ => truthO ((fun ρ => callO phiH ((consO (fun ρ => slot ρ 3) (consO (fun ρ => callO phiD ((consO (fun ρ => slot ρ 14) (consO (fun _ => some (.int 1)) (fun _ => some []))) ρ)) (fun _ => some []))) ρ)) ρ)) ρ)) (fun ρ => notO ((fun ρ => truthO ((fun ρ => callO phiH ((consO (fun ρ => slot ρ 3) (consO (fun ρ => callO phiD ((consO (fun ρ => slot ρ 15) (consO (fun _ => some (.int 1)) (fun _ => some []))) ρ)) (fun _ => some []))) ρ)) ρ)) ρ)))
def cL : List (Option V) → Option V := (compF 1 (fun ρ => rangeO ((fun ρ => slot ρ 5) ρ)) (setB 0) (fun _ => some true) (oneF (fun ρ => callO fMax ((consO (bind2 (fun ρ => slot ρ 15) (fun ρ => slot ρ 0) V.item) (consO (bind2 (fun ρ => slot ρ 14) (fun ρ => slot ρ 0) V.item) (fun _ => some []))) ρ))))
def cR : List (Option V) → Option V := (compF 1 (fun ρ => rangeO ((fun ρ => slot ρ 5) ρ)) (setB 0) (fun _ => some true) (oneF (fun ρ => callO fMin ((consO (bind2 (fun ρ => slot ρ 16) (fun ρ => slot ρ 0) V.item) (consO (fun ρ => callO fMax ((consO (bind2 (fun ρ => slot ρ 13) (fun ρ => slot ρ 0) V.item) (consO (bind2 (fun ρ => slot ρ 14) (fun ρ => slot ρ 0) V.item) (fun _ => some []))) ρ)) (fun _ => some []))) ρ))))
def tI2 : List (Option V) → Option Bool := (fun ρ => boolOf (bind2 cL cR V.ne ρ))
def bodyE : List (Option V) → Option Fl := (seqF (asgF 14 lowE) (seqF (asgF 15 highE) (seqF (ifF tI1 (seqF (retF (fun _ => some (.bool false))) (fun ρ => some (.next ρ))) (fun ρ => some (.next ρ))) (seqF (ifF tI2 (seqF (retF (fun _ => some (.bool false))) (fun ρ => some (.next ρ))) (fun ρ => some (.next ρ))) (fun ρ => some (.next ρ))))))
theorem FZ11_eq : FZ11 = forsF (fun ρ => listO ((fun ρ => slot ρ 2) ρ)) (setB 13) bodyE := rfl

def hasE (ord l : List Int) : Option V := match phiD [vI l, .int 1] with
  | some d => phiH [vI ord, d]
  | none => none
def isT : Option V → Bool
  | some (.bool true) => true
  | _ => false
theorem isT_of {o : Option V} (h : isT o = true) : o = some (.bool true) := by
  unfold isT at h
  split at h
  · rfl
  · cases h
theorem tI1_false {ρ : List (Option V)} {ord lo hi : List Int} (h3 : slot ρ 3 = some (vI ord)) (h14 : slot ρ 14 = some (vI lo)) (h15 : slot ρ 15 = some (vI hi)) (hl : hasE ord lo = some (.bool true)) (hh : hasE ord hi = some (.bool true)) : tI1 ρ = some false := by
  unfold hasE at hl hh
  split at hl
  · rename_i d1 e1
    split at hh
    · rename_i d2 e2
      simp only [tI1, orO, consO, callO, h3, h14, h15, e1, e2, hl, hh, truthO, truthV, notO, Bool.not_true]
    · cases hh
  · cases hl
theorem tI2_false {ρ : List (Option V)} {l r : List Int} (hL : cL ρ = some (vI l)) (hR : cR ρ = some (vI r)) (h : l = r) : tI2 ρ = some false := by
  subst h
  unfold tI2 bind2
  rw [hL, hR]
  dsimp only
  unfold V.ne V.eqB vI
  dsimp only
  rw [ints_map]
  dsimp only
  rw [eqInts_eq]
  simp [notO, boolV, boolOf]

theorem z0 (xs : List Int) : FZ0 [some (vI xs)] = some (.next [some (vI xs), some (.int (xs.sum.fmod 4))]) := by
  have e : fSum [vI xs] = some (.int xs.sum) := by unfold fSum vI; dsimp only; rw [ints_map]
  have e2 : V.fmod (.int xs.sum) (.int 4) = some (.int (xs.sum.fmod 4)) := rfl
  unfold FZ0 asgF bind2
  simp only [consO, slot, callO, e, e2, setSlot]

theorem row_item {ρ : List (Option V)} {rows : List (List Int)} (hne : rows ≠ []) (hlen : rows.length < 2 ^ 20) (h2 : slot ρ 2 = some (vR rows)) (p : Int) :
    ∃ o ∈ rows, (bind2 (fun ρ => slot ρ 3) (bind2 (fun ρ => slot ρ 0) (fun ρ => callO fLen ((consO (fun ρ => slot ρ 3) (fun _ => some [])) ρ)) V.fmod) V.item) (some (.int p) :: ρ) = some (vI o) := by
  have e3 : slot (some (.int p) :: ρ) 3 = some (vR rows) := h2
  have e0 : slot (some (V.int p) :: ρ) 0 = some (.int p) := rfl
  have hL : (0 : Int) < rows.length := by
    cases rows with
    | nil => exact absurd rfl hne
    | cons => simp only [List.length_cons]; omega
  have el : fLen [vR rows] = some (.int rows.length) := by unfold fLen vR; simp
  have ef : V.fmod (.int p) (.int rows.length) = some (.int (p.fmod rows.length)) := by
    show (if (rows.length : Int) ≠ 0 then some (V.int (p.fmod rows.length)) else none) = _
    rw [if_pos (by omega)]
  obtain ⟨j, hj⟩ := Int.eq_ofNat_of_zero_le (Int.fmod_nonneg_of_pos p hL)
  have hjl : j < rows.length := by have := Int.fmod_lt_of_pos p hL; omega
  refine ⟨rows[j], List.getElem_mem hjl, ?_⟩
  unfold bind2
  simp only [e3, e0, consO, callO, el, ef, hj]
  unfold V.item vR
  dsimp only
  rw [if_pos ⟨by omega, by omega⟩]
  simp [hjl]

theorem z10 (xs : List Int) (hl : xs.length ≤ 63) (T : List (Option V)) (rows : List (List Int)) (hr : rows ≠ [] ∧ rows.length < 2 ^ 20) (hT : slot (some (vI xs) :: T) 2 = some (vR rows)) :
    ∃ o ∈ rows, ∃ t, ∃ _ : t ∈ rows, FZ10 (some (vI xs) :: T) = some (.next (setSlot (setSlot (some (vI xs) :: T) 11 (some (vI o))) 12 (some (vI t)))) := by
  have ha : V.add (vI xs) (.list [.int 0, .int 0]) = some (.list (xs.map V.int ++ [.int 0, .int 0])) := by
    show (if (xs.map V.int).length + 2 ≤ 2 ^ 20 then some (V.list (xs.map V.int ++ [.int 0, .int 0])) else none) = _
    rw [if_pos (by rw [List.length_map]; omega)]
  have hc : capL V.list (some [V.int 0, V.int 0]) = some (.list [.int 0, .int 0]) := rfl
  have hu : ∀ l : List V, V.upto (.list l) (.int 2) = some (.list (l.take 2)) := fun l => rfl
  have hs : ∃ p q, (fun ρ => listO ((bind2 (bind2 (fun ρ => slot ρ 0) (fun ρ => capL .list ((consO (fun _ => some (.int 0)) (consO (fun _ => some (.int 0)) (fun _ => some []))) ρ)) V.add) (fun _ => some (.int 2)) V.upto) ρ)) (some (vI xs) :: T) = some [.int p, .int q] := by
    have h0 : slot (some (vI xs) :: T) 0 = some (vI xs) := rfl
    simp only [bind2, h0, consO, hc, ha, hu, listO]
    match xs with
    | [] => exact ⟨0, 0, rfl⟩
    | [a] => exact ⟨a, 0, rfl⟩
    | a :: b :: l => exact ⟨a, b, rfl⟩
  obtain ⟨p, q, hs⟩ := hs
  obtain ⟨o, ho, eo⟩ := row_item hr.1 hr.2 hT p
  obtain ⟨t, ht, et⟩ := row_item hr.1 hr.2 hT q
  refine ⟨o, ho, t, ht, ?_⟩
  unfold FZ10 tgF compF
  rw [hs]
  simp only [loopF, setB, nones, setSlot, oneF, eo, et]
  rfl

theorem low_0 (S : Option V) (τ : List (Option V)) (o0 t0 : Int) : lowE (S :: (TE0 ++ some (vI [o0]) :: some (vI [t0]) :: τ)) = some (vI [mn o0 t0]) := by kernel_rfl
theorem high_0 (S T : Option V) (τ : List (Option V)) (o0 r0 : Int) : highE (S :: (TE0 ++ some (vI [o0]) :: T :: some (vI [r0]) :: τ)) = some (vI [mx o0 r0]) := by kernel_rfl
theorem cL_0 (S O T : Option V) (τ : List (Option V)) (o0 r0 : Int) : cL (S :: (TE0 ++ O :: T :: some (vI [r0]) :: some (vI [o0]) :: τ)) = some (vI [mx o0 r0]) := by kernel_rfl
theorem cR_0 (S O X : Option V) (τ : List (Option V)) (o0 t0 r0 : Int) : cR (S :: (TE0 ++ O :: some (vI [t0]) :: some (vI [r0]) :: X :: some (vI [o0]) :: τ)) = some (vI [mn o0 (mx t0 r0)]) := by kernel_rfl
theorem body_0 (S : Option V) (τ : List (Option V)) (hτ : τ = [] ∨ ∃ b c, τ = [b, c]) (o t r : List Int) (ho : o.length = 1) (ht : t.length = 1) (hr : r.length = 1) (hl : hasE ord0 (List.zipWith mn o t) = some (.bool true)) (hh : hasE ord0 (List.zipWith mx o r) = some (.bool true)) :
    bodyE (S :: (TE0 ++ some (vI o) :: some (vI t) :: some (vI r) :: τ)) = some (.next (S :: (TE0 ++ [some (vI o), some (vI t), some (vI r), some (vI (List.zipWith mn o t)), some (vI (List.zipWith mx o r))]))) := by
  match o, ho, t, ht, r, hr with
  | [o0], _, [t0], _, [r0], _ =>
    unfold bodyE
    rw [seq_asg (low_0 ..)]
    have e14 : ∃ τ', (τ' = [] ∨ ∃ c, τ' = [c]) ∧ setSlot (S :: (TE0 ++ some (vI [o0]) :: some (vI [t0]) :: some (vI [r0]) :: τ)) 14 (some (vI [mn o0 t0])) = S :: (TE0 ++ some (vI [o0]) :: some (vI [t0]) :: some (vI [r0]) :: some (vI [mn o0 t0]) :: τ') := by
      rcases hτ with rfl | ⟨b, c, rfl⟩
      · exact ⟨[], .inl rfl, rfl⟩
      · exact ⟨[c], .inr ⟨c, rfl⟩, rfl⟩
    obtain ⟨τ', hτ', e14⟩ := e14
    rw [e14, seq_asg (high_0 ..)]
    have e15 : setSlot (S :: (TE0 ++ some (vI [o0]) :: some (vI [t0]) :: some (vI [r0]) :: some (vI [mn o0 t0]) :: τ')) 15 (some (vI [mx o0 r0])) = S :: (TE0 ++ some (vI [o0]) :: some (vI [t0]) :: some (vI [r0]) :: some (vI [mn o0 t0]) :: [some (vI [mx o0 r0])]) := by
      rcases hτ' with rfl | ⟨c, rfl⟩ <;> rfl
    rw [e15, seq_if (tI1_false (ord := ord0) rfl rfl rfl hl hh), seq_if (tI2_false (cL_0 ..) (cR_0 ..) (by simp only [dis]))]
    rfl
theorem len_0 : ∀ r ∈ rows0, r.length = 1 := by decide
theorem mn_0 : ∀ o ∈ rows0, ∀ t ∈ rows0, List.zipWith mn o t ∈ rows0 := by decide +kernel
theorem mx_0 : ∀ o ∈ rows0, ∀ t ∈ rows0, List.zipWith mx o t ∈ rows0 := by decide +kernel
theorem has_0 : ∀ r ∈ rows0, hasE ord0 r = some (.bool true) := by
  have h : (rows0.all fun r => isT (hasE ord0 r)) = true := by decide +kernel
  exact fun r hr => isT_of (List.all_eq_true.mp h r hr)
theorem z11_0 (S : Option V) (o t : List Int) (ho : o ∈ rows0) (ht : t ∈ rows0) : ∃ τ, (τ = [] ∨ ∃ a b c, τ = [a, b, c]) ∧ FZ11 (S :: (TE0 ++ [some (vI o), some (vI t)])) = some (.next (S :: (TE0 ++ some (vI o) :: some (vI t) :: τ))) := by
  have key : ∀ (rs : List (List Int)) (τ : List (Option V)), (∀ r ∈ rs, r ∈ rows0) → (τ = [] ∨ ∃ a b c, τ = [a, b, c]) →
      ∃ τ', (τ' = [] ∨ ∃ a b c, τ' = [a, b, c]) ∧ forF (setB 13) bodyE (rs.map vI) (S :: (TE0 ++ some (vI o) :: some (vI t) :: τ)) = some (.next (S :: (TE0 ++ some (vI o) :: some (vI t) :: τ'))) := by
    intro rs
    induction rs with
    | nil => intro τ _ hτ; exact ⟨τ, hτ, rfl⟩
    | cons r rs ih =>
      intro τ hrs hτ
      have hr := hrs r (.head _)
      have e13 : ∃ τ', (τ' = [] ∨ ∃ b c, τ' = [b, c]) ∧ setB 13 (vI r) (S :: (TE0 ++ some (vI o) :: some (vI t) :: τ)) = some (S :: (TE0 ++ some (vI o) :: some (vI t) :: some (vI r) :: τ')) := by
        rcases hτ with rfl | ⟨a, b, c, rfl⟩
        · exact ⟨[], .inl rfl, rfl⟩
        · exact ⟨[b, c], .inr ⟨b, c, rfl⟩, rfl⟩
      obtain ⟨τ', hτ', e13⟩ := e13
      rw [List.map_cons, for_cons e13 (body_0 S τ' hτ' o t r (len_0 o ho) (len_0 t ht) (len_0 r hr) (has_0 _ (mn_0 o ho t ht)) (has_0 _ (mx_0 o ho r hr)))]
      exact ih _ (fun r h => hrs r (.tail _ h)) (.inr ⟨_, _, _, rfl⟩)
  obtain ⟨τ', h1, h2⟩ := key rows0 [] (fun _ h => h) (.inl rfl)
  exact ⟨τ', h1, h2⟩
theorem z12a_0 (S O T : Option V) : FZ12 (S :: (TE0 ++ [O, T])) = some (.next (S :: (TE0 ++ [O, T, none, none, none, some (vI ord0)]))) := by kernel_rfl
theorem z12b_0 (S O T a b c : Option V) : FZ12 (S :: (TE0 ++ [O, T, a, b, c])) = some (.next (S :: (TE0 ++ [O, T, a, b, c, some (vI ord0)]))) := by kernel_rfl
theorem z13_0 (S O T a b c : Option V) : FZ13 (S :: (TE0 ++ [O, T, a, b, c, some (vI ord0)])) = some (.ret (.bool true)) := by kernel_rfl
theorem law_0 (xs : List Int) (hl : xs.length ≤ 63) (hm : xs.sum.fmod 4 = 0) : FZ [some (vI xs)] = some (.ret (.bool true)) := by
  unfold FZ
  rw [seq_to (z0 xs), hm, seq_to (zs_0 _), seq_to (z3_0 _), seq_to (z4_0 _), seq_to (z5_0 _), seq_to (z6_0 _), seq_to (z7_0 _), seq_to (z8_0 _), seq_to (z9_0 _)]
  obtain ⟨o, ho, t, ht, e⟩ := z10 xs hl TE0 rows0 (by decide) rfl
  rw [seq_to e]
  show seqF FZ11 _ (some (vI xs) :: (TE0 ++ [some (vI o), some (vI t)])) = _
  obtain ⟨τ, hτ, e⟩ := z11_0 (some (vI xs)) o t ho ht
  rw [seq_to e]
  rcases hτ with rfl | ⟨a, b, c, rfl⟩
  · rw [seq_to (z12a_0 ..), seq_ret (z13_0 ..)]
  · rw [seq_to (z12b_0 ..), seq_ret (z13_0 ..)]
theorem low_1 (S : Option V) (τ : List (Option V)) (o0 o1 t0 t1 : Int) : lowE (S :: (TE1 ++ some (vI [o0, o1]) :: some (vI [t0, t1]) :: τ)) = some (vI [mn o0 t0, mn o1 t1]) := by kernel_rfl
theorem high_1 (S T : Option V) (τ : List (Option V)) (o0 o1 r0 r1 : Int) : highE (S :: (TE1 ++ some (vI [o0, o1]) :: T :: some (vI [r0, r1]) :: τ)) = some (vI [mx o0 r0, mx o1 r1]) := by kernel_rfl
theorem cL_1 (S O T : Option V) (τ : List (Option V)) (o0 o1 r0 r1 : Int) : cL (S :: (TE1 ++ O :: T :: some (vI [r0, r1]) :: some (vI [o0, o1]) :: τ)) = some (vI [mx o0 r0, mx o1 r1]) := by kernel_rfl
theorem cR_1 (S O X : Option V) (τ : List (Option V)) (o0 o1 t0 t1 r0 r1 : Int) : cR (S :: (TE1 ++ O :: some (vI [t0, t1]) :: some (vI [r0, r1]) :: X :: some (vI [o0, o1]) :: τ)) = some (vI [mn o0 (mx t0 r0), mn o1 (mx t1 r1)]) := by kernel_rfl
theorem body_1 (S : Option V) (τ : List (Option V)) (hτ : τ = [] ∨ ∃ b c, τ = [b, c]) (o t r : List Int) (ho : o.length = 2) (ht : t.length = 2) (hr : r.length = 2) (hl : hasE ord1 (List.zipWith mn o t) = some (.bool true)) (hh : hasE ord1 (List.zipWith mx o r) = some (.bool true)) :
    bodyE (S :: (TE1 ++ some (vI o) :: some (vI t) :: some (vI r) :: τ)) = some (.next (S :: (TE1 ++ [some (vI o), some (vI t), some (vI r), some (vI (List.zipWith mn o t)), some (vI (List.zipWith mx o r))]))) := by
  match o, ho, t, ht, r, hr with
  | [o0, o1], _, [t0, t1], _, [r0, r1], _ =>
    unfold bodyE
    rw [seq_asg (low_1 ..)]
    have e14 : ∃ τ', (τ' = [] ∨ ∃ c, τ' = [c]) ∧ setSlot (S :: (TE1 ++ some (vI [o0, o1]) :: some (vI [t0, t1]) :: some (vI [r0, r1]) :: τ)) 14 (some (vI [mn o0 t0, mn o1 t1])) = S :: (TE1 ++ some (vI [o0, o1]) :: some (vI [t0, t1]) :: some (vI [r0, r1]) :: some (vI [mn o0 t0, mn o1 t1]) :: τ') := by
      rcases hτ with rfl | ⟨b, c, rfl⟩
      · exact ⟨[], .inl rfl, rfl⟩
      · exact ⟨[c], .inr ⟨c, rfl⟩, rfl⟩
    obtain ⟨τ', hτ', e14⟩ := e14
    rw [e14, seq_asg (high_1 ..)]
    have e15 : setSlot (S :: (TE1 ++ some (vI [o0, o1]) :: some (vI [t0, t1]) :: some (vI [r0, r1]) :: some (vI [mn o0 t0, mn o1 t1]) :: τ')) 15 (some (vI [mx o0 r0, mx o1 r1])) = S :: (TE1 ++ some (vI [o0, o1]) :: some (vI [t0, t1]) :: some (vI [r0, r1]) :: some (vI [mn o0 t0, mn o1 t1]) :: [some (vI [mx o0 r0, mx o1 r1])]) := by
      rcases hτ' with rfl | ⟨c, rfl⟩ <;> rfl
    rw [e15, seq_if (tI1_false (ord := ord1) rfl rfl rfl hl hh), seq_if (tI2_false (cL_1 ..) (cR_1 ..) (by simp only [dis]))]
    rfl
theorem len_1 : ∀ r ∈ rows1, r.length = 2 := by decide
theorem mn_1 : ∀ o ∈ rows1, ∀ t ∈ rows1, List.zipWith mn o t ∈ rows1 := by decide +kernel
theorem mx_1 : ∀ o ∈ rows1, ∀ t ∈ rows1, List.zipWith mx o t ∈ rows1 := by decide +kernel
theorem has_1 : ∀ r ∈ rows1, hasE ord1 r = some (.bool true) := by
  have h : (rows1.all fun r => isT (hasE ord1 r)) = true := by decide +kernel
  exact fun r hr => isT_of (List.all_eq_true.mp h r hr)
theorem z11_1 (S : Option V) (o t : List Int) (ho : o ∈ rows1) (ht : t ∈ rows1) : ∃ τ, (τ = [] ∨ ∃ a b c, τ = [a, b, c]) ∧ FZ11 (S :: (TE1 ++ [some (vI o), some (vI t)])) = some (.next (S :: (TE1 ++ some (vI o) :: some (vI t) :: τ))) := by
  have key : ∀ (rs : List (List Int)) (τ : List (Option V)), (∀ r ∈ rs, r ∈ rows1) → (τ = [] ∨ ∃ a b c, τ = [a, b, c]) →
      ∃ τ', (τ' = [] ∨ ∃ a b c, τ' = [a, b, c]) ∧ forF (setB 13) bodyE (rs.map vI) (S :: (TE1 ++ some (vI o) :: some (vI t) :: τ)) = some (.next (S :: (TE1 ++ some (vI o) :: some (vI t) :: τ'))) := by
    intro rs
    induction rs with
    | nil => intro τ _ hτ; exact ⟨τ, hτ, rfl⟩
    | cons r rs ih =>
      intro τ hrs hτ
      have hr := hrs r (.head _)
      have e13 : ∃ τ', (τ' = [] ∨ ∃ b c, τ' = [b, c]) ∧ setB 13 (vI r) (S :: (TE1 ++ some (vI o) :: some (vI t) :: τ)) = some (S :: (TE1 ++ some (vI o) :: some (vI t) :: some (vI r) :: τ')) := by
        rcases hτ with rfl | ⟨a, b, c, rfl⟩
        · exact ⟨[], .inl rfl, rfl⟩
        · exact ⟨[b, c], .inr ⟨b, c, rfl⟩, rfl⟩
      obtain ⟨τ', hτ', e13⟩ := e13
      rw [List.map_cons, for_cons e13 (body_1 S τ' hτ' o t r (len_1 o ho) (len_1 t ht) (len_1 r hr) (has_1 _ (mn_1 o ho t ht)) (has_1 _ (mx_1 o ho r hr)))]
      exact ih _ (fun r h => hrs r (.tail _ h)) (.inr ⟨_, _, _, rfl⟩)
  obtain ⟨τ', h1, h2⟩ := key rows1 [] (fun _ h => h) (.inl rfl)
  exact ⟨τ', h1, h2⟩
theorem z12a_1 (S O T : Option V) : FZ12 (S :: (TE1 ++ [O, T])) = some (.next (S :: (TE1 ++ [O, T, none, none, none, some (vI ord1)]))) := by kernel_rfl
theorem z12b_1 (S O T a b c : Option V) : FZ12 (S :: (TE1 ++ [O, T, a, b, c])) = some (.next (S :: (TE1 ++ [O, T, a, b, c, some (vI ord1)]))) := by kernel_rfl
theorem z13_1 (S O T a b c : Option V) : FZ13 (S :: (TE1 ++ [O, T, a, b, c, some (vI ord1)])) = some (.ret (.bool true)) := by kernel_rfl
theorem law_1 (xs : List Int) (hl : xs.length ≤ 63) (hm : xs.sum.fmod 4 = 1) : FZ [some (vI xs)] = some (.ret (.bool true)) := by
  unfold FZ
  rw [seq_to (z0 xs), hm, seq_to (zs_1 _), seq_to (z3_1 _), seq_to (z4_1 _), seq_to (z5_1 _), seq_to (z6_1 _), seq_to (z7_1 _), seq_to (z8_1 _), seq_to (z9_1 _)]
  obtain ⟨o, ho, t, ht, e⟩ := z10 xs hl TE1 rows1 (by decide) rfl
  rw [seq_to e]
  show seqF FZ11 _ (some (vI xs) :: (TE1 ++ [some (vI o), some (vI t)])) = _
  obtain ⟨τ, hτ, e⟩ := z11_1 (some (vI xs)) o t ho ht
  rw [seq_to e]
  rcases hτ with rfl | ⟨a, b, c, rfl⟩
  · rw [seq_to (z12a_1 ..), seq_ret (z13_1 ..)]
  · rw [seq_to (z12b_1 ..), seq_ret (z13_1 ..)]
theorem low_2 (S : Option V) (τ : List (Option V)) (o0 o1 o2 o3 t0 t1 t2 t3 : Int) : lowE (S :: (TE2 ++ some (vI [o0, o1, o2, o3]) :: some (vI [t0, t1, t2, t3]) :: τ)) = some (vI [mn o0 t0, mn o1 t1, mn o2 t2, mn o3 t3]) := by kernel_rfl
theorem high_2 (S T : Option V) (τ : List (Option V)) (o0 o1 o2 o3 r0 r1 r2 r3 : Int) : highE (S :: (TE2 ++ some (vI [o0, o1, o2, o3]) :: T :: some (vI [r0, r1, r2, r3]) :: τ)) = some (vI [mx o0 r0, mx o1 r1, mx o2 r2, mx o3 r3]) := by kernel_rfl
theorem cL_2 (S O T : Option V) (τ : List (Option V)) (o0 o1 o2 o3 r0 r1 r2 r3 : Int) : cL (S :: (TE2 ++ O :: T :: some (vI [r0, r1, r2, r3]) :: some (vI [o0, o1, o2, o3]) :: τ)) = some (vI [mx o0 r0, mx o1 r1, mx o2 r2, mx o3 r3]) := by kernel_rfl
theorem cR_2 (S O X : Option V) (τ : List (Option V)) (o0 o1 o2 o3 t0 t1 t2 t3 r0 r1 r2 r3 : Int) : cR (S :: (TE2 ++ O :: some (vI [t0, t1, t2, t3]) :: some (vI [r0, r1, r2, r3]) :: X :: some (vI [o0, o1, o2, o3]) :: τ)) = some (vI [mn o0 (mx t0 r0), mn o1 (mx t1 r1), mn o2 (mx t2 r2), mn o3 (mx t3 r3)]) := by kernel_rfl
theorem body_2 (S : Option V) (τ : List (Option V)) (hτ : τ = [] ∨ ∃ b c, τ = [b, c]) (o t r : List Int) (ho : o.length = 4) (ht : t.length = 4) (hr : r.length = 4) (hl : hasE ord2 (List.zipWith mn o t) = some (.bool true)) (hh : hasE ord2 (List.zipWith mx o r) = some (.bool true)) :
    bodyE (S :: (TE2 ++ some (vI o) :: some (vI t) :: some (vI r) :: τ)) = some (.next (S :: (TE2 ++ [some (vI o), some (vI t), some (vI r), some (vI (List.zipWith mn o t)), some (vI (List.zipWith mx o r))]))) := by
  match o, ho, t, ht, r, hr with
  | [o0, o1, o2, o3], _, [t0, t1, t2, t3], _, [r0, r1, r2, r3], _ =>
    unfold bodyE
    rw [seq_asg (low_2 ..)]
    have e14 : ∃ τ', (τ' = [] ∨ ∃ c, τ' = [c]) ∧ setSlot (S :: (TE2 ++ some (vI [o0, o1, o2, o3]) :: some (vI [t0, t1, t2, t3]) :: some (vI [r0, r1, r2, r3]) :: τ)) 14 (some (vI [mn o0 t0, mn o1 t1, mn o2 t2, mn o3 t3])) = S :: (TE2 ++ some (vI [o0, o1, o2, o3]) :: some (vI [t0, t1, t2, t3]) :: some (vI [r0, r1, r2, r3]) :: some (vI [mn o0 t0, mn o1 t1, mn o2 t2, mn o3 t3]) :: τ') := by
      rcases hτ with rfl | ⟨b, c, rfl⟩
      · exact ⟨[], .inl rfl, rfl⟩
      · exact ⟨[c], .inr ⟨c, rfl⟩, rfl⟩
    obtain ⟨τ', hτ', e14⟩ := e14
    rw [e14, seq_asg (high_2 ..)]
    have e15 : setSlot (S :: (TE2 ++ some (vI [o0, o1, o2, o3]) :: some (vI [t0, t1, t2, t3]) :: some (vI [r0, r1, r2, r3]) :: some (vI [mn o0 t0, mn o1 t1, mn o2 t2, mn o3 t3]) :: τ')) 15 (some (vI [mx o0 r0, mx o1 r1, mx o2 r2, mx o3 r3])) = S :: (TE2 ++ some (vI [o0, o1, o2, o3]) :: some (vI [t0, t1, t2, t3]) :: some (vI [r0, r1, r2, r3]) :: some (vI [mn o0 t0, mn o1 t1, mn o2 t2, mn o3 t3]) :: [some (vI [mx o0 r0, mx o1 r1, mx o2 r2, mx o3 r3])]) := by
      rcases hτ' with rfl | ⟨c, rfl⟩ <;> rfl
    rw [e15, seq_if (tI1_false (ord := ord2) rfl rfl rfl hl hh), seq_if (tI2_false (cL_2 ..) (cR_2 ..) (by simp only [dis]))]
    rfl
theorem len_2 : ∀ r ∈ rows2, r.length = 4 := by decide
theorem mn_2 : ∀ o ∈ rows2, ∀ t ∈ rows2, List.zipWith mn o t ∈ rows2 := by decide +kernel
theorem mx_2 : ∀ o ∈ rows2, ∀ t ∈ rows2, List.zipWith mx o t ∈ rows2 := by decide +kernel
theorem has_2 : ∀ r ∈ rows2, hasE ord2 r = some (.bool true) := by
  have h : (rows2.all fun r => isT (hasE ord2 r)) = true := by decide +kernel
  exact fun r hr => isT_of (List.all_eq_true.mp h r hr)
theorem z11_2 (S : Option V) (o t : List Int) (ho : o ∈ rows2) (ht : t ∈ rows2) : ∃ τ, (τ = [] ∨ ∃ a b c, τ = [a, b, c]) ∧ FZ11 (S :: (TE2 ++ [some (vI o), some (vI t)])) = some (.next (S :: (TE2 ++ some (vI o) :: some (vI t) :: τ))) := by
  have key : ∀ (rs : List (List Int)) (τ : List (Option V)), (∀ r ∈ rs, r ∈ rows2) → (τ = [] ∨ ∃ a b c, τ = [a, b, c]) →
      ∃ τ', (τ' = [] ∨ ∃ a b c, τ' = [a, b, c]) ∧ forF (setB 13) bodyE (rs.map vI) (S :: (TE2 ++ some (vI o) :: some (vI t) :: τ)) = some (.next (S :: (TE2 ++ some (vI o) :: some (vI t) :: τ'))) := by
    intro rs
    induction rs with
    | nil => intro τ _ hτ; exact ⟨τ, hτ, rfl⟩
    | cons r rs ih =>
      intro τ hrs hτ
      have hr := hrs r (.head _)
      have e13 : ∃ τ', (τ' = [] ∨ ∃ b c, τ' = [b, c]) ∧ setB 13 (vI r) (S :: (TE2 ++ some (vI o) :: some (vI t) :: τ)) = some (S :: (TE2 ++ some (vI o) :: some (vI t) :: some (vI r) :: τ')) := by
        rcases hτ with rfl | ⟨a, b, c, rfl⟩
        · exact ⟨[], .inl rfl, rfl⟩
        · exact ⟨[b, c], .inr ⟨b, c, rfl⟩, rfl⟩
      obtain ⟨τ', hτ', e13⟩ := e13
      rw [List.map_cons, for_cons e13 (body_2 S τ' hτ' o t r (len_2 o ho) (len_2 t ht) (len_2 r hr) (has_2 _ (mn_2 o ho t ht)) (has_2 _ (mx_2 o ho r hr)))]
      exact ih _ (fun r h => hrs r (.tail _ h)) (.inr ⟨_, _, _, rfl⟩)
  obtain ⟨τ', h1, h2⟩ := key rows2 [] (fun _ h => h) (.inl rfl)
  exact ⟨τ', h1, h2⟩
theorem z12a_2 (S O T : Option V) : FZ12 (S :: (TE2 ++ [O, T])) = some (.next (S :: (TE2 ++ [O, T, none, none, none, some (vI ord2)]))) := by kernel_rfl
theorem z12b_2 (S O T a b c : Option V) : FZ12 (S :: (TE2 ++ [O, T, a, b, c])) = some (.next (S :: (TE2 ++ [O, T, a, b, c, some (vI ord2)]))) := by kernel_rfl
theorem z13_2 (S O T a b c : Option V) : FZ13 (S :: (TE2 ++ [O, T, a, b, c, some (vI ord2)])) = some (.ret (.bool true)) := by kernel_rfl
theorem law_2 (xs : List Int) (hl : xs.length ≤ 63) (hm : xs.sum.fmod 4 = 2) : FZ [some (vI xs)] = some (.ret (.bool true)) := by
  unfold FZ
  rw [seq_to (z0 xs), hm, seq_to (zs_2 _), seq_to (z3_2 _), seq_to (z4_2 _), seq_to (z5_2 _), seq_to (z6_2 _), seq_to (z7_2 _), seq_to (z8_2 _), seq_to (z9_2 _)]
  obtain ⟨o, ho, t, ht, e⟩ := z10 xs hl TE2 rows2 (by decide) rfl
  rw [seq_to e]
  show seqF FZ11 _ (some (vI xs) :: (TE2 ++ [some (vI o), some (vI t)])) = _
  obtain ⟨τ, hτ, e⟩ := z11_2 (some (vI xs)) o t ho ht
  rw [seq_to e]
  rcases hτ with rfl | ⟨a, b, c, rfl⟩
  · rw [seq_to (z12a_2 ..), seq_ret (z13_2 ..)]
  · rw [seq_to (z12b_2 ..), seq_ret (z13_2 ..)]
theorem low_3 (S : Option V) (τ : List (Option V)) (o0 o1 o2 o3 o4 o5 o6 o7 t0 t1 t2 t3 t4 t5 t6 t7 : Int) : lowE (S :: (TE3 ++ some (vI [o0, o1, o2, o3, o4, o5, o6, o7]) :: some (vI [t0, t1, t2, t3, t4, t5, t6, t7]) :: τ)) = some (vI [mn o0 t0, mn o1 t1, mn o2 t2, mn o3 t3, mn o4 t4, mn o5 t5, mn o6 t6, mn o7 t7]) := by kernel_rfl
theorem high_3 (S T : Option V) (τ : List (Option V)) (o0 o1 o2 o3 o4 o5 o6 o7 r0 r1 r2 r3 r4 r5 r6 r7 : Int) : highE (S :: (TE3 ++ some (vI [o0, o1, o2, o3, o4, o5, o6, o7]) :: T :: some (vI [r0, r1, r2, r3, r4, r5, r6, r7]) :: τ)) = some (vI [mx o0 r0, mx o1 r1, mx o2 r2, mx o3 r3, mx o4 r4, mx o5 r5, mx o6 r6, mx o7 r7]) := by kernel_rfl
theorem cL_3 (S O T : Option V) (τ : List (Option V)) (o0 o1 o2 o3 o4 o5 o6 o7 r0 r1 r2 r3 r4 r5 r6 r7 : Int) : cL (S :: (TE3 ++ O :: T :: some (vI [r0, r1, r2, r3, r4, r5, r6, r7]) :: some (vI [o0, o1, o2, o3, o4, o5, o6, o7]) :: τ)) = some (vI [mx o0 r0, mx o1 r1, mx o2 r2, mx o3 r3, mx o4 r4, mx o5 r5, mx o6 r6, mx o7 r7]) := by kernel_rfl
theorem cR_3 (S O X : Option V) (τ : List (Option V)) (o0 o1 o2 o3 o4 o5 o6 o7 t0 t1 t2 t3 t4 t5 t6 t7 r0 r1 r2 r3 r4 r5 r6 r7 : Int) : cR (S :: (TE3 ++ O :: some (vI [t0, t1, t2, t3, t4, t5, t6, t7]) :: some (vI [r0, r1, r2, r3, r4, r5, r6, r7]) :: X :: some (vI [o0, o1, o2, o3, o4, o5, o6, o7]) :: τ)) = some (vI [mn o0 (mx t0 r0), mn o1 (mx t1 r1), mn o2 (mx t2 r2), mn o3 (mx t3 r3), mn o4 (mx t4 r4), mn o5 (mx t5 r5), mn o6 (mx t6 r6), mn o7 (mx t7 r7)]) := by kernel_rfl
theorem body_3 (S : Option V) (τ : List (Option V)) (hτ : τ = [] ∨ ∃ b c, τ = [b, c]) (o t r : List Int) (ho : o.length = 8) (ht : t.length = 8) (hr : r.length = 8) (hl : hasE ord3 (List.zipWith mn o t) = some (.bool true)) (hh : hasE ord3 (List.zipWith mx o r) = some (.bool true)) :
    bodyE (S :: (TE3 ++ some (vI o) :: some (vI t) :: some (vI r) :: τ)) = some (.next (S :: (TE3 ++ [some (vI o), some (vI t), some (vI r), some (vI (List.zipWith mn o t)), some (vI (List.zipWith mx o r))]))) := by
  match o, ho, t, ht, r, hr with
  | [o0, o1, o2, o3, o4, o5, o6, o7], _, [t0, t1, t2, t3, t4, t5, t6, t7], _, [r0, r1, r2, r3, r4, r5, r6, r7], _ =>
    unfold bodyE
    rw [seq_asg (low_3 ..)]
    have e14 : ∃ τ', (τ' = [] ∨ ∃ c, τ' = [c]) ∧ setSlot (S :: (TE3 ++ some (vI [o0, o1, o2, o3, o4, o5, o6, o7]) :: some (vI [t0, t1, t2, t3, t4, t5, t6, t7]) :: some (vI [r0, r1, r2, r3, r4, r5, r6, r7]) :: τ)) 14 (some (vI [mn o0 t0, mn o1 t1, mn o2 t2, mn o3 t3, mn o4 t4, mn o5 t5, mn o6 t6, mn o7 t7])) = S :: (TE3 ++ some (vI [o0, o1, o2, o3, o4, o5, o6, o7]) :: some (vI [t0, t1, t2, t3, t4, t5, t6, t7]) :: some (vI [r0, r1, r2, r3, r4, r5, r6, r7]) :: some (vI [mn o0 t0, mn o1 t1, mn o2 t2, mn o3 t3, mn o4 t4, mn o5 t5, mn o6 t6, mn o7 t7]) :: τ') := by
      rcases hτ with rfl | ⟨b, c, rfl⟩
      · exact ⟨[], .inl rfl, rfl⟩
      · exact ⟨[c], .inr ⟨c, rfl⟩, rfl⟩
    obtain ⟨τ', hτ', e14⟩ := e14
    rw [e14, seq_asg (high_3 ..)]
    have e15 : setSlot (S :: (TE3 ++ some (vI [o0, o1, o2, o3, o4, o5, o6, o7]) :: some (vI [t0, t1, t2, t3, t4, t5, t6, t7]) :: some (vI [r0, r1, r2, r3, r4, r5, r6, r7]) :: some (vI [mn o0 t0, mn o1 t1, mn o2 t2, mn o3 t3, mn o4 t4, mn o5 t5, mn o6 t6, mn o7 t7]) :: τ')) 15 (some (vI [mx o0 r0, mx o1 r1, mx o2 r2, mx o3 r3, mx o4 r4, mx o5 r5, mx o6 r6, mx o7 r7])) = S :: (TE3 ++ some (vI [o0, o1, o2, o3, o4, o5, o6, o7]) :: some (vI [t0, t1, t2, t3, t4, t5, t6, t7]) :: some (vI [r0, r1, r2, r3, r4, r5, r6, r7]) :: some (vI [mn o0 t0, mn o1 t1, mn o2 t2, mn o3 t3, mn o4 t4, mn o5 t5, mn o6 t6, mn o7 t7]) :: [some (vI [mx o0 r0, mx o1 r1, mx o2 r2, mx o3 r3, mx o4 r4, mx o5 r5, mx o6 r6, mx o7 r7])]) := by
      rcases hτ' with rfl | ⟨c, rfl⟩ <;> rfl
    rw [e15, seq_if (tI1_false (ord := ord3) rfl rfl rfl hl hh), seq_if (tI2_false (cL_3 ..) (cR_3 ..) (by simp only [dis]))]
    rfl
theorem len_3 : ∀ r ∈ rows3, r.length = 8 := by decide
theorem mn_3 : ∀ o ∈ rows3, ∀ t ∈ rows3, List.zipWith mn o t ∈ rows3 := by decide +kernel
theorem mx_3 : ∀ o ∈ rows3, ∀ t ∈ rows3, List.zipWith mx o t ∈ rows3 := by decide +kernel
theorem has_3 : ∀ r ∈ rows3, hasE ord3 r = some (.bool true) := by
  have h : (rows3.all fun r => isT (hasE ord3 r)) = true := by decide +kernel
  exact fun r hr => isT_of (List.all_eq_true.mp h r hr)
theorem z11_3 (S : Option V) (o t : List Int) (ho : o ∈ rows3) (ht : t ∈ rows3) : ∃ τ, (τ = [] ∨ ∃ a b c, τ = [a, b, c]) ∧ FZ11 (S :: (TE3 ++ [some (vI o), some (vI t)])) = some (.next (S :: (TE3 ++ some (vI o) :: some (vI t) :: τ))) := by
  have key : ∀ (rs : List (List Int)) (τ : List (Option V)), (∀ r ∈ rs, r ∈ rows3) → (τ = [] ∨ ∃ a b c, τ = [a, b, c]) →
      ∃ τ', (τ' = [] ∨ ∃ a b c, τ' = [a, b, c]) ∧ forF (setB 13) bodyE (rs.map vI) (S :: (TE3 ++ some (vI o) :: some (vI t) :: τ)) = some (.next (S :: (TE3 ++ some (vI o) :: some (vI t) :: τ'))) := by
    intro rs
    induction rs with
    | nil => intro τ _ hτ; exact ⟨τ, hτ, rfl⟩
    | cons r rs ih =>
      intro τ hrs hτ
      have hr := hrs r (.head _)
      have e13 : ∃ τ', (τ' = [] ∨ ∃ b c, τ' = [b, c]) ∧ setB 13 (vI r) (S :: (TE3 ++ some (vI o) :: some (vI t) :: τ)) = some (S :: (TE3 ++ some (vI o) :: some (vI t) :: some (vI r) :: τ')) := by
        rcases hτ with rfl | ⟨a, b, c, rfl⟩
        · exact ⟨[], .inl rfl, rfl⟩
        · exact ⟨[b, c], .inr ⟨b, c, rfl⟩, rfl⟩
      obtain ⟨τ', hτ', e13⟩ := e13
      rw [List.map_cons, for_cons e13 (body_3 S τ' hτ' o t r (len_3 o ho) (len_3 t ht) (len_3 r hr) (has_3 _ (mn_3 o ho t ht)) (has_3 _ (mx_3 o ho r hr)))]
      exact ih _ (fun r h => hrs r (.tail _ h)) (.inr ⟨_, _, _, rfl⟩)
  obtain ⟨τ', h1, h2⟩ := key rows3 [] (fun _ h => h) (.inl rfl)
  exact ⟨τ', h1, h2⟩
theorem z12a_3 (S O T : Option V) : FZ12 (S :: (TE3 ++ [O, T])) = some (.next (S :: (TE3 ++ [O, T, none, none, none, some (vI ord3)]))) := by kernel_rfl
theorem z12b_3 (S O T a b c : Option V) : FZ12 (S :: (TE3 ++ [O, T, a, b, c])) = some (.next (S :: (TE3 ++ [O, T, a, b, c, some (vI ord3)]))) := by kernel_rfl
theorem z13_3 (S O T a b c : Option V) : FZ13 (S :: (TE3 ++ [O, T, a, b, c, some (vI ord3)])) = some (.ret (.bool true)) := by kernel_rfl
theorem law_3 (xs : List Int) (hl : xs.length ≤ 63) (hm : xs.sum.fmod 4 = 3) : FZ [some (vI xs)] = some (.ret (.bool true)) := by
  unfold FZ
  rw [seq_to (z0 xs), hm, seq_to (zs_3 _), seq_to (z3_3 _), seq_to (z4_3 _), seq_to (z5_3 _), seq_to (z6_3 _), seq_to (z7_3 _), seq_to (z8_3 _), seq_to (z9_3 _)]
  obtain ⟨o, ho, t, ht, e⟩ := z10 xs hl TE3 rows3 (by decide) rfl
  rw [seq_to e]
  show seqF FZ11 _ (some (vI xs) :: (TE3 ++ [some (vI o), some (vI t)])) = _
  obtain ⟨τ, hτ, e⟩ := z11_3 (some (vI xs)) o t ho ht
  rw [seq_to e]
  rcases hτ with rfl | ⟨a, b, c, rfl⟩
  · rw [seq_to (z12a_3 ..), seq_ret (z13_3 ..)]
  · rw [seq_to (z12b_3 ..), seq_ret (z13_3 ..)]

end Mine

open PySem PySem.W PyProof.Rows

namespace Mine

theorem plain_law (xs : List Int) (hl : xs.length ≤ 63) : phiZ [vI xs] = some (.bool true) := by
  have e : FZ [some (vI xs)] = some (.ret (.bool true)) := by
    have h0 := Int.fmod_nonneg_of_pos xs.sum (show (0 : Int) < 4 by decide)
    have h4 := Int.fmod_lt_of_pos xs.sum (show (0 : Int) < 4 by decide)
    have h : xs.sum.fmod 4 = 0 ∨ xs.sum.fmod 4 = 1 ∨ xs.sum.fmod 4 = 2 ∨ xs.sum.fmod 4 = 3 := by omega
    rcases h with h | h | h | h
    · exact law_0 xs hl h
    · exact law_1 xs hl h
    · exact law_2 xs hl h
    · exact law_3 xs hl h
  show endF (FZ [some (vI xs)]) = _
  rw [e]; rfl

def fArgs : Stmt → Arguments
  | .FunctionDef _ p _ _ _ _ _ _ _ _ => p
  | _ => { posonlyargs := [], args := [], vararg := none, kwonlyargs := [], kw_defaults := [], kwarg := none, defaults := [] }

structure FuAt (h : Heap) (a c : Addr) (st : Nat) (d k : Value) (qn : Str) : Prop where
  ex : ∃ o fd, h.get? a = some o ∧ o.data = .func fd ∧ fd.params = fArgs (topSt st) ∧ fd.scope = fsc st ∧ fd.body = .stmts (fBody (topSt st)) ∧ fd.globals = mainGlobals ∧ fd.builtins = builtinsNs ∧ fd.closure = [] ∧ fd.defaults = d ∧ fd.kwdefaults = k ∧ fd.code = .ref c ∧ fd.qualname = qn
  code : ∃ o vs t, h.get? c = some o ∧ o.data = .fields vs ∧ vs[1]? = some (.str qn t)

theorem FuAt.is {cx : Cx} {h h' : Heap} {a c : Addr} {st : Nat} {d k : Value} {qn : Str} {names : List Str} {pf : List V → Option (List V)} {K : Value → Str → Prop} (F : FuAt h a c st d k qn)
    (ka : ∀ o, h.get? a = some o → h'.get? a = some o) (kc : ∀ o, h.get? c = some o → h'.get? c = some o)
    (hb : ∀ fd : FuncData, fd.params = fArgs (topSt st) → fd.defaults = d → fd.kwdefaults = k → BindOk cx h' fd names pf) (hK : K (.ref c) qn) : FunIs cx h' a names pf (fsc st) (fBody (topSt st)) [] K := by
  obtain ⟨o, fd, e1, e2, e3, e4, e5, e6, e7, e8, e9, e10, e11, e12⟩ := F.ex
  obtain ⟨oc, vs, t, c1, c2, c3⟩ := F.code
  refine ⟨o, fd, ka _ e1, e2, e4, e5, e6, e7, e8, ?_, hb fd e3 e9 e10, ?_⟩
  · rw [e11, e12]; exact ⟨c, oc, vs, t, rfl, kc _ c1, c2, c3⟩
  · rw [e11, e12]; exact hK

theorem bind_plain1 {cx : Cx} {h : Heap} {a : Str} {fd : FuncData} (hb : ∀ u, bindArgs fd ⟨[u], []⟩ = pure [(a, u)]) : BindOk cx h fd [a] (exactly 1) := by
  intro ex s vs ds ds' _ r e
  unfold exactly at e
  split at e
  · rename_i hl
    cases e
    have hl2 := r.length
    rw [hl] at hl2
    match vs, hl2 with
    | [u], _ => exact ⟨[u], .of_eq (hb u), r, rfl⟩
  · cases e

theorem par1 {cx : Cx} {h : Heap} {st : Nat} {a : Str} (hb : ∀ name qn body scope gl doc pm an cd ct bl u, bindArgs ⟨name, qn, fArgs (topSt st), body, scope, gl, [], .none, .none, doc, pm, an, cd, ct, bl⟩ ⟨[u], []⟩ = pure [(a, u)]) :
    ∀ fd : FuncData, fd.closure = [] → fd.params = fArgs (topSt st) → fd.defaults = .none → fd.kwdefaults = .none → BindOk cx h fd [a] (exactly 1) := by
  rintro ⟨name, qn, p, body, scope, gl, cl, d, k, doc, pm, an, cd, ct, bl⟩ h0 h1 h2 h3
  cases h0; cases h1; cases h2; cases h3
  exact bind_plain1 fun u => hb name qn body scope gl doc pm an cd ct bl u

theorem bind_raw {name qn : Str} {p : Arguments} {body : FuncBody} {scope : Scope} {gl : Addr} {cl : List (Str × Addr)} {T D : Addr} {doc pm cd ct : Value} {an : Option Addr} {bl : Addr} {args : List Value} {s : Shared} {o : Obj} {n : Nat} {t : Tok} {m : Str → Option Value} {r : List (Str × Value)}
    (q1 : p.posonlyargs = []) (q2 : p.args.map (·.arg) = [("a" : Str), ("x" : Str), ("lo" : Str), ("hi" : Str)]) (q3 : p.kwonlyargs.map (·.arg) = [("key" : Str)]) (q4 : p.vararg = none) (q5 : p.kwarg = none)
    (ho : s.heap.get? T = some o) (hd : o.data = .seq #[.int 0 t, .none] n) (hm : s.heap.Ns D m) (hkey : m ("key" : Str) = some .none)
    (hr : (∃ u v, args = [u, v] ∧ r = xsN.zip [u, v, .int 0 t, .none, .none]) ∨ ∃ u v w y, args = [u, v, w, y] ∧ r = xsN.zip [u, v, w, y, .none]) :
    BindsTo s ⟨name, qn, p, body, scope, gl, cl, .ref T, .ref D, doc, pm, an, cd, ct, bl⟩ ⟨args, []⟩ r := by
  intro M A E Q hq
  unfold bindArgs
  simp only [q1, q2, q3, q4, q5, List.map_nil, List.nil_append, List.forIn_nil, pure_bind]
  refine wpAny_bind (wpAny_seqItems ho hd ?_)
  rcases hr with ⟨u, v, rfl, rfl⟩ | ⟨u, v, w, y, rfl, rfl⟩
  · rw [if_neg (by exact fun h => Bool.noConfusion (show false = true from h))]
    rw [if_neg (by exact fun h => Bool.noConfusion (show false = true from h))]
    refine wpAny_bind (wpAny_of_eq (show _ = pure [(("a" : Str), u), (("x" : Str), v), (("lo" : Str), .int 0 t), (("hi" : Str), .none)] from rfl) ?_)
    simp only [List.forIn_cons, List.forIn_nil]
    refine wpAny_bind (wpAny_bind ?_)
    rw [if_pos (by rfl)]
    refine wpAny_bind (wpAny_nsGet hm ?_)
    rw [hkey]
    refine wpAny_pure (wpAny_pure ?_)
    exact wpAny_pure hq
  · rw [if_neg (by exact fun h => Bool.noConfusion (show false = true from h))]
    rw [if_neg (by exact fun h => Bool.noConfusion (show false = true from h))]
    refine wpAny_bind (wpAny_of_eq (show _ = pure [(("a" : Str), u), (("x" : Str), v), (("lo" : Str), w), (("hi" : Str), y)] from rfl) ?_)
    simp only [List.forIn_cons, List.forIn_nil]
    refine wpAny_bind (wpAny_bind ?_)
    rw [if_pos (by rfl)]
    refine wpAny_bind (wpAny_nsGet hm ?_)
    rw [hkey]
    refine wpAny_pure (wpAny_pure ?_)
    exact wpAny_pure hq

theorem bind_d {cx : Cx} {h : Heap} {fd : FuncData} {st : Nat} {T D : Addr} (q1 : (fArgs (topSt st)).posonlyargs = []) (q2 : (fArgs (topSt st)).args.map (·.arg) = [("a" : Str), ("x" : Str), ("lo" : Str), ("hi" : Str)]) (q3 : (fArgs (topSt st)).kwonlyargs.map (·.arg) = [("key" : Str)]) (q4 : (fArgs (topSt st)).vararg = none) (q5 : (fArgs (topSt st)).kwarg = none) (h1 : fd.params = fArgs (topSt st)) (h2 : fd.defaults = .ref T) (h3 : fd.kwdefaults = .ref D)
    (ht : ∃ o n t, h.get? T = some o ∧ o.data = .seq #[.int 0 t, .none] n) (hk : ∃ m, h.Ns D m ∧ m ("key" : Str) = some .none) : BindOk cx h fd xsN pfB := by
  obtain ⟨name, qn, p, body, scope, gl, cl, d, k, doc, pm, an, cd, ct, bl⟩ := fd
  cases h1; cases h2; cases h3
  obtain ⟨o, n, t, ho, hd⟩ := ht
  obtain ⟨m, hm, hkey⟩ := hk
  intro ex s vs ds ds' hs r e
  subst hs
  unfold pfB at e
  split at e
  · cases e
    have hl2 := r.length
    match vs, hl2 with
    | [u, v], _ =>
      refine ⟨[u, v, .int 0 t, .none, .none], bind_raw q1 q2 q3 q4 q5 ho hd hm hkey (.inl ⟨u, v, rfl, rfl⟩), ?_, rfl⟩
      cases r with
        | cons r1 r2 => cases r2 with
          | cons r2 r3 => cases r3; exact .cons r1 (.cons r2 (.cons (.int _ _) (.cons .none (.cons .none .nil))))
  · cases e
    have hl2 := r.length
    match vs, hl2 with
    | [u, v, w, y], _ =>
      refine ⟨[u, v, w, y, .none], bind_raw q1 q2 q3 q4 q5 ho hd hm hkey (.inr ⟨u, v, w, y, rfl, rfl⟩), ?_, rfl⟩
      cases r with
        | cons r1 r2 => cases r2 with
          | cons r2 r3 => cases r3 with
            | cons r3 r4 => cases r4 with
              | cons r4 r5 => cases r5; exact .cons r1 (.cons r2 (.cons r3 (.cons r4 (.cons .none .nil))))
  · cases e

theorem bind_dN {cx : Cx} {h : Heap} {fd : FuncData} (H : BindOk cx h fd xsN pfB) : BindOk cx h fd xsN pfN := fun ex s vs ds ds' hs r e => H ex s vs ds ds' hs r (by
  unfold pfN at e
  split at e
  · cases e; rfl
  · cases e)

def globAt (mg mb : Str → Option Value) (x : Str) : Option Value := match mg x with
  | some v => some v
  | none => mb x
structure GlobsAt (mg mb : Str → Option Value) : Prop where
  int2 : globAt mg mb ("_int2digits" : Str) = some (.ref 21)
  dig2 : globAt mg mb ("_digits2int" : Str) = some (.ref 28)
  ins : globAt mg mb ("insort_left" : Str) = some (.ref 37)
  bis : globAt mg mb ("bisect_left" : Str) = some (.ref 46)
  within : globAt mg mb ("_law_within" : Str) = some (.ref 51)
  rows : globAt mg mb ("_law_rows" : Str) = some (.ref 56)
  has : globAt mg mb ("_law_has" : Str) = some (.ref 63)
  len : globAt mg mb ("len" : Str) = some (.builtin "len")
  min : globAt mg mb ("min" : Str) = some (.builtin "min")
  max : globAt mg mb ("max" : Str) = some (.builtin "max")
  sum : globAt mg mb ("sum" : Str) = some (.builtin "sum")
  sorted : globAt mg mb ("sorted" : Str) = some (.builtin "sorted")
  int : globAt mg mb ("int" : Str) = some (.type "int")
  range : globAt mg mb ("range" : Str) = some (.type "range")

theorem TabIs.stands {tabs : List Addr} {h h' : Heap} {c P : Addr} {pos : Pos} {qual : Str} (x : TabIs tabs h c P pos qual) (kc : ∀ o, h.get? c = some o → h'.get? c = some o) (kP : ∀ o, h.get? P = some o → h'.get? P = some o)
    (k : ∀ b o, b ∉ tabs → h.get? b = some o → CodeObj o → h'.get? b = some o) : TabIs tabs h' c P pos qual where
  hd := let ⟨o, vs, file, tf, flags, tg, inF, text, tt, e, r⟩ := x.hd; ⟨o, vs, file, tf, flags, tg, inF, text, tt, kc _ e, r⟩
  tab := by
    rcases x.tab with e | ⟨c', oc, e, ⟨c2, o2, vs2, t2, g1, g2, g3⟩, hoc, hco, hct⟩
    · exact .inl (kP _ e)
    · cases g1
      rw [hoc] at g2; cases g2
      exact .inr ⟨c', oc, kP _ e, ⟨_, oc, vs2, t2, rfl, k _ _ hct hoc hco, g3⟩, k _ _ hct hoc hco, hco, hct⟩

structure TopAt (s₁ : Shared) (mg mb : Str → Option Value) : Prop where
  g : s₁.heap.Ns mainGlobals mg
  b : s₁.heap.Ns builtinsNs mb
  nl : s₁.heap.NoLimit
  size : s₁.heap.objs.size = 70
  all : ∀ b, b < 70 → ∃ o, s₁.heap.get? b = some o
  names : GlobsAt mg mb
  f21 : FuAt s₁.heap 21 20 1 .none .none ("_int2digits" : Str)
  f28 : FuAt s₁.heap 28 27 2 .none .none ("_digits2int" : Str)
  f37 : FuAt s₁.heap 37 36 4 (.ref 29) (.ref 30) ("insort_left" : Str)
  f46 : FuAt s₁.heap 46 45 5 (.ref 38) (.ref 39) ("bisect_left" : Str)
  f51 : FuAt s₁.heap 51 50 7 .none .none ("_law_within" : Str)
  f56 : FuAt s₁.heap 56 55 8 .none .none ("_law_rows" : Str)
  f63 : FuAt s₁.heap 63 62 9 .none .none ("_law_has" : Str)
  f68 : FuAt s₁.heap 68 67 10 .none .none ("law" : Str)
  t29 : ∃ o n t, s₁.heap.get? 29 = some o ∧ o.data = .seq #[.int 0 t, .none] n
  k30 : ∃ m, s₁.heap.Ns 30 m ∧ m ("key" : Str) = some .none
  t38 : ∃ o n t, s₁.heap.get? 38 = some o ∧ o.data = .seq #[.int 0 t, .none] n
  k39 : ∃ m, s₁.heap.Ns 39 m ∧ m ("key" : Str) = some .none
  c16 : CodeHd s₁.heap 20 16
  p16 : s₁.heap.get? 16 = some (tabObj #[])
  c23 : CodeHd s₁.heap 27 23
  p23 : s₁.heap.get? 23 = some (tabObj #[])
  bm : ∃ bm ob, mg "__builtins__" = some (.ref bm) ∧ bm ≠ builtinsNs ∧ s₁.heap.get? bm = some ob ∧ ob.cls = .type "module" ∧ ob.dict = some builtinsNs ∧ ob.data = .plain

def topCx (prog : Program) (w : World) (s₁ : Shared) (mg mb : Str → Option Value) (H : TopAt s₁ mg mb) : Cx where
  prog := prog
  w := w
  tabs := [16, 23]
  n₁ := 70
  mg := mg
  mb := mb
  I := fun h => (∀ b o, b < 70 → b ≠ 16 → b ≠ 23 → s₁.heap.get? b = some o → h.get? b = some o) ∧ TabIs [16, 23] h 20 16 posK qK ∧ TabIs [16, 23] h 27 23 posJ qJ
  Ik := fun h h' i k => ⟨fun b o hb h1 h2 e => k b o (i.1 b o hb h1 h2 e) (.inl hb), i.2.1.stands (fun o e => k _ o e (.inl (by decide))) (fun o e => k _ o e (.inl (by decide))) (fun b o _ e q => k b o e (.inr q)),
    i.2.2.stands (fun o e => k _ o e (.inl (by decide))) (fun o e => k _ o e (.inl (by decide))) (fun b o _ e q => k b o e (.inr q))⟩
  Ig := fun h i => H.g.at' fun o e => i.1 _ o (by decide) (by decide) (by decide) e
  Ib := fun h i => H.b.at' fun o e => i.1 _ o (by decide) (by decide) (by decide) e
  Il := fun h i => let ⟨mc, a, r⟩ := H.nl; ⟨mc, a.at' fun o e => i.1 _ o (by decide) (by decide) (by decide) e, r⟩
  It := fun b hb => by
    have : b = 16 ∨ b = 23 := by simpa using hb
    rcases this with rfl | rfl <;> decide
  In := fun h i => by
    obtain ⟨o, e⟩ := H.all 69 (by decide)
    exact Heap.lt_size (i.1 69 o (by decide) (by decide) (by decide) e)

theorem top_ok {prog : Program} {w : World} {mg mb : Str → Option Value} {s₁ : Shared} {vs : List Value} {xs : List Int} (H : TopAt s₁ mg mb) (h69 : s₁.heap.get? 69 = some { cls := .type "list", data := .seq vs.toArray }) (hi : IntsAre vs xs) (hl : xs.length ≤ 63)
    {Q E : Value → Shared → Prop} (hQ : ∀ s', OldK s₁.heap s'.heap → s'.gens = s₁.gens → s'.os = s₁.os → Q (.bool true) s') : wpAny (model prog w) callerA (call (.ref 68) [.ref 69]) Q E s₁ := by
  generalize hcx : topCx prog w s₁ mg mb H = cx
  have hI₁ : cx.I s₁.heap := hcx ▸ ⟨fun b o _ _ _ e => e, ⟨H.c16, .inl H.p16⟩, ⟨H.c23, .inl H.p23⟩⟩
  have kp : ∀ h, cx.I h → ∀ b o, b < 70 → b ≠ 16 → b ≠ 23 → s₁.heap.get? b = some o → h.get? b = some o := fun h i => by subst hcx; exact i.1
  have tK : ∀ h, cx.I h → TabIs [16, 23] h 20 16 posK qK := fun h i => by subst hcx; exact i.2.1
  have tJ : ∀ h, cx.I h → TabIs [16, 23] h 27 23 posJ qJ := fun h i => by subst hcx; exact i.2.2
  have mkI : ∀ h, (∀ b o, b < 70 → b ≠ 16 → b ≠ 23 → s₁.heap.get? b = some o → h.get? b = some o) → TabIs [16, 23] h 20 16 posK qK → TabIs [16, 23] h 27 23 posJ qJ → cx.I h := fun h a b c => by subst hcx; exact ⟨a, b, c⟩
  have hn : cx.n₁ = 70 := by subst hcx; rfl
  have htabs : cx.tabs = [16, 23] := by subst hcx; rfl
  have hmg : cx.mg = mg := by subst hcx; rfl
  have hmb : cx.mb = mb := by subst hcx; rfl
  have hp : model cx.prog cx.w = model prog w := by subst hcx; rfl
  have hall : ∀ h, cx.I h → ∀ b, b < cx.n₁ → ∃ o, h.get? b = some o := fun h i b hb => by
    rw [hn] at hb
    by_cases h1 : b = 16
    · subst h1
      rcases (tK h i).tab with e | ⟨_, _, e, _⟩ <;> exact ⟨_, e⟩
    · by_cases h2 : b = 23
      · subst h2
        rcases (tJ h i).tab with e | ⟨_, _, e, _⟩ <;> exact ⟨_, e⟩
      · obtain ⟨o, e⟩ := H.all b hb
        exact ⟨o, kp h i b o hb h1 h2 e⟩
  have G : Globs cx := by
    have eg : ∀ x, glob cx x = globAt mg mb x := fun x => by
      unfold glob globAt
      rw [hmg, hmb]
      first | done | (cases mg x <;> rfl)
    have N := H.names
    exact ⟨(eg _).trans N.int2, (eg _).trans N.dig2, (eg _).trans N.ins, (eg _).trans N.bis, (eg _).trans N.within, (eg _).trans N.rows, (eg _).trans N.has, (eg _).trans N.len, (eg _).trans N.min, (eg _).trans N.max, (eg _).trans N.sum, (eg _).trans N.sorted, (eg _).trans N.int, (eg _).trans N.range⟩
  have k' : ∀ h, cx.I h → ∀ b, b < 70 → b ≠ 16 → b ≠ 23 → ∀ o, s₁.heap.get? b = some o → h.get? b = some o := fun h i b h1 h2 h3 o e => kp h i b o h1 h2 h3 e
  have dflt : ∀ h, cx.I h → ∀ (T D : Addr), T < 70 → T ≠ 16 → T ≠ 23 → D < 70 → D ≠ 16 → D ≠ 23 → (∃ o n t, s₁.heap.get? T = some o ∧ o.data = .seq #[.int 0 t, .none] n) → (∃ m, s₁.heap.Ns D m ∧ m ("key" : Str) = some .none) →
      (∃ o n t, h.get? T = some o ∧ o.data = .seq #[.int 0 t, .none] n) ∧ (∃ m, h.Ns D m ∧ m ("key" : Str) = some .none) := fun h i T D a1 a2 a3 b1 b2 b3 ht hk =>
    ⟨let ⟨o, n, t, e, d⟩ := ht; ⟨o, n, t, k' h i T a1 a2 a3 o e, d⟩, let ⟨m, e, d⟩ := hk; ⟨m, e.at' fun o e => k' h i D b1 b2 b3 o e, d⟩⟩
  have U : Funs cx := by
    refine ⟨fun h i => ?_, fun h i => ?_, fun h i => ?_, fun h i => ?_, fun h i => ?_, fun h i => ?_, fun h i => ?_, fun h i => ?_⟩
    · refine H.f21.is (k' h i _ (by decide) (by decide) (by decide)) (k' h i _ (by decide) (by decide) (by decide)) (fun fd h1 h2 h3 => ?_) ⟨rfl, rfl⟩
      obtain ⟨name, qn, p, body, scope, gl, cl, d, k, doc, pm, an, cd, ct, bl⟩ := fd
      cases h1; cases h2; cases h3
      exact bind_plain2 fun _ _ => rfl
    · refine H.f28.is (k' h i _ (by decide) (by decide) (by decide)) (k' h i _ (by decide) (by decide) (by decide)) (fun fd h1 h2 h3 => ?_) ⟨rfl, rfl⟩
      obtain ⟨name, qn, p, body, scope, gl, cl, d, k, doc, pm, an, cd, ct, bl⟩ := fd
      cases h1; cases h2; cases h3
      exact bind_plain2 fun _ _ => rfl
    · refine H.f37.is (k' h i _ (by decide) (by decide) (by decide)) (k' h i _ (by decide) (by decide) (by decide)) (fun fd h1 h2 h3 => ?_) trivial
      have z := dflt h i 29 30 (by decide) (by decide) (by decide) (by decide) (by decide) (by decide) H.t29 H.k30
      exact bind_dN (bind_d rfl rfl rfl rfl rfl h1 h2 h3 z.1 z.2)
    · refine H.f46.is (k' h i _ (by decide) (by decide) (by decide)) (k' h i _ (by decide) (by decide) (by decide)) (fun fd h1 h2 h3 => ?_) trivial
      have z := dflt h i 38 39 (by decide) (by decide) (by decide) (by decide) (by decide) (by decide) H.t38 H.k39
      exact bind_d rfl rfl rfl rfl rfl h1 h2 h3 z.1 z.2
    · refine H.f51.is (k' h i _ (by decide) (by decide) (by decide)) (k' h i _ (by decide) (by decide) (by decide)) (fun fd h1 h2 h3 => ?_) trivial
      obtain ⟨name, qn, p, body, scope, gl, cl, d, k, doc, pm, an, cd, ct, bl⟩ := fd
      cases h1; cases h2; cases h3
      exact bind_plain3 fun _ _ _ => rfl
    · refine H.f56.is (k' h i _ (by decide) (by decide) (by decide)) (k' h i _ (by decide) (by decide) (by decide)) (fun fd h1 h2 h3 => ?_) trivial
      obtain ⟨name, qn, p, body, scope, gl, cl, d, k, doc, pm, an, cd, ct, bl⟩ := fd
      cases h1; cases h2; cases h3
      exact bind_plain1 fun _ => rfl
    · refine H.f63.is (k' h i _ (by decide) (by decide) (by decide)) (k' h i _ (by decide) (by decide) (by decide)) (fun fd h1 h2 h3 => ?_) trivial
      obtain ⟨name, qn, p, body, scope, gl, cl, d, k, doc, pm, an, cd, ct, bl⟩ := fd
      cases h1; cases h2; cases h3
      exact bind_plain2 fun _ _ => rfl
    · refine H.f68.is (k' h i _ (by decide) (by decide) (by decide)) (k' h i _ (by decide) (by decide) (by decide)) (fun fd h1 h2 h3 => ?_) trivial
      obtain ⟨name, qn, p, body, scope, gl, cl, d, k, doc, pm, an, cd, ct, bl⟩ := fd
      cases h1; cases h2; cases h3
      exact bind_plain1 fun _ => rfl
  have ba : ∀ h, cx.I h → ∀ P ps, P = 16 ∨ P = 23 → s₁.heap.get? P = some (tabObj ps) → h.BuiltinsAt cx.mg P := fun h i P ps hP16 hP => by
    obtain ⟨bm, ob, b1, b2, b3, b4, b5, b6⟩ := H.bm
    have hlt : bm < 70 := by have := Heap.lt_size b3; rw [H.size] at this; exact this
    have hbP : ∀ P' ps', s₁.heap.get? P' = some (tabObj ps') → bm ≠ P' := fun P' ps' hP' q => by
      rw [q, hP'] at b3; cases b3; cases b6
    have hbG : bm ≠ mainGlobals := fun q => by
      obtain ⟨o, es, ep, e, hd, _⟩ := H.g
      rw [q, e] at b3; cases b3; rw [hd] at b6; cases b6
    exact ⟨bm, ob, hmg ▸ b1, b2, hbG, hbP P ps hP, kp h i bm ob hlt (hbP 16 _ H.p16) (hbP 23 _ H.p23) b3, b4, b5, b6⟩
  have big : ∀ h, cx.I h → 70 ≤ h.objs.size := fun h i => hn ▸ cx.In h i
  have HI : DefCx cx 20 16 posK qK := {
    tab := fun h i => htabs ▸ tK h i
    set := fun h h' c' oc i hx hP hrec hoc hco hge hsz => by
      refine mkI h' (fun b o hb h1 h2 e => hx b o h1 (kp h i b o hb h1 h2 e)) ⟨?_, .inr ⟨c', oc, hP, hrec, hoc, hco, fun q => ?_⟩⟩ ?_
      · obtain ⟨o, vs, file, tf, flags, tg, inF, text, tt, e, r⟩ := (tK h i).hd
        exact ⟨o, vs, file, tf, flags, tg, inF, text, tt, hx _ _ (by decide) e, r⟩
      · have := big h i
        have hc : c' = 16 ∨ c' = 23 := by simpa using q
        have h70 : 70 ≤ c' := Nat.le_trans this hge
        rcases hc with rfl | rfl <;> exact absurd h70 (by decide)
      · exact (tJ h i).stands (fun o e => hx _ o (by decide) e) (fun o e => hx _ o (by decide) e) fun b o hb e _ => hx b o (fun q => hb (q ▸ by simp)) e
    mem := htabs ▸ by simp
    gP := by decide
    ba := fun h i => ba h i 16 _ (.inl rfl) H.p16 }
  have HD : DefCx cx 27 23 posJ qJ := {
    tab := fun h i => htabs ▸ tJ h i
    set := fun h h' c' oc i hx hP hrec hoc hco hge hsz => by
      refine mkI h' (fun b o hb h1 h2 e => hx b o h2 (kp h i b o hb h1 h2 e)) ?_ ⟨?_, .inr ⟨c', oc, hP, hrec, hoc, hco, fun q => ?_⟩⟩
      · exact (tK h i).stands (fun o e => hx _ o (by decide) e) (fun o e => hx _ o (by decide) e) fun b o hb e _ => hx b o (fun q => hb (q ▸ by simp)) e
      · obtain ⟨o, vs, file, tf, flags, tg, inF, text, tt, e, r⟩ := (tJ h i).hd
        exact ⟨o, vs, file, tf, flags, tg, inF, text, tt, hx _ _ (by decide) e, r⟩
      · have := big h i
        have hc : c' = 16 ∨ c' = 23 := by simpa using q
        have h70 : 70 ≤ c' := Nat.le_trans this hge
        rcases hc with rfl | rfl <;> exact absurd h70 (by decide)
    mem := htabs ▸ by simp
    gP := by decide
    ba := fun h i => ba h i 23 _ (.inr rfl) H.p23 }
  have W := law_walk hall G U HD HI
  have hlen : vs.length = xs.length := hi.length
  have r : RelL cx [] s₁.heap [vI xs] [.ref 69] := .cons (.list (by simp) (by rw [htabs]; decide) ⟨0, h69⟩ (rel_ints hi) (by rw [List.length_map]; exact Nat.le_trans hl (by decide))) .nil
  rw [← hp]
  refine W [] callerA s₁ [.ref 69] [vI xs] (.bool true) Q E hI₁ ⟨rfl, by decide, by decide⟩ (fun _ q => nomatch q) r (plain_law xs hl) fun v s' g rv => ?_
  cases rv
  have i' := g.inv hI₁
  refine hQ s' ⟨fun b o e => ?_, fun b o e => ?_⟩ g.gens g.os
  · by_cases h1 : b = 16
    · subst h1
      have eo := H.p16
      rw [e] at eo; cases eo
      rcases (tK _ i').tab with q | ⟨c', oc, q, _⟩
      · exact .inl q
      · obtain ⟨oc', vs', _, _, _, _, _, _, _, c1, c2, c3, c4, _⟩ := H.c16
        exact .inr (.inl ⟨⟨20, oc', vs', c1, c2, c3, c4⟩, rfl, #[], #[rawInt posK.line, rawInt posK.col, .ref c'], rfl, by rw [q]; simp⟩)
    · by_cases h2 : b = 23
      · subst h2
        have eo := H.p23
        rw [e] at eo; cases eo
        rcases (tJ _ i').tab with q | ⟨c', oc, q, _⟩
        · exact .inl q
        · obtain ⟨oc', vs', _, _, _, _, _, _, _, c1, c2, c3, c4, _⟩ := H.c23
          exact .inr (.inl ⟨⟨27, oc', vs', c1, c2, c3, c4⟩, rfl, #[], #[rawInt posJ.line, rawInt posJ.col, .ref c'], rfl, by rw [q]; simp⟩)
      · exact .inl (g.kp b o (by simp) (by rw [htabs]; simp [h1, h2]) e)
  · by_cases h1 : b = 16
    · subst h1
      rcases (tK _ i').tab with q | ⟨_, _, q, _⟩ <;> exact ⟨_, q⟩
    · by_cases h2 : b = 23
      · subst h2
        rcases (tJ _ i').tab with q | ⟨_, _, q, _⟩ <;> exact ⟨_, q⟩
      · exact ⟨o, g.kp b o (by simp) (by rw [htabs]; simp [h1, h2]) e⟩

end Mine

open PySem PySem.W PySem.W.X PySem.W.ZRun PyProof.Rows
namespace Mine
theorem glob_k {mg mb : Str → Option Value} {x : Str} {v : Value} (h : mg x = some v) : globAt mg mb x = some v := by unfold globAt; rw [h]
theorem glob_b {mg mb : Str → Option Value} {x : Str} {v : Value} (h : mg x = none) (h' : mb x = some v) : globAt mg mb x = some v := by unfold globAt; rw [h]; exact h'
theorem kt_all {h : Heap} {t : KT} (H : KT.Holds h 1 0 t) (e : ((List.range 69).all fun b => (t.get b).isSome) = true) : ∀ b, b < 69 → ∃ o, h.get? b = some o := fun b hb => by
  have := List.all_eq_true.mp e b (List.mem_range.mpr hb)
  obtain ⟨o, ho⟩ := Option.isSome_iff_exists.mp this
  exact ⟨o, kt_at H ho⟩
theorem key_ns {h : Heap} {D : Addr} {o : Obj} {x : Int} {t : Tok} {ep : Nat} (e : h.get? D = some o) (hd : o.data = .dict #[⟨x, .str ("key" : Str) t, .none⟩] ep) : ∃ m, h.Ns D m ∧ m ("key" : Str) = some .none :=
  ⟨fun name => nsFind #[⟨x, .str ("key" : Str) t, .none⟩] name, ⟨o, _, ep, e, hd, fun y hy => by
    have : y = ⟨x, .str ("key" : Str) t, .none⟩ := by simpa using hy
    exact ⟨("key" : Str), t, by rw [this]⟩, fun _ => rfl⟩, rfl⟩
end Mine
set_option maxRecDepth 100000 in
set_option maxHeartbeats 0 in
theorem PySem.Challenge.cw_ic0005_01_holds : PySem.Challenge.rw_ic0005_01.Holds := by
  w_on; o_law; z_head; (case hw => w_witness2)
  k_fill
  intro w s₀ s₁ mg mb G y fa o pm cd doc dV kV ho hd hcd hD hmg hg args vals as L hpre hlay hrd hwl hlo
  z_open y L KX ZH ZN ZT
  refine Ground.open G ?_
  intro T B D TE TW
  wrow_args hpre hlay hrd hwl hlo
  obtain ⟨hat, hsz⟩ := script_at L
  have htk := script_toks L ZT
  rw [ZN] at hat hsz
  subst hat
  x_fa T KX hmg
  all_lens
  have hscr := script_obj L ‹s₁.heap.IsList 69 _›
  have hall : ∀ b, b < 70 → ∃ o, s₁.heap.get? b = some o := by
    intro b hb
    by_cases h69 : b = 69
    · subst h69; exact ⟨_, hscr⟩
    · exact Mine.kt_all ZH (by kernel_rfl) b (Nat.lt_of_le_of_ne (Nat.le_of_lt_succ hb) h69)
  have names : Mine.GlobsAt mg mb := ⟨Mine.glob_k (mg_of KX T.g (by kernel_rfl)), Mine.glob_k (mg_of KX T.g (by kernel_rfl)), Mine.glob_k (mg_of KX T.g (by kernel_rfl)), Mine.glob_k (mg_of KX T.g (by kernel_rfl)), Mine.glob_k (mg_of KX T.g (by kernel_rfl)), Mine.glob_k (mg_of KX T.g (by kernel_rfl)), Mine.glob_k (mg_of KX T.g (by kernel_rfl)),
    Mine.glob_b (mg_none_of KX T.g (by kernel_rfl)) ((T.builtins _ (by decide)).trans (by kernel_rfl)), Mine.glob_b (mg_none_of KX T.g (by kernel_rfl)) ((T.builtins _ (by decide)).trans (by kernel_rfl)), Mine.glob_b (mg_none_of KX T.g (by kernel_rfl)) ((T.builtins _ (by decide)).trans (by kernel_rfl)),
    Mine.glob_b (mg_none_of KX T.g (by kernel_rfl)) ((T.builtins _ (by decide)).trans (by kernel_rfl)), Mine.glob_b (mg_none_of KX T.g (by kernel_rfl)) ((T.builtins _ (by decide)).trans (by kernel_rfl)), Mine.glob_b (mg_none_of KX T.g (by kernel_rfl)) ((T.builtins _ (by decide)).trans (by kernel_rfl)),
    Mine.glob_b (mg_none_of KX T.g (by kernel_rfl)) ((T.builtins _ (by decide)).trans (by kernel_rfl))⟩
  have HT : Mine.TopAt s₁ mg mb := {
    g := T.g
    b := T.b
    nl := T.nolimit
    size := hsz
    all := hall
    names := names
    f21 := ⟨⟨_, _, kt_at ZH (a := 21) rfl, rfl, rfl, rfl, rfl, rfl, rfl, rfl, rfl, rfl, rfl, rfl⟩, ⟨_, _, _, kt_at ZH (a := 20) rfl, rfl, rfl⟩⟩
    f28 := ⟨⟨_, _, kt_at ZH (a := 28) rfl, rfl, rfl, rfl, rfl, rfl, rfl, rfl, rfl, rfl, rfl, rfl⟩, ⟨_, _, _, kt_at ZH (a := 27) rfl, rfl, rfl⟩⟩
    f37 := ⟨⟨_, _, kt_at ZH (a := 37) rfl, rfl, rfl, rfl, rfl, rfl, rfl, rfl, rfl, rfl, rfl, rfl⟩, ⟨_, _, _, kt_at ZH (a := 36) rfl, rfl, rfl⟩⟩
    f46 := ⟨⟨_, _, kt_at ZH (a := 46) rfl, rfl, rfl, rfl, rfl, rfl, rfl, rfl, rfl, rfl, rfl, rfl⟩, ⟨_, _, _, kt_at ZH (a := 45) rfl, rfl, rfl⟩⟩
    f51 := ⟨⟨_, _, kt_at ZH (a := 51) rfl, rfl, rfl, rfl, rfl, rfl, rfl, rfl, rfl, rfl, rfl, rfl⟩, ⟨_, _, _, kt_at ZH (a := 50) rfl, rfl, rfl⟩⟩
    f56 := ⟨⟨_, _, kt_at ZH (a := 56) rfl, rfl, rfl, rfl, rfl, rfl, rfl, rfl, rfl, rfl, rfl, rfl⟩, ⟨_, _, _, kt_at ZH (a := 55) rfl, rfl, rfl⟩⟩
    f63 := ⟨⟨_, _, kt_at ZH (a := 63) rfl, rfl, rfl, rfl, rfl, rfl, rfl, rfl, rfl, rfl, rfl, rfl⟩, ⟨_, _, _, kt_at ZH (a := 62) rfl, rfl, rfl⟩⟩
    f68 := ⟨⟨_, _, kt_at ZH (a := 68) rfl, rfl, rfl, rfl, rfl, rfl, rfl, rfl, rfl, rfl, rfl, rfl⟩, ⟨_, _, _, kt_at ZH (a := 67) rfl, rfl, rfl⟩⟩
    t29 := ⟨_, _, _, kt_at ZH (a := 29) rfl, rfl⟩
    k30 := Mine.key_ns (kt_at ZH (a := 30) rfl) rfl
    t38 := ⟨_, _, _, kt_at ZH (a := 38) rfl, rfl⟩
    k39 := Mine.key_ns (kt_at ZH (a := 39) rfl) rfl
    c16 := ⟨_, _, _, _, _, _, _, _, _, kt_at ZH (a := 20) rfl, rfl, rfl, rfl, rfl, rfl, rfl, rfl, rfl, by decide⟩
    p16 := kt_at ZH (a := 16) rfl
    c23 := ⟨_, _, _, _, _, _, _, _, _, kt_at ZH (a := 27) rfl, rfl, rfl, rfl, rfl, rfl, rfl, rfl, rfl, by decide⟩
    p23 := kt_at ZH (a := 23) rfl
    bm := T.bmain }
  exact Mine.top_ok HT hscr ‹IntsAre _ _› (by omega) fun s' hold hgens hos => ⟨.inl ⟨_, _, [], rfl, fun _ => rfl, ReadsW.bool true, (by first | wrow_post | kernel_rfl), fun _ => ⟨List.nodup_nil, fun _ hm => (nomatch hm)⟩⟩, hold, hos, .of_eq (hgens.trans hg)⟩
