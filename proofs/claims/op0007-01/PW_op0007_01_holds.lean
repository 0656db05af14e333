import PyProof.Rows.All
import Wide.All
import OpenK.AllK
import Wide.FinOn
import PyProof.IsiBase
import PyProof.StrOps
import PyProof.StrReplace2
import KE.KDictIter
import PyProof.StrLawsReplace
import PyProof.StrBlock
import PyProof.Truth
import PyProof.ListOps
import PyProof.SliceMore
import PyProof.SliceStr2
import PyProof.Rows.TupSub
import PyProof.Rows.StrTemp
import PyProof.ListIndexNeg
import PyProof.Rows.RuleU_int
import PyProof.Rows.StrJoin2
import PyProof.Rows.StrOrd
import PyProof.ListCopy
import PyProof.StrLawsIn
import PyProof.Rows.ExtendIn
import PyProof.Rows.SumAny
import PyProof.EqAt
import PySem.Challenge.RW_op0007_01
set_option Elab.async false
set_option maxRecDepth 100000
set_option maxHeartbeats 8000000

/-! ### Base -/
namespace Mine
open PySem PySem.Calls PyProof.Rows

/-! ## what a step may change -/

structure Mod (W : List Addr) (s s' : Shared) : Prop where
  same : ∃ h tk, s' = { s with heap := h, toks := tk }
  keep : ∀ b o, b ∉ W → s.heap.get? b = some o → s'.heap.get? b = some o
  toks : s.toks ≤ s'.toks

theorem Mod.refl (W : List Addr) (s : Shared) : Mod W s s := ⟨⟨_, _, rfl⟩, fun _ _ _ e => e, Nat.le_refl _⟩
theorem Mod.trans {W : List Addr} {a b c : Shared} (x : Mod W a b) (y : Mod W b c) : Mod W a c := by
  obtain ⟨h, t, rfl⟩ := x.same
  obtain ⟨h', t', rfl⟩ := y.same
  exact ⟨⟨h', t', rfl⟩, fun b o hb e => y.keep b o hb (x.keep b o hb e), Nat.le_trans x.toks y.toks⟩
theorem Mod.wider {W W' : List Addr} {a b : Shared} (x : Mod W a b) (h : ∀ z ∈ W, z ∈ W') : Mod W' a b :=
  ⟨x.same, fun z o hz e => x.keep z o (fun q => hz (h z q)) e, x.toks⟩
theorem Mod.any {W : List Addr} {a b : Shared} (x : Mod [] a b) : Mod W a b := x.wider fun _ h => nomatch h
theorem Mod.all {a b : Shared} (x : Mod [] a b) : ∀ z o, a.heap.get? z = some o → b.heap.get? z = some o := fun z o e => x.keep z o (by simp) e
theorem Mod.keeps {a b : Shared} (x : Mod [] a b) : Keeps a b := by
  obtain ⟨h, t, rfl⟩ := x.same
  exact ⟨h, t, rfl, x.all⟩
theorem Mod.of_keeps {a b : Shared} (x : Keeps a b) (ht : a.toks ≤ b.toks) : Mod [] a b := by
  obtain ⟨h, t, rfl, k⟩ := x
  exact ⟨⟨h, t, rfl⟩, fun z o _ e => k z o e, ht⟩
/-- what was not there yet need not be named -/
theorem Mod.less {W W' : List Addr} {a b : Shared} (x : Mod W a b) (h : ∀ z ∈ W, z ∈ W' ∨ a.heap.get? z = none) : Mod W' a b :=
  ⟨x.same, fun z o hz e => x.keep z o (fun q => (h z q).elim hz (fun n => by rw [n] at e; cases e)) e, x.toks⟩
theorem Mod.toked {W : List Addr} {s : Shared} {k : Nat} (h : s.toks ≤ k) : Mod W s { s with toks := k } := ⟨⟨_, _, rfl⟩, fun _ _ _ e => e, h⟩
theorem Mod.pushed {W : List Addr} {s : Shared} (o : Obj) : Mod W s { s with heap := s.heap.push o } :=
  ⟨⟨_, _, rfl⟩, fun _ _ _ e => Heap.get?_push_of_some _ e, Nat.le_refl _⟩
theorem Mod.freshBack {W : List Addr} {a b : Shared} (x : Mod W a b) {z : Addr} (hz : z ∉ W) (h : b.heap.get? z = none) : a.heap.get? z = none := by
  cases e : a.heap.get? z with
  | none => rfl
  | some o => rw [x.keep z o hz e] at h; cases h

def Do {α : Type} (M : Model) (A : Around) (W : List Addr) (t : Sem α) (s : Shared) (P : α → Shared → Prop) : Prop :=
  ∀ E, wpAny M A t (fun v s' => Mod W s s' ∧ P v s') E s
abbrev Ev {α : Type} (M : Model) (A : Around) (t : Sem α) (s : Shared) (P : α → Shared → Prop) : Prop := Do M A [] t s P

section
variable {α β : Type} {M : Model} {A : Around} {W : List Addr} {t : Sem α} {s : Shared} {P : α → Shared → Prop}

theorem Do.cont (h : Do M A W t s P) {K : α → Shared → Prop} {E : Value → Shared → Prop} (k : ∀ v s', Mod W s s' → P v s' → K v s') : wpAny M A t K E s :=
  wpAny_mono (h E) (fun v s' x => k v s' x.1 x.2) fun _ _ x => x
theorem Do.mono (h : Do M A W t s P) {P' : α → Shared → Prop} (k : ∀ v s', Mod W s s' → P v s' → P' v s') : Do M A W t s P' :=
  fun _ => h.cont fun v s' m p => ⟨m, k v s' m p⟩
theorem Do.bind {f : α → Sem β} {Q : β → Shared → Prop} (h : Do M A W t s P) (k : ∀ v s', Mod W s s' → P v s' → Do M A W (f v) s' Q) : Do M A W (t >>= f) s Q :=
  fun _ => wpAny_bind (h.cont fun v s' m p => (k v s' m p).cont fun _ _ m' q => ⟨m.trans m', q⟩)
theorem Do.pure {a : α} (h : P a s) : Do M A W (Pure.pure a) s P := fun _ => wpAny_pure ⟨.refl _ _, h⟩
/-- from a rule that tells the heap alone -/
theorem Ev.of (h : ∀ E, wpAny M A t (fun v s' => Keeps s s' ∧ (s.toks ≤ s'.toks → P v s')) E s) : Ev M A t s P := fun E =>
  wpAny_mono (wpAny_toks (h E)) (fun _ _ x => ⟨.of_keeps x.2.1 x.1, x.2.2 x.1⟩) fun _ _ x => x.2
theorem Do.holding {vs : List Value} (h : Do M A W t s P) : Do M A W (PySem.holding vs t) s P := fun E => wpAny_holding (h E)
end
theorem keeps_tok {s : Shared} (k : Nat) : Keeps s { s with toks := k } := ⟨_, _, rfl, fun _ _ e => e⟩
theorem keeps_push {s : Shared} (o : Obj) : Keeps s { s with heap := s.heap.push o } := ⟨_, _, rfl, fun _ _ e => Heap.get?_push_of_some _ e⟩
theorem keeps_refl (s : Shared) : Keeps s s := ⟨_, _, rfl, fun _ _ e => e⟩

/-! ## data -/

/-- a str; where it has two signs or more its token is told: drawn at or behind lo -/
def RS (lo : Nat) (s : Shared) (v : Value) (x : Str) : Prop := ∃ t, v = .str x t ∧ (2 ≤ x.length → lo ≤ t ∧ t < s.toks)
def RI (_s : Shared) (v : Value) (i : Int) : Prop := ∃ t, v = .int i t
def RL {δ : Type} (R : Shared → Value → δ → Prop) (s : Shared) (v : Value) (ds : List δ) : Prop :=
  ∃ a its, v = .ref a ∧ s.heap.PlainList a its ∧ Paired (fun y d => R s y d) its.toList ds
def Off (W : List Addr) (v : Value) : Prop := ∀ a, v = .ref a → a ∉ W
def New (s : Shared) (v : Value) : Prop := ∀ a, v = .ref a → s.heap.get? a = none
def Flat {δ : Type} (R : Shared → Value → δ → Prop) : Prop := ∀ W s s' v d, Mod W s s' → Off W v → R s v d → R s' v d
def Up {δ : Type} (R : Shared → Value → δ → Prop) : Prop := ∀ s s' v d, Mod [] s s' → R s v d → R s' v d

theorem Flat.up {δ : Type} {R : Shared → Value → δ → Prop} (h : Flat R) : Up R := fun _ _ _ _ m r => h [] _ _ _ _ m (fun _ _ => by simp) r
theorem RS.flat (lo : Nat) : Flat (RS lo) := by
  rintro W s s' v d m _ ⟨t, rfl, h⟩
  exact ⟨t, rfl, fun q => ⟨(h q).1, Nat.lt_of_lt_of_le (h q).2 m.toks⟩⟩
theorem RI.flat : Flat RI := fun _ _ _ _ _ _ _ h => h
theorem Paired.weak {α β : Type} {F F' : α → β → Prop} : ∀ {l₁ : List α} {l₂ : List β}, (∀ a ∈ l₁, ∀ b, F a b → F' a b) → Paired F l₁ l₂ → Paired F' l₁ l₂
  | _, _, _, .nil => .nil
  | _, _, hm, .cons h t => .cons (hm _ (List.mem_cons_self ..) _ h) (Paired.weak (fun a ha => hm a (List.mem_cons_of_mem _ ha)) t)
theorem RL.up {δ : Type} {R : Shared → Value → δ → Prop} (h : Up R) : Up (RL R) := by
  rintro s s' v d m ⟨a, its, rfl, hl, hp⟩
  exact ⟨a, its, rfl, hl.at (fun o e => m.all _ o e), Paired.weak (fun _ _ _ r => h _ _ _ _ m r) hp⟩
theorem RL.flatOf {δ : Type} {R : Shared → Value → δ → Prop} (h : Flat R) (hv : ∀ s v d, R s v d → ∀ a, v ≠ .ref a) : Flat (RL R) := by
  rintro W s s' v d m off ⟨a, its, rfl, hl, hp⟩
  exact ⟨a, its, rfl, hl.at (fun o e => m.keep _ o (off a rfl) e), Paired.weak (fun y _ _ r => h _ _ _ _ _ m (fun b e => absurd e (hv _ _ _ r b)) r) hp⟩
theorem RS.noRef {lo : Nat} {s : Shared} {v : Value} {d : Str} (h : RS lo s v d) : ∀ a, v ≠ .ref a := by
  obtain ⟨t, rfl, _⟩ := h; intro a e; cases e
theorem RI.noRef {s : Shared} {v : Value} {d : Int} (h : RI s v d) : ∀ a, v ≠ .ref a := by
  obtain ⟨t, rfl⟩ := h; intro a e; cases e
theorem RS.new {lo : Nat} {s s' : Shared} {v : Value} {d : Str} (h : RS lo s v d) : New s' v := fun a e => absurd e (h.noRef a)
theorem RI.new {s s' : Shared} {v : Value} {d : Int} (h : RI s v d) : New s' v := fun a e => absurd e (h.noRef a)
theorem RS.lower {lo lo' : Nat} (hl : lo' ≤ lo) {s : Shared} {v : Value} {d : Str} (h : RS lo s v d) : RS lo' s v d := by
  obtain ⟨t, rfl, q⟩ := h; exact ⟨t, rfl, fun z => ⟨Nat.le_trans hl (q z).1, (q z).2⟩⟩

theorem Paired.append {α β : Type} {F : α → β → Prop} : ∀ {l₁ l₁' : List α} {l₂ l₂' : List β}, Paired F l₁ l₂ → Paired F l₁' l₂' → Paired F (l₁ ++ l₁') (l₂ ++ l₂')
  | _, _, _, _, .nil, h => h
  | _, _, _, _, .cons h t, h' => .cons h (Paired.append t h')
theorem Paired.at {α β : Type} {F : α → β → Prop} : ∀ {l₁ : List α} {l₂ : List β}, Paired F l₁ l₂ → ∀ {i : Nat} {a : α}, l₁[i]? = some a → ∃ b, l₂[i]? = some b ∧ F a b
  | _, _, .nil, i, a, h => by simp at h
  | _, _, .cons h t, 0, a, e => by simp at e; exact ⟨_, by simp, e ▸ h⟩
  | _, _, .cons h t, i + 1, a, e => by simp at e; simpa using Paired.at t e
theorem Paired.at' {α β : Type} {F : α → β → Prop} : ∀ {l₁ : List α} {l₂ : List β}, Paired F l₁ l₂ → ∀ {i : Nat} {b : β}, l₂[i]? = some b → ∃ a, l₁[i]? = some a ∧ F a b
  | _, _, .nil, i, a, h => by simp at h
  | _, _, .cons h t, 0, a, e => by simp at e; exact ⟨_, by simp, e ▸ h⟩
  | _, _, .cons h t, i + 1, a, e => by simp at e; simpa using Paired.at' t e
theorem Paired.take {α β : Type} {F : α → β → Prop} : ∀ {l₁ : List α} {l₂ : List β}, Paired F l₁ l₂ → ∀ (n : Nat), Paired F (l₁.take n) (l₂.take n)
  | _, _, .nil, n => by simpa using Paired.nil
  | _, _, .cons h t, 0 => by simpa using Paired.nil
  | _, _, .cons h t, n + 1 => by simpa using Paired.cons h (Paired.take t n)
theorem Paired.drop {α β : Type} {F : α → β → Prop} : ∀ {l₁ : List α} {l₂ : List β}, Paired F l₁ l₂ → ∀ (n : Nat), Paired F (l₁.drop n) (l₂.drop n)
  | _, _, .nil, n => by simpa using Paired.nil
  | _, _, .cons h t, 0 => Paired.cons h t
  | _, _, .cons h t, n + 1 => by simpa using Paired.drop t n

end Mine

/-! ### Comp -/
namespace Mine
open PySem PySem.Calls PyProof.Rows

/-- the tests of a clause -/
abbrev tests (ifs : List Expr) (env : Env) : Sem Bool :=
  forIn ifs true fun c r => if r = true then do let ok ← isTrue c env (eval c env); pure (ForInStep.yield ok) else pure (ForInStep.yield r)

section
variable {prog : Program} {w : World} {A : Around} {R : Result → Shared → Prop} {s : Shared}

theorem comp_loop {elt target iter : Expr} {ifs : List Expr} {scope : Scope} {pos : Pos} {it acc : Value} {env : Env} (I : Nat → Shared → Prop)
    (turn : ∀ n s, I n s → wpAny (model prog w) A (pyNext it) (fun r s₁ => match r with
      | none => R (.ok .next) s₁
      | some v => wpAny (model prog w) A (letOwnedTupleGo target it v) (fun _ s₂ => wpAny (model prog w) A (assign target env v) (fun _ s₃ =>
          wpAny (model prog w) A (tests ifs env) (fun ok s₄ =>
            if ok = true then wpAny (model prog w) A (eval elt env) (fun x s₅ =>
              wpAny (model prog w) A (call (.builtin "list.append") [acc, x]) (fun _ s₆ => ∃ m, m < n ∧ I m s₆) (notedBy (model prog w) A env fun e s' => R (.error e) s') s₅) (notedBy (model prog w) A env fun e s' => R (.error e) s') s₄
            else ∃ m, m < n ∧ I m s₄) (notedBy (model prog w) A env fun e s' => R (.error e) s') s₃) (notedBy (model prog w) A env fun e s' => R (.error e) s') s₂)
          (notedBy (model prog w) A env fun e s' => R (.error e) s') s₁) (notedBy (model prog w) A env fun e s' => R (.error e) s') s)
    (n : Nat) (h : I n s) : codeAny (model prog w) A (.compLoop (.ListComp elt [⟨target, iter, ifs, 0⟩] scope pos) 0 it acc env) R s := by
  refine codeAny_loop rfl I (fun n s hI => ?_) n h
  show wpAny _ A ((compTurn (.ListComp elt [⟨target, iter, ifs, 0⟩] scope pos) 0 it acc env).onRaise (fun x => do noteFrame x env; theTreesLotGoes x)) _ _ s
  refine wpAny_noted ?_
  rw [compTurn_list]
  refine wpAny_bind (wpAny_standAt (wpAny_bind (wpAny_mono (turn n s hI) (fun r s₁ h₁ => ?_) fun _ _ h' => h')))
  cases r with
  | none => exact wpAny_pure h₁
  | some v =>
    refine wpAny_bind (wpAny_mono h₁ (fun _ s₂ h₂ => ?_) fun _ _ h' => h')
    refine wpAny_bind (wpAny_mono h₂ (fun _ s₃ h₃ => wpAny_bind (wpAny_mono h₃ (fun ok s₄ h₄ => ?_) fun _ _ h' => h')) fun _ _ h' => h')
    cases ok with
    | false => exact wpAny_pure ⟨rfl, h₄⟩
    | true => exact wpAny_bind (wpAny_bind (wpAny_mono h₄ (fun x s₅ h₅ => wpAny_bind (wpAny_mono h₅ (fun _ s₆ h₆ => wpAny_pure (wpAny_pure ⟨rfl, h₆⟩)) fun _ _ h' => h')) fun _ _ h' => h'))
end

theorem take_succ_filterMap {α β : Type} (f : α → Option β) (l : List α) (i : Nat) (d : α) (h : l[i]? = some d) : (l.take (i + 1)).filterMap f = (l.take i).filterMap f ++ (f d).toList := by
  rw [List.take_add_one, h, List.filterMap_append]
  cases hf : f d <;> simp [hf]
theorem filterMap_len {α β : Type} (f : α → Option β) (l : List α) : (l.filterMap f).length ≤ l.length := List.length_filterMap_le f l

/-- what one turn of a comprehension has to show -/
def CTurn (prog : Program) (w : World) (A : Around) {δ ε : Type} (R : Shared → Value → δ → Prop) (R' : Shared → Value → ε → Prop) (f : δ → Option ε) (ds : List δ)
    (target elt : Expr) (ifs : List Expr) (cenv : Addr → Env) (s₁ : Shared) : Prop :=
  ∀ (C : Addr) (d : δ) (v : Value) (s₃ : Shared) (m : Str → Option Value) (E : Value → Shared → Prop), d ∈ ds → Mod [] s₁ s₃ → R s₃ v d → s₃.heap.Ns C m → s₁.heap.get? C = none →
    wpAny (model prog w) A (assign target (cenv C) v) (fun _ s₄ => wpAny (model prog w) A (tests ifs (cenv C)) (fun ok s₅ =>
      if ok = true then wpAny (model prog w) A (eval elt (cenv C)) (fun y s₆ => Mod [C] s₃ s₆ ∧ (∃ m', s₆.heap.Ns C m') ∧ ∃ e, f d = some e ∧ R' s₆ y e ∧ New s₃ y) E s₅
      else Mod [C] s₃ s₅ ∧ (∃ m', s₅.heap.Ns C m') ∧ f d = none) E s₄) E s₃

section
variable {prog : Program} {w : World} {A : Around} {δ ε : Type} {R : Shared → Value → δ → Prop} {R' : Shared → Value → ε → Prop} {f : δ → Option ε} {ds : List δ}
  {target elt iter : Expr} {ifs : List Expr} {scope : Scope} {pos : Pos}

theorem Mod.sameBut {W : List Addr} {s : Shared} {a : Addr} {h : Heap} (hs : Heap.SameBut a s.heap h) (ha : a ∈ W) : Mod W s { s with heap := h } :=
  ⟨⟨_, _, rfl⟩, fun b o hb e => (hs.2 b (fun q => hb (q ▸ ha))).trans e, Nat.le_refl _⟩
theorem Mod.extBut {W : List Addr} {s : Shared} {a : Addr} {h : Heap} (hs : Heap.ExtBut a s.heap h) (ha : a ∈ W) : Mod W s { s with heap := h } :=
  ⟨⟨_, _, rfl⟩, fun b o hb e => hs b o (fun q => hb (q ▸ ha)) e, Nat.le_refl _⟩

theorem comp_run {cenv : Addr → Env} {s₁ s : Shared} {I ax D C : Addr} {its : Array Value} {m : Str → Option Value} {Rz : Result → Shared → Prop}
    (hh : A.handled = none) (hR : Up R) (hR' : Flat R') (hsz : ds.length ≤ sizeLine)
    (turn : CTurn prog w A R R' f ds target elt ifs cenv s₁)
    (h1 : Mod [] s₁ s) (hI : s₁.heap.get? I = none) (hD : s₁.heap.get? D = none) (hC : s₁.heap.get? C = none) (hDI : D ≠ I) (hDC : D ≠ C) (hIC : I ≠ C)
    (hl : s₁.heap.PlainList ax its) (hp : Paired (fun y d => R s₁ y d) its.toList ds)
    (hit : s.heap.IsListIter I ax 0) (hacc : s.heap.PlainList D #[]) (hn : s.heap.Ns C m)
    (hend : ∀ s' ys m', Mod [C, I, D] s s' → s'.heap.Ns C m' → s'.heap.PlainList D ys → Paired (fun y e => R' s' y e ∧ Off [C, I, D] y ∧ New s₁ y) ys.toList (ds.filterMap f) → Rz (.ok .next) s') :
    codeAny (model prog w) A (.compLoop (.ListComp elt [⟨target, iter, ifs, 0⟩] scope pos) 0 (.ref I) (.ref D) (cenv C)) Rz s := by
  have hlen : its.size = ds.length := by have := Paired.length hp; simpa using this
  have hax : ∀ s', Mod [C, I, D] s s' → s'.heap.PlainList ax its := fun s' q => by
    obtain ⟨n, e⟩ := hl
    refine ⟨n, q.keep _ _ ?_ (h1.all _ _ e)⟩
    intro hm
    simp only [List.mem_cons, List.not_mem_nil, or_false] at hm
    rcases hm with h | h | h <;> subst h
    · rw [hC] at e; cases e
    · rw [hI] at e; cases e
    · rw [hD] at e; cases e
  have hbase : ∀ s', Mod [C, I, D] s s' → Mod [] s₁ s' := fun s' q =>
    ((h1.any (W := [C, I, D])).trans q).less (W' := []) fun z hz => by
      simp only [List.mem_cons, List.not_mem_nil, or_false] at hz
      rcases hz with h | h | h <;> subst h <;> right <;> assumption
  refine comp_loop (fun k s' => ∃ i m' ys, Mod [C, I, D] s s' ∧ s'.heap.IsListIter I ax i ∧ s'.heap.PlainList D ys ∧ s'.heap.Ns C m' ∧
      Paired (fun y e => R' s' y e ∧ Off [C, I, D] y ∧ New s₁ y) ys.toList ((ds.take i).filterMap f) ∧ i ≤ ds.length ∧ k = ds.length + 1 - i) ?_ (ds.length + 1)
    ⟨0, m, #[], .refl _ _, hit, hacc, hn, by simpa using Paired.nil, Nat.zero_le _, rfl⟩
  rintro k s' ⟨i, m', ys, q, hit', hacc', hn', hF, hi, rfl⟩
  have hl' := hax s' q
  cases hv : its[i]? with
  | none =>
    have hge : its.size ≤ i := by simpa using hv
    refine wpAny_pyNext_list_end hh hit' hl'.isList hv fun h₁ he => ?_
    have q₁ : Mod [C, I, D] s' { s' with heap := h₁ } := Mod.extBut he (by simp)
    have hi' : i = ds.length := by omega
    refine hend _ ys m' (q.trans q₁) (hn'.extBut he (Ne.symm hIC)) (hacc'.extBut he hDI) ?_
    rw [hi', List.take_length] at hF
    exact Paired.weak (fun _ _ _ r => ⟨hR' _ _ _ _ _ q₁ r.2.1 r.1, r.2⟩) hF
  | some v =>
    have hlt : i < its.size := (Array.getElem?_eq_some_iff.mp hv).1
    obtain ⟨d, hd, hrd⟩ := Paired.at hp (i := i) (a := v) (by simpa using hv)
    refine wpAny_pyNext_list_item hit' hl'.isList hv fun h₁ hit₁ hs₁ => ?_
    have q₁ : Mod [C, I, D] s' { s' with heap := h₁ } := Mod.sameBut hs₁ (by simp)
    refine letGo_listiter (s' := { s' with heap := h₁ }) hit₁ ?_
    have b₁ := hbase _ (q.trans q₁)
    refine wpAny_mono (turn C d v _ m' _ (List.mem_of_getElem? hd) b₁ (hR _ _ _ _ b₁ hrd) (hn'.sameBut hs₁ (Ne.symm hIC)) hC) (fun _ s₄ h₄ => ?_) fun _ _ e => e
    refine wpAny_mono h₄ (fun ok s₅ h₅ => ?_) fun _ _ e => e
    have hD₁ : h₁.PlainList D ys := hacc'.at fun o e => (hs₁.2 D hDI).trans e
    cases ok with
    | false =>
      simp only [Bool.false_eq_true, if_false] at h₅ ⊢
      obtain ⟨q₅, ⟨m₅, hn₅⟩, hf⟩ := h₅
      have q₆ : Mod [C, I, D] s' s₅ := q₁.trans (q₅.wider (by simp))
      refine ⟨ds.length + 1 - (i + 1), by omega, i + 1, m₅, ys, q.trans q₆, hit₁.at (fun o e => q₅.keep _ o (by simpa using hIC) e), hD₁.at (fun o e => q₅.keep _ o (by simpa using hDC) e), hn₅, ?_, by omega, rfl⟩
      rw [take_succ_filterMap f ds i d hd, hf]
      simpa using Paired.weak (fun _ _ _ r => ⟨hR' _ _ _ _ _ q₆ r.2.1 r.1, r.2⟩) hF
    | true =>
      simp only [if_true] at h₅ ⊢
      refine wpAny_mono h₅ (fun y s₆ h₆ => ?_) fun _ _ e => e
      obtain ⟨q₆, ⟨m₆, hn₆⟩, e, hf, hr, hnew⟩ := h₆
      have hoff : Off [C, I, D] y := fun a ha hm => by
        have hz : h₁.get? a = none := hnew a ha
        simp only [List.mem_cons, List.not_mem_nil, or_false] at hm
        rcases hm with h | h | h <;> subst h
        · obtain ⟨o, _, _, ho, _⟩ := hn'.sameBut hs₁ (Ne.symm hIC); rw [hz] at ho; cases ho
        · obtain ⟨o, ho, _⟩ := hit₁; rw [hz] at ho; cases ho
        · obtain ⟨n, ho⟩ := hD₁; rw [hz] at ho; cases ho
      have hys : ys.size ≤ sizeLine := by
        have e1 := Paired.length hF
        have e2 := filterMap_len f (ds.take i)
        have e3 : (ds.take i).length ≤ ds.length := by rw [List.length_take]; omega
        have e4 : ys.toList.length = ys.size := by simp
        omega
      refine wpAny_list_append_plain (hsz := hys) (hD₁.at fun o e => q₆.keep _ o (by simpa using hDC) e) fun h₇ hl₇ hs₇ => ?_
      have q₇ : Mod [C, I, D] s₆ { s₆ with heap := h₇ } := Mod.sameBut hs₇ (by simp)
      have q₈ : Mod [C, I, D] s' { s₆ with heap := h₇ } := (q₁.trans (q₆.wider (by simp))).trans q₇
      refine ⟨ds.length + 1 - (i + 1), by omega, i + 1, m₆, ys.push y, q.trans q₈, ?_, hl₇, hn₆.sameBut hs₇ (Ne.symm hDC), ?_, by omega, rfl⟩
      · exact (hit₁.at (fun o e => q₆.keep _ o (by simpa using hIC) e)).at fun o e => (hs₇.2 I (Ne.symm hDI)).trans e
      · rw [take_succ_filterMap f ds i d hd, hf]
        have old := Paired.weak (F' := fun y e => R' { s₆ with heap := h₇ } y e ∧ Off [C, I, D] y ∧ New s₁ y) (fun _ _ _ r => ⟨hR' _ _ _ _ _ q₈ r.2.1 r.1, r.2⟩) hF
        simpa using Paired.snoc old ⟨hR' _ _ _ _ _ q₇ hoff hr, hoff, fun a ha => b₁.freshBack (by simp) (hnew a ha)⟩
end

end Mine

/-! ### Comp2 -/
namespace Mine
open PySem PySem.Calls PyProof.Rows

section
variable {prog : Program} {w : World} {A : Around} {δ ε : Type} {R : Shared → Value → δ → Prop} {R' : Shared → Value → ε → Prop} {f : δ → Option ε} {ds : List δ}
  {target elt iter : Expr} {ifs : List Expr} {scope : Scope} {pos : Pos} {env : Env} {cl : List (Str × Addr)} {E : Value → Shared → Prop}

theorem comp_block {s₁ : Shared} {ax : Addr} {its : Array Value} {RR : Value → Addr → Result → Shared → Prop}
    (hh : A.handled = none) (hR : Up R) (hR' : Flat R') (hsz : ds.length ≤ sizeLine)
    (turn : CTurn prog w A R R' f ds target elt ifs (fun C => compEnvC scope cl C env) s₁)
    (hcell : ∀ y ∈ scope.names, y.2 ≠ .cell) (hkind : scope.kind = .function)
    (hl : s₁.heap.PlainList ax its) (hp : Paired (fun y d => R s₁ y d) its.toList ds)
    (hRR : ∀ D C s' ys m', Mod [] s₁ s' → s₁.heap.get? D = none → s₁.heap.get? C = none → D ≠ C → s'.heap.Ns C m' → s'.heap.PlainList D ys →
      Paired (fun y e => R' s' y e ∧ Off [C] y ∧ New s₁ y) ys.toList (ds.filterMap f) → RR (.ref D) C (.ok .next) s') :
    wpAny (model prog w) A (pyIter (.ref ax)) (fun it s₂ => wpAny (model prog w) A (newList []) (fun acc s₃ =>
      wpAny (model prog w) A (newFunctionEnv scope env.globals cl [] env.qual none .none (some env)) (fun cenv s₄ =>
        codeAny (model prog w) A (.compStart (.ListComp elt [⟨target, iter, ifs, 0⟩] scope pos) 0 it acc { cenv with scope := relabel scope env }) (RR acc cenv.locals) s₄) E s₃) E s₂) E s₁ := by
  refine wpAny_pyIter_list hl.isList (wpAny_newObj_type (hd := by size_fits) (wpAny_newFunctionEnv hcell (by intro y hy; simp at hy) (fun h₁ hns hsb => ?_) hkind))
  dsimp only at hns hsb ⊢
  generalize hH1 : s₁.heap.push { cls := .type "list_iterator", data := .fields #[.ref ax, .int 0 0] } = H1 at hns hsb ⊢
  have hD : H1.objs.size = s₁.heap.objs.size + 1 := by rw [← hH1, Heap.size_push]
  generalize hH2 : H1.push { cls := .type "list", dict := none, data := .seq ([] : List Value).toArray } = H2 at hns hsb ⊢
  have hC : H2.objs.size = s₁.heap.objs.size + 2 := by rw [← hH2, Heap.size_push, hD]
  have hDI : H1.objs.size ≠ s₁.heap.objs.size := by rw [hD]; exact Nat.succ_ne_self _
  have hDC : H1.objs.size ≠ H2.objs.size := by rw [hD, hC]; exact Nat.ne_of_lt (Nat.lt_succ_self _)
  have hIC : s₁.heap.objs.size ≠ H2.objs.size := by rw [hC]; exact Nat.ne_of_lt (Nat.lt_succ_of_lt (Nat.lt_succ_self _))
  have fresh : ∀ a, s₁.heap.objs.size ≤ a → s₁.heap.get? a = none := fun a ha => by
    cases e : s₁.heap.get? a with
    | none => rfl
    | some o => exact absurd (Heap.lt_size e) (Nat.not_lt.mpr ha)
  have hI0 := fresh s₁.heap.objs.size (Nat.le_refl _)
  have hD0 := fresh H1.objs.size (by rw [hD]; exact Nat.le_succ _)
  have hC0 := fresh H2.objs.size (by rw [hC]; exact Nat.le_add_right _ _)
  have old : ∀ b o, s₁.heap.get? b = some o → h₁.get? b = some o := fun b o e =>
    hsb.extBut b o (by rintro rfl; rw [hC0] at e; cases e) (Heap.get?_push_of_some _ (hH2 ▸ Heap.get?_push_of_some _ (hH1 ▸ Heap.get?_push_of_some _ e)))
  have hit : h₁.IsListIter s₁.heap.objs.size ax 0 :=
    ⟨_, hsb.extBut _ _ hIC (Heap.get?_push_of_some _ (hH2 ▸ Heap.get?_push_of_some _ (hH1 ▸ Heap.get?_push_size _ rfl))), rfl, rfl⟩
  have hacc : h₁.PlainList H1.objs.size #[] := ⟨_, hsb.extBut _ _ hDC (Heap.get?_push_of_some _ (hH2 ▸ Heap.get?_push_size _ rfl))⟩
  have run : ∀ s₂ : Shared, s₂ = { s₁ with heap := h₁, toks := s₁.toks + ([] : List (Str × Value)).length } →
      codeAny (model prog w) A (.compLoop (.ListComp elt [⟨target, iter, ifs, 0⟩] scope pos) 0 (.ref s₁.heap.objs.size) (.ref H1.objs.size) (compEnvC scope cl H2.objs.size env)) (RR (.ref H1.objs.size) H2.objs.size) s₂ := by
    rintro s₂ rfl
    have m1 : Mod [] s₁ { s₁ with heap := h₁, toks := s₁.toks + ([] : List (Str × Value)).length } := ⟨⟨_, _, rfl⟩, fun b o _ e => old b o e, by simp⟩
    refine comp_run (cenv := fun C => compEnvC scope cl C env) hh hR hR' hsz turn m1 hI0 hD0 hC0 hDI hDC hIC hl hp hit hacc hns fun s' ys m' q hn hd hF => ?_
    refine hRR _ _ s' ys m' ?_ hD0 hC0 hDC hn hd (Paired.weak (fun y _ e r => ⟨r.1, fun a ha hm => r.2.1 a ha (by simp at hm; simp [hm]), r.2.2⟩) hF)
    exact ((m1.any (W := [H2.objs.size, s₁.heap.objs.size, H1.objs.size])).trans q).less fun z hz => by
      simp only [List.mem_cons, List.not_mem_nil, or_false] at hz
      rcases hz with h | h | h <;> subst h <;> right <;> assumption
  exact codeAny_compStart_list (run _ rfl) (wpAny_pyIter_listiter hit (run _ rfl))

theorem paired_end {C D : Addr} {s' : Shared} {h : Heap} {ys : Array Value} {es : List ε} (hR' : Flat R') (hDC : D ≠ C) (hs : Heap.SameBut C s'.heap h)
    (hd : s'.heap.PlainList D ys) (hF : Paired (fun y e => R' s' y e ∧ Off [C] y) ys.toList es) : RL R' { s' with heap := h } (.ref D) es :=
  ⟨D, ys, rfl, hd.at fun o e => (hs.2 D hDC).trans e, Paired.weak (fun y _ e r => hR' _ _ _ _ _ (Mod.sameBut hs (List.mem_singleton.mpr rfl)) r.2 r.1) hF⟩

theorem ev_ListComp {s : Shared} (hh : A.handled = none) (hR : Up R) (hR' : Flat R')
    (hiter : Ev (model prog w) A (eval iter env) s fun v s₁ => RL R s₁ v ds) (hsz : ds.length ≤ sizeLine)
    (hclos : closureFor scope env = pure cl)
    (turn : ∀ s₁, Mod [] s s₁ → CTurn prog w A R R' f ds target elt ifs (fun C => compEnvC scope cl C env) s₁)
    (hcell : ∀ y ∈ scope.names, y.2 ≠ .cell := by decide) (hkind : scope.kind = .function := by rfl)
    (hnames : ∀ y ∈ scope.names, y.2 = .local → scope.names.lookup y.1 = some .local := by decide)
    (hs : ∀ x, foldedSetIterable iter env x = pure x := by intro _; rfl) :
    Ev (model prog w) A (eval (.ListComp elt [⟨target, iter, ifs, 0⟩] scope pos) env) s fun v s' => RL R' s' v (ds.filterMap f) ∧ New s v := by
  intro E
  rw [eval_ListComp]
  refine wpAny_comprehension_free (use := none) rfl hs hclos hkind hnames (hiter.cont fun xv s₁ q₁ hx => ?_)
  obtain ⟨ax, its, rfl, hl, hp⟩ := hx
  refine comp_block (RR := fun acc C => compPost (model prog w) A E none _ acc C) hh hR hR' hsz (turn s₁ q₁) hcell hkind hl hp ?_
  intro D C s' ys m' q hD hC hDC hn hd hF
  refine ⟨m', hn, fun h' hs' => ?_⟩
  have q₂ : Mod [] s₁ { s' with heap := h' } := ((q.any (W := [C])).trans (Mod.sameBut hs' (List.mem_singleton.mpr rfl))).less fun z hz => .inr (by rw [List.mem_singleton.mp hz]; exact hC)
  refine ⟨q₁.trans q₂, paired_end hR' hDC hs' hd (Paired.weak (fun _ _ _ r => ⟨r.1, r.2.1⟩) hF), fun a ha => ?_⟩
  cases ha
  exact q₁.freshBack (by simp) hD

/-- y = [..] where the comprehension's own names go behind the store -/
theorem do_Assign_ListComp {s : Shared} {y : Str} {py spos : Pos} {m : Str → Option Value} (hh : A.handled = none) (hR : Up R) (hR' : Flat R')
    (hiter : Ev (model prog w) A (eval iter env) s fun v s₁ => RL R s₁ v ds) (hsz : ds.length ≤ sizeLine)
    (hn : s.heap.Ns env.locals m)
    (hclos : closureFor scope env = pure cl)
    (turn : ∀ s₁, Mod [] s s₁ → CTurn prog w A R R' f ds target elt ifs (fun C => compEnvC scope cl C env) s₁)
    (hsw : swapsWith (.ListComp elt [⟨target, iter, ifs, 0⟩] scope pos) (some (.Name y py)) spos.line env = pure true)
    (hy : env.kindOf y = some .local) (hpk : (env.scope.kind == .class || (env.scope.kind == .module && env.locals != env.globals)) = false)
    (hcell : ∀ y ∈ scope.names, y.2 ≠ .cell := by decide) (hkind : scope.kind = .function := by rfl)
    (hnames : ∀ y ∈ scope.names, y.2 = .local → scope.names.lookup y.1 = some .local := by decide)
    (hs : ∀ x, foldedSetIterable iter env x = pure x := by intro _; rfl) :
    Do (model prog w) A [env.locals] (exec (.Assign [.Name y py] (.ListComp elt [⟨target, iter, ifs, 0⟩] scope pos) spos) env) s fun fl s' => fl = .next ∧
      ∃ v, RL R' s' v (ds.filterMap f) ∧ New s v ∧ s'.heap.Ns env.locals (fun z => if z = y then some v else m z) := by
  intro E
  rw [exec_Assign_Name_used _ _ _ _ hsw]
  refine wpAny_bind (wpAny_standAt (wpAny_bind ?_))
  show wpAny _ A (do let _ ← comprehension (.ListComp elt [⟨target, iter, ifs, 0⟩] scope pos) scope env _ (newList []) false (eval iter env) (some (assign (.Name y py) env))) _ _ s
  refine wpAny_bind (wpAny_mono (wpAny_comprehension_free (use := some (assign (.Name y py) env)) (Q := fun _ s' => Mod [env.locals] s s' ∧ ∃ v, RL R' s' v (ds.filterMap f) ∧ New s v ∧ s'.heap.Ns env.locals (fun z => if z = y then some v else m z))
    rfl hs hclos hkind hnames (hiter.cont fun xv s₁ q₁ hx => ?_)) (fun _ s' hq => wpAny_pure (wpAny_pure ⟨hq.1, rfl, hq.2⟩)) fun _ _ e => e)
  obtain ⟨ax, its, rfl, hl, hp⟩ := hx
  refine comp_block (RR := fun acc C => compPost (model prog w) A E (some (assign (.Name y py) env)) _ acc C) hh hR hR' hsz (turn s₁ q₁) hcell hkind hl hp ?_
  intro D C s' ys m' q hD hC hDC hnC hd hF
  have hn₁ : s₁.heap.Ns env.locals m := hn.keeps q₁.all
  have hn' : s'.heap.Ns env.locals m := hn₁.keeps q.all
  have hLC : env.locals ≠ C := by rintro rfl; obtain ⟨o, _, _, ho, _⟩ := hn₁; rw [hC] at ho; cases ho
  have hLD : env.locals ≠ D := by rintro rfl; obtain ⟨o, _, _, ho, _⟩ := hn₁; rw [hD] at ho; cases ho
  show wpAny _ A (assign (.Name y py) env (.ref D)) _ _ _
  refine wpAny_assign_Name (wpAny_storeName_local hy hn' (fun h₂ hn₂ hs₂ => ?_) hpk)
  refine ⟨m', hnC.sameBut hs₂ (Ne.symm hLC), fun h₃ hs₃ => ?_⟩
  have t₂ : Mod [C, env.locals] s' { s' with heap := h₂, toks := s'.toks + 1 } := ⟨⟨_, _, rfl⟩, fun b o hb e => (hs₂.2 b (fun z => hb (by simp [z]))).trans e, Nat.le_succ _⟩
  have t₃ : Mod [C, env.locals] { s' with heap := h₂, toks := s'.toks + 1 } { s' with heap := h₃, toks := s'.toks + 1 } := ⟨⟨_, _, rfl⟩, fun b o hb e => (hs₃.2 b (fun z => hb (by simp [z]))).trans e, Nat.le_refl _⟩
  have hlist : ∀ y ∈ ys.toList, ∀ e, R' s' y e ∧ Off [C] y ∧ New s₁ y → R' { s' with heap := h₂, toks := s'.toks + 1 } y e ∧ Off [C] y := fun yv hy e r => by
    refine ⟨hR' [env.locals] _ _ _ _ ⟨⟨_, _, rfl⟩, fun b o hb e => (hs₂.2 b (fun z => hb (by simp [z]))).trans e, Nat.le_succ _⟩ ?_ r.1, r.2.1⟩
    intro a ha hm
    rw [List.mem_singleton.mp hm] at ha
    obtain ⟨o, _, _, ho, _⟩ := hn₁
    rw [r.2.2 _ ha] at ho; cases ho
  have q₂ : Mod [env.locals] s₁ { s' with heap := h₃, toks := s'.toks + 1 } := (((q.any (W := [C, env.locals])).trans t₂).trans t₃).less fun z hz => by
    simp only [List.mem_cons, List.not_mem_nil, or_false] at hz
    rcases hz with h | h
    · right; rw [h]; exact hC
    · left; simp [h]
  refine ⟨(q₁.any).trans q₂, .ref D, ?_, fun a ha => ?_, hn₂.sameBut hs₃ hLC⟩
  · exact paired_end (s' := { s' with heap := h₂, toks := s'.toks + 1 }) hR' hDC hs₃ (hd.at fun o e => (hs₂.2 D (Ne.symm hLD)).trans e) (Paired.weak hlist hF)
  · cases ha
    exact q₁.freshBack (by simp) hD
end

end Mine

/-! ### ForB -/
namespace Mine
open PySem PySem.Calls PyProof.Rows

section
variable {prog : Program} {w : World} {A : Around} {target iter : Expr} {body : List Stmt} {env : Env} {I : Addr} {fp wr : List Addr} {n : Nat} {P : Nat → Value → Prop} {St : Nat → Heap → Prop}

theorem for_from {s : Shared} {Rz : Result → Shared → Prop} (J : Nat → Shared → Prop) (W : Walks prog w A I fp wr n P St) (i₀ : Nat) (hi₀ : i₀ ≤ n)
    (hgo : ∀ i (s' : Shared) v (Q : Unit → Shared → Prop) (E : Value → Shared → Prop), St i s'.heap → Q () s' → wpAny (model prog w) A (letOwnedTupleGo target (.ref I) v) Q E s')
    (hJ : ∀ i s s', J i s → Mod wr s s' → J i s')
    (turn : ∀ i v s E, i₀ ≤ i → i < n → P i v → J i s → St (i + 1) s.heap → wpAny (model prog w) A (assign target env v) (fun _ s₂ => wpAny (model prog w) A (execs body env) (fun fl s₃ =>
      fl = .next ∧ J (i + 1) s₃ ∧ ∀ b ∈ fp, ∀ o, s.heap.get? b = some o → s₃.heap.get? b = some o) E s₂) E s)
    (hst : St i₀ s.heap) (h0 : J i₀ s) (hend : ∀ s', J n s' → Rz (.ok .next) s') :
    codeAny (model prog w) A (.forLoop target (.ref I) body [] env) Rz s := by
  refine codeAny_forLoop_any (fun k s' => ∃ i, J i s' ∧ St i s'.heap ∧ i₀ ≤ i ∧ i ≤ n ∧ k = n + 1 - i) ?_ (n + 1 - i₀) ⟨i₀, h0, hst, Nat.le_refl _, hi₀, rfl⟩
  rintro k s' ⟨i, hj, hs, hi', hi, rfl⟩
  by_cases hlt : i < n
  · refine wpAny_with_toks (n := s'.toks) (Nat.le_refl _) (W.item i _ _ _ hlt hs fun v h₁ tk₁ hP hst₁ hk₁ htk => ?_)
    refine hgo _ _ _ _ _ hst₁ ?_
    have q₁ : Mod wr s' { s' with heap := h₁, toks := tk₁ } := ⟨⟨_, _, rfl⟩, hk₁, htk⟩
    refine wpAny_mono (turn i v _ _ hi' hlt hP (hJ _ _ _ hj q₁) hst₁) (fun _ s₂ h₂ => wpAny_mono h₂ (fun fl s₃ h₃ => ?_) fun _ _ e => e) fun _ _ e => e
    obtain ⟨rfl, hj₃, hk₃⟩ := h₃
    exact ⟨n + 1 - (i + 1), by omega, i + 1, hj₃, W.frame _ _ _ hst₁ hk₃, by omega, hlt, rfl⟩
  · have hin : i = n := by omega
    subst hin
    refine wpAny_with_toks (n := s'.toks) (Nat.le_refl _) (W.done _ _ _ hs fun h₁ tk₁ hk₁ htk => wpAny_execs_nil ?_)
    exact hend _ (hJ _ _ _ hj ⟨⟨_, _, rfl⟩, hk₁, htk⟩)
end

end Mine

/-! ### Unpack -/
namespace Mine
open PySem PySem.Calls PyProof.Rows

section
variable {prog : Program} {w : World} {A : Around} {E : Value → Shared → Prop} {env : Env}

theorem draw_list {it l : Addr} {items : Array Value} (hne : l ≠ it) : ∀ (n i : Nat) (s : Shared) (Q : List Value → Shared → Prop), s.heap.IsListIter it l i → s.heap.IsList l items → i + n ≤ items.size →
    (∀ h', h'.IsListIter it l (i + n) → Heap.SameBut it s.heap h' → Q ((items.toList.drop i).take n) { s with heap := h' }) → wpAny (model prog w) A (draw (.ref it) n) Q E s
  | 0, i, s, Q, hit, _, _, hQ => by
    show wpAny _ _ (pure []) Q E s
    exact wpAny_pure (by simpa using hQ s.heap hit (Heap.SameBut.refl ..))
  | n + 1, i, s, Q, hit, hl, hle, hQ => by
    have hlt : i < items.size := by omega
    show wpAny _ _ (pyNext (.ref it) >>= _) Q E s
    refine wpAny_bind (wpAny_pyNext_list_item hit hl (x := items[i]) (by simp [hlt]) fun h₁ hit₁ hs₁ => ?_)
    refine wpAny_bind (wpAny_holding (draw_list hne n (i + 1) _ _ hit₁ (hl.extBut hs₁.extBut hne) (by omega) fun h₂ hit₂ hs₂ => wpAny_pure ?_))
    have e : (items.toList.drop i).take (n + 1) = items[i] :: (items.toList.drop (i + 1)).take n := by
      rw [List.drop_eq_getElem_cons (by simpa using hlt)]; simp
    have := hQ h₂ (by rw [show i + (n + 1) = i + 1 + n by omega]; exact hit₂) (hs₁.trans hs₂)
    rw [e] at this
    exact this

theorem unpackItems_list {s : Shared} {l : Addr} {items : Array Value} {Q : List Value → Shared → Prop} (hh : A.handled = none) (hl : s.heap.IsList l items)
    (hQ : ∀ h', Heap.ExtBut s.heap.objs.size s.heap h' → Q items.toList { s with heap := h' }) : wpAny (model prog w) A (unpackItems (.ref l) items.size none) Q E s := by
  have hne : l ≠ s.heap.objs.size := by obtain ⟨o, ho, _⟩ := hl; exact Nat.ne_of_lt (Heap.lt_size ho)
  unfold unpackItems
  refine wpAny_bind ?_
  unfold notIterableAtAll
  refine wpAny_bind (wpAny_specialOf hl.typeIs slot_list_iter.lookup ?_)
  refine wpAny_pure ?_
  simp only [Bool.false_eq_true, if_false]
  refine wpAny_bind (wpAny_holding (wpAny_pyIter_list hl ?_))
  refine wpAny_bind (wpAny_holding (draw_list hne items.size 0 _ _ ⟨_, Heap.get?_push_size _ rfl, rfl, rfl⟩ (hl.at fun o e => Heap.get?_push_of_some _ e) (by omega) fun h₁ hit₁ hs₁ => ?_))
  have hall : List.take items.size (List.drop 0 items.toList) = items.toList := by
    rw [List.drop_zero]; exact List.take_of_length_le (by simp)
  rw [hall, if_neg (by simp)]
  have hl₁ : h₁.IsList l items := (hl.at fun o e => Heap.get?_push_of_some _ e).extBut hs₁.extBut hne
  refine wpAny_bind (wpAny_holding (wpAny_pyNext_list_end hh hit₁ hl₁ (by simp) fun h₂ he₂ => ?_))
  simp only [Option.isSome_none, Bool.false_eq_true, if_false]
  exact wpAny_pure (hQ h₂ fun b o hb e => he₂ b o hb (hs₁.extBut b o hb (Heap.get?_push_of_some _ e)))

/-- names of the frame are stored one by one -/
theorem assign_names {W : List Addr} (hL : env.locals ∈ W) (hp : (env.scope.kind == .class || (env.scope.kind == .module && env.locals != env.globals)) = false) :
    ∀ (xs : List (Str × Pos)) (vs : List Value) (s : Shared) (m : Str → Option Value), xs.length = vs.length → (∀ x ∈ xs, env.kindOf x.1 = some .local) → s.heap.Ns env.locals m →
    Do (model prog w) A W (assignInOrder (xs.map fun x => assign (.Name x.1 x.2) env) vs) s fun _ s' =>
      s'.heap.Ns env.locals (((xs.map (·.1)).zip vs).foldl (fun m p z => if z = p.1 then some p.2 else m z) m)
  | [], [], s, m, _, _, hn => fun _ => wpAny_pure ⟨.refl _ _, hn⟩
  | x :: xs, v :: vs, s, m, hlen, hk, hn => by
    intro E
    show wpAny _ _ (holding vs (assign (.Name x.1 x.2) env v) >>= fun _ => assignInOrder (xs.map fun x => assign (.Name x.1 x.2) env) vs) _ _ s
    refine wpAny_bind (wpAny_holding (wpAny_assign_Name (wpAny_storeName_local (hk x (List.mem_cons_self ..)) hn (fun h' hn' hs' => ?_) hp)))
    have q : Mod W s { s with heap := h', toks := s.toks + 1 } := ⟨⟨_, _, rfl⟩, fun b o hb e => (hs'.2 b (fun z => hb (z ▸ hL))).trans e, Nat.le_succ _⟩
    exact (assign_names hL hp xs vs _ _ (by simpa using hlen) (fun y hy => hk y (List.mem_cons_of_mem _ hy)) hn').cont fun _ s' q' h => ⟨q.trans q', h⟩
  | [], _ :: _, _, _, h, _, _ => by simp at h
  | _ :: _, [], _, _, h, _, _ => by simp at h

theorem unpack_names {W : List Addr} {s : Shared} {m : Str → Option Value} {xs : List (Str × Pos)} {l : Addr} {its : Array Value} {k : Nat} {pos : Pos} (hh : A.handled = none) (hL : env.locals ∈ W)
    (hp : (env.scope.kind == .class || (env.scope.kind == .module && env.locals != env.globals)) = false) (hlen : xs.length = its.size) (hk : ∀ x ∈ xs, env.kindOf x.1 = some .local)
    (hl : s.heap.PlainList l its) (hn : s.heap.Ns env.locals m)
    (he : assignEach (xs.map fun x => Expr.Name x.1 x.2) env = xs.map fun x => (false, assign (.Name x.1 x.2) env)) :
    Do (model prog w) A W (assign (.Tuple (xs.map fun x => Expr.Name x.1 x.2) k pos) env (.ref l)) s fun _ s' =>
      s'.heap.Ns env.locals (((xs.map (·.1)).zip its.toList).foldl (fun m p z => if z = p.1 then some p.2 else m z) m) := by
  intro E
  rw [arm_assign_Tuple]
  refine wpAny_bind (wpAny_standAt ?_)
  rw [he]
  unfold unpack
  have hstar : (xs.map fun x => (false, assign (.Name x.1 x.2) env)).findIdx? (·.1) = none := by
    rw [List.findIdx?_eq_none_iff]; intro x hx; obtain ⟨y, _, rfl⟩ := List.mem_map.mp hx; rfl
  rw [hstar, List.length_map, hlen]
  refine wpAny_bind (wpAny_holding (unpackItems_list hh hl.isList fun h' hx => ?_))
  have hne : ∀ b o, s.heap.get? b = some o → b ≠ s.heap.objs.size := fun b o e => Nat.ne_of_lt (Heap.lt_size e)
  have q : Mod W s { s with heap := h' } := ⟨⟨_, _, rfl⟩, fun b o _ e => hx b o (hne b o e) e, Nat.le_refl _⟩
  have hn' : h'.Ns env.locals m := hn.keeps fun b o e => hx b o (hne b o e) e
  have e2 : (xs.map fun x => (false, assign (.Name x.1 x.2) env)).map (·.2) = xs.map fun x => assign (.Name x.1 x.2) env := by rw [List.map_map]; rfl
  rw [e2]
  exact (assign_names hL hp xs its.toList { s with heap := h' } m (by simpa using hlen) hk hn').cont fun _ s' q' h => ⟨q.trans q', h⟩
end

end Mine

/-! ### HasAttr -/
namespace Mine
open PySem PySem.Calls PyProof.Rows

namespace HA
theorem slot_wd_get : Slot "wrapper_descriptor" "__get__" "wrapper_descriptor.__get__" :=
  .of (owner := "wrapper_descriptor") (n := "__get__") (by rw [typeLookup_type, builtinLookup_eq_fast]; kernel_rfl) (by decide +kernel) (by decide +kernel) (by decide +kernel)
    (by first | exact .inl (by decide +kernel) | exact .inr (by decide +kernel)) (by rw [isSubtype_type]; kernel_rfl)
theorem entry_wd_get : entryFor table "wrapper_descriptor.__get__" = some Builtin.«wrapper_descriptor.__get__» := entryFor_of_tree (by kernel_rfl)
theorem args_wd_get (a b c : Value) : argsOk "wrapper_descriptor.__get__" ⟨[a, b, c], []⟩ := by unfold argsOk; kernel_rfl
theorem lk_wd_set : typeLookup (.type "wrapper_descriptor") "__set__" = pure none := by rw [typeLookup_type, builtinLookup_eq_fast]; kernel_rfl
theorem lk_wd_delete : typeLookup (.type "wrapper_descriptor") "__delete__" = pure none := by rw [typeLookup_type, builtinLookup_eq_fast]; kernel_rfl
theorem lk_str_getitem : typeLookup (.type "str") "__getitem__" = pure (some (.builtin "str.__getitem__")) := by rw [typeLookup_type, builtinLookup_eq_fast]; kernel_rfl
theorem typeOf_getitem : typeOf (.builtin "str.__getitem__") = pure (.type "wrapper_descriptor") := by kernel_rfl
theorem kind_hasattr : builtinKind "hasattr" = none := by decide +kernel
theorem plain_hasattr : plainId "hasattr" = true := by decide +kernel
theorem entry_hasattr : entryFor table "hasattr" = some Builtin.«hasattr» := entryFor_of_tree (by kernel_rfl)
theorem args_hasattr (a b : Value) : argsOk "hasattr" ⟨[a, b], []⟩ := by unfold argsOk; kernel_rfl
theorem owner_getitem : (".".intercalate ("str.__getitem__".cutAt '.').dropLast) = "str" := by
  have e0 : "str.__getitem__".cutAt '.' = ["str", "__getitem__"] := by first | rfl | decide +kernel
  rw [e0]; decide +kernel
theorem sub_owner : isSubtype (.type "str") (.type (".".intercalate ("str.__getitem__".cutAt '.').dropLast)) = pure true := by
  rw [owner_getitem, isSubtype_type]; kernel_rfl
end HA

section
variable {prog : Program} {w : World} {A : Around} {E : Value → Shared → Prop} {h : Heap} {g : Array GenState} {d : Drawn} {t : Nat} {os : OsState} {x : Str} {u : Tok}

theorem getitem_get_str {R : Result → Shared → Prop} (hq : ∀ o, R (.ok (.ret (.ref h.objs.size))) ⟨h.push o, g, d, t, os⟩) :
    codeAny (model prog w) A (.call (.builtin "wrapper_descriptor.__get__") ⟨[.builtin "str.__getitem__", .str x u, .type "str"], []⟩) R ⟨h, g, d, t, os⟩ := by
  have hT : (⟨h, g, d, t, os⟩ : Shared).TypeIs (.str x u) "str" := rfl
  have hT5 : (⟨h, g, d, t, os⟩ : Shared).TypeIs (.builtin "str.__getitem__") "wrapper_descriptor" := HA.typeOf_getitem
  refine codeAny_call_builtin HA.slot_wd_get.plain HA.entry_wd_get (HA.slot_wd_get.check _ _ _ _ _ _ _ _ hT5 (HA.args_wd_get _ _ _) ?_)
  unfold Builtin.«wrapper_descriptor.__get__»
  have f8 := HA.sub_owner
  repeat (any_goals (first | assumption | wp_step))
  exact hq _

theorem getitem_entry_str {tk : Tok} {Q : Fin → Shared → Prop} (hq : ∀ o, Q (.done (.ret (.ref h.objs.size))) ⟨h.push o, g, d, t, os⟩) :
    wpAny (model prog w) A (Builtin.«object.__getattribute__» ⟨[.str x u, .str "__getitem__" tk], []⟩) Q E ⟨h, g, d, t, os⟩ := by
  have hT : (⟨h, g, d, t, os⟩ : Shared).TypeIs (.str x u) "str" := rfl
  have hT5 : (⟨h, g, d, t, os⟩ : Shared).TypeIs (.builtin "str.__getitem__") "wrapper_descriptor" := HA.typeOf_getitem
  have f4 := HA.lk_str_getitem
  have f5 := HA.typeOf_getitem
  have f6 := HA.slot_wd_get.lookup
  have f7 := HA.lk_wd_set
  have f8 := HA.lk_wd_delete
  repeat (any_goals (first | assumption | wp_step))
  refine getitem_get_str fun o => ?_
  repeat (any_goals (first | exact hq _ | assumption | wp_step))

theorem getitem_call_str {tk : Tok} {R : Result → Shared → Prop} (hq : ∀ o, R (.ok (.ret (.ref h.objs.size))) ⟨h.push o, g, d, t, os⟩) :
    codeAny (model prog w) A (.call (.builtin "object.__getattribute__") ⟨[.str x u, .str "__getitem__" tk], []⟩) R ⟨h, g, d, t, os⟩ :=
  codeAny_call_builtin F.slot_str_getattribute.plain F.entry_object_getattribute (F.slot_str_getattribute.check _ _ _ _ _ _ _ _ (show (⟨h, g, d, t, os⟩ : Shared).TypeIs (.str x u) "str" from rfl) (F.args_object_getattribute_2 _ _) (getitem_entry_str hq))

theorem getitem_by_str {tk : Tok} {Q : Value → Shared → Prop} (hq : ∀ o v, Q v ⟨h.push o, g, d, t, os⟩) : wpAny (model prog w) A (getAttrBy (.str x u) (.str "__getitem__" tk) false) Q E ⟨h, g, d, t, os⟩ := by
  have hT : (⟨h, g, d, t, os⟩ : Shared).TypeIs (.str x u) "str" := rfl
  have f2 := F.slot_str_getattribute.lookup
  have f3 := F.slot_str_getattribute.bind (.str x u)
  repeat (any_goals (first | assumption | wp_step))
  refine getitem_call_str fun o => ?_
  repeat (any_goals (first | exact hq _ _ | assumption | wp_step))

theorem hasattr_str {tk : Tok} {Q : Value → Shared → Prop} (hq : ∀ o, Q (.bool true) ⟨h.push o, g, d, t, os⟩) : wpAny (model prog w) A (call (.builtin "hasattr") [.str x u, .str "__getitem__" tk]) Q E ⟨h, g, d, t, os⟩ := by
  refine call_function_entry HA.kind_hasattr HA.plain_hasattr HA.entry_hasattr (HA.args_hasattr _ _) ?_
  have hT : (⟨h, g, d, t, os⟩ : Shared).TypeIs (.str x u) "str" := rfl
  have f4 := HA.lk_str_getitem
  have f2 := F.slot_str_getattribute.lookup
  unfold Builtin.«hasattr»
  refine wpAny_bind (wpAny_of_eq (a := [.str x u, .str (Str.ofString "__getitem__") tk]) rfl ?_)
  refine wpAny_bind (wpAny_of_eq (a := ()) rfl ?_)
  refine wpAny_ite_false rfl ?_
  refine wpAny_bind (wpAny_typeOf hT ?_)
  refine wpAny_bind (wpAny_of_eq (a := some (Str.ofString "__getitem__")) rfl ?_)
  refine wpAny_bind (wpAny_of_eq f4 ?_)
  refine wpAny_bind (wpAny_of_eq f2 ?_)
  refine wpAny_ite_false (by decide +kernel) ?_
  refine wpAny_bind (wpAny_of_eq (a := 0) rfl ?_)
  refine wpAny_ite_false rfl ?_
  refine wpAny_bind ?_
  unfold getAttrBy?
  refine wpAny_bind (wpAny_attempt (getitem_by_str fun o v => ?_))
  refine wpAny_pure ?_
  refine wpAny_ite_false rfl ?_
  exact wpAny_pure ⟨_, rfl, hq o⟩
end
end Mine

/-! ### Fn -/
namespace Mine
open PySem PySem.Calls PyProof.Rows

/-! ## the text's own objects -/

def stmtN (n : Nat) : Stmt := PySem.Challenge.pw_op0007_01.main.body.getD n (.Pass ⟨0, 0, 0, 0⟩)
def defBody : Stmt → List Stmt
  | .FunctionDef _ _ b _ _ _ _ _ _ _ => b
  | _ => []
def defPars : Stmt → Arguments
  | .FunctionDef _ a _ _ _ _ _ _ _ _ => a
  | _ => ⟨[], [], none, [], [], none, []⟩
def defScope : Stmt → Scope
  | .FunctionDef _ _ _ _ _ _ s _ _ _ => s
  | _ => { kind := .function, names := [], isGenerator := false, isCoroutine := false }

def globs : List (Str × Value) := [
  (Str.ofString "_find_unsafe", .ref 37), (Str.ofString "quote", .ref 44), (Str.ofString "_initial_missing", .ref 45), (Str.ofString "reduce", .ref 53),
  (Str.ofString "concat", .ref 60), (Str.ofString "countOf", .ref 67), (Str.ofString "_law_word", .ref 72), (Str.ofString "_law_ways", .ref 77),
  (Str.ofString "_law_next", .ref 84), (Str.ofString "_law_told", .ref 89)]
def buis : List (Str × Value) := [
  (Str.ofString "len", .builtin "len"), (Str.ofString "list", .type "list"), (Str.ofString "chr", .builtin "chr"), (Str.ofString "sum", .builtin "sum"),
  (Str.ofString "iter", .builtin "iter"), (Str.ofString "next", .builtin "next"), (Str.ofString "hasattr", .builtin "hasattr")]

def Fn (h : Heap) (a : Addr) (name : Str) (st : Stmt) : Prop :=
  ∃ o pm cd doc, h.get? a = some o ∧ o.data = .func (docDef name (defPars st) (defBody st) (defScope st) pm cd doc) ∧ h.CodeRec cd name
theorem Fn.keeps {h h' : Heap} {a : Addr} {name : Str} {st : Stmt} (x : Fn h a name st) (hk : ∀ b o, h.get? b = some o → h'.get? b = some o) : Fn h' a name st := by
  obtain ⟨o, pm, cd, doc, h1, h2, h3⟩ := x
  exact ⟨o, pm, cd, doc, hk _ _ h1, h2, h3.keeps hk⟩

structure Gr (h : Heap) : Prop where
  names : ∃ mg mb, h.Ns mainGlobals mg ∧ h.Ns builtinsNs mb ∧ (∀ x v, globs.lookup x = some v → mg x = some v) ∧ (∀ x v, buis.lookup x = some v → mg x = none ∧ mb x = some v)
  nolimit : h.NoLimit
  booked : NoneBooked h
  quote : Fn h 44 (Str.ofString "quote") (stmtN 4)
  concat : Fn h 60 (Str.ofString "concat") (stmtN 9)
  countOf : Fn h 67 (Str.ofString "countOf") (stmtN 10)
  word : Fn h 72 (Str.ofString "_law_word") (stmtN 12)
  ways : Fn h 77 (Str.ofString "_law_ways") (stmtN 13)
  next : Fn h 84 (Str.ofString "_law_next") (stmtN 14)
  told : Fn h 89 (Str.ofString "_law_told") (stmtN 15)
  reduce : ∃ o pm cd doc, h.get? 53 = some o ∧ o.data = .func { docDef (Str.ofString "reduce") (defPars (stmtN 7)) (defBody (stmtN 7)) (defScope (stmtN 7)) pm cd doc with defaults := .ref 46 } ∧ h.CodeRec cd (Str.ofString "reduce")
  dflt : h.get? 46 = some { cls := .type "tuple", data := .seq #[.ref 45] }
  missing : h.get? 45 = some { cls := .type "object" }
  find : h.get? 37 = some { cls := .type "builtin_function_or_method", data := .fields #[.builtin "re.Pattern.search", .ref 36] }
  pattern : ∃ t u, h.get? 36 = some { cls := .type "re.Pattern", data := .fields #[.str (Str.ofString "[^\\w@%+=:,./-]") t, .int 256 u, .int 0 0, .none, .none, .ref 35, .int 0 0] }
  code : h.get? 35 = some { cls := .type "tuple", data := .seq (([14, 17, 4, 1, 1, 21, 9, 0, 604043296, 1, 0, 0, 0, 0, 0, 8, 4, 0, 13, 14, 21, 9, 0, 604043296, 1, 0, 0, 0, 0, 0, 8, 4, 0, 1] : List Int).map fun i => Value.int i 0).toArray }

theorem Gr.keeps {h h' : Heap} (g : Gr h) (hk : ∀ b o, h.get? b = some o → h'.get? b = some o) : Gr h' where
  names := by obtain ⟨mg, mb, h1, h2, h3, h4⟩ := g.names; exact ⟨mg, mb, h1.keeps hk, h2.keeps hk, h3, h4⟩
  nolimit := g.nolimit.keeps hk
  booked := by obtain ⟨mc, h1, h2⟩ := g.booked; exact ⟨mc, h1.keeps hk, h2⟩
  quote := g.quote.keeps hk
  concat := g.concat.keeps hk
  countOf := g.countOf.keeps hk
  word := g.word.keeps hk
  ways := g.ways.keeps hk
  next := g.next.keeps hk
  told := g.told.keeps hk
  reduce := by obtain ⟨o, pm, cd, doc, h1, h2, h3⟩ := g.reduce; exact ⟨o, pm, cd, doc, hk _ _ h1, h2, h3.keeps hk⟩
  dflt := hk _ _ g.dflt
  missing := hk _ _ g.missing
  find := hk _ _ g.find
  pattern := by obtain ⟨t, u, e⟩ := g.pattern; exact ⟨t, u, hk _ _ e⟩
  code := hk _ _ g.code
theorem Gr.mod {s s' : Shared} (g : Gr s.heap) (q : Mod [] s s') : Gr s'.heap := g.keeps q.all

/-- the ground stands where nothing but what came later is turned -/
theorem Gr.modW {W : List Addr} {s₀ s s' : Shared} (g : Gr s₀.heap) (q₀ : Mod [] s₀ s) (q : Mod W s s') (hW : ∀ a ∈ W, s₀.heap.get? a = none) : Gr s'.heap :=
  g.keeps (((q₀.any (W := W)).trans q).less (W' := []) fun z hz => .inr (hW z hz)).all

/-! ## names -/

inductive Nm (env : Env) (h : Heap) (x : Str) (v : Value) : Prop
  | loc (m : Str → Option Value) : env.kindOf x = some .local → h.Ns env.locals m → m x = some v → Nm env h x v
  | cel (c : Addr) : env.kindOf x = some .cell → env.cells.lookup x = some c → h.IsCell c (some v) → Nm env h x v
  | glo : env.kindOf x = some .globalImplicit → env.globals = mainGlobals → globs.lookup x = some v → Gr h → Nm env h x v
  | bui : env.kindOf x = some .globalImplicit → env.globals = mainGlobals → env.builtins = builtinsNs → buis.lookup x = some v → Gr h → Nm env h x v

theorem ev_Name {M : Model} {A : Around} {env : Env} {s : Shared} {x : Str} {v : Value} {pos : Pos} (h : Nm env s.heap x v) (hk : env.scope.kind = .function := by rfl) (hd : (x == ("__debug__" : Str)) = false := by decide) :
    Ev M A (eval (.Name x pos) env) s fun v' s' => v = v' ∧ s = s' := by
  intro E
  have fin : (fun v' s' => Mod [] s s' ∧ v = v' ∧ s = s') v s := ⟨.refl _ _, rfl, rfl⟩
  cases h with
  | loc m h1 h2 h3 => exact wpAny_Name (wpAny_loadName_local hk h1 h2 h3 fin) hd
  | cel c h1 h2 h3 => exact wpAny_Name (wpAny_loadName_cell hk h1 h2 h3 fin) hd
  | glo h1 h2 h3 g =>
    obtain ⟨mg, mb, g1, g2, g3, g4⟩ := g.names
    exact Name_function_global hk h1 (loadGlobal_global (mg := mg) (h2 ▸ g1) (g3 x v h3) fin) hd
  | bui h1 h2 h3 h4 g =>
    obtain ⟨mg, mb, g1, g2, g3, g4⟩ := g.names
    exact Name_function_global hk h1 (loadGlobal_builtin (mg := mg) (mb := mb) (h2 ▸ g1) (g4 x v h4).1 (h3 ▸ g2) (g4 x v h4).2 fin) hd

/-! ## room -/

structure AOk (k : Nat) (A : Around) : Prop where
  handled : A.handled = none
  depth : A.depth + k < recursionLimit
  units : A.units + 8 * k + 20 < cLine
theorem AOk.deeper {k : Nat} {A : Around} (h : AOk (k + 1) A) (env : Env) : AOk k (A.deeper env) :=
  ⟨h.handled, by show A.depth + 1 + k < _; have := h.depth; omega, by show A.units + 3 + 8 * k + 20 < _; have := h.units; omega⟩
theorem AOk.less {k k' : Nat} {A : Around} (h : AOk k A) (hk : k' ≤ k) : AOk k' A := ⟨h.handled, by have := h.depth; omega, by have := h.units; omega⟩
theorem AOk.room {k : Nat} {A : Around} (h : AOk k A) : A.depth < recursionLimit := by have := h.depth; omega
theorem AOk.line {k : Nat} {A : Around} (h : AOk k A) : A.units < cLine := by have := h.units; omega

/-! ## a call of a def of the text -/

structure Env0 (env : Env) (st : Stmt) : Prop where
  scope : env.scope = defScope st
  globals : env.globals = mainGlobals
  builtins : env.builtins = builtinsNs
theorem Env0.kn {env : Env} {st : Stmt} (e : Env0 env st) {y : Str} {k : NameKind} (h : (defScope st).names.lookup y = some k := by rfl) : env.kindOf y = some k := by
  unfold Env.kindOf; rw [e.scope]; exact h
theorem Env0.fn {env : Env} {st : Stmt} (e : Env0 env st) (h : (defScope st).kind = .function := by rfl) : env.scope.kind = .function := by rw [e.scope]; exact h
theorem Env0.pk {env : Env} {st : Stmt} (e : Env0 env st) (h : (defScope st).kind = .function := by rfl) : (env.scope.kind == .class || (env.scope.kind == .module && env.locals != env.globals)) = false := by rw [e.fn h]; rfl
theorem Env0.loc {env : Env} {st : Stmt} (e : Env0 env st) {hp : Heap} {y : Str} {v : Value} {m : Str → Option Value} (hn : hp.Ns env.locals m) (hv : m y = some v) (h : (defScope st).names.lookup y = some .local := by rfl) : Nm env hp y v :=
  .loc m (e.kn h) hn hv
theorem Env0.glo {env : Env} {st : Stmt} (e : Env0 env st) {hp : Heap} {y : Str} {v : Value} (g : Gr hp) (hv : globs.lookup y = some v := by rfl) (h : (defScope st).names.lookup y = some .globalImplicit := by rfl) : Nm env hp y v :=
  .glo (e.kn h) e.globals hv g
theorem Env0.bui {env : Env} {st : Stmt} (e : Env0 env st) {hp : Heap} {y : Str} {v : Value} (g : Gr hp) (hv : buis.lookup y = some v := by rfl) (h : (defScope st).names.lookup y = some .globalImplicit := by rfl) : Nm env hp y v :=
  .bui (e.kn h) e.globals e.builtins hv g

theorem call_fn {prog : Program} {w : World} {A : Around} {k : Nat} {s : Shared} {a : Addr} {name : Str} {st : Stmt} {args : List Value} (binds : List (Str × Value)) {P : Value → Shared → Prop}
    (hf : Fn s.heap a name st) (hlim : s.heap.NoLimit) (hA : AOk (k + 1) A)
    (hbind : ∀ pm cd doc, bindArgs (docDef name (defPars st) (defBody st) (defScope st) pm cd doc) ⟨args, []⟩ = pure binds)
    (hloc : (binds.all fun x => decide ((defScope st).names.lookup x.1 = some .local)) = true)
    (h : ∀ env s₁, Env0 env st → AOk k (A.deeper env) → s.heap.get? env.locals = none → Mod [] s s₁ → s₁.toks = s.toks + binds.length → s₁.heap.Ns env.locals (fun x => binds.reverse.lookup x) →
      Do (model prog w) (A.deeper env) [env.locals] (execs (defBody st) env) s₁ fun fl s' => ∃ v, fl = .ret v ∧ P v s')
    (hco : (defScope st).isCoroutine = false := by rfl) (hgen : (defScope st).isGenerator = false := by rfl) (hk : (defScope st).kind = .function := by rfl)
    (hcell : ∀ x ∈ (defScope st).names, x.2 ≠ .cell := by decide) : Ev (model prog w) A (call (.ref a) args) s P := by
  intro E
  obtain ⟨o, pm, cd, doc, ho, hd, hcd⟩ := hf
  refine wpAny_call (call_plain_ret hA.room ho hd hlim hcd (hbind pm cd doc) (locs hloc) (fun h₁ F => ?_) hco hgen hk hcell)
  have q : Mod [] s { s with heap := h₁, toks := s.toks + binds.length } := ⟨⟨_, _, rfl⟩, fun b o _ e => F.keep b o e, by simp⟩
  have hL0 : s.heap.get? s.heap.objs.size = none := Heap.get?_none_of_le (Nat.le_refl _)
  refine (h (envOf name (defScope st) s.heap.objs.size a cd) _ ⟨rfl, rfl, rfl⟩ (hA.deeper _) hL0 q rfl F.ns).cont fun fl s' q' hp => ?_
  obtain ⟨v, rfl, hv⟩ := hp
  exact ⟨((q.any).trans q').less fun z hz => .inr (by rw [List.mem_singleton.mp hz]; exact hL0), hv⟩

end Mine

/-! ### ExprB -/
namespace Mine
open PySem PySem.Calls PyProof.Rows

theorem Nm.mod {env : Env} {s s' : Shared} {x : Str} {v : Value} (q : Mod [] s s') (h : Nm env s.heap x v) : Nm env s'.heap x v := by
  cases h with
  | loc m h1 h2 h3 => exact .loc m h1 (h2.keeps q.all) h3
  | cel c h1 h2 h3 => exact .cel c h1 h2 (h3.keeps q.all)
  | glo h1 h2 h3 g => exact .glo h1 h2 h3 (g.mod q)
  | bui h1 h2 h3 h4 g => exact .bui h1 h2 h3 h4 (g.mod q)

/-- the name x holds the datum d -/
def At {δ : Type} (env : Env) (s : Shared) (x : Str) (R : Shared → Value → δ → Prop) (d : δ) : Prop := ∃ v, Nm env s.heap x v ∧ R s v d
theorem At.mod {δ : Type} {env : Env} {s s' : Shared} {x : Str} {R : Shared → Value → δ → Prop} {d : δ} (up : Up R) (q : Mod [] s s') (h : At env s x R d) : At env s' x R d := by
  obtain ⟨v, h1, h2⟩ := h; exact ⟨v, h1.mod q, up _ _ _ _ q h2⟩
theorem At.ev {δ : Type} {M : Model} {A : Around} {env : Env} {s : Shared} {x : Str} {R : Shared → Value → δ → Prop} {d : δ} {pos : Pos} (h : At env s x R d) (hk : env.scope.kind = .function := by rfl) (hd : (x == ("__debug__" : Str)) = false := by decide) :
    Ev M A (eval (.Name x pos) env) s fun v s' => R s' v d := by
  obtain ⟨v, h1, h2⟩ := h
  exact (ev_Name h1 hk hd).mono fun v' s' _ e => by rw [← e.1, ← e.2]; exact h2
/-- a value that is what it is -/
def Is (_ : Shared) (v w : Value) : Prop := v = w
theorem Is.up : Up Is := fun _ _ _ _ _ h => h

theorem upd_ne {m : Str → Option Value} {x y : Str} {v w : Value} (h : y ≠ x) (hv : m y = some w) : (fun z => if z = x then some v else m z) y = some w := by
  show (if y = x then some v else m y) = _
  rw [if_neg h]; exact hv
theorem RS.mod {lo : Nat} {W : List Addr} {s s' : Shared} {v : Value} {x : Str} (q : Mod W s s') (h : RS lo s v x) : RS lo s' v x := RS.flat lo _ _ _ _ _ q (fun a e => absurd e (h.noRef a)) h

section
variable {M : Model} {A : Around} {env : Env} {s : Shared} {pos : Pos}

theorem ev_str (lo : Nat) (hlo : lo ≤ s.toks) (x : Str) (k : Nat) : Ev M A (eval (.Constant (.str x) k pos) env) s fun v s' => RS lo s' v x :=
  fun _ => wpAny_Constant_str ⟨.toked (Nat.le_succ _), s.toks, rfl, fun _ => ⟨hlo, Nat.lt_succ_self _⟩⟩
theorem ev_int (i : Int) (k : Nat) : Ev M A (eval (.Constant (.int i) k pos) env) s fun v s' => RI s' v i :=
  fun _ => wpAny_Constant_int ⟨.toked (Nat.le_succ _), s.toks, rfl⟩
theorem ev_none (k : Nat) : Ev M A (eval (.Constant .none k pos) env) s fun v _ => v = .none := fun _ => wpAny_Constant_none ⟨.refl _ _, rfl⟩

theorem ev_BinOp {δ₁ δ₂ : Type} {R₁ : Shared → Value → δ₁ → Prop} {R₂ : Shared → Value → δ₂ → Prop} {d₁ : δ₁} {d₂ : δ₂} {P : Value → Shared → Prop} {l r : Expr} {op : Operator} (up : Up R₁)
    (hl : Ev M A (eval l env) s fun v s' => R₁ s' v d₁) (hr : ∀ s', Mod [] s s' → Ev M A (eval r env) s' fun v s' => R₂ s' v d₂)
    (hop : ∀ a b s', Mod [] s s' → R₁ s' a d₁ → R₂ s' b d₂ → Ev M A (binaryOp op a b) s' P) : Ev M A (eval (.BinOp l op r pos) env) s P :=
  fun _ => wpAny_BinOp (hl.cont fun a s₁ q₁ h₁ => (hr s₁ q₁).cont fun b s₂ q₂ h₂ =>
    (hop a b s₂ (q₁.trans q₂) (up _ _ _ _ q₂ h₁) h₂).cont fun _ _ q₃ h₃ => ⟨(q₁.trans q₂).trans q₃, h₃⟩)

theorem ev_IfExp {b : Bool} {test body orelse : Expr} {P : Value → Shared → Prop} (ht : Ev M A (isTrue test env (eval test env)) s fun v _ => v = b)
    (h1 : b = true → ∀ s', Mod [] s s' → Ev M A (eval body env) s' P) (h2 : b = false → ∀ s', Mod [] s s' → Ev M A (eval orelse env) s' P) : Ev M A (eval (.IfExp test body orelse pos) env) s P := by
  intro E
  refine wpAny_IfExp (ht.cont fun c s₁ q₁ e => ?_)
  subst e
  cases c
  · exact (h2 rfl s₁ q₁).cont fun _ _ q h => ⟨q₁.trans q, h⟩
  · exact (h1 rfl s₁ q₁).cont fun _ _ q h => ⟨q₁.trans q, h⟩

/-- a comparison as a test -/
theorem ev_test {δ₁ δ₂ : Type} {R₁ : Shared → Value → δ₁ → Prop} {R₂ : Shared → Value → δ₂ → Prop} {d₁ : δ₁} {d₂ : δ₂} {b : Bool} {l r : Expr} {op : CmpOp} {whole : Sem Value} (up : Up R₁)
    (hl : Ev M A (eval l env) s fun v s' => R₁ s' v d₁) (hr : ∀ s', Mod [] s s' → Ev M A (eval r env) s' fun v s' => R₂ s' v d₂)
    (hop : ∀ a c s', Mod [] s s' → R₁ s' a d₁ → R₂ s' c d₂ → Ev M A (compareOp op a c) s' fun v _ => v = .bool b)
    (hm : behindInMarks op r = false := by with_unfolding_all rfl) : Ev M A (isTrue (.Compare l [op] [r] pos) env whole) s fun v _ => v = b := by
  intro E
  refine wpAny_isTrue_Compare1 (hl.cont fun a s₁ q₁ h₁ => (hr s₁ q₁).cont fun c s₂ q₂ h₂ => (hop a c s₂ (q₁.trans q₂) (up _ _ _ _ q₂ h₁) h₂).cont fun v s₃ q₃ h₃ => ?_) hm
  subst h₃
  exact wpAny_truthy_bool ⟨(q₁.trans q₂).trans q₃, rfl⟩
end

section
variable {prog : Program} {w : World} {A : Around} {s : Shared}

theorem ev_add_str {lo : Nat} {a b : Value} {x y : Str} (hlo : lo ≤ s.toks) (ha : RS lo s a x) (hb : RS lo s b y) (hsz : x.length + y.length ≤ sizeLine) :
    Ev (model prog w) A (binaryOp .Add a b) s fun v s' => RS lo s' v (x ++ y) := by
  intro E
  obtain ⟨t, rfl, ht⟩ := ha
  obtain ⟨u, rfl, hu⟩ := hb
  refine P.add_str ?_
  by_cases hx : x.length = 0
  · have e : x ++ y = y := by
      have : x.cps = #[] := Array.eq_empty_of_size_eq_zero hx
      exact Str.ext' (by rw [Str.cps_append, this]; simp)
    rw [if_pos (by simp [hx])]
    exact ⟨.refl _ _, u, by rw [e], by rw [e]; exact hu⟩
  · rw [if_neg (by simpa using hx)]
    by_cases hy : y.length = 0
    · have e : x ++ y = x := by
        have : y.cps = #[] := Array.eq_empty_of_size_eq_zero hy
        exact Str.ext' (by rw [Str.cps_append, this]; simp)
      rw [if_pos (by simp [hy])]
      exact ⟨.refl _ _, t, by rw [e], by rw [e]; exact ht⟩
    · rw [if_neg (by simpa using hy)]
      refine ⟨by rw [Str.length_append]; exact hsz, .toked (Nat.le_succ _), s.toks, rfl, fun _ => ⟨hlo, Nat.lt_succ_self _⟩⟩

/-- two strs that aren't empty: a new one -/
theorem ev_add_new {lo : Nat} {x y : Str} {t u : Tok} (hlo : lo ≤ s.toks) (hx : x.length ≠ 0) (hy : y.length ≠ 0) (hsz : x.length + y.length ≤ sizeLine) :
    Ev (model prog w) A (binaryOp .Add (.str x t) (.str y u)) s fun v s' => RS lo s' v (x ++ y) := by
  intro E
  refine P.add_str ?_
  rw [if_neg (by simpa using hx), if_neg (by simpa using hy)]
  exact ⟨by rw [Str.length_append]; exact hsz, .toked (Nat.le_succ _), s.toks, rfl, fun _ => ⟨hlo, Nat.lt_succ_self _⟩⟩

theorem str_toList_beq (x y : Str) : (x.cps.toList == y.cps.toList) = decide (x = y) := by
  by_cases h : x = y
  · subst h; simp
  · rw [decide_eq_false h, beq_eq_false_iff_ne]
    exact fun e => h (Str.ext' (Array.toList_inj.mp e))
theorem ev_eq_str {lo lo' : Nat} {a b : Value} {x y : Str} (ha : RS lo s a x) (hb : RS lo' s b y) :
    Ev (model prog w) A (compareOp .Eq a b) s fun v _ => v = .bool (decide (x = y)) := by
  intro E
  obtain ⟨t, rfl, _⟩ := ha
  obtain ⟨u, rfl, _⟩ := hb
  exact P.eq_str ⟨.refl _ _, by rw [str_toList_beq]⟩
theorem ev_ne_str {lo lo' : Nat} {a b : Value} {x y : Str} (ha : RS lo s a x) (hb : RS lo' s b y) :
    Ev (model prog w) A (compareOp .NotEq a b) s fun v _ => v = .bool (decide (x ≠ y)) := by
  intro E
  obtain ⟨t, rfl, _⟩ := ha
  obtain ⟨u, rfl, _⟩ := hb
  refine P.ne_str ⟨.refl _ _, ?_⟩
  show Value.bool (!(x.cps.toList == y.cps.toList)) = _
  rw [str_toList_beq]; simp
end

end Mine

/-! ### Concat -/
namespace Mine
open PySem PySem.Calls PyProof.Rows

section
variable {prog : Program} {w : World} {A : Around} {s : Shared} {k : Nat}

theorem ev_hasattr {lo : Nat} {a b : Value} {x : Str} (ha : RS lo s a x) (hb : RS lo s b (Str.ofString "__getitem__")) :
    Ev (model prog w) A (call (.builtin "hasattr") [a, b]) s fun v _ => v = .bool true := by
  obtain ⟨t, rfl, _⟩ := ha
  obtain ⟨u, rfl, _⟩ := hb
  refine Ev.of fun E => ?_
  obtain ⟨h, g, d, tk, os⟩ := s
  exact hasattr_str fun o => ⟨⟨_, _, rfl, fun _ _ e => Heap.get?_push_of_some _ e⟩, fun _ => rfl⟩

theorem concat_ok {lo : Nat} {a b : Value} {x y : Str} (g : Gr s.heap) (hA : AOk (k + 1) A) (hlo : lo ≤ s.toks) (ha : RS lo s a x) (hb : RS lo s b y) (hsz : x.length + y.length ≤ sizeLine) :
    Ev (model prog w) A (call (.ref 60) [a, b]) s fun v s' => RS lo s' v (x ++ y) := by
  refine call_fn [(Str.ofString "a", a), (Str.ofString "b", b)] g.concat g.nolimit hA (fun _ _ _ => by kernel_rfl) (by kernel_rfl) fun env s₁ ev hA₁ hL q htk hn => ?_
  have g₁ := g.mod q
  have up := (RS.flat lo).up
  have va : At env s₁ (Str.ofString "a") (RS lo) x := ⟨a, ev.loc hn rfl, up _ _ _ _ q ha⟩
  have vb : At env s₁ (Str.ofString "b") (RS lo) y := ⟨b, ev.loc hn rfl, up _ _ _ _ q hb⟩
  have hlo₁ : lo ≤ s₁.toks := Nat.le_trans hlo q.toks
  have hk := ev.fn
  intro E
  conv in execs _ _ => arg 1; whnf
  refine wpAny_execs_cons (wpAny_If (isTrue_not (isTrue_plain (Call_ ((ev_Name (ev.bui g₁) hk).cont fun f s₂ q₂ e => ?_)))))
  obtain ⟨rfl, rfl⟩ := e
  refine PyProof.Rows.callWith_builtin1 (args_cons ((va.ev hk).cont fun v1 s₃ q₃ h₃ => args_cons ((ev_str lo (Nat.le_trans hlo₁ q₃.toks) _ _).cont fun v2 s₄ q₄ h₄ => args_nil ?_)))
  refine (ev_hasattr (up _ _ _ _ q₄ h₃) h₄).cont fun v s₅ q₅ e => ?_
  subst e
  refine wpAny_truthy_bool ?_
  simp only [Bool.not_true, Bool.false_eq_true, if_false]
  have q' := (q₃.trans q₄).trans q₅
  refine wpAny_execs_nil (wpAny_execs_cons (wpAny_Return_some ?_))
  refine (ev_BinOp up ((va.mod up q').ev hk) (fun s₆ q₆ => ((vb.mod up (q'.trans q₆)).ev hk)) (fun a' b' s₆ q₆ h1 h2 => ev_add_str (Nat.le_trans hlo₁ (q'.trans q₆).toks) h1 h2 hsz)).cont fun v s₇ q₇ h₇ => ?_
  exact ⟨(q'.trans q₇).any, v, rfl, h₇⟩
end
end Mine

/-! ### Reduce -/
namespace Mine
open PySem PySem.Calls PyProof.Rows

section
variable {prog : Program} {w : World} {A : Around} {s : Shared} {k : Nat}

theorem ev_iter_list {l : Addr} {its : Array Value} (hl : s.heap.PlainList l its) :
    Ev (model prog w) A (call (.builtin "iter") [.ref l]) s fun v s' => ∃ I, v = .ref I ∧ s.heap.get? I = none ∧ s'.heap.IsListIter I l 0 := by
  intro E
  refine call_function_entry (by decide +kernel) (by decide +kernel) PySem.W.kdk_entry_iter (PySem.W.kdk_args_iter _) ?_
  unfold Builtin.«iter»
  refine wpAny_bind (m := someArgs "iter" 1 2 _) (wpAny_of_eq (a := [Value.ref l]) (by first | rfl | kernel_rfl!) ?_)
  refine wpAny_bind (wpAny_pyIter_list hl.isList ?_)
  exact wpAny_pure ⟨_, rfl, .pushed _, _, rfl, Heap.get?_none_of_le (Nat.le_refl _), ⟨_, Heap.get?_push_size _ rfl, rfl, rfl⟩⟩

theorem do_next_list {I l : Addr} {its : Array Value} {i : Nat} {v : Value} (hit : s.heap.IsListIter I l i) (hl : s.heap.PlainList l its) (hv : its[i]? = some v) :
    Do (model prog w) A [I] (call (.builtin "next") [.ref I]) s fun v' s' => v' = v ∧ s'.heap.IsListIter I l (i + 1) := by
  intro E
  obtain ⟨o, ho, hc, hd⟩ := id hit
  obtain ⟨nl, hol⟩ := hl
  refine call_function_entry (by decide +kernel) (by decide +kernel) PySem.W.kdk_entry_next (PySem.W.kdk_args_next _) ?_
  unfold Builtin.«next»
  refine wpAny_bind (m := someArgs "next" 1 2 _) (wpAny_of_eq (a := [Value.ref I]) (by first | rfl | kernel_rfl!) ?_)
  dsimp only
  refine wpAny_bind (wpAny_specialOf (name := Str.ofString "__next__") hit.typeIs slot_listiter_next.lookup ?_)
  refine wpAny_ite_split (fun hab => absurd hab (by decide)) (fun _ => ?_)
  refine wpAny_bind (wpAny_callSpecial?_slot (name := Str.ofString "__next__") hit.typeIs slot_listiter_next (wpAny_call_entry slot_listiter_next hit.typeIs entry_listiter_next ?_ (args_listiter_next _)))
  show wpAny _ _ (field (.ref I) 0 >>= _) _ _ s
  refine wpAny_bind (wpAny_field ho hd (x := .ref l) rfl ?_)
  show wpAny _ _ (if (Value.ref l == Value.none) = true then _ else _) _ _ s
  rw [if_neg (show ¬ ((Value.ref l == Value.none) = true) from Bool.false_ne_true)]
  show wpAny _ _ (field (.ref I) 1 >>= _) _ _ s
  refine wpAny_bind (wpAny_field ho hd (x := .int i 0) rfl ?_)
  show wpAny _ _ (seqItems? (.ref l) >>= _) _ _ s
  refine wpAny_bind (wpAny_seqItems hol rfl ?_)
  simp only [Int.toNat_natCast, hv]
  refine wpAny_bind (wpAny_setField ho hd (by simp) (wpAny_pure ⟨v, rfl, wpAny_pure ⟨_, rfl, Mod.sameBut (Heap.SameBut.update ..) (List.mem_singleton.mpr rfl), rfl, ?_⟩⟩))
  exact ⟨_, Heap.get?_update_self _ ho (Obj.isFreed_of_fields (Obj.data_mapFields hd _)), (Obj.cls_mapFields ..).trans hc, by
    rw [Obj.data_mapFields hd]; simp [rawInt]⟩

/-- a name of the frame is stored -/
theorem do_store {M : Model} {A : Around} {s : Shared} {env : Env} {x : Str} {v : Value} {m : Str → Option Value} (hn : s.heap.Ns env.locals m) (hx : env.kindOf x = some .local)
    (hp : (env.scope.kind == .class || (env.scope.kind == .module && env.locals != env.globals)) = false := by rfl) :
    Do M A [env.locals] (storeName env x v) s fun _ s' => s'.heap.Ns env.locals (fun z => if z = x then some v else m z) := fun _ =>
  wpAny_storeName_local hx hn (fun h' hn' hs' => ⟨⟨⟨_, _, rfl⟩, fun b o hb e => (hs'.2 b (by simpa using hb)).trans e, Nat.le_succ _⟩, hn'⟩) hp

theorem Ns_ne_list {h : Heap} {L l : Addr} {m : Str → Option Value} {its : Array Value} (hn : h.Ns L m) (hl : h.PlainList l its) : l ≠ L := by
  rintro rfl
  obtain ⟨o, es, ep, ho, hd, _⟩ := hn
  obtain ⟨n, e⟩ := hl
  rw [e] at ho
  cases ho
  cases hd
theorem Ns_ne_iter {h : Heap} {L I l : Addr} {i : Nat} {m : Str → Option Value} (hn : h.Ns L m) (hl : h.IsListIter I l i) : I ≠ L := by
  rintro rfl
  obtain ⟨o, es, ep, ho, hd, _⟩ := hn
  obtain ⟨o', e, _, hd'⟩ := hl
  rw [e] at ho
  cases ho
  rw [hd'] at hd
  cases hd
end
end Mine

/-! ### Reduce2 -/
namespace Mine
open PySem PySem.Calls PyProof.Rows

def lens (xs : List Str) : Nat := (xs.map Str.length).sum
theorem lens_foldl : ∀ (xs : List Str) (x : Str), (xs.foldl (· ++ ·) x).length = x.length + lens xs
  | [], x => by simp [lens]
  | y :: r, x => by rw [List.foldl_cons, lens_foldl r, Str.length_append]; simp [lens]; omega
theorem lens_take (xs : List Str) (i : Nat) : lens (xs.take i) ≤ lens xs := by
  unfold lens
  conv => rhs; rw [← List.take_append_drop i xs]
  rw [List.map_append, List.sum_append]; omega

section
variable {prog : Program} {w : World} {A : Around} {s : Shared} {k : Nat}

theorem reduce_enter {a : Addr} {P : Value → Shared → Prop} (g : Gr s.heap) (hA : AOk (k + 1) A)
    (h : ∀ env s₁, Env0 env (stmtN 7) → AOk k (A.deeper env) → s.heap.get? env.locals = none → Mod [] s s₁ →
      s₁.heap.Ns env.locals (fun x => [(Str.ofString "function", Value.ref 60), (Str.ofString "sequence", .ref a), (Str.ofString "initial", .ref 45)].reverse.lookup x) →
      Do (model prog w) (A.deeper env) [env.locals] (execs (defBody (stmtN 7)) env) s₁ fun fl s' => ∃ v, fl = .ret v ∧ P v s') : Ev (model prog w) A (call (.ref 53) [.ref 60, .ref a]) s P := by
  intro E
  obtain ⟨o, pm, cd, doc, ho, hd, hcd⟩ := g.reduce
  refine wpAny_call (codeAny_call_def (binds := [(Str.ofString "function", .ref 60), (Str.ofString "sequence", .ref a), (Str.ofString "initial", .ref 45)]) hA.room ho hd g.nolimit hcd rfl
    (BindsTo.of_defaults rfl g.dflt rfl rfl rfl) (show ∀ x ∈ (defScope (stmtN 7)).names, x.2 ≠ .cell by decide) (locs (by kernel_rfl)) (fun h₁ hn hk => ?_) rfl rfl rfl)
  have q : Mod [] s { s with heap := h₁, toks := s.toks + 3 } := ⟨⟨_, _, rfl⟩, fun b o _ e => hk b o e, by simp⟩
  have hL0 : s.heap.get? s.heap.objs.size = none := Heap.get?_none_of_le (Nat.le_refl _)
  refine (h (envOf (Str.ofString "reduce") (defScope (stmtN 7)) s.heap.objs.size 53 cd) _ ⟨rfl, rfl, rfl⟩ (hA.deeper _) hL0 q hn).cont fun fl s' q' hp => ?_
  obtain ⟨v, rfl, hv⟩ := hp
  exact ⟨((q.any).trans q').less fun z hz => .inr (by rw [List.mem_singleton.mp hz]; exact hL0), hv⟩

theorem reduce_ok {lo : Nat} {v : Value} {x : Str} {xs : List Str} (g : Gr s.heap) (hA : AOk (k + 2) A) (hlo : lo ≤ s.toks) (hv : RL (RS lo) s v (x :: xs)) (hsz : x.length + lens xs ≤ sizeLine) :
    Ev (model prog w) A (call (.ref 53) [.ref 60, v]) s fun v s' => RS lo s' v (xs.foldl (· ++ ·) x) := by
  obtain ⟨l, its, rfl, hl, hp⟩ := hv
  refine reduce_enter g hA fun env s₁ ev hA₁ hL q₁ hn₁ => ?_
  have hk := ev.fn
  have hpk := ev.pk
  have g₁ := g.mod q₁
  intro E
  conv in execs _ _ => arg 1; whnf
  -- it = iter(sequence)
  refine wpAny_execs_cons (wpAny_Assign_Name (Call_ ((ev_Name (ev.bui g₁) hk).cont fun f s₂ q₂ e => ?_)))
  obtain ⟨rfl, rfl⟩ := e
  refine PyProof.Rows.callWith_builtin1 (args_cons ((ev_Name (ev.loc hn₁ rfl) hk).cont fun v1 s₃ q₃ e => args_nil ?_))
  obtain ⟨rfl, rfl⟩ := e
  refine (ev_iter_list (hl.at fun o e => q₁.all _ o e)).cont fun v2 s₄ q₄ h₄ => ?_
  obtain ⟨I, rfl, hI, hit⟩ := h₄
  refine (do_store (hn₁.keeps q₄.all) ev.kn hpk).cont fun _ s₅ q₅ hn₅ => ?_
  have hI0 : s.heap.get? I = none := q₁.freshBack (by simp) hI
  have hIL : I ≠ env.locals := Ns_ne_iter (hn₁.keeps q₄.all) hit
  have b₅ : Mod [env.locals, I] s₁ s₅ := (q₄.any).trans (q₅.wider (by simp))
  have fresh : ∀ a ∈ [env.locals, I], s.heap.get? a = none := by
    intro a ha; simp only [List.mem_cons, List.not_mem_nil, or_false] at ha; rcases ha with rfl | rfl <;> assumption
  have gr : ∀ s', Mod [env.locals, I] s₁ s' → Gr s'.heap := fun s' q => g.modW q₁ q fresh
  have lst : ∀ s', Mod [env.locals, I] s₁ s' → s'.heap.PlainList l its := fun s' q => hl.at fun o e => q.keep _ o (fun hm => by rw [fresh _ hm] at e; cases e) (q₁.all _ _ e)
  have hit₅ : s₅.heap.IsListIter I l 0 := hit.at fun o e => q₅.keep _ o (by simpa using hIL) e
  -- if initial is _initial_missing
  refine wpAny_execs_cons (wpAny_If ((ev_test (R₁ := Is) (R₂ := Is) (d₁ := .ref 45) (d₂ := .ref 45) (b := true) Is.up ((ev_Name (ev.loc hn₅ rfl) hk).mono fun _ _ _ e => e.1.symm)
    (fun s' q => (ev_Name (ev.glo (gr s' (b₅.trans q.any))) hk).mono fun _ _ _ e => e.1.symm) (fun a c s' _ ha hc => ?_)).cont fun b s₆ q₆ e => ?_))
  · intro E; rw [show a = .ref 45 from ha, show c = .ref 45 from hc]; exact wpAny_is_ref_self ⟨.refl _ _, rfl⟩
  subst e
  rw [if_pos rfl]
  have b₆ : Mod [env.locals, I] s₁ s₆ := b₅.trans q₆.any
  -- value = next(it)
  obtain ⟨v₀, hv₀, hr₀⟩ := Paired.at' hp (i := 0) (b := x) rfl
  refine wpAny_execs_cons (wpAny_Try_except (wpAny_execs_cons (wpAny_Assign_Name (Call_ ((ev_Name (ev.bui (gr s₆ b₆)) hk).cont fun f s₇ q₇ e => ?_)))))
  obtain ⟨rfl, rfl⟩ := e
  have hn₆ := hn₅.keeps q₆.all
  refine PyProof.Rows.callWith_builtin1 (args_cons ((ev_Name (ev.loc hn₆ rfl) hk).cont fun v1 s₈ q₈ e => args_nil ?_))
  obtain ⟨rfl, rfl⟩ := e
  refine (do_next_list (hit₅.at fun o e => q₆.all _ o e) (lst _ b₆) (i := 0) (v := v₀) (by simpa using hv₀)).cont fun v' s₉ q₉ e => ?_
  obtain ⟨e₉, hit₉⟩ := e
  subst e₉
  have hn₉ := hn₆.at fun o e => q₉.keep _ o (by simpa using Ne.symm hIL) e
  refine (do_store hn₉ ev.kn hpk).cont fun _ s₁₀ q₁₀ hn₁₀ => ?_
  refine wpAny_execs_nil (wpAny_execs_nil (wpAny_execs_nil ?_))
  have b₁₀ : Mod [env.locals, I] s₁ s₁₀ := (b₆.trans (q₉.wider (by simp))).trans (q₁₀.wider (by simp))
  -- for element in it
  have hlen : its.size = xs.length + 1 := by have := Paired.length hp; simpa using this
  have hn₁₀' : ∃ m v, s₁₀.heap.Ns env.locals m ∧ m (Str.ofString "function") = some (.ref 60) ∧ m (Str.ofString "value") = some v ∧ RS lo s₁₀ v x :=
    ⟨_, v', hn₁₀, rfl, rfl, (hr₀.mod q₁).mod b₁₀⟩
  refine wpAny_execs_cons (wpAny_For ((ev_Name (ev.loc hn₁₀ rfl) hk).cont fun v₁ s₁₁ q₁₁ e => ?_))
  obtain ⟨rfl, rfl⟩ := e
  have hit₁₀ : s₁₀.heap.IsListIter I l 1 := hit₉.at fun o e => q₁₀.keep _ o (by simpa using hIL) e
  refine wpAny_pyIter_listiter hit₁₀ ?_
  have hne : l ≠ I := by rintro rfl; obtain ⟨n, e⟩ := hl; rw [hI0] at e; cases e
  have hlL : l ≠ env.locals := by rintro rfl; obtain ⟨n, e⟩ := hl; rw [hL] at e; cases e
  refine for_from (fun i s' => Mod [env.locals, I] s₁ s' ∧ ∃ m v, s'.heap.Ns env.locals m ∧ m (Str.ofString "function") = some (.ref 60) ∧ m (Str.ofString "value") = some v ∧ RS lo s' v ((xs.take (i - 1)).foldl (· ++ ·) x))
    (Walks.list hA₁.handled I l hne its) 1 (by omega) (fun i s' v Q E st h => letGo_listiter st.1 h) ?_ ?_ ⟨hit₁₀, (lst _ b₁₀).isList⟩ ⟨b₁₀, by simpa using hn₁₀'⟩ ?_
  · rintro i s' s'' ⟨b, m, v, hn, h1, h2, hr⟩ q
    exact ⟨b.trans (q.wider (by simp)), m, v, hn.at fun o e => q.keep _ o (by simpa using Ne.symm hIL) e, h1, h2, hr.mod q⟩
  · rintro i y s' E' hi1 hi hy ⟨b, m, v, hn, h1, h2, hr⟩ st
    obtain ⟨d, hd, hrd⟩ := Paired.at hp (i := i) (a := y) (by simpa using hy)
    have hd' : xs[i - 1]? = some d := by
      obtain ⟨j, rfl⟩ : ∃ j, i = j + 1 := ⟨i - 1, by omega⟩
      simpa using hd
    refine wpAny_assign_Name ((do_store hn ev.kn hpk).cont fun _ s₁₂ q₁₂ hn₁₂ => ?_)
    have h1' : (fun z => if z = Str.ofString "element" then some y else m z) (Str.ofString "function") = some (.ref 60) := upd_ne (by decide) h1
    have b₁₂ : Mod [env.locals, I] s₁ s₁₂ := b.trans (q₁₂.wider (by simp))
    have hry : RS lo s₁₂ y d := (hrd.mod q₁).mod b₁₂
    have hrv : RS lo s₁₂ v ((xs.take (i - 1)).foldl (· ++ ·) x) := hr.mod q₁₂
    obtain ⟨oc, pmc, cdc, docc, hoc, hdc, _⟩ := (gr _ b₁₂).concat
    refine wpAny_execs_cons (wpAny_Assign_Name (Call_ ((ev_Name (ev.loc hn₁₂ (upd_ne (by decide) h1)) hk).cont fun f s₁₃ q₁₃ e => ?_)))
    obtain ⟨rfl, rfl⟩ := e
    refine callWith_def hdc (args_cons ((ev_Name (ev.loc hn₁₂ (upd_ne (by decide) h2)) hk).cont fun v1 s₁₄ q₁₄ e => args_cons ?_))
    obtain ⟨rfl, rfl⟩ := e
    refine (ev_Name (ev.loc hn₁₂ rfl) hk).cont fun v2 s₁₅ q₁₅ e => args_nil ⟨?_, ?_⟩
    · obtain ⟨rfl, rfl⟩ := e; exact hoc
    obtain ⟨rfl, rfl⟩ := e
    have hle : (List.foldl (fun x1 x2 => x1 ++ x2) x (xs.take (i - 1))).length + d.length ≤ sizeLine := by
      have e1 := lens_take xs i
      have e2 : xs.take i = xs.take (i - 1) ++ [d] := by
        obtain ⟨j, rfl⟩ : ∃ j, i = j + 1 := ⟨i - 1, by omega⟩
        rw [List.take_add_one]; simp at hd'; simp [hd']
      rw [e2] at e1
      rw [lens_foldl]
      unfold lens at e1 ⊢
      rw [List.map_append, List.sum_append] at e1
      simp only [List.map_cons, List.map_nil, List.sum_cons, List.sum_nil, Nat.add_zero] at e1
      unfold lens at hsz
      omega
    refine (concat_ok (gr _ b₁₂) hA₁ (Nat.le_trans (Nat.le_trans hlo q₁.toks) b₁₂.toks) hrv hry hle).cont fun v3 s₁₆ q₁₆ hr₁₆ => ?_
    refine (do_store (hn₁₂.keeps q₁₆.all) ev.kn hpk).cont fun _ s₁₇ q₁₇ hn₁₇ => ?_
    refine wpAny_execs_nil ⟨rfl, ⟨(b₁₂.trans q₁₆.any).trans (q₁₇.wider (by simp)), _, v3, hn₁₇, upd_ne (by decide) h1', rfl, ?_⟩, ?_⟩
    · have e2 : xs.take (i + 1 - 1) = xs.take (i - 1) ++ [d] := by
        obtain ⟨j, rfl⟩ : ∃ j, i = j + 1 := ⟨i - 1, by omega⟩
        rw [Nat.add_sub_cancel, List.take_add_one]; simp at hd'; simp [hd']
      rw [e2, List.foldl_append]
      exact hr₁₆.mod q₁₇
    · intro b' hb' o' e'
      have hb2 : b' ∉ [env.locals] := by
        simp only [List.mem_cons, List.not_mem_nil, or_false] at hb' ⊢
        rcases hb' with rfl | rfl
        · exact hIL
        · exact hlL
      exact q₁₇.keep _ _ hb2 (q₁₆.all _ _ (q₁₂.keep _ _ hb2 e'))
  · rintro s' ⟨b, m, v, hn, h1, h2, hr⟩
    dsimp only
    refine wpAny_execs_cons (wpAny_Return_some ((ev_Name (ev.loc hn h2) hk).cont fun v4 s₁₈ q₁₈ e => ?_))
    obtain ⟨rfl, rfl⟩ := e
    refine ⟨b.less fun z hz => ?_, _, rfl, ?_⟩
    · simp only [List.mem_cons, List.not_mem_nil, or_false] at hz
      rcases hz with rfl | rfl
      · exact .inl (by simp)
      · exact .inr hI
    · rw [hlen, Nat.add_sub_cancel, List.take_length] at hr
      exact hr
end
end Mine

/-! ### ForC -/
namespace Mine
open PySem PySem.Calls PyProof.Rows

theorem Heap.fresh_size (h : Heap) : h.get? h.objs.size = none := Heap.get?_none_of_le (Nat.le_refl _)
theorem Mod.consNew {W : List Addr} {I : Addr} {s s' : Shared} (q : Mod (I :: W) s s') (hI : s.heap.get? I = none) : Mod W s s' :=
  q.less fun z hz => by
    rcases List.mem_cons.mp hz with rfl | h
    · exact .inr hI
    · exact .inl h

section
variable {prog : Program} {w : World} {A : Around} {target iter : Expr} {body : List Stmt} {env : Env} {I : Addr} {fp wr : List Addr} {n : Nat} {P : Nat → Value → Prop} {St : Nat → Heap → Prop}

theorem for_from2 {s : Shared} {Rz : Result → Shared → Prop} (J : Nat → Shared → Prop) (W : Walks prog w A I fp wr n P St) (i₀ : Nat) (hi₀ : i₀ ≤ n)
    (hgo : ∀ i (s' : Shared) v (Q : Unit → Shared → Prop) (E : Value → Shared → Prop), St i s'.heap → Q () s' → wpAny (model prog w) A (letOwnedTupleGo target (.ref I) v) Q E s')
    (hJ : ∀ i s s', St i s.heap → J i s → Mod wr s s' → J i s')
    (turn : ∀ i v s E, i₀ ≤ i → i < n → P i v → J i s → St (i + 1) s.heap → wpAny (model prog w) A (assign target env v) (fun _ s₂ => wpAny (model prog w) A (execs body env) (fun fl s₃ =>
      fl = .next ∧ J (i + 1) s₃ ∧ ∀ b ∈ fp, ∀ o, s.heap.get? b = some o → s₃.heap.get? b = some o) E s₂) E s)
    (hst : St i₀ s.heap) (h0 : J i₀ s) (hend : ∀ s', J n s' → Rz (.ok .next) s') :
    codeAny (model prog w) A (.forLoop target (.ref I) body [] env) Rz s := by
  refine codeAny_forLoop_any (fun k s' => ∃ i, J i s' ∧ St i s'.heap ∧ i₀ ≤ i ∧ i ≤ n ∧ k = n + 1 - i) ?_ (n + 1 - i₀) ⟨i₀, h0, hst, Nat.le_refl _, hi₀, rfl⟩
  rintro k s' ⟨i, hj, hs, hi', hi, rfl⟩
  by_cases hlt : i < n
  · refine wpAny_with_toks (n := s'.toks) (Nat.le_refl _) (W.item i _ _ _ hlt hs fun v h₁ tk₁ hP hst₁ hk₁ htk => ?_)
    refine hgo _ _ _ _ _ hst₁ ?_
    have q₁ : Mod wr s' { s' with heap := h₁, toks := tk₁ } := ⟨⟨_, _, rfl⟩, hk₁, htk⟩
    refine wpAny_mono (turn i v _ _ hi' hlt hP (hJ _ _ _ hs hj q₁) hst₁) (fun _ s₂ h₂ => wpAny_mono h₂ (fun fl s₃ h₃ => ?_) fun _ _ e => e) fun _ _ e => e
    obtain ⟨rfl, hj₃, hk₃⟩ := h₃
    exact ⟨n + 1 - (i + 1), by omega, i + 1, hj₃, W.frame _ _ _ hst₁ hk₃, by omega, hlt, rfl⟩
  · have hin : i = n := by omega
    subst hin
    refine wpAny_with_toks (n := s'.toks) (Nat.le_refl _) (W.done _ _ _ hs fun h₁ tk₁ hk₁ htk => wpAny_execs_nil ?_)
    exact hend _ (hJ _ _ _ hs hj ⟨⟨_, _, rfl⟩, hk₁, htk⟩)
end

theorem iter_str {prog : Program} {w : World} {A : Around} {E : Value → Shared → Prop} {s : Shared} {x : Str} {t : Tok} {Q : Value → Shared → Prop}
    (hQ : ∀ (o : Obj) (St : Nat → Heap → Prop), (∀ A' : Around, A'.handled = none → Walks prog w A' s.heap.objs.size [s.heap.objs.size] [s.heap.objs.size] x.cps.size (SignAt x) St) → St 0 (s.heap.push o) →
      (∀ i h, St i h → ∀ its, ¬ h.PlainList s.heap.objs.size its) →
      Q (.ref s.heap.objs.size) { s with heap := s.heap.push o }) : wpAny (model prog w) A (pyIter (.str x t)) Q E s := by
  cases ha : x.cps.all (· < 128)
  · exact wpAny_pyIter_wide ha (hQ _ _ (fun A' hh => Walks.strWide hh _ x t) ⟨_, Heap.get?_push_size _ rfl, rfl, rfl⟩ fun i h st its hl => by
      obtain ⟨o, ho, hc, hd⟩ := st
      obtain ⟨n, e⟩ := hl
      rw [ho] at e; cases e; cases hd)
  · exact wpAny_pyIter_ascii ha (hQ _ _ (fun A' hh => Walks.strAscii hh _ x t) ⟨_, Heap.get?_push_size _ rfl, rfl, rfl⟩ fun i h st its hl => by
      obtain ⟨o, ho, hc, hd⟩ := st
      obtain ⟨n, e⟩ := hl
      rw [ho] at e; cases e; cases hd)

section
variable {prog : Program} {w : World} {A : Around} {target iter : Expr} {body : List Stmt} {env : Env} {s : Shared} {pos : Pos} {W : List Addr} {Q : Flow → Shared → Prop} {E : Value → Shared → Prop}

theorem for_list {δ : Type} {R : Shared → Value → δ → Prop} {ds : List δ} (J : Nat → Shared → Prop) (hh : A.handled = none)
    (hW : ∀ a ∈ W, ∃ o, s.heap.get? a = some o)
    (hiter : Ev (model prog w) A (eval iter env) s fun v s' => RL R s' v ds ∧ Off W v)
    (hR : ∀ I s' s'' v d, Mod [] s s' → s.heap.get? I = none → R s' v d → Mod (I :: W) s' s'' → R s'' v d)
    (h0 : ∀ s', Mod [] s s' → J 0 s')
    (hJ : ∀ I i s' s'', s.heap.get? I = none → (∀ its, ¬ s'.heap.PlainList I its) → J i s' → Mod [I] s' s'' → J i s'')
    (turn : ∀ i d v s' E, ds[i]? = some d → Mod W s s' → R s' v d → J i s' → wpAny (model prog w) A (assign target env v) (fun _ s₂ => wpAny (model prog w) A (execs body env) (fun fl s₃ =>
      fl = .next ∧ Mod W s' s₃ ∧ J (i + 1) s₃) E s₂) E s')
    (fin : ∀ s', Mod W s s' → J ds.length s' → Q .next s')
    (hs : ∀ x, foldedSetIterable iter env x = pure x := by intro _; rfl) :
    wpAny (model prog w) A (exec (.For target iter body [] pos) env) Q E s := by
  refine wpAny_For (hiter.cont fun v s₁ q₁ h₁ => ?_) hs
  obtain ⟨⟨l, its, rfl, hl, hp⟩, off⟩ := h₁
  refine wpAny_pyIter_list hl.isList ?_
  have hlen : its.size = ds.length := by have := Paired.length hp; simpa using this
  have hI1 : s₁.heap.get? s₁.heap.objs.size = none := Heap.fresh_size _
  generalize hI : s₁.heap.objs.size = I at *
  have hI0 : s.heap.get? I = none := q₁.freshBack (by simp) hI1
  have hne : l ≠ I := by rintro rfl; obtain ⟨n, e⟩ := hl; rw [hI1] at e; cases e
  have hlW : l ∉ W := off l rfl
  have hIW : I ∉ W := fun hm => by obtain ⟨o, e⟩ := hW I hm; rw [hI0] at e; cases e
  have q₂ : Mod [] s₁ { s₁ with heap := s₁.heap.push { cls := .type "list_iterator", data := .fields #[.ref l, .int 0 0] } } := .pushed _
  refine for_from2 (fun i s' => Mod (I :: W) s₁ s' ∧ J i s') (Walks.list hh I l hne its) 0 (Nat.zero_le _) (fun i s' v Q E st h => letGo_listiter st.1 h) ?_ ?_
    ⟨⟨_, hI ▸ Heap.get?_push_size _ rfl, rfl, rfl⟩, hl.isList.at fun o e => Heap.get?_push_of_some _ e⟩ ⟨q₂.any, h0 _ (q₁.trans q₂)⟩ ?_
  · rintro i s' s'' st ⟨b, j⟩ q
    exact ⟨b.trans (q.wider (by simp)), hJ I i _ _ hI0 (fun its hl' => by obtain ⟨⟨o, ho, hc, hd⟩, _⟩ := st; obtain ⟨n, e⟩ := hl'; rw [ho] at e; cases e; cases hd) j q⟩
  · rintro i y s' E' _ hi hy ⟨b, j⟩ st
    obtain ⟨d, hd, hr⟩ := Paired.at hp (i := i) (a := y) (by simpa using hy)
    have bs : Mod W s s' := ((q₁.any (W := I :: W)).trans b).consNew hI0
    refine wpAny_mono (turn i d y s' _ hd bs (hR I _ _ _ _ q₁ hI0 hr b) j) (fun _ s₂ h₂ => wpAny_mono h₂ (fun fl s₃ h₃ => ?_) fun _ _ e => e) fun _ _ e => e
    obtain ⟨rfl, q₃, j₃⟩ := h₃
    refine ⟨rfl, ⟨b.trans (q₃.wider (by intro z hz; exact List.mem_cons_of_mem _ hz)), j₃⟩, fun b' hb' o' e' => q₃.keep _ _ ?_ e'⟩
    simp only [List.mem_cons, List.not_mem_nil, or_false] at hb'
    rcases hb' with rfl | rfl
    · exact hIW
    · exact hlW
  · rintro s' ⟨b, j⟩
    rw [hlen] at j
    exact fin s' (((q₁.any (W := I :: W)).trans b).consNew hI0) j

theorem for_str {x : Str} (J : Nat → Shared → Prop) (hh : A.handled = none) (hgo : ∀ it v, letOwnedTupleGo target it v = pure ())
    (hW : ∀ a ∈ W, ∃ o, s.heap.get? a = some o)
    (hiter : Ev (model prog w) A (eval iter env) s fun v _ => ∃ t, v = .str x t)
    (h0 : ∀ s', Mod [] s s' → J 0 s')
    (hJ : ∀ I i s' s'', s.heap.get? I = none → (∀ its, ¬ s'.heap.PlainList I its) → J i s' → Mod [I] s' s'' → J i s'')
    (turn : ∀ i c t s' E, x.cps[i]? = some c → Mod W s s' → J i s' → wpAny (model prog w) A (assign target env (.str ⟨#[c]⟩ t)) (fun _ s₂ => wpAny (model prog w) A (execs body env) (fun fl s₃ =>
      fl = .next ∧ Mod W s' s₃ ∧ J (i + 1) s₃) E s₂) E s')
    (fin : ∀ s', Mod W s s' → J x.cps.size s' → Q .next s')
    (hs : ∀ x, foldedSetIterable iter env x = pure x := by intro _; rfl) :
    wpAny (model prog w) A (exec (.For target iter body [] pos) env) Q E s := by
  refine wpAny_For (hiter.cont fun v s₁ q₁ h₁ => ?_) hs
  obtain ⟨t, rfl⟩ := h₁
  refine iter_str fun o St hWk hst hno => ?_
  have hI1 : s₁.heap.get? s₁.heap.objs.size = none := Heap.fresh_size _
  generalize hI : s₁.heap.objs.size = I at *
  have hI0 : s.heap.get? I = none := q₁.freshBack (by simp) hI1
  have hIW : I ∉ W := fun hm => by obtain ⟨o, e⟩ := hW I hm; rw [hI0] at e; cases e
  have q₂ : Mod [] s₁ { s₁ with heap := s₁.heap.push o } := .pushed _
  refine for_from2 (fun i s' => Mod (I :: W) s₁ s' ∧ J i s') (hWk A hh) 0 (Nat.zero_le _) (fun i s' v Q E st h => wpAny_of_eq (hgo _ _) h) ?_ ?_ hst ⟨q₂.any, h0 _ (q₁.trans q₂)⟩ ?_
  · rintro i s' s'' st ⟨b, j⟩ q
    exact ⟨b.trans (q.wider (by simp)), hJ I i _ _ hI0 (hno i _ st) j q⟩
  · rintro i y s' E' _ hi hy ⟨b, j⟩ st
    obtain ⟨c, u, hc, rfl⟩ := hy
    have bs : Mod W s s' := ((q₁.any (W := I :: W)).trans b).consNew hI0
    refine wpAny_mono (turn i c u s' _ hc bs j) (fun _ s₂ h₂ => wpAny_mono h₂ (fun fl s₃ h₃ => ?_) fun _ _ e => e) fun _ _ e => e
    obtain ⟨rfl, q₃, j₃⟩ := h₃
    refine ⟨rfl, ⟨b.trans (q₃.wider (by intro z hz; exact List.mem_cons_of_mem _ hz)), j₃⟩, fun b' hb' o' e' => q₃.keep _ _ ?_ e'⟩
    rw [List.mem_singleton.mp hb']; exact hIW
  · rintro s' ⟨b, j⟩
    exact fin s' (((q₁.any (W := I :: W)).trans b).consNew hI0) j
end

theorem Ns_old {h : Heap} {L : Addr} {m : Str → Option Value} (hn : h.Ns L m) : ∃ o, h.get? L = some o := let ⟨o, _, _, e, _⟩ := hn; ⟨o, e⟩
theorem Ns_away {s s' s'' : Shared} {L I : Addr} {m m' : Str → Option Value} (hn₀ : s.heap.Ns L m) (hI : s.heap.get? I = none) (q : Mod [I] s' s'') (hn : s'.heap.Ns L m') : s''.heap.Ns L m' :=
  hn.at fun o e => q.keep _ o (by simp only [List.mem_singleton]; rintro rfl; obtain ⟨o, e⟩ := Ns_old hn₀; rw [hI] at e; cases e) e

end Mine

/-! ### CountOf -/
namespace Mine
open PySem PySem.Calls PyProof.Rows

/-- a str whose token was drawn before n -/
def RT (n : Nat) (_ : Shared) (v : Value) (x : Str) : Prop := ∃ t, v = .str x t ∧ 0 < t ∧ t < n

section
variable {prog : Program} {w : World} {A : Around} {s : Shared} {k : Nat}

theorem ev_is_str {x y : Str} {t u : Nat} (ht : 0 < t) (hu : 0 < u) (htu : t ≠ u) (hb : NoneBooked s.heap) :
    Ev (model prog w) A (compareOp .Is (.str x t) (.str y u)) s fun v _ => ∃ b : Bool, v = .bool b ∧ (b = true → x = y) := by
  intro E
  show wpAny _ A (do return Value.bool (← isSame (.str x t) (.str y u))) _ E s
  refine wpAny_bind ?_
  show wpAny _ A (isSame.created (x == y) t u) _ E s
  unfold isSame.created
  have h0 : ((t : Tok) == 0 || (u : Tok) == 0) = false := by
    have h1 : ((t : Tok) == 0) = false := by rw [beq_eq_false_iff_ne]; exact Nat.ne_of_gt ht
    have h2 : ((u : Tok) == 0) = false := by rw [beq_eq_false_iff_ne]; exact Nat.ne_of_gt hu
    rw [h1, h2]; rfl
  have h1 : ((t : Tok) == u) = false := by rw [beq_eq_false_iff_ne]; exact htu
  refine wpAny_ite ?_
  rw [if_neg (by rw [h0]; exact Bool.false_ne_true)]
  refine wpAny_ite ?_
  rw [if_neg (by rw [h1]; exact Bool.false_ne_true)]
  refine wpAny_ite ?_
  by_cases hxy : x = y
  · rw [if_neg (by simp [hxy])]
    refine wpAny_bind (wpAny_sharingNotTold_none hb ?_)
    first | rw [if_neg Bool.false_ne_true] | simp only [Bool.false_eq_true, if_false]
    refine wpAny_bind (wpAny_sharingNotTold_none hb ?_)
    first | rw [if_neg Bool.false_ne_true] | simp only [Bool.false_eq_true, if_false]
    exact wpAny_bind (wpAny_rule (wpAny_bind (wpAny_askSetting (wpAny_pure (wpAny_pure ⟨.refl _ _, _, rfl, fun _ => hxy⟩)))))
  · rw [if_pos (by simp [hxy])]
    exact wpAny_pure (wpAny_pure ⟨.refl _ _, false, rfl, fun h => by cases h⟩)

theorem countOf_ok {n : Nat} {a b : Value} {xs : List Str} {y : Str} (g : Gr s.heap) (hA : AOk (k + 1) A) (ha : RL (RT n) s a xs) (hb : ∃ u, b = .str y u ∧ n ≤ u) (hn0 : 0 < n) :
    Ev (model prog w) A (call (.ref 67) [a, b]) s fun v s' => RI s' v (xs.count y : Int) := by
  obtain ⟨l, its, rfl, hl, hp⟩ := ha
  obtain ⟨u, rfl, hu⟩ := hb
  refine call_fn [(Str.ofString "a", .ref l), (Str.ofString "b", .str y u)] g.countOf g.nolimit hA (fun _ _ _ => by kernel_rfl) (by kernel_rfl) fun env s₁ ev hA₁ hL q₁ htk hn₁ => ?_
  have hk := ev.fn
  have hpk := ev.pk
  intro E
  conv in execs _ _ => arg 1; whnf
  -- count = 0
  refine wpAny_execs_cons (wpAny_Assign_Name ((ev_int _ _).cont fun v₀ s₂ q₂ h₂ => ?_))
  refine (do_store (hn₁.keeps q₂.all) ev.kn hpk).cont fun _ s₃ q₃ hn₃ => ?_
  have b₃ : Mod [env.locals] s₁ s₃ := (q₂.any).trans q₃
  -- for i in a
  have hLold : ∀ a ∈ [env.locals], ∃ o, s₃.heap.get? a = some o := by intro a ha; rw [List.mem_singleton.mp ha]; exact Ns_old hn₃
  have fresh : ∀ a ∈ [env.locals], s.heap.get? a = none := by intro a ha; rw [List.mem_singleton.mp ha]; exact hL
  have lst : s₃.heap.PlainList l its := hl.at fun o e => b₃.keep _ o (fun hm => by rw [fresh _ hm] at e; cases e) (q₁.all _ _ e)
  have gr : ∀ s', Mod [env.locals] s₁ s' → Gr s'.heap := fun s' q => g.modW q₁ q fresh
  obtain ⟨t₀, rfl⟩ := h₂
  refine wpAny_execs_cons (for_list (W := [env.locals]) (R := RT n) (ds := xs)
    (fun i s' => ∃ m t, s'.heap.Ns env.locals m ∧ m (Str.ofString "b") = some (.str y u) ∧ m (Str.ofString "count") = some (.int ((xs.take i).count y : Int) t)) hA₁.handled hLold
    ((ev_Name (ev.loc hn₃ rfl) hk).mono fun v s' _ e => ?_) (fun _ _ _ _ _ _ _ h _ => h) (fun s' q => ⟨_, t₀, hn₃.keeps q.all, rfl, by simp⟩)
    (fun I i s' s'' hI _ h q => ?_) (fun i d v s' E hd b hr h => ?_) fun s' b h => ?_)
  · obtain ⟨rfl, rfl⟩ := e
    exact ⟨⟨l, its, rfl, lst, hp⟩, fun a ha hm => by cases ha; exact Ns_ne_list hn₃ lst (List.mem_singleton.mp hm)⟩
  · obtain ⟨m, t, hn, h1, h2⟩ := h
    exact ⟨m, t, Ns_away hn₃ hI q hn, h1, h2⟩
  · obtain ⟨m, t, hn, h1, h2⟩ := h
    obtain ⟨tv, rfl, htv0, htv⟩ := hr
    refine wpAny_assign_Name ((do_store hn ev.kn hpk).cont fun _ s₅ q₅ hn₅ => ?_)
    have b₅ : Mod [env.locals] s₁ s₅ := (b₃.trans b).trans q₅
    have vi : ∀ s', Mod [] s₅ s' → Nm env s'.heap (Str.ofString "i") (.str d tv) := fun s' q => (ev.loc hn₅ rfl : Nm env s₅.heap (Str.ofString "i") (.str d tv)).mod q
    have vb : ∀ s', Mod [] s₅ s' → Nm env s'.heap (Str.ofString "b") (.str y u) := fun s' q => (ev.loc hn₅ (upd_ne (by decide) h1) : Nm env s₅.heap (Str.ofString "b") (.str y u)).mod q
    have test : ∀ p1 p2 p3 p4 p5 p6 p7 whole, Ev (model prog w) (A.deeper env) (isTrue (.BoolOp .Or [.Compare (.Name (Str.ofString "i") p1) [.Is] [.Name (Str.ofString "b") p2] p3, .Compare (.Name (Str.ofString "i") p4) [.Eq] [.Name (Str.ofString "b") p5] p6] p7) env whole) s₅ fun c _ => c = decide (d = y) := by
      intro p1 p2 p3 p4 p5 p6 p7 whole E
      refine wpAny_isTrue_BoolOp (wpAny_allTrue_Or_cons ?_)
      refine wpAny_isTrue_Compare1 ((ev_Name (vi _ (.refl _ _)) hk).cont fun a1 s₆ q₆ e => ?_)
      obtain ⟨rfl, rfl⟩ := e
      refine (ev_Name (vb _ (.refl _ _)) hk).cont fun a2 s₇ q₇ e => ?_
      obtain ⟨rfl, rfl⟩ := e
      refine (ev_is_str htv0 (Nat.lt_of_lt_of_le hn0 hu) (Nat.ne_of_lt (Nat.lt_of_lt_of_le htv hu)) (gr _ b₅).booked).cont fun a3 s₈ q₈ e => ?_
      obtain ⟨c, rfl, hc⟩ := e
      refine wpAny_truthy_bool ?_
      cases c with
      | true => exact ⟨q₈, by rw [hc rfl]; simp⟩
      | false =>
        simp only [Bool.false_eq_true, if_false]
        refine wpAny_allTrue_Or_cons (wpAny_isTrue_Compare1 ((ev_Name (vi _ q₈) hk).cont fun a4 s₉ q₉ e => ?_))
        obtain ⟨rfl, rfl⟩ := e
        refine (ev_Name (vb _ q₈) hk).cont fun a5 s₁₀ q₁₀ e => ?_
        obtain ⟨rfl, rfl⟩ := e
        refine P.eq_str (wpAny_truthy_bool ?_)
        rw [str_toList_beq]
        by_cases hdy : d = y
        · rw [decide_eq_true hdy, if_pos rfl]; exact ⟨q₈, rfl⟩
        · rw [decide_eq_false hdy, if_neg Bool.false_ne_true]; exact wpAny_allTrue_Or_nil ⟨q₈, rfl⟩
    refine wpAny_execs_cons (wpAny_If ((test _ _ _ _ _ _ _ _).cont fun c s₆ q₆ e => ?_))
    subst e
    have hcnt : ((xs.take (i + 1)).count y : Int) = (xs.take i).count y + if d = y then 1 else 0 := by
      rw [List.take_add_one, hd]
      by_cases hdy : d = y
      · simp [hdy]
      · simp [hdy, List.count_append]
    have hn₆ := hn₅.keeps q₆.all
    by_cases hdy : d = y
    · rw [decide_eq_true hdy, if_pos rfl]
      have h1' : (fun z => if z = Str.ofString "i" then some (Value.str d tv) else m z) (Str.ofString "b") = some (.str y u) := upd_ne (by decide) h1
      refine wpAny_execs_cons (wpAny_AugAssign_Name (wpAny_loadName_local hk (ev.kn (y := Str.ofString "count")) hn₆ (upd_ne (by decide) h2) ((ev_int _ _).cont fun v1 s₇ q₇ h₇ => ?_)))
      obtain ⟨t₇, rfl⟩ := h₇
      refine PyProof.Rows.iadd_int ?_
      refine (do_store (s := { s₇ with toks := s₇.toks + 1 }) (hn₆.keeps q₇.all) ev.kn hpk).cont fun _ s₈ q₈ hn₈ => ?_
      refine wpAny_execs_nil (wpAny_execs_nil ⟨rfl, ?_, _, s₇.toks, hn₈, upd_ne (by decide) h1', ?_⟩)
      · refine ((q₅.trans q₆.any).trans q₇.any).trans (Mod.trans (.toked (Nat.le_succ _)) q₈)
      · rw [hcnt, if_pos hdy]; exact if_pos rfl
    · rw [decide_eq_false hdy, if_neg Bool.false_ne_true]
      refine wpAny_execs_nil (wpAny_execs_nil ⟨rfl, q₅.trans q₆.any, _, t, hn₆, upd_ne (by decide) h1, ?_⟩)
      rw [hcnt, if_neg hdy, Int.add_zero]; exact upd_ne (by decide) h2
  · obtain ⟨m, t, hn, h1, h2⟩ := h
    refine wpAny_execs_cons (wpAny_Return_some ((ev_Name (ev.loc hn h2) hk).cont fun v s₉ q₉ e => ?_))
    obtain ⟨rfl, rfl⟩ := e
    refine ⟨b₃.trans b, _, rfl, t, ?_⟩
    rw [List.take_length]
end
end Mine

/-! ### Regex -/
namespace Mine
open PySem PySem.Calls PyProof.Rows

def reCode : Array Nat := #[14, 17, 4, 1, 1, 21, 9, 0, 604043296, 1, 0, 0, 0, 0, 0, 8, 4, 0, 13, 14, 21, 9, 0, 604043296, 1, 0, 0, 0, 0, 0, 8, 4, 0, 1]

/-- a sign that may stand bare -/
def safeC (c : Nat) : Bool := Sre.isWord c || ([64, 37, 43, 61, 58, 44, 46, 47, 45] : List Nat).contains c

def setBit (c : Nat) : Bool := c < 256 && (reCode.getD (6 + (1 + c / 32)) 0).testBit (c % 32)
def setBit2 (c : Nat) : Bool := c < 256 && (reCode.getD (21 + (1 + c / 32)) 0).testBit (c % 32)

theorem set_small : ∀ c, c < 256 → (setBit c || Sre.isWord c) = safeC c ∧ (setBit2 c || Sre.isWord c) = safeC c := by decide +kernel
theorem isWord_big {c : Nat} (h : 256 ≤ c) : Sre.isWord c = false := by
  unfold Sre.isWord Sre.isDigit
  have h1 : decide (c ≤ 57) = false := decide_eq_false (by omega)
  have h2 : decide (c ≤ 90) = false := decide_eq_false (by omega)
  have h3 : decide (c ≤ 122) = false := decide_eq_false (by omega)
  have h4 : (c == 95) = false := beq_eq_false_iff_ne.mpr (by omega)
  simp [h1, h2, h3, h4]
theorem safe_big {c : Nat} (h : 256 ≤ c) : safeC c = false := by
  unfold safeC
  rw [isWord_big h]
  simp
  omega
theorem set_any (c : Nat) : (setBit c || Sre.isWord c) = safeC c ∧ (setBit2 c || Sre.isWord c) = safeC c := by
  by_cases h : c < 256
  · exact set_small c h
  · have h' : 256 ≤ c := by omega
    have hb : setBit c = false := by unfold setBit; rw [decide_eq_false h]; rfl
    have hb2 : setBit2 c = false := by unfold setBit2; rw [decide_eq_false h]; rfl
    rw [hb, hb2, isWord_big h', safe_big h']; exact ⟨rfl, rfl⟩

theorem inSet_first (c : Nat) (seen : Sre.Seen) : ∃ seen', Sre.inSet reCode c 34 5 true seen = .ok (!safeC c, seen') := by
  rw [← (set_any c).1]
  show ∃ seen', (if (c < 256 && (reCode.getD (6 + (1 + c / 32)) 0).testBit (c % 32)) = true then _ else _) = _
  by_cases h : (c < 256 && (reCode.getD (6 + (1 + c / 32)) 0).testBit (c % 32)) = true
  · rw [if_pos h]
    have e : (!(setBit c || Sre.isWord c)) = false := by unfold setBit; rw [h]; rfl
    rw [e]
    exact ⟨_, rfl⟩
  · rw [if_neg h]
    have h' : setBit c = false := by unfold setBit; simpa using h
    rw [h', Bool.false_or]
    show ∃ seen', (Sre.category 4 c >>= fun b => if b = true then _ else _) = _
    have e : Sre.category 4 c = .ok (Sre.isWord c) := by
      unfold Sre.category
      show Except.ok (Sre.isWord c != false) = _
      cases Sre.isWord c <;> rfl
    rw [e]
    cases hw : Sre.isWord c with
    | true => exact ⟨_, rfl⟩
    | false => exact ⟨_, rfl⟩
theorem inSet_second (c : Nat) (seen : Sre.Seen) : ∃ seen', Sre.inSet reCode c 34 20 true seen = .ok (!safeC c, seen') := by
  rw [← (set_any c).2]
  show ∃ seen', (if (c < 256 && (reCode.getD (21 + (1 + c / 32)) 0).testBit (c % 32)) = true then _ else _) = _
  by_cases h : (c < 256 && (reCode.getD (21 + (1 + c / 32)) 0).testBit (c % 32)) = true
  · rw [if_pos h]
    have e : (!(setBit2 c || Sre.isWord c)) = false := by unfold setBit2; rw [h]; rfl
    rw [e]
    exact ⟨_, rfl⟩
  · rw [if_neg h]
    have h' : setBit2 c = false := by unfold setBit2; simpa using h
    rw [h', Bool.false_or]
    show ∃ seen', (Sre.category 4 c >>= fun b => if b = true then _ else _) = _
    have e : Sre.category 4 c = .ok (Sre.isWord c) := by
      unfold Sre.category
      show Except.ok (Sre.isWord c != false) = _
      cases Sre.isWord c <;> rfl
    rw [e]
    cases hw : Sre.isWord c with
    | true => exact ⟨_, rfl⟩
    | false => exact ⟨_, rfl⟩

/-- the scan for a first sign that isn't safe -/
theorem admitted_tells (m : Sre.M) (hc : m.code = reCode) (hlim : m.lim = m.text.size) : ∀ (fuel i : Nat) (seen : Sre.Seen), fuel = m.lim + 1 - i → i ≤ m.lim →
    ((∀ j (h : j < m.text.size), i ≤ j → safeC m.text[j] = true) ∧ ∃ seen', m.admitted fuel i seen = .ok (none, seen')) ∨
    (∃ j, ∃ h : j < m.text.size, safeC m.text[j] = false ∧ ∃ seen', m.admitted fuel i seen = .ok (some j, seen'))
  | 0, i, seen, hf, hi => by omega
  | fuel + 1, i, seen, hf, hi => by
    by_cases hge : i ≥ m.lim
    · left
      refine ⟨fun j h hij => by omega, seen, ?_⟩
      unfold Sre.M.admitted
      rw [if_pos hge]
    · have hlt : i < m.text.size := by omega
      obtain ⟨seen', e⟩ := inSet_first (m.text.getD i 0) seen
      have eg : m.text.getD i 0 = m.text[i] := by simp [Array.getD, hlt]
      have ea : m.admitted (fuel + 1) i seen = if safeC m.text[i] = true then m.admitted fuel (i + 1) seen' else .ok (some i, seen') := by
        rw [Sre.M.admitted, if_neg hge, hc]
        show (match Sre.inSet reCode (m.text.getD i 0) 34 5 true seen with | .ok (true, seen) => _ | .ok (false, seen) => _ | .error why => _) = _
        rw [e, eg]
        cases safeC m.text[i] <;> rfl
      cases hs : safeC m.text[i] with
      | false =>
        right
        refine ⟨i, hlt, hs, seen', ?_⟩
        rw [ea, hs]; rfl
      | true =>
        rw [ea, hs, if_pos rfl]
        rcases admitted_tells m hc hlim fuel (i + 1) seen' (by omega) (by omega) with ⟨h1, h2⟩ | h
        · left
          refine ⟨fun j h hij => ?_, h2⟩
          by_cases hj : j = i
          · subst hj; exact hs
          · exact h1 j h (by omega)
        · exact .inr h

end Mine

/-! ### Regex2 -/
namespace Mine
open PySem PySem.Calls PyProof.Rows

def m0 (text : Array Nat) : Sre.M :=
  { code := reCode, text := text, lim := text.size, start := 0, pc := 18, pos := 0, handed := 0, marks := Array.replicate (2 * 0) none, mustAdvance := false, seen := ({} : Sre.Seen).add 14, lastStart := text.size }

theorem search_start (text : Array Nat) (h : 1 ≤ text.size) : Sre.forSearch reCode text 0 0 text.size false = (m0 text).attemptFrom 0 true := by
  unfold Sre.forSearch
  have h1 : (decide (0 > text.size) || decide (text.size - 0 < (Sre.header reCode).1)) = false := by
    have e : (Sre.header reCode).1 = 1 := by rfl
    rw [e, decide_eq_false (by omega), decide_eq_false (by omega)]; rfl
  dsimp only
  rw [if_neg (by rw [h1]; exact Bool.false_ne_true)]
  rfl

theorem search_none (text : Array Nat) (h : 1 ≤ text.size) (hs : ∀ j (h : j < text.size), safeC text[j] = true) :
    ∃ m, (Sre.forSearch reCode text 0 0 text.size false).runFor 4 = m ∧ m.outcome = some .failed := by
  rw [search_start text h]
  rcases admitted_tells (m0 text) rfl rfl (text.size + 1 - 0) 0 (m0 text).seen rfl (Nat.zero_le _) with ⟨_, seen', e⟩ | ⟨j, hj, hu, _⟩
  · have ef : (m0 text).attemptFrom 0 true = { m0 text with seen := seen', answer := some false } := by
      show (match (m0 text).admitted (text.size + 1 - 0) 0 (m0 text).seen with | .ok (some s, seen) => _ | .ok (none, seen) => _ | .error why => _) = _
      rw [e]; rfl
    rw [ef]
    exact ⟨_, rfl, rfl⟩
  · rw [show (m0 text).text[j] = text[j] from rfl, hs j hj] at hu; cases hu

theorem search_some (text : Array Nat) (h : 1 ≤ text.size) (hs : ∃ j, ∃ h : j < text.size, safeC text[j] = false) :
    ∃ m, (Sre.forSearch reCode text 0 0 text.size false).runFor 4 = m ∧ m.outcome = some .matched := by
  rw [search_start text h]
  rcases admitted_tells (m0 text) rfl rfl (text.size + 1 - 0) 0 (m0 text).seen rfl (Nat.zero_le _) with ⟨h1, _⟩ | ⟨j, hj, hu, seen', e⟩
  · obtain ⟨j, hj, hu⟩ := hs
    have ht : safeC text[j] = true := h1 j hj (Nat.zero_le _)
    rw [hu] at ht; cases ht
  · have hj' : j < text.size := hj
    have ef : (m0 text).attemptFrom 0 true = Sre.M.attemptAt { m0 text with mustAdvance := false, seen := seen' } j true := by
      show (match (m0 text).admitted (text.size + 1 - 0) 0 (m0 text).seen with | .ok (some s, seen) => _ | .ok (none, seen) => _ | .error why => _) = _
      rw [e]
    rw [ef]
    obtain ⟨seen'', e2⟩ := inSet_second (text.getD j 0) (seen'.add 13)
    have eg : text.getD j 0 = text[j] := by simp [Array.getD, hj']
    have hu' : safeC text[j] = false := hu
    rw [eg, hu'] at e2
    have ea : Sre.accepts reCode 18 (text.getD j 0) (seen'.add 13) = .ok (true, seen'') := by
      rw [eg]; exact e2
    have s1 : Sre.M.step (Sre.M.attemptAt { m0 text with mustAdvance := false, seen := seen' } j true) =
        { Sre.M.attemptAt { m0 text with mustAdvance := false, seen := seen' } j true with seen := seen'', pc := 33, pos := j + 1 } := by
      show (if j ≥ text.size then _ else match Sre.accepts reCode 18 (text.getD j 0) (seen'.add 13) with | .error why => _ | .ok (false, seen) => _ | .ok (true, seen) => _) = _
      rw [if_neg (by omega), ea]
      rfl
    show ∃ m, (Sre.M.runFor 3 (Sre.M.step (Sre.M.attemptAt { m0 text with mustAdvance := false, seen := seen' } j true))) = m ∧ _
    rw [s1]
    exact ⟨_, rfl, rfl⟩
end Mine

/-! ### Search -/
namespace Mine
open PySem PySem.Calls PyProof.Rows
open PySem.Builtin PySem.Builtin.Re

section
variable {prog : Program} {w : World} {A : Around} {s : Shared}

theorem wp_rules {M : Model} {E : Value → Shared → Prop} {Q : Unit → Shared → Prop} (c : Nat → Bool) (tag : Nat → String) : ∀ (l : List Nat) (s : Shared), Q () s →
    wpAny M A (forIn l PUnit.unit fun i _ => if c i = true then do rule (tag i); pure (ForInStep.yield PUnit.unit) else pure (ForInStep.yield PUnit.unit)) Q E s
  | [], s, h => by rw [List.forIn_nil]; exact wpAny_pure h
  | i :: l, s, h => by
    rw [List.forIn_cons]
    refine wpAny_bind (wpAny_ite ?_)
    split
    · exact wpAny_bind (wpAny_rule (wpAny_pure (wp_rules c tag l s h)))
    · exact wpAny_pure (wp_rules c tag l s h)

theorem runToEnd {M : Model} {E : Value → Shared → Prop} {Q : Option Sre.M → Shared → Prop} (m : Sre.M) (o : Option Sre.M)
    (h : ∃ m', m.runFor 4 = m' ∧ ((m'.outcome = some .failed ∧ o = none) ∨ (m'.outcome = some .matched ∧ o = some m'))) (hq : Q o s) : wpAny M A (reRunToEnd m) Q E s := by
  obtain ⟨m', e, ho⟩ := h
  have hsome : m'.outcome.isSome = true := by rcases ho with ⟨h, _⟩ | ⟨h, _⟩ <;> rw [h] <;> rfl
  unfold reRunToEnd
  refine wpAny_bind (wpAny_of_eq (a := m') ?_ ?_)
  · show reDrive ((2 ^ 64 - 1) + 1) m = _
    rw [reDrive]
    show (if (m.runFor 4).outcome.isSome = true then pure (m.runFor 4) else _) = _
    rw [e, if_pos hsome]
  · refine wpAny_bind ?_
    refine wp_rules (fun i => m'.seen.has i) (fun i => Sre.names.getD i "") _ s ?_
    rcases ho with ⟨h, rfl⟩ | ⟨h, rfl⟩ <;> rw [h] <;> exact wpAny_pure hq

def allSafe (x : Str) : Bool := x.cps.toList.all safeC
theorem allSafe_true {x : Str} (h : allSafe x = true) : ∀ j (h : j < x.cps.size), safeC x.cps[j] = true := fun j hj =>
  List.all_eq_true.mp h _ (by simp)
theorem allSafe_false {x : Str} (h : allSafe x = false) : ∃ j, ∃ h : j < x.cps.size, safeC x.cps[j] = false := by
  unfold allSafe at h
  rw [List.all_eq_false] at h
  obtain ⟨c, hc, hs⟩ := h
  obtain ⟨j, hj, rfl⟩ := List.mem_iff_getElem.mp hc
  exact ⟨j, by simpa using hj, by simpa using hs⟩

theorem target_ok {M : Model} {E : Value → Shared → Prop} {x : Str} {t : Tok} {Q : ReTarget → Shared → Prop} (g : Gr s.heap) (h2 : x.cps.size < 2 ^ 63)
    (hq : Q { pattern := .ref 36, string := .str x t, code := reCode, text := x.cps, kind := 0, groups := 0, pos := 0, lim := x.cps.size } s) :
    wpAny M A (reTarget "re.Pattern.search" "search" ⟨[.ref 36, .str x t], []⟩) Q E s := by
  obtain ⟨tp, up, hpat⟩ := g.pattern
  unfold reTarget
  refine wpAny_bind (wpAny_of_eq (a := [some (.str x t), none, none]) (by kernel_rfl) ?_)
  refine wpAny_bind (wpAny_pure (wpAny_bind (wpAny_pure ?_)))
  refine wpAny_bind (wpAny_fieldsOf hpat rfl ?_)
  refine wpAny_bind (wpAny_of_eq (a := (x.cps, 0)) (by rfl) ?_)
  refine wpAny_ite_false rfl ?_
  refine wpAny_ite_false rfl ?_
  refine wpAny_bind (wpAny_of_eq (a := ()) rfl ?_)
  unfold reRawItems
  refine wpAny_bind (wpAny_bind (wpAny_seqItems g.code rfl (wpAny_pure ?_)))
  refine wpAny_pure ?_
  have e1 : min (2 ^ 63 - 1 : Int).toNat x.cps.size = x.cps.size := by
    rw [Nat.min_eq_right]
    have : (2 ^ 63 - 1 : Int).toNat = 2 ^ 63 - 1 := by decide
    rw [this]; omega
  have e0 : min (0 : Int).toNat x.cps.size = 0 := by simp
  have hq' := hq
  rw [← e1] at hq'
  refine (?_ : Q _ s)
  have ec : Array.map (fun x : Int => x.toNat) (((some ((([14, 17, 4, 1, 1, 21, 9, 0, 604043296, 1, 0, 0, 0, 0, 0, 8, 4, 0, 13, 14, 21, 9, 0, 604043296, 1, 0, 0, 0, 0, 0, 8, 4, 0, 1] : List Int).map fun i => Value.int i 0).toArray)).getD #[]).map reRawOf) = reCode := by kernel_rfl
  rw [ec]
  show Q { pattern := .ref 36, string := .str x t, code := reCode, text := x.cps, kind := 0, groups := 0, pos := min (0 : Int).toNat x.cps.size, lim := min (2 ^ 63 - 1 : Int).toNat x.cps.size } s
  rw [e0, e1]; exact hq

theorem search_entry {M : Model} {E : Value → Shared → Prop} {x : Str} {t : Tok} {Q : Fin → Shared → Prop} (g : Gr s.heap) (h1 : 1 ≤ x.cps.size) (h2 : x.cps.size < 2 ^ 63)
    (hn : allSafe x = true → Q (.done (.ret .none)) s)
    (hs : allSafe x = false → ∀ a s', Mod [] s s' → Q (.done (.ret (.ref a))) s') :
    wpAny M A (Builtin.«re.Pattern.search» ⟨[.ref 36, .str x t], []⟩) Q E s := by
  unfold Builtin.«re.Pattern.search»
  refine wpAny_bind (target_ok g h2 ?_)
  unfold reAnswer
  cases ha : allSafe x with
  | true =>
    obtain ⟨m, e, ho⟩ := search_none x.cps h1 (allSafe_true ha)
    exact wpAny_bind (runToEnd _ none ⟨m, e, .inl ⟨ho, rfl⟩⟩ (wpAny_pure (hn ha)))
  | false =>
    obtain ⟨m, e, ho⟩ := search_some x.cps h1 (allSafe_false ha)
    refine wpAny_bind (runToEnd _ (some m) ⟨m, e, .inr ⟨ho, rfl⟩⟩ ?_)
    refine wpAny_bind ?_
    unfold reNewMatch
    refine wpAny_ite_false rfl ?_
    refine wpAny_bind (wpAny_newObj_type ?_ (by show (2 : Nat) ≤ sizeLine; decide))
    refine wpAny_newObj_type ?_ (by show (6 : Nat) ≤ sizeLine + 2; decide)
    exact wpAny_pure (hs ha _ _ (Mod.trans (.pushed _) (.pushed _)))
end
end Mine

/-! ### Search2 -/
namespace Mine
open PySem PySem.Calls PyProof.Rows
open PySem.Builtin PySem.Builtin.Re

namespace RX
theorem entry_search : entryFor table "re.Pattern.search" = some Builtin.«re.Pattern.search» := entryFor_of_tree (by kernel_rfl)
theorem sub_module : isSubtype (.type "re.Pattern") (.type "module") = pure false := by rw [isSubtype_type]; kernel_rfl
theorem kind_search : builtinKind "re.Pattern.search" = some .method := by decide +kernel
theorem plain_search : plainId "re.Pattern.search" = true := by decide +kernel
def rows : List (String × Manifest.Signature) := (Manifest.owners.lookup "re.Pattern").getD []
def sig : Manifest.Signature := (rows.lookup "search").getD ⟨.keywords, "", "", .self, []⟩
theorem sig_ok : Manifest.signature? "re.Pattern.search" = some sig := by
  rw [signature?_of (id := "re.Pattern.search") (n := ['h', 'c', 'r', 'a', 'e', 's']) (o := ['n', 'r', 'e', 't', 't', 'a', 'P', '.', 'e', 'r']) (rows := rows) (by kernel_rfl) (by kernel_rfl)]
  kernel_rfl
theorem args_ok (v : Value) : Bind.checkArgs "re.Pattern.search" { sig with full := s!"{Bind.lastOf "re.Pattern"}.{Bind.lastOf "re.Pattern.search"}" } ⟨[.ref 36, v], []⟩ = pure () := by kernel_rfl
theorem no_varargs : Manifest.varargsMethods.contains "re.Pattern.search" = false := by decide +kernel
end RX

section
variable {prog : Program} {w : World} {A : Around} {s : Shared}

theorem bound_ok {M : Model} {E : Value → Shared → Prop} {v : Value} {Q : Unit → Shared → Prop} (g : Gr s.heap) (hq : Q () s) : wpAny M A (checkBoundCall "re.Pattern.search" ⟨[.ref 36, v], []⟩) Q E s := by
  obtain ⟨tp, up, hpat⟩ := g.pattern
  have hT : s.TypeIs (.ref 36) "re.Pattern" := ⟨_, hpat, rfl⟩
  unfold checkBoundCall
  rw [RX.sig_ok, RX.kind_search]
  refine wpAny_ite_false rfl ?_
  refine wpAny_bind (wpAny_isInstance hT RX.sub_module ?_)
  rw [RX.no_varargs]
  refine wpAny_ite_false rfl ?_
  refine wpAny_bind (m := isType (.ref 36)) ?_
  unfold isType loadHead
  refine wpAny_bind (wpAny_loadPart hpat (wpAny_pure ?_))
  refine wpAny_ite_false rfl ?_
  refine wpAny_bind (wpAny_typeOf hT ?_)
  exact wpAny_of_eq (RX.args_ok _) hq

theorem search_call {x : Str} {t : Tok} (g : Gr s.heap) (h1 : 1 ≤ x.cps.size) (h2 : x.cps.size < 2 ^ 63) :
    Ev (model prog w) A (call (.ref 37) [.str x t]) s fun v _ => (allSafe x = true → v = .none) ∧ (allSafe x = false → ∃ a, v = .ref a) := by
  intro E
  refine wpAny_call (codeAny_of_tree ?_)
  show wpAny _ A.in1 (callAny (.ref 37) ⟨[.str x t], []⟩) _ _ s
  simp only [callAny]
  refine wpAny_bind (wpAny_load g.find ?_)
  dsimp only
  refine wpAny_ite_true rfl ?_
  refine wpAny_ite_true rfl ?_
  refine wpAny_bind (bound_ok g ?_)
  refine wpAny_pure ⟨Code.quiet_builtin _ (by decide +kernel), codeAny_builtin RX.entry_search ?_⟩
  refine search_entry g h1 h2 (fun h => ⟨.refl _ _, fun _ => rfl, fun h' => by rw [h] at h'; cases h'⟩) (fun h a s' q => ⟨q, (fun h' => by rw [h] at h'; cases h'), fun _ => ⟨a, rfl⟩⟩)
end
end Mine

/-! ### Esc -/
namespace Mine
open PySem PySem.Calls PyProof.Rows

def apo : Str := Str.ofString "'"
def esc : Str := Str.ofString "'\"'\"'"
def quoteF (x : Str) : Str := if allSafe x = true then x else apo ++ Txt.replace x apo esc ++ apo
theorem apo_eq : apo = ⟨#[39]⟩ := by decide +kernel
theorem esc_eq : esc = ⟨#[39, 34, 39, 34, 39]⟩ := by decide +kernel

/-- an apostrophe is written so within -/
def escL (l : List Nat) : List Nat := l.flatMap fun c => if c = 39 then [39, 34, 39, 34, 39] else [c]
theorem escL_append (a b : List Nat) : escL (a ++ b) = escL a ++ escL b := by unfold escL; exact List.flatMap_append
theorem escL_free : ∀ l : List Nat, 39 ∉ l → escL l = l
  | [], _ => rfl
  | c :: r, h => by
    have h1 : ¬ c = 39 := fun e => h (e ▸ List.mem_cons_self ..)
    have h2 : 39 ∉ r := fun m => h (List.mem_cons_of_mem _ m)
    have ih := escL_free r h2
    unfold escL at ih ⊢
    rw [List.flatMap_cons, if_neg h1, ih]; rfl
theorem escL_join : ∀ parts : List Str, (∀ p ∈ parts, 39 ∉ p.cps.toList) → escL (Str.join ⟨#[39]⟩ parts).cps.toList = (Str.join ⟨#[39, 34, 39, 34, 39]⟩ parts).cps.toList
  | [], _ => rfl
  | [p], h => escL_free _ (h p (List.mem_singleton.mpr rfl))
  | p :: q :: r, h => by
    have ih := escL_join (q :: r) fun a ha => h a (List.mem_cons_of_mem _ ha)
    show escL (p ++ ⟨#[39]⟩ ++ Str.join ⟨#[39]⟩ (q :: r)).cps.toList = (p ++ ⟨#[39, 34, 39, 34, 39]⟩ ++ Str.join ⟨#[39, 34, 39, 34, 39]⟩ (q :: r)).cps.toList
    simp only [Str.cps_append, Array.toList_append]
    rw [escL_append, escL_append, ih, escL_free _ (h p (List.mem_cons_self ..))]
    rfl
theorem replace_esc (x : Str) : (Txt.replace x apo esc).cps.toList = escL x.cps.toList := by
  rw [apo_eq, esc_eq, StrLaws.replace_one, ← escL_join _ (StrLaws.split_free x 39), StrLaws.join_split]
theorem escL_len (l : List Nat) : l.length ≤ (escL l).length ∧ (escL l).length ≤ 5 * l.length := by
  induction l with
  | nil => exact ⟨Nat.le_refl _, Nat.le_refl _⟩
  | cons c r ih =>
    unfold escL at ih ⊢
    rw [List.flatMap_cons, List.length_append, List.length_cons]
    by_cases h : c = 39
    · rw [if_pos h]; simp only [List.length_cons, List.length_nil]; omega
    · rw [if_neg h]; simp only [List.length_cons, List.length_nil]; omega
theorem replace_len (x : Str) : x.length ≤ (Txt.replace x apo esc).length ∧ (Txt.replace x apo esc).length ≤ 5 * x.length := by
  have e := congrArg List.length (replace_esc x)
  have h := escL_len x.cps.toList
  have e1 : (Txt.replace x apo esc).cps.toList.length = (Txt.replace x apo esc).length := by simp [Str.length]
  have e2 : x.cps.toList.length = x.length := by simp [Str.length]
  omega
theorem quoteF_list (x : Str) : (quoteF x).cps.toList = if x.cps.toList.all safeC = true then x.cps.toList else [39] ++ escL x.cps.toList ++ [39] := by
  unfold quoteF allSafe
  split
  · rfl
  · rw [Str.cps_append, Str.cps_append, Array.toList_append, Array.toList_append, replace_esc, apo_eq]
theorem quoteF_len (x : Str) : x.length ≤ (quoteF x).length ∧ (quoteF x).length ≤ 5 * x.length + 2 := by
  have h := replace_len x
  unfold quoteF
  split
  · omega
  · rw [Str.length_append, Str.length_append]
    have : apo.length = 1 := by rw [apo_eq]; rfl
    omega
end Mine

/-! ### Quote -/
namespace Mine
open PySem PySem.Calls PyProof.Rows

section
variable {prog : Program} {w : World} {A : Around} {s : Shared} {k : Nat}

theorem callWith_find {M : Model} {env : Env} {E : Value → Shared → Prop} {pos : Pos} {e : Expr} {rest : List Expr} {Q : Value → Shared → Prop}
    (h : wpAny M A (spliced (backTo pos (starEach (e :: rest) env))) (fun vs s₁ => Gr s₁.heap ∧ wpAny M A (call (.ref 37) vs) Q E s₁) E s)
    (he : starEach (e :: rest) env = (false, eval e env) :: starEach rest env := by rfl) (hplain : (backTo pos (starEach rest env)).any (·.1) = false := by rfl) :
    wpAny M A (callWith pos (.ref 37) [] (backTo pos (starEach (e :: rest) env)) []) Q E s := by
  rw [he] at h ⊢
  unfold callWith
  refine wpAny_bind (wpAny_holding (evalArgs_plain (wpAny_mono h (fun a s₁ h₁ => wpAny_bind (wpAny_standAt ?_)) fun _ _ x => x)))
  have hp : (((false, eval e env) :: backTo pos (starEach rest env)).any (·.1) || ([] : List (Option Str × Sem Value)).any (·.1.isNone)) = false := by
    show ((false || (backTo pos (starEach rest env)).any (·.1)) || false) = false
    rw [hplain]; rfl
  refine wpAny_bind (m := keeperOf (.ref 37)) ?_
  unfold keeperOf
  refine wpAny_bind (wpAny_load h₁.1.find ?_)
  refine wpAny_ite_true rfl ?_
  refine wpAny_pure ?_
  rw [show (((backTo pos ((false, eval e env) :: starEach rest env)).any fun x => x.1) || ([] : List (Option Str × Sem Value)).any fun x => x.1.isNone) = false from hp]
  exact wpAny_bind (wpAny_mono h₁.2 (fun r s₂ hr => wpAny_bind (wpAny_holding (wpAny_point (wpAny_pure hr)))) fun _ _ x => x)

theorem quote_ok {lo : Nat} {v : Value} {x : Str} (g : Gr s.heap) (hA : AOk (k + 1) A) (hlo : lo ≤ s.toks) (hx : RS lo s v x) (h1 : 1 ≤ x.cps.size) (h2 : x.cps.size ≤ 1000) :
    Ev (model prog w) A (call (.ref 44) [v]) s fun v' s' => RS lo s' v' (quoteF x) := by
  refine call_fn [(Str.ofString "s", v)] g.quote g.nolimit hA (fun _ _ _ => by kernel_rfl) (by kernel_rfl) fun env s₁ ev hA₁ hL q htk hn => ?_
  have g₁ := g.mod q
  have hk := ev.fn
  have hx₁ := hx.mod q
  have hlo₁ : lo ≤ s₁.toks := Nat.le_trans hlo q.toks
  have hlen : x.length = x.cps.size := rfl
  have ht0 : 0 < s₁.toks := by rw [htk]; simp
  have vs : ∀ s', Mod [] s₁ s' → Nm env s'.heap (Str.ofString "s") v := fun s' q => (ev.loc hn rfl : Nm env s₁.heap (Str.ofString "s") v).mod q
  intro E
  conv in execs _ _ => arg 1; whnf
  refine wpAny_execs_cons (wpAny_If (isTrue_not (isTrue_plain ((ev_Name (vs _ (.refl _ _)) hk).cont fun f s₂ q₂ e => ?_))))
  obtain ⟨rfl, rfl⟩ := e
  obtain ⟨t, rfl, ht⟩ := hx₁
  refine P.truthy_str (by rw [hlen]; omega) ?_
  have hne : (!((x.length : Int) != 0)) = false := by
    have : ((x.length : Int) == 0) = false := beq_eq_false_iff_ne.mpr (by rw [hlen]; omega)
    simp [bne, this]
  rw [hne]
  simp only [Bool.false_eq_true, if_false]
  have q₃ : Mod [] s₁ { s₁ with toks := s₁.toks + 1 + 1 } := .toked (by omega)
  refine wpAny_execs_nil ?_
  dsimp only
  refine wpAny_execs_cons (wpAny_If (wpAny_isTrue_Compare1 (Call_ ((ev_Name (ev.glo (g₁.mod q₃)) hk).cont fun f s₄ q₄ e => ?_))))
  obtain ⟨rfl, rfl⟩ := e
  refine callWith_find (args_cons ((ev_Name (vs _ q₃) hk).cont fun v1 s₅ q₅ e => args_nil ?_))
  obtain ⟨rfl, rfl⟩ := e
  refine ⟨g₁.mod q₃, ?_⟩
  refine (search_call (g₁.mod q₃) h1 (by omega)).cont fun r s₆ q₆ hr => ?_
  refine (ev_none _).cont fun r2 s₇ q₇ e => ?_
  subst e
  refine is_none (wpAny_truthy_bool ?_)
  have q₈ := (q₃.trans q₆).trans q₇
  cases ha : allSafe x with
  | true =>
    rw [hr.1 ha, if_pos (by rfl)]
    refine wpAny_execs_cons (wpAny_Return_some ((ev_Name (vs _ q₈) hk).cont fun v1 s₉ q₉ e => ?_))
    obtain ⟨rfl, rfl⟩ := e
    refine ⟨q₈.any, _, rfl, ?_⟩
    unfold quoteF
    rw [if_pos ha]
    exact RS.mod q₈ ⟨t, rfl, ht⟩
  | false =>
    obtain ⟨a, rfl⟩ := hr.2 ha
    rw [if_neg (show ¬ ((Value.ref a == Value.none) = true) from Bool.false_ne_true)]
    refine wpAny_execs_nil ?_
    dsimp only
    refine wpAny_execs_cons (wpAny_Return_some ?_)
    have lo8 : ∀ s', Mod [] s₇ s' → lo ≤ s'.toks := fun s' q => Nat.le_trans (Nat.le_trans hlo₁ q₈.toks) q.toks
    have up := (RS.flat lo).up
    have hrl := replace_len x
    have ha1 : apo.length = 1 := by rw [apo_eq]; rfl
    have he1 : esc.length = 5 := by rw [esc_eq]; rfl
    have hsl : sizeLine = 16777216 := sizeLine_eq
    have t0 : ∀ s', Mod [] s₇ s' → 0 < s'.toks := fun s' q => Nat.lt_of_lt_of_le ht0 (Nat.le_trans q₈.toks q.toks)
    -- s.replace(..)
    have rep : ∀ p1 p2 p3 p5 p6 k1 k2 s', (p5.endLine == p6.line) = true → Mod [] s₇ s' → Ev (model prog w) (A.deeper env) (eval (.Call (.Attribute (.Name (Str.ofString "s") p1) (Str.ofString "replace") p5) [.Constant (.str apo) k1 p2, .Constant (.str esc) k2 p3] [] p6) env) s' fun v s'' => ∃ t, v = .str (Txt.replace x apo esc) t := by
      intro p1 p2 p3 p5 p6 k1 k2 s' hline q'
      refine Ev.of fun E => ?_
      refine wpAny_Call_method_lateS rfl rfl hline ((ev_Name (vs _ (q₈.trans q')) hk).cont fun f s₂ q₂ e => ?_)
      obtain ⟨rfl, rfl⟩ := e
      refine ⟨"str", "str.replace", F.plainAttrs_str, F.slot_str_replace, F.type_str_replace, typeIs_str _ _ _, (fun _ e => nomatch e), ?_⟩
      refine callWith_method1 (args_cons (wpAny_Constant_str (args_cons (wpAny_Constant_str (args_nil ?_)))))
      have hp := t0 s' q'
      exact SC.replaceA (Nat.ne_of_gt hp) (Nat.succ_ne_zero _) (Nat.ne_of_lt (Nat.lt_succ_self _)) (by rw [he1]; omega) (fun t' k => ⟨⟨_, _, rfl, fun _ _ e => e⟩, fun _ => ⟨t', rfl⟩⟩) ((g₁.mod (q₈.trans q')).booked)
    have cst : ∀ k p s', Mod [] s₇ s' → Ev (model prog w) (A.deeper env) (eval (.Constant (.str apo) k p) env) s' fun v s'' => ∃ t, v = .str apo t :=
      fun k p s' _ E => wpAny_Constant_str ⟨.toked (Nat.le_succ _), _, rfl⟩
    refine (ev_BinOp (P := fun v s' => RS lo s' v (apo ++ Txt.replace x apo esc ++ apo)) (R₁ := RS lo) (d₁ := apo ++ Txt.replace x apo esc) (R₂ := fun _ v (y : Str) => ∃ t, v = .str y t) (d₂ := apo) up
      (ev_BinOp (R₁ := fun _ v (y : Str) => ∃ t, v = .str y t) (d₁ := apo) (R₂ := fun _ v (y : Str) => ∃ t, v = .str y t) (d₂ := Txt.replace x apo esc) (fun _ _ _ _ _ h => h) (cst _ _ _ (.refl _ _)) (fun s' q' => rep _ _ _ _ _ _ _ s' rfl q') (fun a b s' q' ha hb => ?_))
      (fun s' q' => cst _ _ _ q') (fun a b s' q' ha hb => ?_)).cont fun v s₉ q₉ h₉ => ?_
    · obtain ⟨_, rfl⟩ := ha
      obtain ⟨_, rfl⟩ := hb
      exact ev_add_new (lo8 _ q') (by omega) (by omega) (by omega)
    · obtain ⟨_, rfl, _⟩ := ha
      obtain ⟨_, rfl⟩ := hb
      have hl : (apo ++ Txt.replace x apo esc).length = apo.length + (Txt.replace x apo esc).length := Str.length_append _ _
      exact ev_add_new (lo8 _ q') (by omega) (by omega) (by omega)
    · refine ⟨(q₈.trans q₉).any, v, rfl, ?_⟩
      unfold quoteF
      rw [if_neg (by rw [ha]; exact Bool.false_ne_true)]
      exact h₉
end
end Mine

/-! ### Lists -/
namespace Mine
open PySem PySem.Calls PyProof.Rows

/-- a str, its token not told -/
def RW (_ : Shared) (v : Value) (x : Str) : Prop := ∃ t, v = .str x t
theorem RW.flat : Flat RW := fun _ _ _ _ _ _ _ h => h
theorem RS.rw {lo : Nat} {s : Shared} {v : Value} {x : Str} (h : RS lo s v x) : RW s v x := let ⟨t, e, _⟩ := h; ⟨t, e⟩
theorem RW.rs {lo : Nat} {s : Shared} {v : Value} {x : Str} (h : RW s v x) (hx : x.length < 2) : RS lo s v x := let ⟨t, e⟩ := h; ⟨t, e, fun q => absurd q (by omega)⟩
theorem RW.noRef {s : Shared} {v : Value} {d : Str} (h : RW s v d) : ∀ a, v ≠ .ref a := by obtain ⟨t, rfl⟩ := h; intro a e; cases e

/-- a row [text, state, times] -/
def R3 (lo : Nat) (s : Shared) (v : Value) (r : Str × Str × Int) : Prop :=
  ∃ a v1 v2 v3, v = .ref a ∧ s.heap.PlainList a #[v1, v2, v3] ∧ RS lo s v1 r.1 ∧ RW s v2 r.2.1 ∧ RI s v3 r.2.2
theorem R3.flat (lo : Nat) : Flat (R3 lo) := by
  rintro W s s' v d m off ⟨a, v1, v2, v3, rfl, hl, h1, h2, h3⟩
  exact ⟨a, v1, v2, v3, rfl, hl.at fun o e => m.keep _ o (off a rfl) e, h1.mod m, h2, h3⟩
/-- a row [text, times] -/
def R2 (lo : Nat) (s : Shared) (v : Value) (r : Str × Int) : Prop :=
  ∃ a v1 v3, v = .ref a ∧ s.heap.PlainList a #[v1, v3] ∧ RS lo s v1 r.1 ∧ RI s v3 r.2
theorem R2.flat (lo : Nat) : Flat (R2 lo) := by
  rintro W s s' v d m off ⟨a, v1, v3, rfl, hl, h1, h3⟩
  exact ⟨a, v1, v3, rfl, hl.at fun o e => m.keep _ o (off a rfl) e, h1.mod m, h3⟩

section
variable {M : Model} {prog : Program} {w : World} {A : Around} {env : Env} {s : Shared} {pos : Pos}

theorem new_list (vs : List Value) : ({ s with heap := s.heap.push { cls := .type "list", data := .seq vs.toArray } } : Shared).heap.PlainList s.heap.objs.size vs.toArray := ⟨0, Heap.get?_push_size _ rfl⟩

theorem ev_list0 : Ev M A (eval (.List [] pos) env) s fun v s' => ∃ a, v = .ref a ∧ s'.heap.PlainList a #[] ∧ s.heap.get? a = none := fun _ =>
  wpAny_List (wpAny_items_nil ⟨by decide, .pushed _, _, rfl, new_list (s := s) [], Heap.fresh_size _⟩)

theorem ev_list1 {δ : Type} {R : Shared → Value → δ → Prop} {d : δ} {e : Expr} (up : Up R) (h : Ev M A (eval e env) s fun v s' => R s' v d)
    (he : starEach [e] env = (false, eval e env) :: starEach [] env := by rfl) :
    Ev M A (eval (.List [e] pos) env) s fun v s' => RL R s' v [d] ∧ New s v := fun _ =>
  wpAny_List (wpAny_items_cons (h.cont fun v s₁ q₁ h₁ => wpAny_items_nil ⟨by simp [sizeLine_eq], q₁.trans (.pushed _), ⟨_, _, rfl, new_list [v], .cons (up _ _ _ _ (.pushed _) h₁) .nil⟩,
    fun a ha => by cases ha; exact q₁.freshBack (by simp) (Heap.fresh_size _)⟩) he)

theorem ev_row3 {lo : Nat} {x st : Str} {n : Int} {e1 e2 e3 : Expr} (h1 : Ev M A (eval e1 env) s fun v s' => RS lo s' v x) (h2 : ∀ s', Mod [] s s' → Ev M A (eval e2 env) s' fun v s' => RW s' v st)
    (h3 : ∀ s', Mod [] s s' → Ev M A (eval e3 env) s' fun v s' => RI s' v n)
    (he1 : starEach [e1, e2, e3] env = (false, eval e1 env) :: starEach [e2, e3] env := by rfl) (he2 : starEach [e2, e3] env = (false, eval e2 env) :: starEach [e3] env := by rfl) (he3 : starEach [e3] env = (false, eval e3 env) :: starEach [] env := by rfl) :
    Ev M A (eval (.List [e1, e2, e3] pos) env) s fun v s' => R3 lo s' v (x, st, n) ∧ New s v := fun _ =>
  wpAny_List (wpAny_items_cons (h1.cont fun v1 s₁ q₁ r1 => wpAny_items_cons ((h2 s₁ q₁).cont fun v2 s₂ q₂ r2 => wpAny_items_cons ((h3 s₂ (q₁.trans q₂)).cont fun v3 s₃ q₃ r3 =>
    wpAny_items_nil ⟨by simp [sizeLine_eq], ((q₁.trans q₂).trans q₃).trans (.pushed _), ⟨_, v1, v2, v3, rfl, new_list [v1, v2, v3], r1.mod ((q₂.trans q₃).trans (.pushed _)), r2, r3⟩,
    fun a ha => by cases ha; exact ((q₁.trans q₂).trans q₃).freshBack (by simp) (Heap.fresh_size _)⟩) he3) he2) he1)

theorem ev_row2 {lo : Nat} {x : Str} {n : Int} {e1 e3 : Expr} (h1 : Ev M A (eval e1 env) s fun v s' => RS lo s' v x) (h3 : ∀ s', Mod [] s s' → Ev M A (eval e3 env) s' fun v s' => RI s' v n)
    (he1 : starEach [e1, e3] env = (false, eval e1 env) :: starEach [e3] env := by rfl) (he3 : starEach [e3] env = (false, eval e3 env) :: starEach [] env := by rfl) :
    Ev M A (eval (.List [e1, e3] pos) env) s fun v s' => R2 lo s' v (x, n) ∧ New s v := fun _ =>
  wpAny_List (wpAny_items_cons (h1.cont fun v1 s₁ q₁ r1 => wpAny_items_cons ((h3 s₁ q₁).cont fun v3 s₃ q₃ r3 =>
    wpAny_items_nil ⟨by simp [sizeLine_eq], (q₁.trans q₃).trans (.pushed _), ⟨_, v1, v3, rfl, new_list [v1, v3], r1.mod (q₃.trans (.pushed _)), r3⟩,
    fun a ha => by cases ha; exact (q₁.trans q₃).freshBack (by simp) (Heap.fresh_size _)⟩) he3) he1)

theorem ev_list_add {δ : Type} {R : Shared → Value → δ → Prop} {xs ys : List δ} {a b : Value} (up : Up R) (ha : RL R s a xs) (hb : RL R s b ys) (hsz : xs.length + ys.length ≤ sizeLine) :
    Ev (model prog w) A (binaryOp .Add a b) s fun v s' => RL R s' v (xs ++ ys) ∧ New s v := by
  intro E
  obtain ⟨l, its, rfl, ⟨n, hl⟩, hp⟩ := ha
  obtain ⟨l2, its2, rfl, ⟨n2, hl2⟩, hp2⟩ := hb
  have e1 : its.size = xs.length := by have := Paired.length hp; simpa using this
  have e2 : its2.size = ys.length := by have := Paired.length hp2; simpa using this
  refine P.add_list hl hl2 ⟨.pushed _, ⟨_, its ++ its2, rfl, ⟨0, Heap.get?_push_size _ rfl⟩, ?_⟩, fun a ha => by cases ha; exact Heap.fresh_size _⟩ (by omega)
  rw [Array.toList_append]
  exact Paired.append (Paired.weak (fun _ _ _ r => up _ _ _ _ (.pushed _) r) hp) (Paired.weak (fun _ _ _ r => up _ _ _ _ (.pushed _) r) hp2)

/-- a slice of a list -/
theorem ev_slice {δ : Type} {R : Shared → Value → δ → Prop} {xs ys : List δ} {value : Expr} {lower upper : Option Expr} {p : Pos} {lo hi : Option Int} (up : Up R)
    (hv : Ev (model prog w) A (eval value env) s fun v s' => ∃ l its, v = .ref l ∧ s'.heap.IsList l its ∧ Paired (fun y d => R s' y d) its.toList xs)
    (hlo : ∀ s', Mod [] s s' → Ev (model prog w) A (evalPart lower env) s' fun v _ => IsPart v lo) (hhi : ∀ s', Mod [] s s' → Ev (model prog w) A (evalPart upper env) s' fun v _ => IsPart v hi)
    (hpick : ∀ its : Array Value, its.size = xs.length → ∀ F : Value → δ → Prop, Paired F its.toList xs → Paired F (slicePick its lo hi none).toList ys) (hsz : xs.length ≤ sizeLine) :
    Ev (model prog w) A (eval (.Subscript value (.Slice lower upper none p) pos) env) s fun v s' => RL R s' v ys ∧ New s v := by
  intro E
  refine Subscript_ (hv.cont fun v s₁ q₁ h₁ => ?_)
  obtain ⟨l, its, rfl, hl, hp⟩ := h₁
  have hn : its.size = xs.length := by have := Paired.length hp; simpa using this
  refine wpAny_Slice ((hlo s₁ q₁).cont fun vl s₂ q₂ pl => (hhi s₂ (q₁.trans q₂)).cont fun vu s₃ q₃ pu => ?_)
  have q' := (q₁.trans q₂).trans q₃
  rw [evalPart_none]
  refine wpAny_pure ?_
  have hl' : (s₃.heap.push { cls := .type "slice", data := .fields #[vl, vu, .none] }).IsList l its := hl.at fun o e => Heap.get?_push_of_some _ ((q₂.trans q₃).all _ _ e)
  refine tail_any hl'.typeIs slot_list_getitem.lookup (wpAny_getItem_list_slice hl' (Heap.IsSliceOf.new ..) pl pu .none (by simp) ?_ (by omega)) (ops := [_, _]) rfl
  have qf : Mod [] s { s₃ with heap := (s₃.heap.push { cls := .type "slice", data := .fields #[vl, vu, .none] }).push { cls := .type "list", data := .seq (slicePick its lo hi none) } } :=
    (q'.trans (.pushed _)).trans (Mod.pushed (s := { s₃ with heap := s₃.heap.push { cls := .type "slice", data := .fields #[vl, vu, .none] } }) _)
  refine ⟨qf, ⟨_, slicePick its lo hi none, rfl, ⟨0, Heap.get?_push_size _ rfl⟩, ?_⟩, fun a ha => ?_⟩
  · refine hpick its hn _ (Paired.weak (fun _ _ _ r => up _ _ _ _ ?_ r) hp)
    exact ((q₂.trans q₃).trans (.pushed _)).trans (Mod.pushed (s := { s₃ with heap := s₃.heap.push { cls := .type "slice", data := .fields #[vl, vu, .none] } }) _)
  · cases ha
    exact (q'.trans (.pushed { cls := .type "slice", data := .fields #[vl, vu, .none] })).freshBack (by simp) (Heap.fresh_size _)

theorem pick_upto {δ : Type} {xs : List δ} (b : Nat) : ∀ its : Array Value, its.size = xs.length → ∀ F : Value → δ → Prop, Paired F its.toList xs → Paired F (slicePick its none (some (b : Int)) none).toList (xs.take b) := by
  intro its _ F h
  rw [slicePick_upto']; simpa using Paired.take h b
theorem pick_from {δ : Type} {xs : List δ} (b : Nat) : ∀ its : Array Value, its.size = xs.length → ∀ F : Value → δ → Prop, Paired F its.toList xs → Paired F (slicePick its (some (b : Int)) none none).toList (xs.drop b) := by
  intro its _ F h
  rw [slicePick_from']; simpa using Paired.drop h b
theorem pick_butLast {δ : Type} {xs : List δ} : ∀ its : Array Value, its.size = xs.length → ∀ F : Value → δ → Prop, Paired F its.toList xs → Paired F (slicePick its none (some (-1)) none).toList xs.dropLast := by
  intro its hn F h
  have := slicePick_butLast its 1 (Nat.le_refl _)
  rw [show (-((1 : Nat) : Int)) = -1 from rfl] at this
  rw [this, List.dropLast_eq_take, ← hn]; simpa using Paired.take h (its.size - 1)
end

end Mine

/-! ### CompE -/
namespace Mine
open PySem PySem.Calls PyProof.Rows

/-! ## the names within a comprehension -/
theorem lookup_relabel (c : Str → NameKind → Bool) : ∀ (names : List (Str × NameKind)) (x : Str),
    (names.map fun (n, k) => if c n k = true then (n, NameKind.cell) else (n, k)).lookup x = (names.lookup x).map fun k => if c x k = true then .cell else k
  | [], _ => rfl
  | (n, k) :: r, x => by
    have ih := lookup_relabel c r x
    rw [List.map_cons]
    by_cases hc : c n k = true
    · show List.lookup x ((if c n k = true then (n, NameKind.cell) else (n, k)) :: _) = _
      rw [if_pos hc, List.lookup_cons, List.lookup_cons]
      cases hx : x == n with
      | true => have e : x = n := eq_of_beq hx; subst e; simp [hc]
      | false => exact ih
    · show List.lookup x ((if c n k = true then (n, NameKind.cell) else (n, k)) :: _) = _
      rw [if_neg hc, List.lookup_cons, List.lookup_cons]
      cases hx : x == n with
      | true => have e : x = n := eq_of_beq hx; subst e; simp [hc]
      | false => exact ih

section
variable {scope : Scope} {cl : List (Str × Addr)} {C : Addr} {env : Env} {x : Str}
theorem ce_kind : (compEnvC scope cl C env).kindOf x = (scope.names.lookup x).map fun k => if (k == .free && env.scope.kind == .function && env.kindOf x == some .cell) = true then .cell else k := by
  show (relabel scope env).names.lookup x = _
  unfold relabel
  exact lookup_relabel (fun n k => k == .free && env.scope.kind == .function && env.kindOf n == some .cell) scope.names x
theorem ce_loc (h : scope.names.lookup x = some .local := by rfl) : (compEnvC scope cl C env).kindOf x = some .local := by rw [ce_kind, h]; rfl
theorem ce_glo (h : scope.names.lookup x = some .globalImplicit := by rfl) : (compEnvC scope cl C env).kindOf x = some .globalImplicit := by rw [ce_kind, h]; rfl
theorem ce_cel (hk : env.scope.kind = .function) (hc : env.kindOf x = some .cell) (h : scope.names.lookup x = some .free := by rfl) : (compEnvC scope cl C env).kindOf x = some .cell := by
  rw [ce_kind, h, hk, hc]; rfl
theorem ce_pk (hk : scope.kind = .function := by rfl) : ((compEnvC scope cl C env).scope.kind == .class || ((compEnvC scope cl C env).scope.kind == .module && (compEnvC scope cl C env).locals != (compEnvC scope cl C env).globals)) = false := by
  show (scope.kind == .class || _) = false
  rw [hk]; show (scope.kind == .module && _) = false; rw [hk]; rfl
theorem ce_fn (hk : scope.kind = .function := by rfl) : (compEnvC scope cl C env).scope.kind = .function := hk
end

theorem clos_none {scope : Scope} {env : Env} (hfree : ∀ x ∈ scope.names, x.2 ≠ .free) : closureFor scope env = pure [] := closureFor_none hfree

/-- one turn whose target is a plain name -/
theorem cturn_name {prog : Program} {w : World} {A : Around} {δ ε : Type} {R : Shared → Value → δ → Prop} {R' : Shared → Value → ε → Prop} {f : δ → ε} {ds : List δ} {x : Str} {px : Pos} {elt : Expr} {scope : Scope} {cl : List (Str × Addr)} {env : Env} {s₁ : Shared}
    (hx : scope.names.lookup x = some .local) (hk : scope.kind = .function) (hR : Flat R) (hRr : ∀ s v d, R s v d → ∀ L m, s.heap.Ns L m → v ≠ .ref L)
    (h : ∀ C d v s₄, d ∈ ds → Mod [C] s₁ s₄ → s₁.heap.get? C = none → Nm (compEnvC scope cl C env) s₄.heap x v → R s₄ v d →
      Ev (model prog w) A (eval elt (compEnvC scope cl C env)) s₄ fun y s₅ => R' s₅ y (f d) ∧ New s₄ y) :
    CTurn prog w A R R' (fun d => some (f d)) ds (.Name x px) elt [] (fun C => compEnvC scope cl C env) s₁ := by
  intro C d v s₃ m E hd q hr hn hC
  refine wpAny_assign_Name (wpAny_storeName_local (ce_loc hx) hn (fun h₄ hn₄' hs₄' => ?_) (ce_pk hk))
  have hn₄ : h₄.Ns C (fun z => if z = x then some v else m z) := hn₄'
  have hs₄ : Heap.SameBut C s₃.heap h₄ := hs₄'
  have q₄ : Mod [C] s₃ { s₃ with heap := h₄, toks := s₃.toks + 1 } := ⟨⟨_, _, rfl⟩, fun b o hb e => (hs₄.2 b (by simpa using hb)).trans e, Nat.le_succ _⟩
  refine wpAny_tests_nil ?_
  rw [if_pos rfl]
  have hoff : Off [C] v := fun a ha hm => hRr _ _ _ hr C m hn (by rw [ha, List.mem_singleton.mp hm])
  refine (h C d v _ hd ((q.any (W := [C])).trans q₄) hC (.loc _ (ce_loc hx) hn₄ (if_pos rfl)) (hR _ _ _ _ _ q₄ hoff hr)).cont fun y s₆ q₆ h₆ => ?_
  exact ⟨q₄.trans q₆.any, ⟨_, hn₄.keeps q₆.all⟩, f d, rfl, h₆.1, fun a ha => q₄.freshBack (fun hm => by
    have hz : h₄.get? a = none := h₆.2 a ha
    rw [List.mem_singleton.mp hm] at hz
    obtain ⟨o, e⟩ := Ns_old hn₄
    rw [e] at hz; cases hz) (h₆.2 a ha)⟩

end Mine

/-! ### Word -/
namespace Mine
open PySem PySem.Calls PyProof.Rows

def menu : Str := Str.ofString "'\" a%Zé\n\\"
theorem menu_eq : menu = ⟨#[39, 34, 32, 97, 37, 90, 233, 10, 92]⟩ := by decide +kernel

/-- the sign that a number stands for -/
def signC (x : Int) : Nat := ([39, 34, 32, 97, 37, 90, 233, 10, 92, ((x.fdiv 10).fmod 1114112).toNat] : List Nat).getD (x.fmod 10).toNat 0
def numbersF (ns : List Int) : List Int := ns.take 5 ++ ([3, 0, 3, 2, 4] : List Int).drop (ns.take 5).length
def wordF (ns : List Int) : Str := ⟨((numbersF ns).map signC).toArray⟩
theorem numbersF_length (ns : List Int) : (numbersF ns).length = 5 := by
  unfold numbersF
  rw [List.length_append, List.length_drop, List.length_take]; simp; omega
theorem wordF_size (ns : List Int) : (wordF ns).cps.size = 5 := by
  unfold wordF; simp [numbersF_length]

section
variable {prog : Program} {w : World} {A : Around} {env : Env} {s : Shared}

/-- (menu + chr(x // 10 % 1114112))[x % 10] -/
theorem ev_sign {x : Int} {n : Str} {p1 p2 p3 p4 p5 p6 p7 p8 p9 p10 p11 p12 p13 : Pos} {k1 k2 k3 k4 : Nat} (hk : env.scope.kind = .function) (hchr : ∀ s', Mod [] s s' → Nm env s'.heap (Str.ofString "chr") (.builtin "chr"))
    (hx : At env s n RI x) (hd : (n == ("__debug__" : Str)) = false := by decide) :
    Ev (model prog w) A (eval (.Subscript (.BinOp (.Constant (.str menu) k1 p1) .Add (.Call (.Name (Str.ofString "chr") p2) [.BinOp (.BinOp (.Name n p3) .FloorDiv (.Constant (.int 10) k2 p4) p5) .Mod (.Constant (.int 1114112) k3 p6) p7] [] p8) p9)
      (.BinOp (.Name n p10) .Mod (.Constant (.int 10) k4 p11) p12) p13) env) s fun v s' => RW s' v ⟨#[signC x]⟩ := by
  have up := RI.flat.up
  have hr1 : 0 ≤ (x.fdiv 10).fmod 1114112 := Int.fmod_nonneg_of_pos _ (by decide)
  have hr2 : (x.fdiv 10).fmod 1114112 < 1114112 := Int.fmod_lt_of_pos _ (by decide)
  have hm1 : 0 ≤ x.fmod 10 := Int.fmod_nonneg_of_pos _ (by decide)
  have hm2 : x.fmod 10 < 10 := Int.fmod_lt_of_pos _ (by decide)
  intro E
  refine Subscript_ ?_
  refine (ev_BinOp (P := fun v s' => ∃ t, v = .str (menu ++ ⟨#[((x.fdiv 10).fmod 1114112).toNat]⟩) t) (R₁ := RW) (d₁ := menu) (R₂ := RW) (d₂ := ⟨#[((x.fdiv 10).fmod 1114112).toNat]⟩) RW.flat.up
    (fun E => wpAny_Constant_str ⟨.toked (Nat.le_succ _), _, rfl⟩) (fun s₁ q₁ => ?_) (fun a b s' q' ha hb => ?_)).cont fun v s₂ q₂ h₂ => ?_
  · intro E
    refine Call_ ((ev_Name (hchr s₁ q₁) hk).cont fun f s₃ q₃ e => ?_)
    obtain ⟨rfl, rfl⟩ := e
    refine PyProof.Rows.callWith_builtin1 (args_cons ((ev_BinOp (P := fun v s' => RI s' v ((x.fdiv 10).fmod 1114112)) (R₁ := RI) (d₁ := x.fdiv 10) (R₂ := RI) (d₂ := 1114112) up
      (ev_BinOp (R₁ := RI) (d₁ := x) (R₂ := RI) (d₂ := 10) up ((hx.mod up q₁).ev hk hd) (fun s' _ => ev_int _ _) (fun a b s' _ ha hb => ?_)) (fun s' _ => ev_int _ _) (fun a b s' _ ha hb => ?_)).cont fun v s₄ q₄ h₄ => args_nil ?_))
    · obtain ⟨t, rfl⟩ := ha
      obtain ⟨u, rfl⟩ := hb
      exact fun E => PyProof.Rows.floordiv_int (by decide) ⟨.toked (Nat.le_succ _), _, rfl⟩
    · obtain ⟨t, rfl⟩ := ha
      obtain ⟨u, rfl⟩ := hb
      exact fun E => PyProof.Rows.mod_int' (by decide) ⟨.toked (Nat.le_succ _), _, rfl⟩
    · obtain ⟨t, rfl⟩ := h₄
      exact chr_of_range hr1 (by omega) ⟨q₄.trans (.toked (Nat.le_succ _)), _, rfl⟩
  · obtain ⟨t, rfl⟩ := ha
    obtain ⟨u, rfl⟩ := hb
    have e9 : menu.length = 9 := by rw [menu_eq]; rfl
    exact (ev_add_new (lo := 0) (Nat.zero_le _) (by rw [e9]; decide) (by show (1 : Nat) ≠ 0; decide) (by rw [e9, sizeLine_eq]; show 9 + 1 ≤ _; decide)).mono fun v s' _ h => h.rw
  · obtain ⟨t, rfl⟩ := h₂
    refine (ev_BinOp (P := fun v s' => RI s' v (x.fmod 10)) (R₁ := RI) (d₁ := x) (R₂ := RI) (d₂ := 10) up ((hx.mod up q₂).ev hk hd) (fun s' _ => ev_int _ _) (fun a b s' _ ha hb => ?_)).cont fun v s₃ q₃ h₃ => ?_
    · obtain ⟨t, rfl⟩ := ha
      obtain ⟨u, rfl⟩ := hb
      exact fun E => PyProof.Rows.mod_int' (by decide) ⟨.toked (Nat.le_succ _), _, rfl⟩
    · obtain ⟨u, rfl⟩ := h₃
      refine tail_any (ops := [_, _]) (typeIs_str _ _ _) F.slot_str_getitem.lookup (P.getItem_str (c := signC x) ?_ ?_ ⟨(q₂.trans q₃).trans (.toked (Nat.le_succ _)), _, rfl⟩) rfl
      · rw [decide_eq_false (by omega), decide_eq_false (by omega)]; rfl
      · have hl : (menu ++ ⟨#[((x.fdiv 10).fmod 1114112).toNat]⟩ : Str).length = 10 := by rw [menu_eq]; rfl
        rw [hl]
        have hi : seqIndex? (x.fmod 10) 10 = some (x.fmod 10).toNat := by
          generalize x.fmod 10 = y at *
          have : y = 0 ∨ y = 1 ∨ y = 2 ∨ y = 3 ∨ y = 4 ∨ y = 5 ∨ y = 6 ∨ y = 7 ∨ y = 8 ∨ y = 9 := by omega
          rcases this with h | h | h | h | h | h | h | h | h | h <;> subst h <;> rfl
        rw [hi, menu_eq]
        unfold signC
        generalize x.fmod 10 = y at *
        have : y = 0 ∨ y = 1 ∨ y = 2 ∨ y = 3 ∨ y = 4 ∨ y = 5 ∨ y = 6 ∨ y = 7 ∨ y = 8 ∨ y = 9 := by omega
        rcases this with h | h | h | h | h | h | h | h | h | h <;> subst h <;> rfl

theorem ev_part_int {M : Model} {i : Int} {k : Nat} {p : Pos} : Ev M A (evalPart (some (.Constant (.int i) k p)) env) s fun v _ => IsPart v (some i) :=
  (ev_int i k : Ev M A (eval (.Constant (.int i) k p) env) s fun v s' => RI s' v i).mono fun v _ _ h => by obtain ⟨t, rfl⟩ := h; exact .int _ _
theorem ev_part_none {M : Model} : Ev M A (evalPart none env) s fun v _ => IsPart v none := fun _ => wpAny_pure ⟨.refl _ _, .none⟩

theorem join_empty' : ∀ ys : List Str, (Str.join Str.empty ys).cps.toList = (ys.map (·.cps.toList)).flatten
  | [] => rfl
  | [x] => by show x.cps.toList = _; simp
  | x :: y :: r => by
    have ih := join_empty' (y :: r)
    show (x ++ Str.empty ++ Str.join Str.empty (y :: r)).cps.toList = _
    rw [Str.cps_append, Str.cps_append, Array.toList_append, Array.toList_append, ih]
    simp [Str.empty]
theorem join_empty (ys : List Str) : (Txt.join Str.empty ys).cps.toList = (ys.map (·.cps.toList)).flatten := by
  rw [← join_empty', ← StrLaws.glued_eq_join]; rfl
end

section
variable {prog : Program} {w : World} {A : Around} {s : Shared} {k : Nat}

theorem strsAre_of {vs : List Value} {ys : List Str} (h : Paired (fun y d => RW s y d) vs ys) : StrsAre vs ys := by
  induction h with
  | nil => exact .nil
  | cons h _ ih => obtain ⟨t, rfl⟩ := h; exact .cons _ _ ih

theorem ev_join {x : Str} {t : Tok} {D : Addr} {items : Array Value} {ys : List Str} (hl : s.heap.IsList D items) (hi : StrsAre items.toList ys) (hok : (ys.map (·.length)).sum + ys.length * x.length ≤ 16777216) :
    Ev (model prog w) A (call (.builtin "str.join") [.str x t, .ref D]) s fun v s' => RW s' v (Txt.join x ys) :=
  Ev.of fun _ => PyProof.Rows.join_list hl hi hok fun t' k => ⟨keeps_tok k, fun _ => ⟨t', rfl⟩⟩

theorem word_ok {l : Addr} {its : Array Value} {ns : List Int} (g : Gr s.heap) (hA : AOk (k + 1) A) (hl : s.heap.IsList l its) (hp : Paired (fun y d => RI s y d) its.toList ns) (hsz : ns.length ≤ 1000) :
    Ev (model prog w) A (call (.ref 72) [.ref l]) s fun v s' => RW s' v (wordF ns) := by
  refine call_fn [(Str.ofString "script", .ref l)] g.word g.nolimit hA (fun _ _ _ => by kernel_rfl) (by kernel_rfl) fun env s₁ ev hA₁ hL q htk hn => ?_
  have hk := ev.fn
  have hpk := ev.pk
  have hsl : sizeLine = 16777216 := sizeLine_eq
  have up := RI.flat.up
  have vscr : ∀ s', Mod [] s₁ s' → Nm env s'.heap (Str.ofString "script") (.ref l) := fun s' q => (ev.loc hn rfl : Nm env s₁.heap (Str.ofString "script") (.ref l)).mod q
  have cut : ∀ p1 p2 p3 p4 k s', Mod [] s₁ s' → Ev (model prog w) (A.deeper env) (eval (.Subscript (.Name (Str.ofString "script") p1) (.Slice none (some (.Constant (.int 5) k p2)) none p3) p4) env) s' fun v s'' => RL RI s'' v (ns.take 5) ∧ New s' v := by
    intro p1 p2 p3 p4 k s' q'
    refine ev_slice (xs := ns) (lo := none) (hi := some 5) up ((ev_Name (vscr s' q') hk).mono fun v s'' q'' e => ?_) (fun _ _ => ev_part_none) (fun _ _ => ev_part_int) (pick_upto 5) (by omega)
    obtain ⟨rfl, rfl⟩ := e
    exact ⟨l, its, rfl, hl.at fun o e => (q.trans q').all _ _ e, Paired.weak (fun _ _ _ h => h) hp⟩
  intro E
  conv in execs _ _ => arg 1; whnf
  -- numbers = ..
  refine wpAny_execs_cons (wpAny_Assign_Name ((ev_BinOp (P := fun v s' => RL RI s' v (numbersF ns) ∧ New s₁ v) (R₁ := RL RI) (d₁ := ns.take 5) (R₂ := RL RI) (d₂ := ([3, 0, 3, 2, 4] : List Int).drop (ns.take 5).length) (RL.up up)
    (fun E => Call_ ((ev_Name (ev.bui (g.mod q)) hk).cont fun f s₂ q₂ e => ?_)) (fun s' q' => ?_) (fun a b s' q' ha hb => ?_)).cont fun v s₃ q₃ h₃ => ?_))
  · obtain ⟨rfl, rfl⟩ := e
    refine PyProof.Rows.callWith_type1 (args_cons ((cut _ _ _ _ _ _ (.refl _ _)).cont fun v s₄ q₄ h₄ => args_nil ?_))
    obtain ⟨⟨l', its', rfl, ⟨n', hl'⟩, hp'⟩, _⟩ := h₄
    have hn' : its'.size = (ns.take 5).length := by have := Paired.length hp'; simpa using this
    refine call_list_seq (hsz := by rw [hn', List.length_take]; omega) l' (.inl rfl) hl' rfl rfl fun h' c' hk' hD => ?_
    exact ⟨q₄.trans ⟨⟨_, _, rfl⟩, fun b o _ e => hk' b o e, Nat.le_refl _⟩, _, its', rfl, ⟨c', hD⟩, Paired.weak (fun _ _ _ h => h) hp'⟩
  · -- [3, 0, 3, 2, 4][len(script[:5]):]
    refine (ev_slice (xs := ([3, 0, 3, 2, 4] : List Int)) (lo := some ((ns.take 5).length : Int)) (hi := none) up (fun E => ?_) (fun s₄ q₄ => ?_) (fun _ _ => ev_part_none) (pick_from _) (by decide)).mono fun v s'' _ h => h.1
    · refine wpAny_List (wpAny_items_cons ((ev_int _ _).cont fun v1 s1 q1 r1 => wpAny_items_cons ((ev_int _ _).cont fun v2 s2 q2 r2 => wpAny_items_cons ((ev_int _ _).cont fun v3 s3 q3 r3 => wpAny_items_cons ((ev_int _ _).cont fun v4 s4 q4 r4 => wpAny_items_cons ((ev_int _ _).cont fun v5 s5 q5 r5 => wpAny_items_nil ⟨by simp [sizeLine_eq], ?_⟩))))))
      exact ⟨(((((q1.trans q2).trans q3).trans q4).trans q5)).trans (.pushed _), _, _, rfl, (new_list [v1, v2, v3, v4, v5]).isList, .cons r1 (.cons r2 (.cons r3 (.cons r4 (.cons r5 .nil))))⟩
    · intro E
      refine Call_ ((ev_Name (ev.bui (g.mod (q.trans (q'.trans q₄)))) hk).cont fun f s₅ q₅ e => ?_)
      obtain ⟨rfl, rfl⟩ := e
      refine PyProof.Rows.callWith_builtin1 (args_cons ((cut _ _ _ _ _ _ (q'.trans q₄)).cont fun v s₆ q₆ h₆ => args_nil ?_))
      obtain ⟨⟨l', its', rfl, hl', hp'⟩, _⟩ := h₆
      have hn' : its'.size = (ns.take 5).length := by have := Paired.length hp'; simpa using this
      refine PyProof.Rows.len_list hl'.isList (by rw [hn', List.length_take]; omega) ⟨q₆.trans (.toked (by omega)), ?_⟩
      rw [hn']; exact .int _ _
  · exact (ev_list_add up ha hb (by rw [List.length_take]; simp; omega)).mono fun v s'' q'' h => ⟨h.1, fun a e => q'.freshBack (by simp) (h.2 a e)⟩
  · refine (do_store (hn.keeps q₃.all) ev.kn hpk).cont fun _ s₄ q₄ hn₄ => ?_
    have hh := hA₁.handled
    obtain ⟨hnl, hnew⟩ := h₃
    have fresh : ∀ a ∈ [env.locals], s.heap.get? a = none := by intro a ha; rw [List.mem_singleton.mp ha]; exact hL
    have b₄ : Mod [env.locals] s₁ s₄ := (q₃.any).trans q₄
    have g₄ : Gr s₄.heap := g.modW q b₄ fresh
    have hoff : Off [env.locals] v := fun a ha hm => by
      have := hnew a ha
      rw [List.mem_singleton.mp hm] at this
      obtain ⟨o, e⟩ := Ns_old hn
      rw [e] at this; cases this
    have hnl₄ : RL RI s₄ v (numbersF ns) := RL.flatOf RI.flat (fun _ _ _ h => h.noRef) _ _ _ _ _ q₄ hoff hnl
    refine wpAny_execs_cons (wpAny_Return_some (wpAny_Call_method_lateS rfl rfl rfl (wpAny_Constant_str ?_)))
    refine ⟨"str", "str.join", F.plainAttrs_str, F.slot_str_join, F.type_str_join, typeIs_str _ _ _, (fun _ e => nomatch e), ?_⟩
    have q₅ : Mod [] s₄ { s₄ with toks := s₄.toks + 1 } := .toked (Nat.le_succ _)
    refine callWith_method1 (args_cons (Do.cont (W := []) (P := fun v' s' => RL RW s' v' ((numbersF ns).filterMap fun x => some (⟨#[signC x]⟩ : Str)) ∧ New { s₄ with toks := s₄.toks + 1 } v') ?_ fun v' s₆ q₆ h₆ => args_nil ?_))
    · refine ev_ListComp (R := RI) (cl := []) hh RI.flat.up RW.flat ((ev_Name (s := { s₄ with toks := s₄.toks + 1 }) (ev.loc hn₄ (if_pos rfl)) hk).mono fun v' s' q' e => ?_) (by rw [numbersF_length]; omega)
        (clos_none (by decide)) (fun s₅' q₅' => cturn_name rfl rfl RI.flat (fun _ _ _ h _ _ _ => h.noRef _) fun C d v' s₆ _ q₆ hC hv hr => ?_)
      · obtain ⟨rfl, rfl⟩ := e
        exact RL.up RI.flat.up _ _ _ _ q₅ hnl₄
      · refine (ev_sign (x := d) (ce_fn rfl) (fun s' q' => ?_) ⟨_, hv, hr⟩).mono fun y s' _ h => ⟨h, fun a ha => absurd ha (h.noRef a)⟩
        exact .bui (ce_glo) ev.globals ev.builtins rfl ((g₄.modW (q₅.trans q₅') q₆ (by intro a ha; rw [List.mem_singleton.mp ha]; exact (q₅.trans q₅').freshBack (by simp) hC)).mod q')
    · obtain ⟨⟨D, its', rfl, hD, hp'⟩, _⟩ := h₆
      have hlen : ((numbersF ns).filterMap fun x => some (⟨#[signC x]⟩ : Str)) = (numbersF ns).map fun x => ⟨#[signC x]⟩ := by simp
      rw [hlen] at hp'
      refine (ev_join hD.isList (strsAre_of hp') ?_).cont fun v' s₇ q₇ h₇ => ?_
      · have e1 : ((numbersF ns).map fun x => (⟨#[signC x]⟩ : Str)).map (·.length) = (numbersF ns).map fun _ => 1 := by rw [List.map_map]; rfl
        rw [e1]; simp [numbersF_length, List.map_const']; decide
      · have e : Txt.join Str.empty ((numbersF ns).map fun x => (⟨#[signC x]⟩ : Str)) = wordF ns := by
          refine Str.ext' (Array.toList_inj.mp ?_)
          rw [join_empty, List.map_map]
          show ((numbersF ns).map fun x => [signC x]).flatten = (numbersF ns).map signC
          induction numbersF ns with
          | nil => rfl
          | cons a r ih => simpa using ih
        obtain ⟨t', rfl⟩ := h₇
        exact ⟨b₄.trans ((q₅.trans q₆).trans q₇).any, _, rfl, t', congrArg (Value.str · t') e⟩
end
end Mine

/-! ### Ways -/
namespace Mine
open PySem PySem.Calls PyProof.Rows

/-- what stands where no list is turned -/
def Firm {δ : Type} (R : Shared → Value → δ → Prop) : Prop := ∀ W s s' v d, Mod W s s' → (∀ a ∈ W, ∀ its, ¬ s.heap.PlainList a its) → R s v d → R s' v d
theorem RS.firm (lo : Nat) : Firm (RS lo) := fun _ _ _ _ _ q _ h => h.mod q
theorem RI.firm : Firm RI := fun _ _ _ _ _ _ _ h => h
theorem RL.firm {δ : Type} {R : Shared → Value → δ → Prop} (h : Firm R) : Firm (RL R) := by
  rintro W s s' v d q hW ⟨a, its, rfl, hl, hp⟩
  exact ⟨a, its, rfl, hl.at fun o e => q.keep _ o (fun hm => hW a hm its hl) e, Paired.weak (fun _ _ _ r => h _ _ _ _ _ q hW r) hp⟩
theorem R3.firm (lo : Nat) : Firm (R3 lo) := by
  rintro W s s' v d q hW ⟨a, v1, v2, v3, rfl, hl, h1, h2, h3⟩
  exact ⟨a, v1, v2, v3, rfl, hl.at fun o e => q.keep _ o (fun hm => hW a hm _ hl) e, h1.mod q, h2, h3⟩
theorem R2.firm (lo : Nat) : Firm (R2 lo) := by
  rintro W s s' v d q hW ⟨a, v1, v3, rfl, hl, h1, h3⟩
  exact ⟨a, v1, v3, rfl, hl.at fun o e => q.keep _ o (fun hm => hW a hm _ hl) e, h1.mod q, h3⟩
theorem ns_no_list {h : Heap} {L : Addr} {m : Str → Option Value} (hn : h.Ns L m) (its : Array Value) : ¬ h.PlainList L its := fun hl => Ns_ne_list hn hl rfl
theorem cell_no_list {h : Heap} {c : Addr} {v : Option Value} (hc : h.IsCell c v) (its : Array Value) : ¬ h.PlainList c its := by
  rintro ⟨n, e⟩
  obtain ⟨o, ho, hd⟩ := hc
  rw [ho] at e; cases e; cases hd
theorem cell_old {h : Heap} {c : Addr} {v : Option Value} (hc : h.IsCell c v) : ∃ o, h.get? c = some o := let ⟨o, e, _⟩ := hc; ⟨o, e⟩
theorem cell_away {W : List Addr} {s s' : Shared} {c : Addr} {v : Option Value} (q : Mod W s s') (hc : s.heap.IsCell c v) (hW : c ∉ W) : s'.heap.IsCell c v :=
  let ⟨o, e, hd⟩ := hc; ⟨o, q.keep _ o hW e, hd⟩
theorem ns_away {W : List Addr} {s s' : Shared} {L : Addr} {m : Str → Option Value} (q : Mod W s s') (hn : s.heap.Ns L m) (hW : L ∉ W) : s'.heap.Ns L m := hn.at fun o e => q.keep _ o hW e

theorem call_fnC {prog : Program} {w : World} {A : Around} {k : Nat} {s : Shared} {a : Addr} {name x : Str} {st : Stmt} {args : List Value} (binds : List (Str × Value)) {P : Value → Shared → Prop}
    (hf : Fn s.heap a name st) (hlim : s.heap.NoLimit) (hA : AOk (k + 1) A)
    (hbind : ∀ pm cd doc, bindArgs (docDef name (defPars st) (defBody st) (defScope st) pm cd doc) ⟨args, []⟩ = pure binds)
    (hloc : ∀ x ∈ binds, (defScope st).names.lookup x.1 = some .local)
    (hcells : ∀ n, cellsFrom n (defScope st).names [] = [(x, n)])
    (h : ∀ env s₁ c, Env0 env st → AOk k (A.deeper env) → s.heap.get? env.locals = none → s.heap.get? c = none → env.locals ≠ c → env.cells = [(x, c)] → Keeps s s₁ →
      (∃ m, s₁.heap.Ns env.locals m ∧ ∀ x v, binds.reverse.lookup x = some v → m x = some v) → (∃ o, s₁.heap.IsCell c o) →
      Do (model prog w) (A.deeper env) [env.locals, c] (execs (defBody st) env) s₁ fun fl s' => ∃ v, fl = .ret v ∧ P v s')
    (hm : ∀ env : Env, env.scope = defScope st → ∀ x v, binds.reverse.lookup x = some v → bindL env.kindOf binds (fun _ => none) x = some v)
    (hco : (defScope st).isCoroutine = false := by rfl) (hgen : (defScope st).isGenerator = false := by rfl) (hk : (defScope st).kind = .function := by rfl) : Ev (model prog w) A (call (.ref a) args) s P := by
  refine Ev.of fun E => ?_
  obtain ⟨o, pm, cd, doc, ho, hd, hcd⟩ := hf
  refine wpAny_call (call_cells_ret hA.room ho hd hlim hcd (hbind pm cd doc) (fun x hx => .inl (hloc x hx)) (fun h₁ tk F X => ?_) hco hgen hk)
  have hL0 : s.heap.get? s.heap.objs.size = none := Heap.get?_none_of_le (Nat.le_refl _)
  have hc0 : s.heap.get? (s.heap.objs.size + 1) = none := Heap.get?_none_of_le (Nat.le_succ _)
  have ks : Keeps s { s with heap := h₁, toks := tk } := ⟨_, _, rfl, F.keep⟩
  rw [hcells] at X
  have hcl : h₁.IsCell (s.heap.objs.size + 1) _ := X.cell x _ (by simp)
  refine (h (envOfC name (defScope st) s.heap.objs.size a cd) { s with heap := h₁, toks := tk } (s.heap.objs.size + 1) ⟨rfl, rfl, rfl⟩ (hA.deeper _) hL0 hc0 (Nat.ne_of_lt (Nat.lt_succ_self _)) (hcells _) ks
    ⟨_, F.ns, hm _ rfl⟩ ⟨_, hcl⟩).cont fun fl s' q' hp => ?_
  obtain ⟨v, rfl, hv⟩ := hp
  refine ⟨?_, fun _ => hv⟩
  obtain ⟨h', tk', rfl⟩ := q'.same
  refine ⟨h', tk', rfl, fun b o e => q'.keep b o ?_ (F.keep b o e)⟩
  intro hm
  simp only [List.mem_cons, List.not_mem_nil, or_false] at hm
  rcases hm with rfl | rfl
  · have : s.heap.get? s.heap.objs.size = some o := e
    rw [hL0] at this; cases this
  · rw [hc0] at e; cases e

/-! ## the ways -/
def stepW (ws : List (List Str)) (c : Nat) : List (List Str) := ws.map (fun w => w.dropLast ++ [w.getLastD Str.empty ++ ⟨#[c]⟩]) ++ ws.map (fun w => w ++ [⟨#[c]⟩])
def waysF (a : Nat) (cs : List Nat) : List (List Str) := cs.foldl stepW [[⟨#[a]⟩]]
def OkW (i : Nat) (ws : List (List Str)) : Prop := ws.length = 2 ^ i ∧ ∀ w ∈ ws, w ≠ [] ∧ w.length ≤ i + 1 ∧ ∀ p ∈ w, 1 ≤ p.length ∧ p.length ≤ i + 1
theorem OkW.step {i : Nat} {ws : List (List Str)} (c : Nat) (h : OkW i ws) : OkW (i + 1) (stepW ws c) := by
  refine ⟨by simp [stepW, h.1, Nat.pow_succ]; omega, fun w hw => ?_⟩
  rcases List.mem_append.mp hw with hw | hw <;> obtain ⟨v, hv, rfl⟩ := List.mem_map.mp hw <;> obtain ⟨h1, h2, h3⟩ := h.2 v hv
  · refine ⟨by simp, by simp; omega, fun p hp => ?_⟩
    rcases List.mem_append.mp hp with hp | hp
    · have := h3 p ((List.dropLast_sublist v).subset hp); omega
    · rw [List.mem_singleton.mp hp, Str.length_append]
      have e : v.getLastD Str.empty ∈ v := by rw [List.getLastD_eq_getLast?, List.getLast?_eq_some_getLast h1]; exact List.getLast_mem h1
      have := h3 _ e
      have e1 : (⟨#[c]⟩ : Str).length = 1 := rfl
      omega
  · refine ⟨by simp, by simp; omega, fun p hp => ?_⟩
    rcases List.mem_append.mp hp with hp | hp
    · have := h3 p hp; omega
    · rw [List.mem_singleton.mp hp]
      have e1 : (⟨#[c]⟩ : Str).length = 1 := rfl
      omega
theorem OkW.fold : ∀ (cs : List Nat) (i : Nat) (ws : List (List Str)), OkW i ws → OkW (i + cs.length) (cs.foldl stepW ws)
  | [], _, _, h => h
  | c :: r, i, ws, h => by have := OkW.fold r (i + 1) _ (h.step c); rw [List.foldl_cons, List.length_cons, show i + (r.length + 1) = i + 1 + r.length by omega]; exact this
theorem waysF_ok (a : Nat) (cs : List Nat) : OkW cs.length (waysF a cs) := by
  have := OkW.fold cs 0 [[⟨#[a]⟩]] ⟨rfl, fun w hw => by rw [List.mem_singleton.mp hw]; exact ⟨by simp, by simp, fun p hp => by rw [List.mem_singleton.mp hp]; exact ⟨Nat.le_refl 1, Nat.le_refl 1⟩⟩⟩
  simpa [waysF] using this

abbrev wayScope : Scope := { kind := .function, names := [(Str.ofString ".0", .local), (Str.ofString "way", .local), (Str.ofString "sign", .free)], isGenerator := false, isCoroutine := false }
theorem clos_sign {env : Env} {c : Addr} (hc : env.cells = [(Str.ofString "sign", c)]) :
    closureFor wayScope env = pure [(Str.ofString "sign", c)] := by
  have e : cellOf env (Str.ofString "sign") = pure c := by unfold cellOf; rw [hc]; rfl
  unfold closureFor
  simp [e]

theorem cut_head (a b c d e : Nat) (t : Tok) (u : Tok) : sliceMade ⟨#[a, b, c, d, e]⟩ t none (some (1, u)) none = .str ⟨#[a]⟩ := by rfl
theorem cut_tail (a b c d e : Nat) (t : Tok) (u : Tok) : sliceMade ⟨#[a, b, c, d, e]⟩ t (some (1, u)) none none = .str ⟨#[b, c, d, e]⟩ := by kernel_rfl

section
variable {prog : Program} {w : World} {A : Around} {s : Shared} {k : Nat} {env : Env}

theorem ev_cut_str {value : Expr} {lower upper : Option Expr} {p pos : Pos} {x y : Str} {l u : Option Int} (hx : Ev (model prog w) A (eval value env) s fun v s' => RW s' v x)
    (hl : ∀ s', Mod [] s s' → Ev (model prog w) A (evalPart lower env) s' fun v _ => ∃ t, v = partValue (l.map (·, t))) (hu : ∀ s', Mod [] s s' → Ev (model prog w) A (evalPart upper env) s' fun v _ => ∃ t, v = partValue (u.map (·, t)))
    (hm : ∀ t t1 t2, sliceMade x t (l.map (·, t1)) (u.map (·, t2)) none = .str y) (hy : y.length ≤ sizeLine) (ht : ∀ o r, letTemporaryGo value o r = pure () := by intro _ _; rfl) :
    Ev (model prog w) A (eval (.Subscript value (.Slice lower upper none p) pos) env) s fun v s' => RW s' v y := by
  intro E
  refine wpAny_Subscript_str_slice (hx.cont fun o s₁ q₁ h₁ => (hl s₁ q₁).cont fun vl s₂ q₂ h₂ => (hu s₂ (q₁.trans q₂)).cont fun vu s₃ q₃ h₃ => ?_) ht
  obtain ⟨t, rfl⟩ := h₁
  obtain ⟨t1, rfl⟩ := h₂
  obtain ⟨t2, rfl⟩ := h₃
  refine ⟨x, t, _, _, rfl, rfl, rfl, ?_⟩
  rw [hm]
  have qp : Mod [] s₃ { s₃ with heap := s₃.heap.push { cls := .type "slice", data := .fields #[partValue (l.map (·, t1)), partValue (u.map (·, t2)), .none] } } := .pushed _
  exact ⟨hy, (((q₁.trans q₂).trans q₃).trans qp).trans (.toked (Nat.le_succ _)), _, rfl⟩

theorem part_one {M : Model} {k : Nat} {p : Pos} : Ev M A (evalPart (some (.Constant (.int 1) k p)) env) s fun v _ => ∃ t, v = partValue ((some (1 : Int)).map (·, t)) :=
  (ev_int 1 k : Ev M A (eval (.Constant (.int 1) k p) env) s fun v s' => RI s' v 1).mono fun v _ _ h => by obtain ⟨t, rfl⟩ := h; exact ⟨t, rfl⟩
theorem part_no {M : Model} : Ev M A (evalPart none env) s fun v _ => ∃ t, v = partValue ((none : Option Int).map (·, t)) := fun _ => wpAny_pure ⟨.refl _ _, 0, rfl⟩

theorem ev_neg1 {k : Nat} {p1 p2 : Pos} : Ev (model prog w) A (eval (.UnaryOp .USub (.Constant (.int 1) k p1) p2) env) s fun v s' => RI s' v (-1) := fun _ =>
  wpAny_UnaryOp ((ev_int 1 k).cont fun v s₁ q₁ h₁ => by
    obtain ⟨t, rfl⟩ := h₁
    exact PyProof.Rows.neg_int ⟨q₁.trans (.toked (Nat.le_succ _)), _, rfl⟩)

/-- the last item of a list -/
theorem ev_last {δ : Type} {R : Shared → Value → δ → Prop} {value : Expr} {xs : List δ} {d : δ} {k : Nat} {p1 p2 pos : Pos} (up : Up R) (hv : Ev (model prog w) A (eval value env) s fun v s' => RL R s' v xs) (hne : xs.getLast? = some d) (hsz : xs.length ≤ 1000) :
    Ev (model prog w) A (eval (.Subscript value (.UnaryOp .USub (.Constant (.int 1) k p1) p2) pos) env) s fun v s' => R s' v d := by
  intro E
  refine Subscript_ (hv.cont fun v s₁ q₁ h₁ => ev_neg1.cont fun i s₂ q₂ h₂ => ?_)
  obtain ⟨l, its, rfl, hl, hp⟩ := h₁
  obtain ⟨t, rfl⟩ := h₂
  have hn : its.size = xs.length := by have := Paired.length hp; simpa using this
  have hpos : 0 < xs.length := by cases xs with | nil => simp at hne | cons => simp
  rw [List.getLast?_eq_getElem?] at hne
  obtain ⟨y, hy, hr⟩ := Paired.at' hp hne
  have hl₂ : s₂.heap.IsList l its := hl.isList.at fun o e => q₂.all _ _ e
  refine tail_any (ops := [_, _]) hl₂.typeIs slot_list_getitem.lookup (wpAny_getItem_list_neg (x := y) hl₂ (by decide) (by omega) (by decide) ?_ ⟨q₁.trans q₂, up _ _ _ _ q₂ hr⟩) rfl
  rw [← hn] at hy
  have e : ((-1 : Int) + its.size).toNat = its.size - 1 := by omega
  rw [e]
  simpa using hy

theorem do_store' {M : Model} {x : Str} {v : Value} {m : Str → Option Value} (hn : s.heap.Ns env.locals m) (hx : env.kindOf x = some .local)
    (hp : (env.scope.kind == .class || (env.scope.kind == .module && env.locals != env.globals)) = false := by rfl) :
    Do M A [env.locals] (storeName env x v) s fun _ s' => s'.heap.Ns env.locals (fun z => if z = x then some v else m z) ∧ 0 < s'.toks := fun _ =>
  wpAny_storeName_local hx hn (fun h' hn' hs' => ⟨⟨⟨_, _, rfl⟩, fun b o hb e => (hs'.2 b (by simpa using hb)).trans e, Nat.le_succ _⟩, hn', Nat.succ_pos _⟩) hp

theorem ways_ok {a b c d e : Nat} {t : Tok} (g : Gr s.heap) (hA : AOk (k + 1) A) :
    Ev (model prog w) A (call (.ref 77) [.str ⟨#[a, b, c, d, e]⟩ t]) s fun v s' => RL (RL (RS 1)) s' v (waysF a [b, c, d, e]) := by
  refine call_fnC (x := Str.ofString "sign") [(Str.ofString "word", .str ⟨#[a, b, c, d, e]⟩ t)] g.ways g.nolimit hA (fun _ _ _ => by kernel_rfl) (by intro x hx; rw [List.mem_singleton.mp hx]; rfl) (fun _ => rfl) (fun env s₁ cc ev hA₁ hL hcc hLc hcs ks hns hcl => ?_) (fun env he x v hx => ?_)
  · obtain ⟨m, hn, hm⟩ := hns
    have hk := ev.fn
    have hpk := ev.pk
    have hh := hA₁.handled
    have hsl : sizeLine = 16777216 := sizeLine_eq
    have up := (RS.flat 1).up
    have upl : Up (RL (RS 1)) := RL.up up
    intro E
    conv in execs _ _ => arg 1; whnf
    refine wpAny_execs_cons (wpAny_Assign_Name (Do.cont (W := []) (P := fun v s' => RL (RL (RS 1)) s' v [[⟨#[a]⟩]]) ?_ fun v s₂ q₂ h₂ => ?_))
    · refine (ev_list1 (R := RL (RS 1)) upl ((ev_list1 up ((ev_cut_str (x := ⟨#[a, b, c, d, e]⟩) (l := none) (u := some 1) ((ev_Name (ev.loc hn (hm _ _ rfl)) hk).mono fun v s' _ e => ?_) (fun _ _ => part_no) (fun _ _ => part_one) (fun t _ t2 => cut_head a b c d e t t2) (by rw [hsl]; exact (by decide : 1 ≤ 16777216))).mono fun v s' _ h => h.rs (by exact (by decide : 1 < 2)))).mono fun _ _ _ h => h.1)).mono fun _ _ _ h => h.1
      exact ⟨_, e.1.symm⟩
    · have h₃ : RL (RL (RS 1)) s₂ v [[⟨#[a]⟩]] := h₂
      refine (do_store' (hn.keeps q₂.all) ev.kn hpk).cont fun _ s₃ q₃ hp₃ => ?_
      obtain ⟨hn₃, ht₃⟩ := hp₃
      obtain ⟨oc, hcl⟩ := hcl
      have hLc' : cc ∉ [env.locals] := by simpa using Ne.symm hLc
      have b₃ : Mod [env.locals, cc] s₁ s₃ := (q₂.any).trans (q₃.wider (by simp))
      have hcl₃ : s₃.heap.IsCell cc oc := cell_away q₃ (cell_away q₂ hcl (by simp)) hLc'
      have hv₃ : RL (RL (RS 1)) s₃ v [[⟨#[a]⟩]] := RL.firm (RL.firm (RS.firm 1)) _ _ _ _ _ q₃ (by intro z hz; rw [List.mem_singleton.mp hz]; exact ns_no_list (hn.keeps q₂.all)) h₃
      have hword : (fun z => if z = Str.ofString "ways" then some v else m z) (Str.ofString "word") = some (.str ⟨#[a, b, c, d, e]⟩ t) := upd_ne (by decide) (hm _ _ rfl)
      have hold : ∀ z ∈ [env.locals, cc], ∃ o, s₃.heap.get? z = some o := by
        intro z hz
        simp only [List.mem_cons, List.not_mem_nil, or_false] at hz
        rcases hz with rfl | rfl
        · exact Ns_old hn₃
        · exact cell_old hcl₃
      refine wpAny_execs_cons (for_str (W := [env.locals, cc]) (x := ⟨#[b, c, d, e]⟩)
        (fun i s' => 0 < s'.toks ∧ (∃ o, s'.heap.IsCell cc o) ∧ ∃ m v, s'.heap.Ns env.locals m ∧ m (Str.ofString "ways") = some v ∧ RL (RL (RS 1)) s' v (waysF a (([b, c, d, e] : List Nat).take i))) hh (fun _ _ => rfl) hold
        ?_ (fun s' q => ⟨Nat.lt_of_lt_of_le ht₃ q.toks, ⟨_, cell_away q hcl₃ (by simp)⟩, _, v, hn₃.keeps q.all, if_pos rfl, RL.up (RL.up up) _ _ _ _ q hv₃⟩) (fun I i s' s'' hI hno h q => ?_) (fun i ch u s' E hi q h => ?_) (fun s' q h => ?_))
      · refine (ev_cut_str (x := ⟨#[a, b, c, d, e]⟩) (l := some 1) (u := none) ((ev_Name (ev.loc hn₃ hword) hk).mono fun v s' _ e => ⟨_, e.1.symm⟩) (fun _ _ => part_one) (fun _ _ => part_no) (fun t t1 _ => cut_tail a b c d e t t1) (by rw [hsl]; exact (by decide : 4 ≤ 16777216)))
      · obtain ⟨h0, ⟨o, h1⟩, m', v', h2, h3, h4⟩ := h
        have hne : ∀ z ∈ [env.locals, cc], z ≠ I := fun z hz e => by subst e; obtain ⟨o, e⟩ := hold z hz; rw [hI] at e; cases e
        refine ⟨Nat.lt_of_lt_of_le h0 q.toks, ⟨o, cell_away q h1 (by simpa using hne cc (by simp))⟩, m', v', ns_away q h2 (by simpa using hne env.locals (by simp)), h3, ?_⟩
        exact RL.firm (RL.firm (RS.firm 1)) _ _ _ _ _ q (by intro z hz; rw [List.mem_singleton.mp hz]; exact hno) h4
      · obtain ⟨h0, ⟨o, h1⟩, m', v', h2, h3, h4⟩ := h
        refine wpAny_assign_Name (wpAny_storeName_cell hk ev.kn (by rw [hcs]; rfl) h1 fun h₅ hc₅' hs₅ => ?_)
        have q₅ : Mod [cc] s' { s' with heap := h₅ } := Mod.sameBut hs₅ (by simp)
        have hr₅' := RL.firm (RL.firm (RS.firm 1)) _ _ _ _ _ q₅ (by intro z hz; rw [List.mem_singleton.mp hz]; exact cell_no_list h1) h4
        have hn₅' := ns_away q₅ h2 (by simpa using hLc)
        have hc₅ : ({ s' with heap := h₅ } : Shared).heap.IsCell cc (some (.str ⟨#[ch]⟩ u)) := hc₅'
        have ht₅ : 0 < ({ s' with heap := h₅ } : Shared).toks := h0
        generalize ({ s' with heap := h₅ } : Shared) = s₅ at *
        have okw := waysF_ok a (([b, c, d, e] : List Nat).take i)
        have hlen : (([b, c, d, e] : List Nat).take i).length ≤ 4 := by rw [List.length_take]; simp; omega
        have hfold : waysF a (([b, c, d, e] : List Nat).take (i + 1)) = stepW (waysF a (([b, c, d, e] : List Nat).take i)) ch := by
          have e1 : ([b, c, d, e] : List Nat)[i]? = some ch := by simpa using hi
          rw [List.take_add_one, e1]; simp [waysF, List.foldl_append]
        rw [hfold]
        generalize waysF a (([b, c, d, e] : List Nat).take i) = ws at *
        generalize (([b, c, d, e] : List Nat).take i).length = n at *
        have hwn : ws.length ≤ 16 := by rw [okw.1]; exact Nat.le_trans (Nat.pow_le_pow_right (by decide) hlen) (by decide)
        have flatl : Flat (RL (RS 1)) := RL.flatOf (RS.flat 1) fun _ _ _ h => h.noRef
        have nrl : ∀ s v d, RL (RS 1) s v d → ∀ L m, s.heap.Ns L m → v ≠ .ref L := by
          rintro s v d ⟨l, its, rfl, hl, _⟩ L m hn e
          cases e; exact Ns_ne_list hn hl rfl
        have cel : ∀ C s₈ s₉, Mod [] s₅ s₈ → s₈.heap.get? C = none → Mod [C] s₈ s₉ → s₉.heap.IsCell cc (some (.str ⟨#[ch]⟩ u)) := fun C s₈ s₉ q₈ hC q₉ =>
          cell_away q₉ (cell_away q₈ hc₅ (by simp)) (fun hm => by
            obtain ⟨o, e⟩ := cell_old (cell_away q₈ hc₅ (by simp))
            rw [List.mem_singleton.mp hm, hC] at e; cases e)
        refine wpAny_execs_cons (wpAny_Assign_Name (Do.cont (W := []) (P := fun v s₆ => RL (RL (RS 1)) s₆ v (stepW ws ch)) ?_ fun v₆ s₆ q₆ h₆ => ?_))
        · have it : ∀ p s₇, Mod [] s₅ s₇ → Ev (model prog w) (A.deeper env) (eval (.Name (Str.ofString "ways") p) env) s₇ fun v s' => RL (RL (RS 1)) s' v ws := fun p s₇ q₇ =>
            (ev_Name ((ev.loc hn₅' h3 : Nm env s₅.heap (Str.ofString "ways") v').mod q₇) hk).mono fun v s'' _ e => by
              obtain ⟨rfl, rfl⟩ := e
              exact RL.up upl _ _ _ _ q₇ hr₅'
          refine ev_BinOp (R₁ := RL (RL (RS 1))) (d₁ := ws.map (fun w => w.dropLast ++ [w.getLastD Str.empty ++ (⟨#[ch]⟩ : Str)])) (R₂ := RL (RL (RS 1))) (d₂ := ws.map (fun w => w ++ [(⟨#[ch]⟩ : Str)])) (RL.up upl) ?_ (fun s₇ q₇ => ?_)
            (fun x y s₇ q₇ ha hb => (ev_list_add upl ha hb (by rw [List.length_map, List.length_map]; omega)).mono fun _ _ _ h => h.1)
          · refine Do.mono (P := fun v s' => RL (RL (RS 1)) s' v (ws.filterMap fun w => some (w.dropLast ++ [w.getLastD Str.empty ++ (⟨#[ch]⟩ : Str)])) ∧ New s₅ v) ?_ (fun _ _ _ h => by simpa using h.1)
            refine ev_ListComp (R := RL (RS 1)) hh upl flatl (it _ _ (.refl _ _)) (by omega) (clos_sign hcs) (fun s₈ q₈ => cturn_name rfl rfl flatl nrl fun C dd v s₉ hd q₉ hC hv hr => ?_)
            have vway : ∀ s'', Mod [] s₉ s'' → At _ s'' (Str.ofString "way") (RL (RS 1)) dd := fun s'' q => At.mod upl q ⟨v, hv, hr⟩
            have vsign : ∀ s'', Mod [] s₉ s'' → At (compEnvC wayScope [(Str.ofString "sign", cc)] C env) s'' (Str.ofString "sign") (RS 1) ⟨#[ch]⟩ := fun s'' q => At.mod up q ⟨_, .cel cc (ce_cel hk ev.kn) rfl (cel C s₈ s₉ q₈ hC q₉), RW.rs ⟨u, rfl⟩ (by exact (by decide : 1 < 2))⟩
            obtain ⟨w1, w2, w3⟩ := okw.2 dd hd
            have hlast : dd.getLast? = some (dd.getLastD Str.empty) := by rw [List.getLastD_eq_getLast?, List.getLast?_eq_some_getLast w1]; rfl
            have hlm : dd.getLastD Str.empty ∈ dd := List.mem_of_getLast? hlast
            have ht₉ : 1 ≤ s₉.toks := Nat.le_trans ht₅ (Nat.le_trans q₈.toks q₉.toks)
            refine ev_BinOp (R₁ := RL (RS 1)) (d₁ := dd.dropLast) (R₂ := RL (RS 1)) (d₂ := [dd.getLastD Str.empty ++ ⟨#[ch]⟩]) upl ?_ (fun s₁₀ q₁₀ => ?_) (fun x y s₁₀ q₁₀ ha hb => ?_)
            · exact (ev_slice (xs := dd) (lo := none) (hi := some (-1)) up (((vway _ (.refl _ _)).ev rfl).mono fun v s' _ h => by obtain ⟨l, its, e, hl, hp⟩ := h; exact ⟨l, its, e, hl.isList, hp⟩) (fun _ _ => ev_part_none) (fun s'' _ => (ev_neg1 (s := s'')).mono fun v _ _ h => by obtain ⟨t, rfl⟩ := h; exact .int _ _) pick_butLast (by omega)).mono fun _ _ _ h => h.1
            · refine (ev_list1 up (ev_BinOp (R₁ := RS 1) (d₁ := dd.getLastD Str.empty) (R₂ := RS 1) (d₂ := ⟨#[ch]⟩) up (ev_last up ((vway _ q₁₀).ev rfl) hlast (by omega)) (fun s₁₁ q₁₁ => (vsign _ (q₁₀.trans q₁₁)).ev rfl) (fun x y s₁₁ q₁₁ ha hb => ?_))).mono fun _ _ _ h => h.1
              refine ev_add_str (Nat.le_trans ht₉ (Nat.le_trans q₁₀.toks q₁₁.toks)) ha hb ?_
              have := w3 _ hlm
              have e1 : (⟨#[ch]⟩ : Str).length = 1 := rfl
              omega
            · exact (ev_list_add up ha hb (by rw [List.length_dropLast]; simp; omega)).mono fun v s'' q'' h => ⟨h.1, fun a e => q₁₀.freshBack (by simp) (h.2 a e)⟩
          · refine Do.mono (P := fun v s' => RL (RL (RS 1)) s' v (ws.filterMap fun w => some (w ++ [(⟨#[ch]⟩ : Str)])) ∧ New s₇ v) ?_ (fun _ _ _ h => by simpa using h.1)
            refine ev_ListComp (R := RL (RS 1)) hh upl flatl (it _ _ q₇) (by omega) (clos_sign hcs) (fun s₈ q₈ => cturn_name rfl rfl flatl nrl fun C dd v s₉ hd q₉ hC hv hr => ?_)
            have vway : ∀ s'', Mod [] s₉ s'' → At _ s'' (Str.ofString "way") (RL (RS 1)) dd := fun s'' q => At.mod upl q ⟨v, hv, hr⟩
            have vsign : ∀ s'', Mod [] s₉ s'' → At (compEnvC wayScope [(Str.ofString "sign", cc)] C env) s'' (Str.ofString "sign") (RS 1) ⟨#[ch]⟩ := fun s'' q => At.mod up q ⟨_, .cel cc (ce_cel hk ev.kn) rfl (cel C s₈ s₉ (q₇.trans q₈) hC q₉), RW.rs ⟨u, rfl⟩ (by exact (by decide : 1 < 2))⟩
            obtain ⟨w1, w2, w3⟩ := okw.2 dd hd
            refine ev_BinOp (R₁ := RL (RS 1)) (d₁ := dd) (R₂ := RL (RS 1)) (d₂ := [⟨#[ch]⟩]) upl ((vway _ (.refl _ _)).ev rfl) (fun s₁₀ q₁₀ => (ev_list1 up ((vsign _ q₁₀).ev rfl)).mono fun _ _ _ h => h.1) (fun x y s₁₀ q₁₀ ha hb => ?_)
            exact (ev_list_add up ha hb (by simp; omega)).mono fun v s'' q'' h => ⟨h.1, fun a e => q₁₀.freshBack (by simp) (h.2 a e)⟩
        · refine (do_store (hn₅'.keeps q₆.all) ev.kn hpk).cont fun _ s₇ q₇ hn₇ => wpAny_execs_nil ⟨rfl, ?_, ?_, ?_, _, v₆, hn₇, if_pos rfl, ?_⟩
          · exact ((q₅.wider (by simp)).trans q₆.any).trans (q₇.wider (by simp))
          · exact Nat.lt_of_lt_of_le ht₅ (Nat.le_trans q₆.toks q₇.toks)
          · exact ⟨_, cell_away q₇ (cell_away q₆ hc₅ (by simp)) hLc'⟩
          · exact RL.firm (RL.firm (RS.firm 1)) _ _ _ _ _ q₇ (by intro z hz; rw [List.mem_singleton.mp hz]; exact ns_no_list (hn₅'.keeps q₆.all)) h₆
      · obtain ⟨h0, _, m', v', h2, h3, h4⟩ := h
        refine wpAny_execs_cons (wpAny_Return_some ((ev_Name (ev.loc h2 h3) hk).cont fun v₉ s₉ q₉ e => ?_))
        obtain ⟨rfl, rfl⟩ := e
        exact ⟨b₃.trans q, _, rfl, h4⟩
  · have kw : env.kindOf (Str.ofString "word") = some .local := by unfold Env.kindOf; rw [he]; rfl
    show (if env.kindOf (Str.ofString "word") = some .local then fun y => if y = Str.ofString "word" then some (Value.str ⟨#[a, b, c, d, e]⟩ t) else none else fun _ => none) x = some v
    rw [if_pos kw]
    by_cases hxw : x = Str.ofString "word"
    · subst hxw; simpa using hx
    · have : (x == Str.ofString "word") = false := by simpa using hxw
      simp [List.lookup, this] at hx
end

end Mine

/-! ### Next -/
namespace Mine
open PySem PySem.Calls PyProof.Rows

abbrev stShut : Str := Str.ofString "shut"
abbrev stFree : Str := Str.ofString "free"
abbrev stBare : Str := Str.ofString "bare"
def safes : Str := Str.ofString "ABCDEFGHIJKLMNOPQRSTUVWXYZabcdefghijklmnopqrstuvwxyz0123456789_@%+=:,./-"
theorem safes_small : ∀ c, c < 256 → decide (c ∈ safes.cps.toList) = safeC c := by decide +kernel
theorem safes_all : ∀ c ∈ safes.cps.toList, c < 256 := by decide +kernel
theorem safes_any (c : Nat) : decide (c ∈ safes.cps.toList) = safeC c := by
  by_cases h : c < 256
  · exact safes_small c h
  · rw [safe_big (by omega), decide_eq_false fun hm => h (safes_all c hm)]

def writ (c : Nat) : Str := if c = 39 then esc else ⟨#[c]⟩
abbrev Row := Str × Str × Int
def nextF (text state : Str) (times : Int) (c : Nat) : List Row :=
  if state = stShut then [(text ++ writ c, if safeC c = true then stShut else stFree, times)]
  else [(text ++ apo ++ writ c, if safeC c = true then stShut else stFree, times)] ++ (if safeC c = true then [(text ++ ⟨#[c]⟩, stBare, if state = stBare then 2 * times else times)] else [])
theorem writ_len (c : Nat) : (writ c).length ≤ 5 := by
  unfold writ
  split
  · rw [esc_eq]; exact Nat.le_refl 5
  · exact (by decide : 1 ≤ 5)

def RB (_ : Shared) (v : Value) (b : Bool) : Prop := v = .bool b
theorem RB.up : Up RB := fun _ _ _ _ _ h => h

section
variable {prog : Program} {w : World} {A : Around} {s : Shared} {k : Nat} {env : Env}
theorem ev_eqW {a b : Value} {x y : Str} (ha : RW s a x) (hb : RW s b y) :
    Ev (model prog w) A (compareOp .Eq a b) s fun v _ => v = .bool (decide (x = y)) := by
  intro E
  obtain ⟨t, rfl⟩ := ha
  obtain ⟨u, rfl⟩ := hb
  exact P.eq_str ⟨.refl _ _, by rw [str_toList_beq]⟩
theorem ev_neW {a b : Value} {x y : Str} (ha : RW s a x) (hb : RW s b y) :
    Ev (model prog w) A (compareOp .NotEq a b) s fun v _ => v = .bool (decide (x ≠ y)) := by
  intro E
  obtain ⟨t, rfl⟩ := ha
  obtain ⟨u, rfl⟩ := hb
  refine P.ne_str ⟨.refl _ _, ?_⟩
  show Value.bool (!(x.cps.toList == y.cps.toList)) = _
  rw [str_toList_beq]; simp
theorem ev_strW (x : Str) (k : Nat) {p : Pos} {M : Model} : Ev M A (eval (.Constant (.str x) k p) env) s fun v s' => RW s' v x := fun _ => wpAny_Constant_str ⟨.toked (Nat.le_succ _), _, rfl⟩
theorem ev_bool_test {x : Str} {b : Bool} {p : Pos} {M : Model} {whole : Sem Value} (h : At env s x RB b) (hk : env.scope.kind = .function) (hw : whole = eval (.Name x p) env := by rfl)
    (he : isTrue (.Name x p) env whole = (do let v ← whole; standAt (Expr.Name x p).pos; holding [v] (truthy v)) := by rfl) (hd : (x == ("__debug__" : Str)) = false := by decide) :
    Ev M A (isTrue (.Name x p) env whole) s fun v _ => v = b := by
  intro E
  refine isTrue_plain ?_ he
  rw [hw]
  refine (h.ev hk hd).cont fun v s' q hv => ?_
  rw [show v = .bool b from hv]
  exact wpAny_truthy_bool ⟨q, rfl⟩

theorem apo_char {c : Nat} : ((⟨#[c]⟩ : Str) = apo) ↔ c = 39 := by
  rw [apo_eq]
  constructor
  · intro h; injection h with h; injection h with h; injection h
  · rintro rfl; rfl

theorem next_ok {lo : Nat} {v1 v2 v3 v4 : Value} {text state : Str} {times : Int} {c : Nat} (g : Gr s.heap) (hA : AOk (k + 1) A) (hlo : lo ≤ s.toks)
    (h1 : RS lo s v1 text) (h2 : RW s v2 state) (h3 : RI s v3 times) (h4 : RW s v4 ⟨#[c]⟩) (hsz : text.length ≤ 1000) :
    Ev (model prog w) A (call (.ref 84) [v1, v2, v3, v4]) s fun v s' => RL (R3 lo) s' v (nextF text state times c) ∧ New s v := by
  refine call_fn [(Str.ofString "text", v1), (Str.ofString "state", v2), (Str.ofString "times", v3), (Str.ofString "sign", v4)] g.next g.nolimit hA (fun _ _ _ => by kernel_rfl) (by kernel_rfl) fun env s₁ ev hA₁ hL q htk hn => ?_
  have hk := ev.fn
  have hpk := ev.pk
  have hsl : sizeLine = 16777216 := sizeLine_eq
  have up := (RS.flat lo).up
  have hlo₁ : ∀ {W s'}, Mod W s₁ s' → lo ≤ s'.toks := fun q' => Nat.le_trans hlo (Nat.le_trans q.toks q'.toks)
  have hr1 := h1.mod q
  intro E
  conv in execs _ _ => arg 1; whnf
  -- safe
  refine wpAny_execs_cons (wpAny_Assign_Name (Do.cont (W := []) (P := fun v s' => RB s' v (safeC c)) ?_ fun v5 s₂ q₂ h₂ => ?_))
  · intro E
    refine wpAny_Compare1 ((ev_Name (ev.loc hn rfl) hk).cont fun a1 s₂ q₂ e => ?_)
    obtain ⟨rfl, rfl⟩ := e
    obtain ⟨t, rfl⟩ := h4
    refine wpAny_Constant_str (P.in_str ⟨.toked (Nat.le_succ _), ?_⟩)
    show _ = Value.bool (safeC c)
    rw [← safes_any, ← StrLaws.found_one]; rfl
  refine (do_store (hn.keeps q₂.all) ev.kn hpk).cont fun _ s₃ q₃ hn₃ => ?_
  -- written
  have b₃ : Mod [env.locals] s₁ s₃ := (q₂.any).trans q₃
  have sg₃ : ∀ s', Mod [] s₃ s' → At env s' (Str.ofString "sign") RW ⟨#[c]⟩ := fun s' q' => At.mod RW.flat.up q' ⟨v4, ev.loc hn₃ rfl, h4⟩
  refine wpAny_execs_cons (wpAny_Assign_Name (Do.cont (W := []) (P := fun v s' => RS lo s' v (writ c)) ?_ fun v6 s₄ q₄ h₄ => ?_))
  · refine ev_IfExp (b := decide ((⟨#[c]⟩ : Str) = apo)) (ev_test (R₁ := RW) (R₂ := RW) (d₁ := ⟨#[c]⟩) (d₂ := apo) RW.flat.up ((sg₃ _ (.refl _ _)).ev hk) (fun s' q' => ev_strW _ _) (fun a b s' q' ha hb => ev_eqW ha hb)) (fun hb s' q' => ?_) (fun hb s' q' => ?_)
    · rw [show writ c = esc from if_pos (apo_char.mp (of_decide_eq_true hb))]
      exact ev_str lo (hlo₁ (b₃.trans q'.any)) _ _
    · rw [show writ c = ⟨#[c]⟩ from if_neg fun h => of_decide_eq_false hb (apo_char.mpr h)]
      exact ((sg₃ _ q').ev hk).mono fun v s'' _ h => h.rs (by exact (by decide : 1 < 2))
  refine (do_store (hn₃.keeps q₄.all) ev.kn hpk).cont fun _ s₅ q₅ hn₅ => ?_
  have b₅ : Mod [env.locals] s₁ s₅ := (b₃.trans q₄.any).trans q₅
  have sg : ∀ s', Mod [] s₅ s' → At env s' (Str.ofString "sign") RW ⟨#[c]⟩ := fun s' q' => At.mod RW.flat.up q' ⟨v4, ev.loc hn₅ rfl, h4⟩
  have tx : ∀ s', Mod [] s₅ s' → At env s' (Str.ofString "text") (RS lo) text := fun s' q' => At.mod up q' ⟨v1, ev.loc hn₅ rfl, hr1.mod b₅⟩
  have sta : ∀ s', Mod [] s₅ s' → At env s' (Str.ofString "state") RW state := fun s' q' => At.mod RW.flat.up q' ⟨v2, ev.loc hn₅ rfl, h2⟩
  have tim : ∀ s', Mod [] s₅ s' → At env s' (Str.ofString "times") RI times := fun s' q' => At.mod RI.flat.up q' ⟨v3, ev.loc hn₅ rfl, h3⟩
  have sf : ∀ s', Mod [] s₅ s' → At env s' (Str.ofString "safe") RB (safeC c) := fun s' q' => At.mod RB.up q' ⟨v5, ev.loc hn₅ rfl, h₂⟩
  have wr : ∀ s', Mod [] s₅ s' → At env s' (Str.ofString "written") (RS lo) (writ c) := fun s' q' => At.mod up q' ⟨v6, ev.loc hn₅ rfl, h₄.mod q₅⟩
  have state' : ∀ p1 p2 p3 p4 k1 k2 s', Mod [] s₅ s' → Ev (model prog w) (A.deeper env) (eval (.IfExp (.Name (Str.ofString "safe") p1) (.Constant (.str stShut) k1 p2) (.Constant (.str stFree) k2 p3) p4) env) s' fun v s'' => RW s'' v (if safeC c = true then stShut else stFree) := by
    intro p1 p2 p3 p4 k1 k2 s' q'
    refine ev_IfExp (b := safeC c) (ev_bool_test (sf _ q') hk) (fun hb s'' q'' => ?_) (fun hb s'' q'' => ?_)
    · rw [if_pos hb]; exact ev_strW _ _
    · rw [if_neg (by rw [hb]; exact Bool.false_ne_true)]; exact ev_strW _ _
  have hw := writ_len c
  have ha1 : apo.length = 1 := by rw [apo_eq]; rfl
  have e1 : (⟨#[c]⟩ : Str).length = 1 := rfl
  have flat3 := R3.flat lo
  -- if state == 'shut'
  refine wpAny_execs_cons (wpAny_If (Do.cont (W := []) (P := fun v _ => v = decide (state = stShut)) ?_ fun c1 s₆ q₆ e => ?_))
  · exact ev_test (R₁ := RW) (R₂ := RW) RW.flat.up ((sta _ (.refl _ _)).ev hk) (fun s' q' => ev_strW _ _) (fun a b s' q' ha hb => ev_eqW ha hb)
  subst e
  by_cases hst : state = stShut
  · rw [decide_eq_true hst, if_pos rfl]
    refine wpAny_execs_cons (wpAny_Return_some (Do.cont (W := []) (P := fun v s' => RL (R3 lo) s' v (nextF text state times c) ∧ New s₆ v) ?_ fun v7 s₇ q₇ h₇ => ?_))
    · unfold nextF
      rw [if_pos hst]
      refine ev_list1 flat3.up ((ev_row3 ?_ (fun s' q' => state' _ _ _ _ _ _ _ (q₆.trans q')) (fun s' q' => (tim _ (q₆.trans q')).ev hk)).mono fun _ _ _ h => h.1)
      exact ev_BinOp (R₁ := RS lo) (R₂ := RS lo) up ((tx _ q₆).ev hk) (fun s' q' => (wr _ (q₆.trans q')).ev hk) (fun a b s' q' ha hb => ev_add_str (hlo₁ ((b₅.trans q₆.any).trans q'.any)) ha hb (by omega))
    · exact ⟨(b₅.trans q₆.any).trans q₇.any, _, rfl, h₇.1, fun a e => (q.freshBack (by simp) (((b₅.trans q₆.any).less (W' := [env.locals]) (fun z hz => .inl hz)).freshBack (fun hm => by
        have := h₇.2 a e
        rw [List.mem_singleton.mp hm] at this
        obtain ⟨o, e⟩ := Ns_old (hn₅.keeps q₆.all)
        rw [e] at this; cases this) (h₇.2 a e)))⟩
  · rw [decide_eq_false hst, if_neg Bool.false_ne_true]
    refine wpAny_execs_nil ?_
    dsimp only
    have fin : nextF text state times c = [(text ++ apo ++ writ c, if safeC c = true then stShut else stFree, times)] ++ (if safeC c = true then [(text ++ (⟨#[c]⟩ : Str), stBare, if state = stBare then 2 * times else times)] else []) := by
      unfold nextF; rw [if_neg hst]
    refine wpAny_execs_cons (wpAny_Assign_Name (Do.cont (W := []) (P := fun v s' => RL (R3 lo) s' v [(text ++ apo ++ writ c, if safeC c = true then stShut else stFree, times)] ∧ New s₆ v) ?_ fun v7 s₇ q₇ h₇ => ?_))
    · refine ev_list1 flat3.up ((ev_row3 ?_ (fun s' q' => state' _ _ _ _ _ _ _ (q₆.trans q')) (fun s' q' => (tim _ (q₆.trans q')).ev hk)).mono fun _ _ _ h => h.1)
      refine ev_BinOp (R₁ := RS lo) (d₁ := text ++ apo) (R₂ := RS lo) up (ev_BinOp (R₁ := RS lo) (d₁ := text) (R₂ := RS lo) (d₂ := apo) up ((tx _ q₆).ev hk) (fun s' q' => ev_str lo (hlo₁ ((b₅.trans q₆.any).trans q'.any)) _ _) (fun a b s' q' ha hb => ev_add_str (hlo₁ ((b₅.trans q₆.any).trans q'.any)) ha hb (by omega)))
        (fun s' q' => (wr _ (q₆.trans q')).ev hk) (fun a b s' q' ha hb => ev_add_str (hlo₁ ((b₅.trans q₆.any).trans q'.any)) ha hb (by rw [Str.length_append]; omega))
    have b₇ : Mod [env.locals] s₁ s₇ := (b₅.trans q₆.any).trans q₇.any
    have hn₇ := (hn₅.keeps q₆.all).keeps q₇.all
    refine (do_store hn₇ ev.kn hpk).cont fun _ s₈ q₈ hn₈ => ?_
    have b₈ : Mod [env.locals] s₁ s₈ := b₇.trans q₈
    have nol : ∀ z ∈ [env.locals], ∀ its, ¬ s₇.heap.PlainList z its := by intro z hz; rw [List.mem_singleton.mp hz]; exact ns_no_list hn₇
    have rows₈ : RL (R3 lo) s₈ v7 [(text ++ apo ++ writ c, if safeC c = true then stShut else stFree, times)] := RL.firm (R3.firm lo) _ _ _ _ _ q₈ nol h₇.1
    have new₇ : New s v7 := fun a e => q.freshBack (by simp) ((b₅.trans q₆.any).freshBack (fun hm => by
        have := h₇.2 a e
        rw [List.mem_singleton.mp hm] at this
        obtain ⟨o, e⟩ := Ns_old (hn₅.keeps q₆.all)
        rw [e] at this; cases this) (h₇.2 a e))
    have sg : ∀ s', Mod [] s₈ s' → At env s' (Str.ofString "sign") RW ⟨#[c]⟩ := fun s' q' => At.mod RW.flat.up q' ⟨v4, ev.loc hn₈ rfl, h4⟩
    have tx : ∀ s', Mod [] s₈ s' → At env s' (Str.ofString "text") (RS lo) text := fun s' q' => At.mod up q' ⟨v1, ev.loc hn₈ rfl, hr1.mod b₈⟩
    have sta : ∀ s', Mod [] s₈ s' → At env s' (Str.ofString "state") RW state := fun s' q' => At.mod RW.flat.up q' ⟨v2, ev.loc hn₈ rfl, h2⟩
    have tim : ∀ s', Mod [] s₈ s' → At env s' (Str.ofString "times") RI times := fun s' q' => At.mod RI.flat.up q' ⟨v3, ev.loc hn₈ rfl, h3⟩
    have sf : ∀ s', Mod [] s₈ s' → At env s' (Str.ofString "safe") RB (safeC c) := fun s' q' => At.mod RB.up q' ⟨v5, ev.loc hn₈ rfl, h₂⟩
    have rws : ∀ s', Mod [] s₈ s' → At env s' (Str.ofString "rows") (RL (R3 lo)) [(text ++ apo ++ writ c, if safeC c = true then stShut else stFree, times)] := fun s' q' => At.mod (RL.up flat3.up) q' ⟨v7, ev.loc hn₈ rfl, rows₈⟩
    refine wpAny_execs_cons (wpAny_If ((ev_bool_test (sf _ (.refl _ _)) hk).cont fun c1 s₉ q₉ e => ?_))
    subst e
    by_cases hsf : safeC c = true
    · rw [if_pos hsf]
      rw [if_pos hsf, if_pos hsf] at fin
      have rws' : At env s₉ (Str.ofString "rows") (RL (R3 lo)) [(text ++ apo ++ writ c, stShut, times)] := by have := rws _ q₉; rwa [if_pos hsf] at this
      refine wpAny_execs_cons (wpAny_Assign_Name (Do.cont (W := []) (P := fun v s' => RL (R3 lo) s' v (nextF text state times c) ∧ New s₉ v) ?_ fun v10 s₁₀ q₁₀ h₁₀ => ?_))
      · rw [fin]
        refine ev_BinOp (R₁ := RL (R3 lo)) (R₂ := RL (R3 lo)) (d₁ := [(text ++ apo ++ writ c, stShut, times)]) (d₂ := [(text ++ (⟨#[c]⟩ : Str), stBare, if state = stBare then 2 * times else times)]) (RL.up flat3.up) (rws'.ev hk) (fun s' q' => ?_)
          (fun a b s' q' ha hb => (ev_list_add flat3.up ha hb (by simp [hsl])).mono fun v s'' q'' h => ⟨h.1, fun a e => q'.freshBack (by simp) (h.2 a e)⟩)
        refine (ev_list1 flat3.up ((ev_row3 ?_ (fun s'' q'' => ev_strW _ _) (fun s'' q'' => ?_)).mono fun _ _ _ h => h.1)).mono fun _ _ _ h => h.1
        · exact ev_BinOp (R₁ := RS lo) (R₂ := RS lo) up ((tx _ (q₉.trans q')).ev hk) (fun s'' q'' => ((sg _ ((q₉.trans q').trans q'')).ev hk).mono fun _ _ _ h => h.rs (by exact (by decide : 1 < 2))) (fun a b s'' q'' ha hb => ev_add_str (hlo₁ (b₈.trans ((q₉.trans q').trans q'').any)) ha hb (by omega))
        · have q3 := (q₉.trans q').trans q''
          refine ev_IfExp (b := decide (state = stBare)) (ev_test (R₁ := RW) (R₂ := RW) RW.flat.up ((sta _ q3).ev hk) (fun s' q' => ev_strW _ _) (fun a b s' q' ha hb => ev_eqW ha hb)) (fun hb s₁₁ q₁₁ => ?_) (fun hb s₁₁ q₁₁ => ?_)
          · rw [if_pos (of_decide_eq_true hb)]
            refine ev_BinOp (R₁ := RI) (R₂ := RI) (d₁ := 2) RI.flat.up (ev_int _ _) (fun s' q' => (tim _ ((q3.trans q₁₁).trans q')).ev hk) (fun a b s' q' ha hb => ?_)
            obtain ⟨t, rfl⟩ := ha
            obtain ⟨u, rfl⟩ := hb
            exact fun E => PyProof.Rows.mul_int ⟨.toked (Nat.le_succ _), _, rfl⟩
          · rw [if_neg (of_decide_eq_false hb)]
            exact (tim _ (q3.trans q₁₁)).ev hk
      · refine (do_store ((hn₈.keeps q₉.all).keeps q₁₀.all) ev.kn hpk).cont fun _ s₁₁ q₁₁ hn₁₁ => wpAny_execs_nil ?_
        dsimp only
        refine wpAny_execs_cons (wpAny_Return_some ((ev_Name (ev.loc hn₁₁ (if_pos rfl)) hk).cont fun v s₁₂ q₁₂ e => ?_))
        obtain ⟨rfl, rfl⟩ := e
        refine ⟨(b₈.trans (q₉.trans q₁₀).any).trans q₁₁, _, rfl, RL.firm (R3.firm lo) _ _ _ _ _ q₁₁ (by intro z hz; rw [List.mem_singleton.mp hz]; exact ns_no_list ((hn₈.keeps q₉.all).keeps q₁₀.all)) h₁₀.1, fun a e => ?_⟩
        exact q.freshBack (by simp) ((b₈.trans q₉.any).freshBack (fun hm => by
          have := h₁₀.2 a e
          rw [List.mem_singleton.mp hm] at this
          obtain ⟨o, e⟩ := Ns_old (hn₈.keeps q₉.all)
          rw [e] at this; cases this) (h₁₀.2 a e))
    · rw [if_neg hsf]
      rw [if_neg hsf, if_neg hsf] at fin
      refine wpAny_execs_nil ?_
      dsimp only
      refine wpAny_execs_cons (wpAny_Return_some ((ev_Name ((ev.loc hn₈ (if_pos rfl) : Nm env s₈.heap (Str.ofString "rows") v7).mod q₉) hk).cont fun v s₁₂ q₁₂ e => ?_))
      obtain ⟨rfl, rfl⟩ := e
      refine ⟨b₈.trans q₉.any, _, rfl, ?_, new₇⟩
      rw [if_neg hsf] at rows₈
      rw [fin, List.append_nil]
      exact RL.up flat3.up _ _ _ _ q₉ rows₈
end
end Mine

/-! ### Told -/
namespace Mine
open PySem PySem.Calls PyProof.Rows

def turnF (c : Nat) (r : Row) : List Row := if r.2.1 = stFree then [(r.1 ++ writ c, stFree, r.2.2)] ++ nextF (r.1 ++ apo) Str.empty r.2.2 c else nextF r.1 r.2.1 r.2.2 c
def stepT (rows : List Row) (c : Nat) : List Row := rows.flatMap (turnF c)
def rowsF (cs : List Nat) : List Row := cs.foldl stepT [(Str.empty, Str.empty, 1)]
def closeF (r : Row) : Row := (if r.2.1 = stFree then r.1 ++ apo else r.1, r.2.1, r.2.2)
def toldF (cs : List Nat) : List (Str × Int) := ((rowsF cs).map closeF).filterMap fun r => if r.2.1 = stShut then none else some (r.1, r.2.2)

def OkT (i : Nat) (rows : List Row) : Prop := rows.length ≤ 3 ^ i ∧ ∀ r ∈ rows, r.1.length ≤ 7 * i
theorem turnF_ok (c : Nat) (r : Row) : (turnF c r).length ≤ 3 ∧ ∀ q ∈ turnF c r, q.1.length ≤ r.1.length + 7 := by
  have hw := writ_len c
  have ha1 : apo.length = 1 := by rw [apo_eq]; rfl
  have e1 : (⟨#[c]⟩ : Str).length = 1 := rfl
  have nx : ∀ text state times, (nextF text state times c).length ≤ 2 ∧ ∀ q ∈ nextF text state times c, q.1.length ≤ text.length + 6 := by
    intro text state times
    unfold nextF
    split
    · refine ⟨by simp, fun q hq => ?_⟩
      rw [List.mem_singleton.mp hq]
      show (text ++ writ c).length ≤ _
      rw [Str.length_append]; omega
    · split
      · refine ⟨by simp, fun q hq => ?_⟩
        rcases List.mem_append.mp hq with hq | hq <;> rw [List.mem_singleton.mp hq]
        · show (text ++ apo ++ writ c).length ≤ _
          rw [Str.length_append, Str.length_append]; omega
        · show (text ++ (⟨#[c]⟩ : Str)).length ≤ _
          rw [Str.length_append]; omega
      · refine ⟨by simp, fun q hq => ?_⟩
        rw [List.append_nil] at hq
        rw [List.mem_singleton.mp hq]
        show (text ++ apo ++ writ c).length ≤ _
        rw [Str.length_append, Str.length_append]; omega
  unfold turnF
  split
  · have := nx (r.1 ++ apo) Str.empty r.2.2
    refine ⟨by rw [List.length_append]; simp; omega, fun q hq => ?_⟩
    rcases List.mem_append.mp hq with hq | hq
    · rw [List.mem_singleton.mp hq]
      show (r.1 ++ writ c).length ≤ _
      rw [Str.length_append]; omega
    · have := this.2 q hq
      rw [Str.length_append] at this; omega
  · have := nx r.1 r.2.1 r.2.2
    exact ⟨by omega, fun q hq => by have := this.2 q hq; omega⟩
theorem flat_len {α β : Type} (f : α → List β) (n : Nat) (h : ∀ a, (f a).length ≤ n) : ∀ l : List α, (l.flatMap f).length ≤ n * l.length
  | [] => by simp
  | a :: r => by rw [List.flatMap_cons, List.length_append, List.length_cons, Nat.mul_succ]; have := flat_len f n h r; have := h a; omega
theorem OkT.step {i : Nat} {rows : List Row} (c : Nat) (h : OkT i rows) : OkT (i + 1) (stepT rows c) := by
  constructor
  · have := flat_len (turnF c) 3 (fun r => (turnF_ok c r).1) rows
    unfold stepT
    rw [Nat.pow_succ]
    have := h.1
    omega
  · intro q hq
    obtain ⟨r, hr, hq⟩ := List.mem_flatMap.mp hq
    have := (turnF_ok c r).2 q hq
    have := h.2 r hr
    omega
theorem OkT.fold : ∀ (cs : List Nat) (i : Nat) (rows : List Row), OkT i rows → OkT (i + cs.length) (cs.foldl stepT rows)
  | [], _, _, h => h
  | c :: r, i, ws, h => by have := OkT.fold r (i + 1) _ (h.step c); rw [List.foldl_cons, List.length_cons, show i + (r.length + 1) = i + 1 + r.length by omega]; exact this
theorem rowsF_ok (cs : List Nat) : OkT cs.length (rowsF cs) := by
  have := OkT.fold cs 0 [(Str.empty, Str.empty, 1)] ⟨by simp, fun r hr => by rw [List.mem_singleton.mp hr]; exact Nat.le_refl 0⟩
  simpa [rowsF] using this

theorem plain_eq {h : Heap} {a : Addr} {x y : Array Value} (hx : h.PlainList a x) (hy : h.PlainList a y) : x = y := by
  obtain ⟨n, e⟩ := hx
  obtain ⟨m, e'⟩ := hy
  rw [e] at e'; cases e'; rfl

section
variable {prog : Program} {w : World} {A : Around} {s : Shared} {k : Nat} {env : Env}

theorem row_ne {lo : Nat} {T : Addr} {its : Array Value} {v : Value} {d : Row} (h : R3 lo s v d) (hT : s.heap.PlainList T its) (hr : ∀ y ∈ its.toList, ∃ b, y = .ref b) : v ≠ .ref T := by
  rintro rfl
  obtain ⟨a, v1, v2, v3, e, hl, ⟨t, rfl, _⟩, _, _⟩ := h
  cases e
  have := plain_eq hT hl
  subst this
  obtain ⟨b, e⟩ := hr (.str d.1 t) (by simp)
  cases e

theorem R3.refs {lo : Nat} {ys : List Value} {ds : List Row} (h : Paired (fun y d => R3 lo s y d) ys ds) : ∀ y ∈ ys, ∃ b, y = .ref b := by
  induction h with
  | nil => intro y hy; cases hy
  | cons h _ ih =>
    intro y hy
    rcases List.mem_cons.mp hy with rfl | hy
    · obtain ⟨a, _, _, _, e, _⟩ := h; exact ⟨a, e⟩
    · exact ih y hy

theorem do_extend {lo : Nat} {T : Addr} {its : Array Value} {ds xs : List Row} {x : Str} {arg : Expr} {p1 p2 p3 p4 : Pos} (hk : env.scope.kind = .function) (hx : Nm env s.heap x (.ref T)) (hT : s.heap.PlainList T its)
    (hp : Paired (fun y d => R3 lo s y d) its.toList ds) (harg : Ev (model prog w) A (eval arg env) s fun v s' => RL (R3 lo) s' v xs ∧ New s v) (hsz : ds.length + xs.length ≤ 1000)
    (hline : (p2.endLine == p3.line) = true := by rfl) (hd : (x == ("__debug__" : Str)) = false := by decide)
    (hbase : attributeBase (.Name x p1) (Str.ofString "extend") env (eval (.Name x p1) env) = eval (.Name x p1) env := by rfl)
    (he : starEach [arg] env = (false, eval arg env) :: starEach [] env := by rfl) :
    Do (model prog w) A [T] (exec (.Expr (.Call (.Attribute (.Name x p1) (Str.ofString "extend") p2) [arg] [] p3) p4) env) s fun fl s' => fl = .next ∧
      ∃ its', s'.heap.PlainList T its' ∧ Paired (fun y d => R3 lo s' y d) its'.toList (ds ++ xs) := by
  intro E
  have hi : interactive env = false := by unfold interactive; rw [hk]; rfl
  refine wpAny_Expr ?_ hi rfl
  refine wpAny_Call_method_lateS hbase (by rw [he]; rfl) hline ((ev_Name hx hk hd).cont fun f s₂ q₂ e => ?_)
  obtain ⟨rfl, rfl⟩ := e
  obtain ⟨n, hT'⟩ := id hT
  refine ⟨"list", "list.extend", F.plainAttrs_list, F.slot_list_extend, F.type_list_extend, ⟨_, hT', rfl⟩, (fun a e => by cases e; exact ⟨_, hT', rfl⟩), ?_⟩
  refine callWith_method1 (args_cons (harg.cont fun v s₃ q₃ h₃ => args_nil ?_) he) he
  obtain ⟨⟨b, its2, rfl, ⟨n2, hb⟩, hp2⟩, hnew⟩ := h₃
  have hT₃ : s₃.heap.get? T = some { cls := .type "list", data := .seq its n } := q₃.all _ _ hT'
  have l1 : its.size = ds.length := by have := Paired.length hp; simpa using this
  have l2 : its2.size = xs.length := by have := Paired.length hp2; simpa using this
  have hsl : sizeLine = 16777216 := sizeLine_eq
  have hsz' : its.size + its2.size ≤ sizeLine := by omega
  refine call_meets PySem.F.slot_list_extend ⟨_, hT₃, rfl⟩ PySem.F.entry_list_extend (PySem.F.args_list_extend_2 _ _) (AutoSeq1.list_extend_list_list_0 T its n b its2 n2 (extend_door hsz') (Nat.le_trans (Nat.le_add_right _ _) hsz') (by omega)) ⟨hT₃, hb, ?_⟩
  have ho' : (s₃.heap.update T (Obj.mapSeq fun x => x ++ its2)).get? T = some { cls := .type "list", data := .seq (its ++ its2) (if (its ++ its2).size == its.size then n else n + 1) } := by
    rw [Heap.get?_update_self _ hT₃ (by rw [mapSeq_app]; rfl), mapSeq_app]
  have q₄ : Mod [T] s₃ { s₃ with heap := s₃.heap.update T (Obj.mapSeq fun x => x ++ its2) } := Mod.sameBut (Heap.SameBut.update ..) (by simp)
  have hp₃ : Paired (fun y d => R3 lo s₃ y d) its.toList ds := Paired.weak (fun _ _ _ r => (R3.flat lo).up _ _ _ _ q₃ r) hp
  have hrefs := R3.refs hp₃
  have all : Paired (fun y d => R3 lo s₃ y d) (its ++ its2).toList (ds ++ xs) := by rw [Array.toList_append]; exact Paired.append hp₃ hp2
  refine ⟨(q₃.any).trans q₄, rfl, its ++ its2, ⟨_, ho'⟩, Paired.weak (fun y _ d r => ?_) all⟩
  exact R3.flat lo _ _ _ _ _ q₄ (fun a ha hm => row_ne r ⟨n, hT₃⟩ hrefs (by rw [ha, List.mem_singleton.mp hm])) r
end
end Mine

/-! ### Told2 -/
namespace Mine
open PySem PySem.Calls PyProof.Rows

section
variable {prog : Program} {w : World} {A : Around} {s : Shared} {k : Nat} {env : Env}

theorem ev_next {lo : Nat} {e1 e2 e3 e4 : Expr} {text state : Str} {times : Int} {c : Nat} {p pos : Pos} (g : Gr s.heap) (hA : AOk (k + 1) A) (hlo : lo ≤ s.toks) (hk : env.scope.kind = .function) (hf : ∀ s', Mod [] s s' → Nm env s'.heap (Str.ofString "_law_next") (.ref 84))
    (h1 : Ev (model prog w) A (eval e1 env) s fun v s' => RS lo s' v text) (h2 : ∀ s', Mod [] s s' → Ev (model prog w) A (eval e2 env) s' fun v s' => RW s' v state)
    (h3 : ∀ s', Mod [] s s' → Ev (model prog w) A (eval e3 env) s' fun v s' => RI s' v times) (h4 : ∀ s', Mod [] s s' → Ev (model prog w) A (eval e4 env) s' fun v s' => RW s' v ⟨#[c]⟩) (hsz : text.length ≤ 1000)
    (he1 : starEach [e1, e2, e3, e4] env = (false, eval e1 env) :: starEach [e2, e3, e4] env := by rfl) (he2 : starEach [e2, e3, e4] env = (false, eval e2 env) :: starEach [e3, e4] env := by rfl)
    (he3 : starEach [e3, e4] env = (false, eval e3 env) :: starEach [e4] env := by rfl) (he4 : starEach [e4] env = (false, eval e4 env) :: starEach [] env := by rfl) :
    Ev (model prog w) A (eval (.Call (.Name (Str.ofString "_law_next") p) [e1, e2, e3, e4] [] pos) env) s fun v s' => RL (R3 lo) s' v (nextF text state times c) ∧ New s v := by
  intro E
  obtain ⟨o, pm, cd, doc, ho, hd, _⟩ := g.next
  refine Call_ ((ev_Name (hf _ (.refl _ _)) hk).cont fun f s₂ q₂ e => ?_)
  obtain ⟨rfl, rfl⟩ := e
  refine callWith_def hd (args_cons (h1.cont fun v1 s₁ q₁ r1 => args_cons ((h2 s₁ q₁).cont fun v2 s₂ q₂ r2 => args_cons ((h3 s₂ (q₁.trans q₂)).cont fun v3 s₃ q₃ r3 => args_cons ((h4 s₃ ((q₁.trans q₂).trans q₃)).cont fun v4 s₄ q₄ r4 => args_nil ⟨?_, ?_⟩) he4) he3) he2) he1) he1
  · exact (((q₁.trans q₂).trans q₃).trans q₄).all _ _ ho
  · have q5 := ((q₁.trans q₂).trans q₃).trans q₄
    exact (next_ok (g.mod q5) hA (Nat.le_trans hlo q5.toks) (r1.mod ((q₂.trans q₃).trans q₄)) r2 r3 r4 hsz).cont fun v s' q h => ⟨q5.trans q, h.1, fun a e => q5.freshBack (by simp) (h.2 a e)⟩

abbrev tupNames (xs : List (Str × Pos)) (its : List Value) (m : Str → Option Value) : Str → Option Value := ((xs.map (·.1)).zip its).foldl (fun m p z => if z = p.1 then some p.2 else m z) m

/-- one turn whose target is a tuple of names, over rows that are lists -/
theorem cturn_tuple {δ ε : Type} {R : Shared → Value → δ → Prop} {R' : Shared → Value → ε → Prop} {f : δ → Option ε} {ds : List δ} {xs : List (Str × Pos)} {elt : Expr} {ifs : List Expr} {scope : Scope} {cl : List (Str × Addr)} {s₁ : Shared} {kt : Nat} {tpos : Pos}
    (hh : A.handled = none) (hxs : ∀ x ∈ xs, scope.names.lookup x.1 = some .local) (hk : scope.kind = .function) (hR : Firm R)
    (hlist : ∀ s v d, R s v d → ∃ a its, v = .ref a ∧ s.heap.PlainList a its ∧ its.size = xs.length)
    (h : ∀ C d a its m s₄ E, d ∈ ds → Mod [C] s₁ s₄ → s₁.heap.get? C = none → R s₄ (.ref a) d → s₄.heap.PlainList a its → s₄.heap.Ns C (tupNames xs its.toList m) →
      wpAny (model prog w) A (tests ifs (compEnvC scope cl C env)) (fun ok s₅ => if ok = true then wpAny (model prog w) A (eval elt (compEnvC scope cl C env)) (fun y s₆ => Mod [] s₄ s₆ ∧ ∃ e, f d = some e ∧ R' s₆ y e ∧ New s₄ y) E s₅
        else Mod [] s₄ s₅ ∧ f d = none) E s₄)
    (he : ∀ C, assignEach (xs.map fun x => Expr.Name x.1 x.2) (compEnvC scope cl C env) = xs.map fun x => (false, assign (.Name x.1 x.2) (compEnvC scope cl C env))) :
    CTurn prog w A R R' f ds (.Tuple (xs.map fun x => Expr.Name x.1 x.2) kt tpos) elt ifs (fun C => compEnvC scope cl C env) s₁ := by
  intro C d v s₃ m E hd q hr hn hC
  obtain ⟨a, its, rfl, hl, hsz⟩ := hlist _ _ _ hr
  refine (unpack_names (env := compEnvC scope cl C env) (W := [C]) (m := m) hh (List.mem_singleton.mpr rfl) (ce_pk hk) hsz.symm (fun x hx => ce_loc (hxs x hx)) hl hn (he C)).cont fun _ s₄ q₄ hn₄ => ?_
  have hn₄' : s₄.heap.Ns C (tupNames xs its.toList m) := hn₄
  have hr₄ : R s₄ (.ref a) d := hR _ _ _ _ _ q₄ (by intro z hz; rw [List.mem_singleton.mp hz]; exact ns_no_list hn) hr
  have hl₄ : s₄.heap.PlainList a its := hl.at fun o e => q₄.keep _ o (fun hm => by rw [List.mem_singleton.mp hm] at hl; exact ns_no_list hn _ hl) e
  refine wpAny_mono (h C d a its m s₄ E hd ((q.any (W := [C])).trans q₄) hC hr₄ hl₄ hn₄') (fun ok s₅ h₅ => ?_) fun _ _ e => e
  cases ok with
  | false =>
    simp only [Bool.false_eq_true, if_false] at h₅ ⊢
    exact ⟨q₄.trans h₅.1.any, ⟨_, hn₄'.keeps h₅.1.all⟩, h₅.2⟩
  | true =>
    simp only [if_true] at h₅ ⊢
    refine wpAny_mono h₅ (fun y s₆ h₆ => ?_) fun _ _ e => e
    obtain ⟨q₆, e, hf, hr', hnew⟩ := h₆
    refine ⟨q₄.trans q₆.any, ⟨_, hn₄'.keeps q₆.all⟩, e, hf, hr', fun b hb => q₄.freshBack (fun hm => ?_) (hnew b hb)⟩
    have hz := hnew b hb
    rw [List.mem_singleton.mp hm] at hz
    obtain ⟨o, e⟩ := Ns_old hn₄'
    rw [e] at hz; cases hz

abbrev rowScope : Scope := { kind := .function, names := [(Str.ofString ".0", .local), (Str.ofString "text", .local), (Str.ofString "state", .local), (Str.ofString "times", .local)], isGenerator := false, isCoroutine := false }

theorem told_ok {lo : Nat} {x : Str} {t : Tok} (g : Gr s.heap) (hA : AOk (k + 2) A) (hlo : lo ≤ s.toks) (hx : x.cps.size = 5) :
    Ev (model prog w) A (call (.ref 89) [.str x t]) s fun v s' => RL (R2 lo) s' v (toldF x.cps.toList) := by
  refine call_fn [(Str.ofString "word", .str x t)] g.told g.nolimit hA (fun _ _ _ => by kernel_rfl) (by kernel_rfl) fun env s₁ ev hA₁ hL q htk hn => ?_
  have q0 := q
  have hk := ev.fn
  have hpk := ev.pk
  have hh := hA₁.handled
  have hsl : sizeLine = 16777216 := sizeLine_eq
  have up := (RS.flat lo).up
  have flat3 := R3.flat lo
  have hlo₁ : ∀ {W s'}, Mod W s₁ s' → lo ≤ s'.toks := fun q' => Nat.le_trans hlo (Nat.le_trans q.toks q'.toks)
  generalize hcs : x.cps.toList = cs
  have hcl : cs.length = 5 := by rw [← hcs]; simpa using hx
  intro E
  conv in execs _ _ => arg 1; whnf
  refine wpAny_execs_cons (wpAny_Assign_Name (Do.cont (W := []) (P := fun v s' => RL (R3 lo) s' v [(Str.empty, Str.empty, 1)] ∧ New s₁ v) ?_ fun v0 s₂ q₂ h₂ => ?_))
  · exact ev_list1 flat3.up ((ev_row3 (ev_str lo (hlo₁ (.refl [] _)) _ _) (fun s' _ => ev_strW _ _) (fun s' _ => ev_int _ _)).mono fun _ _ _ h => h.1)
  refine (do_store (hn.keeps q₂.all) ev.kn hpk).cont fun _ s₃ q₃ hn₃ => ?_
  have b₃ : Mod [env.locals] s₁ s₃ := (q₂.any).trans q₃
  have fm : Firm (RL (R3 lo)) := RL.firm (R3.firm lo)
  have nsL : ∀ {s' : Shared} {m}, s'.heap.Ns env.locals m → ∀ z ∈ [env.locals], ∀ its, ¬ s'.heap.PlainList z its := by intro s' m hn z hz; rw [List.mem_singleton.mp hz]; exact ns_no_list hn
  have hr₃ : RL (R3 lo) s₃ v0 [(Str.empty, Str.empty, 1)] := fm _ _ _ _ _ q₃ (nsL (hn.keeps q₂.all)) h₂.1
  refine wpAny_execs_cons (for_str (W := [env.locals]) (x := x)
    (fun i s' => ∃ m v, s'.heap.Ns env.locals m ∧ m (Str.ofString "rows") = some v ∧ RL (R3 lo) s' v (rowsF (cs.take i))) hh (fun _ _ => rfl) (by intro z hz; rw [List.mem_singleton.mp hz]; exact Ns_old hn₃)
    ((ev_Name (ev.loc hn₃ rfl) hk).mono fun v s' _ e => ⟨_, e.1.symm⟩) (fun s' q => ⟨_, v0, hn₃.keeps q.all, rfl, RL.up flat3.up _ _ _ _ q hr₃⟩) (fun I i s' s'' hI hno h q => ?_) (fun i c u s' E hi q h => ?_) (fun s' q h => ?_))
  · obtain ⟨m', v', h2, h3, h4⟩ := h
    exact ⟨m', v', Ns_away hn₃ hI q h2, h3, fm _ _ _ _ _ q (by intro z hz; rw [List.mem_singleton.mp hz]; exact hno) h4⟩
  · obtain ⟨m', v', h2, h3, h4⟩ := h
    have hci : cs[i]? = some c := by rw [← hcs]; simpa using hi
    have hstep : rowsF (cs.take (i + 1)) = (rowsF (cs.take i)).flatMap (turnF c) := by
      rw [List.take_add_one, hci]; simp [rowsF, List.foldl_append, stepT]
    have okt := rowsF_ok (cs.take i)
    have hlen : (cs.take i).length ≤ 4 := by
      rw [List.length_take]; have : i < cs.length := (List.getElem?_eq_some_iff.mp hci).1; omega
    rw [hstep]
    generalize rowsF (cs.take i) = rows at *
    generalize (cs.take i).length = n at *
    have hrl : rows.length ≤ 81 := Nat.le_trans okt.1 (Nat.le_trans (Nat.pow_le_pow_right (by decide) hlen) (by decide))
    refine wpAny_assign_Name ((do_store h2 ev.kn hpk).cont fun _ s₄ q₄ hn₄ => ?_)
    refine wpAny_execs_cons (wpAny_Assign_Name (ev_list0.cont fun v5 s₅ q₅ h₅ => ?_))
    obtain ⟨T, rfl, hT₅, hT0⟩ := h₅
    have hr₄ : RL (R3 lo) s₄ v' rows := fm _ _ _ _ _ q₄ (nsL h2) h4
    have hTL : T ≠ env.locals := by rintro rfl; obtain ⟨o, e⟩ := Ns_old hn₄; rw [e] at hT0; cases hT0
    refine (do_store (hn₄.keeps q₅.all) ev.kn hpk).cont fun _ s₆ q₆ hn₆ => ?_
    have hT₆ : s₆.heap.PlainList T #[] := hT₅.at fun o e => q₆.keep _ o (by simpa using hTL) e
    have b₆ : Mod [env.locals] s₄ s₆ := (q₅.any).trans q₆
    have b₄ : Mod [env.locals] s₁ s₄ := (b₃.trans q).trans q₄
    have hTs₁ : s₁.heap.get? T = none := b₄.freshBack (by simpa using hTL) hT0
    have fresh : ∀ a ∈ [env.locals, T], s.heap.get? a = none := by
      intro a ha
      simp only [List.mem_cons, List.not_mem_nil, or_false] at ha
      rcases ha with rfl | rfl
      · exact hL
      · exact q0.freshBack (by simp) hTs₁
    obtain ⟨l, its, rfl, hl, hp⟩ := hr₄
    have hvr := upd_ne (x := Str.ofString "told") (y := Str.ofString "rows") (v := .ref T) (by decide) (upd_ne (x := Str.ofString "sign") (y := Str.ofString "rows") (v := .str ⟨#[c]⟩ u) (by decide) h3)
    have lk : ∀ a its', s₄.heap.PlainList a its' → a ≠ env.locals ∧ a ≠ T ∧ ∃ o, s₆.heap.get? a = some o := by
      intro a its' ha
      have h1 : a ≠ env.locals := Ns_ne_list hn₄ ha
      have h2 : a ≠ T := by rintro rfl; obtain ⟨n, e⟩ := ha; rw [hT0] at e; cases e
      obtain ⟨n, e⟩ := ha
      exact ⟨h1, h2, _, b₆.keep _ _ (by simpa using h1) e⟩
    have hl₆ : s₆.heap.PlainList l its := hl.at fun o e => b₆.keep _ o (by simpa using (lk l its hl).1) e
    have hp₆ : Paired (fun y d => R3 lo s₆ y d ∧ ∀ a, y = .ref a → a ≠ env.locals ∧ a ≠ T ∧ ∃ o, s₆.heap.get? a = some o) its.toList rows := Paired.weak (fun y _ d r => ⟨R3.firm lo _ _ _ _ _ b₆ (nsL hn₄) r, fun a e => by
      obtain ⟨a', _, _, _, e', hl', _⟩ := r
      rw [e] at e'; cases e'; exact lk a _ hl'⟩) hp
    refine wpAny_execs_cons (for_list (W := [env.locals, T]) (R := fun (s : Shared) (v : Value) (d : Row) => R3 lo s v d ∧ ∀ a, v = .ref a → a ≠ env.locals ∧ a ≠ T ∧ ∃ o, s₆.heap.get? a = some o) (ds := rows)
      (fun j s' => ∃ m its, s'.heap.Ns env.locals m ∧ m (Str.ofString "sign") = some (.str ⟨#[c]⟩ u) ∧ m (Str.ofString "told") = some (.ref T) ∧ s'.heap.PlainList T its ∧ Paired (fun y d => R3 lo s' y d) its.toList ((rows.take j).flatMap (turnF c))) hh
      (fun z hz => ?_) ((ev_Name (ev.loc hn₆ hvr) hk).mono fun v s' _ e => ?_) (fun I s' s'' v d _ hI hr q'' => ?_) (fun s' q' => ⟨_, #[], hn₆.keeps q'.all, rfl, rfl, hT₆.at fun o e => q'.all _ o e, by simpa using Paired.nil⟩)
      (fun I j s' s'' hI hno h q' => ?_) (fun j d v s' E hd q' hr hj => ?_) (fun s' q' hj => ?_))
    · simp only [List.mem_cons, List.not_mem_nil, or_false] at hz
      rcases hz with rfl | rfl
      · exact Ns_old hn₆
      · obtain ⟨n, e⟩ := hT₆; exact ⟨_, e⟩
    · obtain ⟨rfl, rfl⟩ := e
      exact ⟨⟨l, its, rfl, hl₆, hp₆⟩, fun a e hm => by
        cases e
        simp only [List.mem_cons, List.not_mem_nil, or_false] at hm
        have := lk l its hl
        rcases hm with h | h
        · exact this.1 h
        · exact this.2.1 h⟩
    · refine ⟨R3.flat lo _ _ _ _ _ q'' (fun a e hm => ?_) hr.1, hr.2⟩
      obtain ⟨h1, h2, o, h3⟩ := hr.2 a e
      simp only [List.mem_cons, List.not_mem_nil, or_false] at hm
      rcases hm with rfl | rfl | rfl
      · rw [hI] at h3; cases h3
      · exact h1 rfl
      · exact h2 rfl
    · obtain ⟨m₇, its₇, hn₇, hs₇, ht₇, hT₇, hp₇⟩ := h
      refine ⟨m₇, its₇, Ns_away hn₆ hI q' hn₇, hs₇, ht₇, hT₇.at fun o e => q'.keep _ o (fun hm => ?_) e, Paired.weak (fun _ _ _ r => R3.firm lo _ _ _ _ _ q' (by intro z hz; rw [List.mem_singleton.mp hz]; exact hno) r) hp₇⟩
      rw [List.mem_singleton.mp hm] at hT₇; exact hno _ hT₇
    · obtain ⟨m₇, its₇, hn₇, hs₇, ht₇, hT₇, hp₇⟩ := hj
      obtain ⟨⟨a, v1, v2, v3, rfl, hl7, r1, r2, r3⟩, hoff⟩ := hr
      refine Do.cont (unpack_names (W := [env.locals]) (xs := [(Str.ofString "text", _), (Str.ofString "state", _), (Str.ofString "times", _)]) hh (by simp) hpk rfl (by
        intro x hx
        simp only [List.mem_cons, List.not_mem_nil, or_false] at hx
        rcases hx with rfl | rfl | rfl <;> exact ev.kn) hl7 hn₇ rfl) fun _ s₈ q₈ hn₈ => ?_
      have hn₈' : s₈.heap.Ns env.locals (fun z => if z = Str.ofString "times" then some v3 else if z = Str.ofString "state" then some v2 else if z = Str.ofString "text" then some v1 else m₇ z) := hn₈
      have hT₈ : s₈.heap.PlainList T its₇ := hT₇.at fun o e => q₈.keep _ o (by simpa using hTL) e
      have hp₈ : Paired (fun y d => R3 lo s₈ y d) its₇.toList ((rows.take j).flatMap (turnF c)) := Paired.weak (fun _ _ _ r => R3.firm lo _ _ _ _ _ q₈ (nsL hn₇) r) hp₇
      have nsT : ∀ s', Mod [T] s₈ s' → s'.heap.Ns env.locals _ := fun s' q => ns_away q hn₈' (by simpa using Ne.symm hTL)
      have tx : ∀ s', Mod [T] s₈ s' → At env s' (Str.ofString "text") (RS lo) d.1 := fun s' q => ⟨v1, ev.loc (nsT s' q) rfl, (r1.mod q₈).mod q⟩
      have sta : ∀ s', Mod [T] s₈ s' → At env s' (Str.ofString "state") RW d.2.1 := fun s' q => ⟨v2, ev.loc (nsT s' q) rfl, r2⟩
      have tim : ∀ s', Mod [T] s₈ s' → At env s' (Str.ofString "times") RI d.2.2 := fun s' q => ⟨v3, ev.loc (nsT s' q) rfl, r3⟩
      have sg : ∀ s', Mod [T] s₈ s' → At env s' (Str.ofString "sign") RW ⟨#[c]⟩ := fun s' q => ⟨_, ev.loc (nsT s' q) hs₇, u, rfl⟩
      have tl : ∀ s', Mod [T] s₈ s' → Nm env s'.heap (Str.ofString "told") (.ref T) := fun s' q => ev.loc (nsT s' q) ht₇
      have b₈ : Mod [env.locals, T] s₁ s₈ := ((((b₄.trans b₆).wider (by simp)).trans q').trans (q₈.wider (by simp)))
      have gr : ∀ s', Mod [T] s₈ s' → Gr s'.heap := fun s' q => g.modW q0 (b₈.trans (q.wider (by simp))) fresh
      have nx : ∀ s', Mod [T] s₈ s' → Nm env s'.heap (Str.ofString "_law_next") (.ref 84) := fun s' q => ev.glo (gr s' q)
      have hlo₈ : ∀ s', Mod [T] s₈ s' → lo ≤ s'.toks := fun s' q => hlo₁ (b₈.trans (q.wider (by simp)))
      have hdm : d ∈ rows := List.mem_of_getElem? hd
      have hdl : d.1.length ≤ 100 := by have := okt.2 d hdm; omega
      have hw := writ_len c
      have ha1 : apo.length = 1 := by rw [apo_eq]; rfl
      have e1 : (⟨#[c]⟩ : Str).length = 1 := rfl
      have hj3 : ((rows.take j).flatMap (turnF c)).length ≤ 300 := by
        have h1 := flat_len (turnF c) 3 (fun r => (turnF_ok c r).1) (rows.take j)
        have h2 : (rows.take j).length ≤ rows.length := by rw [List.length_take]; omega
        omega
      have hnext : (rows.take (j + 1)).flatMap (turnF c) = (rows.take j).flatMap (turnF c) ++ turnF c d := by
        rw [List.take_add_one, hd, List.flatMap_append]; simp
      have hadd : ∀ {a b : Value} {x y : Str} {s'}, Mod [T] s₈ s' → RS lo s' a x → RS lo s' b y → x.length + y.length ≤ 1000 → Ev (model prog w) (A.deeper env) (binaryOp .Add a b) s' fun v s' => RS lo s' v (x ++ y) := fun q ha hb h => ev_add_str (hlo₈ _ q) ha hb (by omega)
      refine wpAny_execs_cons (wpAny_If (Do.cont (W := []) (P := fun v _ => v = decide (d.2.1 = stFree)) ?_ fun c1 s₉ q₉ e => ?_))
      · exact ev_test (R₁ := RW) (R₂ := RW) RW.flat.up ((sta _ (.refl _ _)).ev hk) (fun s' q' => ev_strW _ _) (fun a b s' q' ha hb => ev_eqW ha hb)
      subst e
      have hT₉ : s₉.heap.PlainList T its₇ := hT₈.at fun o e => q₉.all _ o e
      have hp₉ : Paired (fun y d => R3 lo s₉ y d) its₇.toList ((rows.take j).flatMap (turnF c)) := Paired.weak (fun _ _ _ r => flat3.up _ _ _ _ q₉ r) hp₈
      by_cases hf : d.2.1 = stFree
      · rw [decide_eq_true hf, if_pos rfl]
        have hturn : turnF c d = [(d.1 ++ writ c, stFree, d.2.2)] ++ nextF (d.1 ++ apo) Str.empty d.2.2 c := if_pos hf
        refine wpAny_execs_cons (Do.cont (do_extend (xs := [(d.1 ++ writ c, stFree, d.2.2)]) hk (tl _ q₉.any) hT₉ hp₉ ?_ (by rw [List.length_singleton]; omega)) fun fl s₁₀ q₁₀ h₁₀ => ?_)
        · refine ev_list1 flat3.up ((ev_row3 ?_ (fun s' q' => ev_strW _ _) (fun s' q' => (tim _ (q₉.trans q').any).ev hk)).mono fun _ _ _ h => h.1)
          refine ev_IfExp (b := decide ((⟨#[c]⟩ : Str) = apo)) (ev_test (R₁ := RW) (R₂ := RW) (d₁ := ⟨#[c]⟩) (d₂ := apo) RW.flat.up ((sg _ q₉.any).ev hk) (fun s' q' => ev_strW _ _) (fun a b s' q' ha hb => ev_eqW ha hb)) (fun hb s' q' => ?_) (fun hb s' q' => ?_)
          · have hwe : writ c = esc := if_pos (apo_char.mp (of_decide_eq_true hb))
            rw [hwe] at hw ⊢
            exact ev_BinOp (R₁ := RS lo) (R₂ := RS lo) up ((tx _ (q₉.trans q').any).ev hk) (fun s'' q'' => ev_str lo (hlo₈ _ ((q₉.trans q').trans q'').any) _ _) (fun a b s'' q'' ha hb => hadd ((q₉.trans q').trans q'').any ha hb (by omega))
          · have hwe : writ c = ⟨#[c]⟩ := if_neg fun h => of_decide_eq_false hb (apo_char.mpr h)
            rw [hwe]
            exact ev_BinOp (R₁ := RS lo) (R₂ := RS lo) up ((tx _ (q₉.trans q').any).ev hk) (fun s'' q'' => ((sg _ ((q₉.trans q').trans q'').any).ev hk).mono fun _ _ _ h => h.rs (by exact (by decide : 1 < 2))) (fun a b s'' q'' ha hb => hadd ((q₉.trans q').trans q'').any ha hb (by omega))
        obtain ⟨rfl, its₁₀, hT₁₀, hp₁₀⟩ := h₁₀
        have b₁₀ : Mod [T] s₈ s₁₀ := (q₉.any).trans q₁₀
        refine wpAny_execs_cons (Do.cont (do_extend (xs := nextF (d.1 ++ apo) Str.empty d.2.2 c) hk (tl _ b₁₀) hT₁₀ hp₁₀ ?_ ?_) fun fl s₁₁ q₁₁ h₁₁ => ?_)
        · refine ev_next (gr _ b₁₀) hA₁ (hlo₈ _ b₁₀) hk (fun s' q' => nx _ (b₁₀.trans q'.any)) ?_ (fun s' q' => ev_strW _ _) (fun s' q' => (tim _ (b₁₀.trans q'.any)).ev hk) (fun s' q' => (sg _ (b₁₀.trans q'.any)).ev hk) (by rw [Str.length_append]; omega)
          exact ev_BinOp (R₁ := RS lo) (R₂ := RS lo) up ((tx _ b₁₀).ev hk) (fun s'' q'' => ev_str lo (hlo₈ _ (b₁₀.trans q''.any)) _ _) (fun a b s'' q'' ha hb => hadd (b₁₀.trans q''.any) ha hb (by rw [ha1]; omega))
        · have := (turnF_ok c d).1
          rw [hturn, List.length_append, List.length_singleton] at this
          rw [List.length_append, List.length_singleton]; omega
        obtain ⟨rfl, its₁₁, hT₁₁, hp₁₁⟩ := h₁₁
        have b₁₁ : Mod [T] s₈ s₁₁ := b₁₀.trans q₁₁
        refine wpAny_execs_nil (wpAny_execs_nil ⟨rfl, (q₈.wider (by simp)).trans (b₁₁.wider (by simp)), _, its₁₁, nsT _ b₁₁, hs₇, ht₇, hT₁₁, ?_⟩)
        rw [hnext, hturn, ← List.append_assoc]; exact hp₁₁
      · rw [decide_eq_false hf, if_neg Bool.false_ne_true]
        have hturn : turnF c d = nextF d.1 d.2.1 d.2.2 c := if_neg hf
        refine wpAny_execs_cons (Do.cont (do_extend (xs := nextF d.1 d.2.1 d.2.2 c) hk (tl _ q₉.any) hT₉ hp₉ ?_ ?_) fun fl s₁₁ q₁₁ h₁₁ => ?_)
        · exact ev_next (gr _ q₉.any) hA₁ (hlo₈ _ q₉.any) hk (fun s' q' => nx _ (q₉.trans q').any) ((tx _ q₉.any).ev hk) (fun s' q' => (sta _ (q₉.trans q').any).ev hk) (fun s' q' => (tim _ (q₉.trans q').any).ev hk) (fun s' q' => (sg _ (q₉.trans q').any).ev hk) (by omega)
        · have := (turnF_ok c d).1
          rw [hturn] at this
          omega
        obtain ⟨rfl, its₁₁, hT₁₁, hp₁₁⟩ := h₁₁
        have b₁₁ : Mod [T] s₈ s₁₁ := (q₉.any).trans q₁₁
        refine wpAny_execs_nil (wpAny_execs_nil ⟨rfl, (q₈.wider (by simp)).trans (b₁₁.wider (by simp)), _, its₁₁, nsT _ b₁₁, hs₇, ht₇, hT₁₁, ?_⟩)
        rw [hnext, hturn]; exact hp₁₁
    · obtain ⟨m₇, its₇, hn₇, hs₇, ht₇, hT₇, hp₇⟩ := hj
      rw [List.take_length] at hp₇
      refine wpAny_execs_cons (wpAny_Assign_Name ((ev_Name (ev.loc hn₇ ht₇) hk).cont fun v₈ s₈ q₈ e => ?_))
      obtain ⟨rfl, rfl⟩ := e
      refine (do_store hn₇ ev.kn hpk).cont fun _ s₉ q₉ hn₉ => wpAny_execs_nil ⟨rfl, ?_, _, .ref T, hn₉, if_pos rfl, fm _ _ _ _ _ q₉ (nsL hn₇) ⟨T, its₇, rfl, hT₇, hp₇⟩⟩
      refine (((q₄.trans b₆).wider (W' := [env.locals, T]) (by simp)).trans (q'.trans (q₉.wider (by simp)))).less fun z hz => ?_
      simp only [List.mem_cons, List.not_mem_nil, or_false] at hz
      rcases hz with rfl | rfl
      · left; simp
      · right; exact q₄.freshBack (by simpa using hTL) hT0
  · obtain ⟨m', v', h2, h3, h4⟩ := h
    have htk : cs.take x.cps.size = cs := List.take_of_length_le (by omega)
    rw [htk] at h4
    have okt := rowsF_ok cs
    rw [hcl] at okt
    have hrl : (rowsF cs).length ≤ 243 := okt.1
    have hbk : env.blockKind = .function := by unfold Env.blockKind; rw [hk]; rfl
    have hkr : env.kindOf (Str.ofString "rows") = some .local := ev.kn
    have ha1 : apo.length = 1 := by rw [apo_eq]; rfl
    have rowlist : ∀ s v d, R3 lo s v d → ∃ a its, v = .ref a ∧ s.heap.PlainList a its ∧ its.size = 3 := by
      rintro s v d ⟨a, v1, v2, v3, rfl, hl, _⟩; exact ⟨a, _, rfl, hl, rfl⟩
    refine wpAny_execs_cons (Do.cont (W := [env.locals]) (P := fun fl s'' => fl = .next ∧ ∃ v, RL (R3 lo) s'' v ((rowsF cs).filterMap fun r => some (closeF r)) ∧ New s' v ∧ s''.heap.Ns env.locals (fun z => if z = Str.ofString "rows" then some v else m' z)) ?_ fun fl s₄ q₄ h₄ => ?_)
    · refine do_Assign_ListComp (R := R3 lo) (cl := []) hh flat3.up flat3 ((ev_Name (ev.loc h2 h3) hk).mono fun v s'' _ e => ?_) (by omega) h2 (clos_none (by decide)) (fun s₅ q₅ => ?_) ?_ hkr hpk
      · obtain ⟨rfl, rfl⟩ := e; exact h4
      · refine cturn_tuple (xs := [(Str.ofString "text", _), (Str.ofString "state", _), (Str.ofString "times", _)]) hh (by decide) rfl (R3.firm lo) rowlist (fun C d a its m₆ s₆ E hd q₆ hC hr hl hn₆ => ?_) (fun C => rfl)
        obtain ⟨a', v1, v2, v3, e, hl', r1, r2, r3⟩ := hr
        cases e
        have := plain_eq hl hl'
        subst this
        refine wpAny_tests_nil ?_
        rw [if_pos rfl]
        have hdl : d.1.length ≤ 100 := by have := okt.2 d hd; omega
        have tx : ∀ s', Mod [] s₆ s' → At (compEnvC rowScope [] C env) s' (Str.ofString "text") (RS lo) d.1 := fun s' q => At.mod up q ⟨v1, .loc _ (ce_loc (scope := rowScope)) hn₆ rfl, r1⟩
        have sta : ∀ s', Mod [] s₆ s' → At (compEnvC rowScope [] C env) s' (Str.ofString "state") RW d.2.1 := fun s' q => At.mod RW.flat.up q ⟨v2, .loc _ ce_loc hn₆ rfl, r2⟩
        have tim : ∀ s', Mod [] s₆ s' → At (compEnvC rowScope [] C env) s' (Str.ofString "times") RI d.2.2 := fun s' q => At.mod RI.flat.up q ⟨v3, .loc _ ce_loc hn₆ rfl, r3⟩
        have hlo₆ : ∀ s', Mod [] s₆ s' → lo ≤ s'.toks := fun s' q' => hlo₁ (((b₃.trans q).trans q₅.any).wider (W' := [env.locals, C]) (by simp) |>.trans ((q₆.wider (by simp)).trans q'.any))
        refine (ev_row3 (lo := lo) (x := (closeF d).1) (st := d.2.1) (n := d.2.2) ?_ (fun s' q' => (sta _ q').ev rfl) (fun s' q' => (tim _ q').ev rfl)).cont fun y s₇ q₇ h₇ => ⟨q₇, closeF d, rfl, h₇⟩
        refine ev_IfExp (b := decide (d.2.1 = stFree)) (ev_test (R₁ := RW) (R₂ := RW) RW.flat.up ((sta _ (.refl _ _)).ev rfl) (fun s' q' => ev_strW _ _) (fun a b s' q' ha hb => ev_eqW ha hb)) (fun hb s' q' => ?_) (fun hb s' q' => ?_)
        · rw [show (closeF d).1 = d.1 ++ apo from if_pos (of_decide_eq_true hb)]
          exact ev_BinOp (R₁ := RS lo) (R₂ := RS lo) up ((tx _ q').ev rfl) (fun s'' q'' => ev_str lo (hlo₆ _ (q'.trans q'')) _ _) (fun a b s'' q'' ha hb => ev_add_str (hlo₆ _ (q'.trans q'')) ha hb (by omega))
        · rw [show (closeF d).1 = d.1 from if_neg (of_decide_eq_false hb)]
          exact (tx _ q').ev rfl
      · show pure (env.blockKind == .function && env.kindOf (Str.ofString "rows") == some .local && _ && _) = pure true
        rw [hbk, hkr]; rfl
    · obtain ⟨rfl, v₅, hr₅, _, hn₅⟩ := h₄
      have b₄ : Mod [env.locals] s₁ s₄ := (b₃.trans q).trans q₄
      have hfm : ((rowsF cs).filterMap fun r => some (closeF r)) = (rowsF cs).map closeF := by simp
      rw [hfm] at hr₅
      refine wpAny_execs_cons (wpAny_Return_some (Do.cont (W := []) (P := fun v s'' => RL (R2 lo) s'' v (toldF cs) ∧ New s₄ v) ?_ fun v₆ s₆ q₆ h₆ => ⟨b₄.trans q₆.any, v₆, rfl, h₆.1⟩))
      refine ev_ListComp (R := R3 lo) (R' := R2 lo) (f := fun r : Row => if r.2.1 = stShut then none else some (r.1, r.2.2)) (ds := (rowsF cs).map closeF) (cl := []) hh flat3.up (R2.flat lo) ((ev_Name (ev.loc hn₅ (if_pos rfl)) hk).mono fun v s'' _ e => ?_) (by rw [List.length_map]; omega) (clos_none (by decide)) (fun s₅ q₅ => ?_)
      · obtain ⟨rfl, rfl⟩ := e; exact hr₅
      · refine cturn_tuple (xs := [(Str.ofString "text", _), (Str.ofString "state", _), (Str.ofString "times", _)]) hh (by decide) rfl (R3.firm lo) rowlist (fun C d a its m₆ s₆ E hd q₆ hC hr hl hn₆ => ?_) (fun C => rfl)
        obtain ⟨a', v1, v2, v3, e, hl', r1, r2, r3⟩ := hr
        cases e
        have := plain_eq hl hl'
        subst this
        have tx : ∀ s', Mod [] s₆ s' → At (compEnvC rowScope [] C env) s' (Str.ofString "text") (RS lo) d.1 := fun s' q => At.mod up q ⟨v1, .loc _ ce_loc hn₆ rfl, r1⟩
        have sta : ∀ s', Mod [] s₆ s' → At (compEnvC rowScope [] C env) s' (Str.ofString "state") RW d.2.1 := fun s' q => At.mod RW.flat.up q ⟨v2, .loc _ ce_loc hn₆ rfl, r2⟩
        have tim : ∀ s', Mod [] s₆ s' → At (compEnvC rowScope [] C env) s' (Str.ofString "times") RI d.2.2 := fun s' q => At.mod RI.flat.up q ⟨v3, .loc _ ce_loc hn₆ rfl, r3⟩
        refine wpAny_tests_one (Do.cont (W := []) (P := fun v _ => v = decide (d.2.1 ≠ stShut)) ?_ fun c1 s₇ q₇ e => ?_)
        · exact ev_test (R₁ := RW) (R₂ := RW) RW.flat.up ((sta _ (.refl _ _)).ev rfl) (fun s' q' => ev_strW _ _) (fun a b s' q' ha hb => ev_neW ha hb)
        · subst e
          by_cases hs : d.2.1 = stShut
          · rw [decide_eq_false (by simpa using hs), if_neg Bool.false_ne_true]
            exact ⟨q₇, if_pos hs⟩
          · rw [decide_eq_true hs, if_pos rfl]
            refine (ev_row2 (lo := lo) (x := d.1) (n := d.2.2) ((tx _ q₇).ev rfl) (fun s' q' => (tim _ (q₇.trans q')).ev rfl)).cont fun y s₈ q₈ h₈ => ⟨q₇.trans q₈, _, if_neg hs, h₈.1, fun a e => q₇.freshBack (by simp) (h₈.2 a e)⟩
end
end Mine

/-! ### Law -/
namespace Mine
open PySem PySem.Calls PyProof.Rows

section
variable {prog : Program} {w : World} {A : Around} {s : Shared} {k : Nat} {env : Env}

theorem int_pairs {vs : List Value} {ns : List Int} (h : Paired (fun y d => RI s y d) vs ns) : ∃ ps : List (Int × Tok), vs = ps.map (fun p => Value.int p.1 p.2) ∧ ps.map (·.1) = ns := by
  induction h with
  | nil => exact ⟨[], rfl, rfl⟩
  | cons h _ ih =>
    obtain ⟨t, rfl⟩ := h
    obtain ⟨ps, rfl, rfl⟩ := ih
    exact ⟨(_, t) :: ps, rfl, rfl⟩

theorem ev_sum {v : Value} {ns : List Int} (hh : A.handled = none) (h : RL RI s v ns) : Ev (model prog w) A (call (.builtin "sum") [v]) s fun v' s' => RI s' v' ns.sum := by
  obtain ⟨l, its, rfl, hl, hp⟩ := h
  obtain ⟨ps, e1, e2⟩ := int_pairs hp
  have e : its = intItems ps.toArray := by
    apply Array.toList_inj.mp
    rw [e1]; simp [intItems]
  subst e
  refine Ev.of fun E => sum_intListG hh hl.isList fun h' tk t' hk => ⟨⟨_, _, rfl, hk⟩, fun _ => ⟨t', ?_⟩⟩
  rw [preSum_eq, List.take_of_length_le (by simp), ← e2]

theorem ev_eq_nil {a b : Value} (hu : A.units < cLine) (ha : ∃ l, a = .ref l ∧ s.heap.PlainList l #[]) (hb : ∃ l, b = .ref l ∧ s.heap.PlainList l #[]) : Ev (model prog w) A (compareOp .Eq a b) s fun v _ => v = .bool true := by
  obtain ⟨l, rfl, hl⟩ := ha
  obtain ⟨l2, rfl, hl2⟩ := hb
  exact fun E => PySem.SeqAt.eq_listAt (e := fun _ => true) hl.isList hl2.isList rfl hu (fun j h1 => by simp at h1) ⟨.refl _ _, rfl⟩

theorem ev_ne_int {a b : Value} {x y : Int} (ha : RI s a x) (hb : RI s b y) : Ev (model prog w) A (compareOp .NotEq a b) s fun v _ => v = .bool (decide (x ≠ y)) := by
  obtain ⟨t, rfl⟩ := ha
  obtain ⟨u, rfl⟩ := hb
  refine fun E => PyProof.Rows.ne_int ⟨.refl _ _, ?_⟩
  congr 1
  by_cases h : x = y <;> simp [h]
end
end Mine

/-! ### Law2 -/
namespace Mine
open PySem PySem.Calls PyProof.Rows

def textF (way : List Str) : Str := match way.map quoteF with
  | [] => Str.empty
  | x :: r => r.foldl (· ++ ·) x

structure PlainLaw (a b c d e : Nat) : Prop where
  long : ∀ way ∈ waysF a [b, c, d, e], 2 ≤ (textF way).length
  tlong : ∀ r ∈ toldF [a, b, c, d, e], 2 ≤ r.1.length
  sum : ((toldF [a, b, c, d, e]).map (·.2)).sum = 16
  count : ∀ r ∈ toldF [a, b, c, d, e], (((waysF a [b, c, d, e]).map textF).count r.1 : Int) = r.2

section
variable {prog : Program} {w : World} {A : Around} {s : Shared} {k : Nat} {env : Env}

/-- a call of one argument of a def of the text -/
theorem ev_call1 {P : Value → Shared → Prop} {R : Shared → Value → Prop} {f : Str} {fa : Addr} {o : Obj} {fd : FuncData} {e1 : Expr} {p pos : Pos} (hk : env.scope.kind = .function) (hf : Nm env s.heap f (.ref fa)) (ho : s.heap.get? fa = some o) (hd : o.data = .func fd)
    (h1 : Ev (model prog w) A (eval e1 env) s fun v s' => R s' v) (h : ∀ v s', Mod [] s s' → R s' v → Ev (model prog w) A (call (.ref fa) [v]) s' P)
    (he : starEach [e1] env = (false, eval e1 env) :: starEach [] env := by rfl) (hdb : (f == ("__debug__" : Str)) = false := by decide) :
    Ev (model prog w) A (eval (.Call (.Name f p) [e1] [] pos) env) s P := by
  intro E
  refine Call_ ((ev_Name hf hk hdb).cont fun f' s₂ q₂ e => ?_)
  obtain ⟨rfl, rfl⟩ := e
  exact callWith_def hd (args_cons (h1.cont fun v s₁ q₁ r => args_nil ⟨q₁.all _ _ ho, (h v s₁ q₁ r).cont fun v' s' q' h' => ⟨q₁.trans q', h'⟩⟩) he) he

theorem five {x : Str} (h : x.cps.size = 5) : ∃ a b c d e, x = ⟨#[a, b, c, d, e]⟩ := by
  obtain ⟨⟨l⟩⟩ := x
  match l, h with
  | [a, b, c, d, e], _ => exact ⟨a, b, c, d, e, rfl⟩

abbrev sc1 : Scope := { kind := .function, names := [(Str.ofString ".0", .local), (Str.ofString "way", .local), (Str.ofString "reduce", .globalImplicit), (Str.ofString "concat", .globalImplicit)], isGenerator := false, isCoroutine := false }
abbrev sc2 : Scope := { kind := .function, names := [(Str.ofString ".0", .local), (Str.ofString "piece", .local), (Str.ofString "quote", .globalImplicit)], isGenerator := false, isCoroutine := false }

theorem RL.ne_ns {δ : Type} {R : Shared → Value → δ → Prop} : ∀ s v d, RL R s v d → ∀ L m, s.heap.Ns L m → v ≠ .ref L := by
  rintro s v d ⟨l, its, rfl, hl, _⟩ L m hn e
  cases e; exact Ns_ne_list hn hl rfl

/-- reduce(concat, [quote(piece) for piece in way]) -/
theorem ev_text {dd : List Str} {C : Addr} {v : Value} {p1 p2 p3 p4 p5 p6 p7 p8 p9 : Pos} (hgl : env.globals = mainGlobals) (g : Gr s.heap) (hA : AOk (k + 2) A) (ht : 1 ≤ s.toks)
    (hv : Nm (compEnvC sc1 [] C env) s.heap (Str.ofString "way") v) (hr : RL (RS 1) s v dd) (h1 : dd ≠ []) (h2 : dd.length ≤ 5) (h3 : ∀ p ∈ dd, 1 ≤ p.length ∧ p.length ≤ 5) :
    Ev (model prog w) A (eval (.Call (.Name (Str.ofString "reduce") p1) [.Name (Str.ofString "concat") p2, .ListComp (.Call (.Name (Str.ofString "quote") p3) [.Name (Str.ofString "piece") p4] [] p5) [⟨.Name (Str.ofString "piece") p6, .Name (Str.ofString "way") p7, [], 0⟩] sc2 p8] [] p9) (compEnvC sc1 [] C env)) s
      fun y s' => RS 1 s' y (textF dd) := by
  have up := (RS.flat 1).up
  have hh := hA.handled
  have hsl : sizeLine = 16777216 := sizeLine_eq
  intro E
  obtain ⟨o, pm, cd, doc, ho, hd, _⟩ := g.reduce
  refine Call_ ((ev_Name (v := .ref 53) (.glo (ce_glo (scope := sc1)) hgl rfl g) rfl).cont fun f s₁ q₁ e => ?_)
  obtain ⟨rfl, rfl⟩ := e
  refine callWith_def hd (args_cons ((ev_Name (v := .ref 60) (.glo (ce_glo (scope := sc1)) hgl rfl g) rfl).cont fun f s₁ q₁ e => args_cons ?_))
  obtain ⟨rfl, rfl⟩ := e
  refine Do.cont (W := []) (P := fun v s' => RL (RS 1) s' v (dd.filterMap fun p => some (quoteF p)) ∧ New s v) ?_ fun v₂ s₂ q₂ h₂ => args_nil ⟨q₂.all _ _ ho, ?_⟩
  · refine ev_ListComp (R := RS 1) (cl := []) hh up (RS.flat 1) ((ev_Name hv rfl).mono fun v s' _ e => ?_) (by omega) (clos_none (by decide)) (fun s₃ q₃ => cturn_name rfl rfl (RS.flat 1) (fun _ _ _ h _ _ _ => h.noRef _) fun C2 pc v3 s₄ hpc q₄ hC2 hv3 hr3 => ?_)
    · obtain ⟨rfl, rfl⟩ := e; exact hr
    · have g₄ : Gr s₄.heap := g.modW q₃ q₄ (by intro a ha; rw [List.mem_singleton.mp ha]; exact q₃.freshBack (by simp) hC2)
      obtain ⟨o, pm, cd, doc, ho, hd, _⟩ := g₄.quote
      have hp3 := h3 pc hpc
      refine (ev_call1 (R := fun s' v => RS 1 s' v pc) rfl (.glo (ce_glo (scope := sc2)) hgl rfl g₄) ho hd ((ev_Name hv3 rfl).mono fun v s' _ e => ?_) (fun v s' q' r => ?_)).mono fun y s' _ (h : RS 1 s' y (quoteF pc)) => ⟨h, h.new⟩
      · obtain ⟨rfl, rfl⟩ := e; exact hr3
      · exact quote_ok (k := k + 1) (g₄.mod q') hA (Nat.le_trans ht (Nat.le_trans q₃.toks (Nat.le_trans q₄.toks q'.toks))) r hp3.1 (Nat.le_trans hp3.2 (by decide))
  · have e : (dd.filterMap fun p => some (quoteF p)) = dd.map quoteF := by simp
    rw [e] at h₂
    have hmap : ∀ ys : List Str, (∀ p ∈ ys, p.length ≤ 5) → lens (ys.map quoteF) ≤ 27 * ys.length := by
      intro ys
      induction ys with
      | nil => intro _; simp [lens]
      | cons y r ih =>
        intro hy
        have i1 := ih fun p hp => hy p (List.mem_cons_of_mem _ hp)
        have i2 := (quoteF_len y).2
        have i3 := hy y (List.mem_cons_self ..)
        unfold lens at i1 ⊢
        simp only [List.map_cons, List.sum_cons, List.length_cons]
        omega
    match dd, h1 with
    | p :: ps, _ =>
      have hl := hmap (p :: ps) fun q hq => (h3 q hq).2
      have hl' : (quoteF p).length + lens (ps.map quoteF) ≤ sizeLine := by
        unfold lens at hl ⊢
        simp only [List.map_cons, List.sum_cons] at hl
        simp only [List.length_cons] at hl h2
        omega
      refine (reduce_ok (g.mod q₂) hA (Nat.le_trans ht q₂.toks) h₂.1 hl').cont fun v₅ s₅ q₅ h₅ => ⟨q₂.trans q₅, h₅⟩
end
end Mine

/-! ### Law3 -/
namespace Mine
open PySem PySem.Calls PyProof.Rows

abbrev sc3 : Scope := { kind := .function, names := [(Str.ofString ".0", .local), (Str.ofString "text", .local), (Str.ofString "times", .local)], isGenerator := false, isCoroutine := false }
abbrev sc4 : Scope := { kind := .function, names := [(Str.ofString ".0", .local), (Str.ofString "text", .local), (Str.ofString "times", .local), (Str.ofString "countOf", .globalImplicit), (Str.ofString "texts", .free)], isGenerator := false, isCoroutine := false }
theorem clos_texts {env : Env} {c : Addr} (hc : env.cells = [(Str.ofString "texts", c)]) : closureFor sc4 env = pure [(Str.ofString "texts", c)] := by
  have e : cellOf env (Str.ofString "texts") = pure c := by unfold cellOf; rw [hc]; rfl
  unfold closureFor
  simp [e]

theorem RT.firm (n : Nat) : Firm (RT n) := fun _ _ _ _ _ _ _ h => h
theorem RS.rt {s : Shared} {v : Value} {x : Str} (h : RS 1 s v x) (hx : 2 ≤ x.length) : RT s.toks s v x := by
  obtain ⟨t, rfl, ht⟩ := h; exact ⟨t, rfl, (ht hx).1, (ht hx).2⟩
theorem Paired.memR {α β : Type} {F : α → β → Prop} : ∀ {l₁ : List α} {l₂ : List β}, Paired F l₁ l₂ → Paired (fun a b => F a b ∧ b ∈ l₂) l₁ l₂
  | _, _, .nil => .nil
  | _, _, .cons h t => .cons ⟨h, List.mem_cons_self ..⟩ (Paired.weak (fun _ _ _ r => ⟨r.1, List.mem_cons_of_mem _ r.2⟩) (Paired.memR t))

section
variable {prog : Program} {w : World} {A : Around} {s s₁ : Shared} {k : Nat} {env : Env}

theorem law_body {cc l : Addr} {oc : Option Value} {m : Str → Option Value} {vs : Array Value} {ns : List Int} (hlaw : ∀ a b c d e, PlainLaw a b c d e)
    (g : Gr s.heap) (ks : ∀ b o, s.heap.get? b = some o → s₁.heap.get? b = some o) (ev : Env0 env (stmtN 16)) (hA : AOk 4 A) (hL : s.heap.get? env.locals = none) (hc0 : s.heap.get? cc = none) (hLc : env.locals ≠ cc)
    (hcs : env.cells = [(Str.ofString "texts", cc)]) (hn : s₁.heap.Ns env.locals m) (hm : m (Str.ofString "script") = some (.ref l)) (hcl : s₁.heap.IsCell cc oc) (hl : s.heap.IsList l vs) (hp : Paired (fun y d => RI s y d) vs.toList ns) (hsz : ns.length ≤ 1000) :
    Do (model prog w) A [env.locals, cc] (execs (defBody (stmtN 16)) env) s₁ fun fl _ => fl = .ret (.bool true) := by
  have hk := ev.fn
  have hpk := ev.pk
  have hh := hA.handled
  have hsl : sizeLine = 16777216 := sizeLine_eq
  have fresh : ∀ a ∈ [env.locals, cc], s.heap.get? a = none := by
    intro a ha
    simp only [List.mem_cons, List.not_mem_nil, or_false] at ha
    rcases ha with rfl | rfl <;> assumption
  have old : ∀ s', Mod [env.locals, cc] s₁ s' → ∀ b o, s.heap.get? b = some o → s'.heap.get? b = some o := fun s' q b o e => q.keep b o (fun hm => by rw [fresh b hm] at e; cases e) (ks b o e)
  have gr : ∀ s', Mod [env.locals, cc] s₁ s' → Gr s'.heap := fun s' q => g.keeps (old s' q)
  have hLc1 : cc ∉ [env.locals] := by simpa using Ne.symm hLc
  have hLc2 : env.locals ∉ [cc] := by simpa using hLc
  intro E
  conv in execs _ _ => arg 1; whnf
  -- word
  have g₁ := gr s₁ (.refl _ _)
  refine wpAny_execs_cons (wpAny_Assign_Name (Do.cont (W := []) (P := fun v s' => RW s' v (wordF ns)) ?_ fun v₂ s₂ q₂ h₂ => ?_))
  · obtain ⟨o, pm, cd, doc, ho, hd, _⟩ := g₁.word
    refine ev_call1 (R := fun s' v => v = .ref l) hk (ev.glo g₁) ho hd ((ev_Name (ev.loc hn hm) hk).mono fun v s' _ e => e.1.symm) (fun v s' q' e => ?_)
    subst e
    exact word_ok (k := 3) (g₁.mod q') hA (hl.at fun o e => q'.all _ _ (ks _ _ e)) (Paired.weak (fun _ _ _ h => h) hp) hsz
  obtain ⟨tw, rfl⟩ := h₂
  obtain ⟨a, b, c, d, e, hw⟩ := five (wordF_size ns)
  rw [hw]
  have PL := hlaw a b c d e
  refine (do_store' (hn.keeps q₂.all) ev.kn hpk).cont fun _ s₃ q₃ h₃ => ?_
  obtain ⟨hn₃, ht₃⟩ := h₃
  have b₃ : Mod [env.locals, cc] s₁ s₃ := (q₂.any).trans (q₃.wider (by simp))
  have g₃ := gr _ b₃
  have hcl₃ : s₃.heap.IsCell cc oc := cell_away q₃ (cell_away q₂ hcl (by simp)) hLc1
  -- texts
  have okw := waysF_ok a [b, c, d, e]
  have hwl : (waysF a [b, c, d, e]).length = 16 := okw.1
  have hsw : env.kindOf (Str.ofString "texts") = some .cell := ev.kn
  refine wpAny_execs_cons (wpAny_Assign_Name (Do.cont (W := []) (P := fun v s' => RL (RS 1) s' v ((waysF a [b, c, d, e]).filterMap fun way => some (textF way)) ∧ New s₃ v) ?_ fun v₄ s₄ q₄ h₄ => ?_) ?_)
  · refine ev_ListComp (R := RL (RS 1)) (cl := []) hh (RL.up (RS.flat 1).up) (RS.flat 1) ?_ (by omega) (clos_none (by decide)) (fun s₄ q₄ => cturn_name rfl rfl (RL.flatOf (RS.flat 1) fun _ _ _ h => h.noRef) RL.ne_ns fun C dd v s₅ hdd q₅ hC hv hr => ?_)
    · obtain ⟨o, pm, cd, doc, ho, hd, _⟩ := g₃.ways
      refine ev_call1 (R := fun s' v => v = .str ⟨#[a, b, c, d, e]⟩ tw) hk (ev.glo g₃) ho hd ((ev_Name (ev.loc hn₃ rfl) hk).mono fun v s' _ e => e.1.symm) (fun v s' q' e => ?_)
      subst e
      exact ways_ok (k := 3) (g₃.mod q') hA
    · have g₅ : Gr s₅.heap := g₃.modW q₄ q₅ (by intro a ha; rw [List.mem_singleton.mp ha]; exact q₄.freshBack (by simp) hC)
      obtain ⟨w1, w2, w3⟩ := okw.2 dd hdd
      exact (ev_text (k := 2) ev.globals g₅ hA (Nat.le_trans ht₃ (Nat.le_trans q₄.toks q₅.toks)) hv hr w1 w2 w3).mono fun y s' _ h => ⟨h, h.new⟩
  · have efm : ((waysF a [b, c, d, e]).filterMap fun way => some (textF way)) = (waysF a [b, c, d, e]).map textF := by simp
    rw [efm] at h₄
    have hcl₄ : s₄.heap.IsCell cc oc := cell_away q₄ hcl₃ (by simp)
    refine wpAny_storeName_cell hk hsw (by rw [hcs]; rfl) hcl₄ fun h₅ hc₅' hs₅ => ?_
    have q₅' : Mod [cc] s₄ { s₄ with heap := h₅ } := Mod.sameBut hs₅ (by simp)
    have hn₅' : ({ s₄ with heap := h₅ } : Shared).heap.Ns env.locals _ := ns_away q₅' (hn₃.keeps q₄.all) hLc2
    have hc₅ : ({ s₄ with heap := h₅ } : Shared).heap.IsCell cc (some v₄) := hc₅'
    have htx : RL (RS 1) { s₄ with heap := h₅ } v₄ ((waysF a [b, c, d, e]).map textF) := RL.firm (RS.firm 1) _ _ _ _ _ q₅' (by intro z hz; rw [List.mem_singleton.mp hz]; exact cell_no_list hcl₄) h₄.1
    have ht₅ : 0 < ({ s₄ with heap := h₅ } : Shared).toks := Nat.lt_of_lt_of_le ht₃ q₄.toks
    generalize ({ s₄ with heap := h₅ } : Shared) = s₅ at *
    have b₅ : Mod [env.locals, cc] s₁ s₅ := (b₃.trans q₄.any).trans (q₅'.wider (by simp))
    have htx5 : RL (RT s₅.toks) s₅ v₄ ((waysF a [b, c, d, e]).map textF) := by
      obtain ⟨lt, its, rfl, hlt, hpt⟩ := htx
      refine ⟨lt, its, rfl, hlt, Paired.weak (fun y _ x r => ?_) (Paired.memR hpt)⟩
      obtain ⟨way, hway, rfl⟩ := List.mem_map.mp r.2
      exact r.1.rt (PL.long way hway)
    generalize hn0 : s₅.toks = n₀ at htx5
    generalize htxs : (waysF a [b, c, d, e]).map textF = txs at *
    -- told
    have g₅ := gr _ b₅
    refine wpAny_execs_cons (wpAny_Assign_Name (Do.cont (W := []) (P := fun v s' => RL (R2 n₀) s' v (toldF [a, b, c, d, e])) ?_ fun v₆ s₆ q₆ h₆ => ?_))
    · obtain ⟨o, pm, cd, doc, ho, hd, _⟩ := g₅.told
      refine ev_call1 (R := fun s' v => v = .str ⟨#[a, b, c, d, e]⟩ tw) hk (ev.glo g₅) ho hd ((ev_Name (ev.loc hn₅' rfl) hk).mono fun v s' _ e => e.1.symm) (fun v s' q' e => ?_)
      subst e
      exact told_ok (k := 2) (g₅.mod q') hA (by rw [← hn0]; exact q'.toks) rfl
    refine (do_store (hn₅'.keeps q₆.all) ev.kn hpk).cont fun _ s₇ q₇ hn₇ => ?_
    have b₇ : Mod [env.locals, cc] s₁ s₇ := (b₅.trans q₆.any).trans (q₇.wider (by simp))
    have g₇ := gr _ b₇
    have nsL : ∀ z ∈ [env.locals], ∀ its, ¬ s₆.heap.PlainList z its := by intro z hz; rw [List.mem_singleton.mp hz]; exact ns_no_list (hn₅'.keeps q₆.all)
    have htold : RL (R2 n₀) s₇ v₆ (toldF [a, b, c, d, e]) := RL.firm (R2.firm n₀) _ _ _ _ _ q₇ nsL h₆
    have htx7 : RL (RT n₀) s₇ v₄ txs := RL.firm (RT.firm n₀) _ _ _ _ _ q₇ nsL (RL.up (fun _ _ _ _ _ h => h) _ _ _ _ q₆ htx5)
    have hc₇ : s₇.heap.IsCell cc (some v₄) := cell_away q₇ (cell_away q₆ hc₅ (by simp)) hLc1
    have hn0p : 0 < n₀ := by rw [← hn0]; exact ht₅
    have okt := rowsF_ok [a, b, c, d, e]
    have htl : (toldF [a, b, c, d, e]).length ≤ 243 := by
      unfold toldF
      refine Nat.le_trans (List.length_filterMap_le _ _) ?_
      rw [List.length_map]; exact okt.1
    have itold : ∀ p s', Mod [] s₇ s' → Ev (model prog w) A (eval (.Name (Str.ofString "told") p) env) s' fun v s'' => RL (R2 n₀) s'' v (toldF [a, b, c, d, e]) := fun p s' q' =>
      At.ev (At.mod (RL.up (R2.flat n₀).up) q' ⟨v₆, ev.loc hn₇ rfl, htold⟩) hk
    have rowlist : ∀ s v d, R2 n₀ s v d → ∃ a its, v = .ref a ∧ s.heap.PlainList a its ∧ its.size = 2 := by
      rintro s v d ⟨a, v1, v3, rfl, hl, _⟩; exact ⟨a, _, rfl, hl, rfl⟩
    have htxl : txs.length = 16 := by rw [← htxs, List.length_map]; exact hwl
    refine wpAny_execs_cons (wpAny_If (Do.cont (W := []) (P := fun v _ => v = decide ((16 : Int) ≠ 16)) ?_ fun c1 s₈ q₈ e8 => ?_))
    · refine ev_test (R₁ := RI) (R₂ := RI) (d₁ := 16) (d₂ := 16) RI.flat.up (fun E => Call_ ((ev_Name (ev.bui g₇) hk).cont fun f s' q' e' => ?_)) (fun s₈ q₈ E => Call_ ((ev_Name (ev.bui (g₇.mod q₈)) hk).cont fun f s' q' e' => ?_)) (fun a b s' q' ha hb => ev_ne_int ha hb)
      · obtain ⟨rfl, rfl⟩ := e'
        refine PyProof.Rows.callWith_builtin1 (args_cons ?_)
        refine Do.cont (W := []) (P := fun v s' => RL RI s' v ((toldF [a, b, c, d, e]).filterMap fun r => some r.2) ∧ New s₇ v) ?_ fun v₈ s₈ q₈ h₈ => args_nil ?_
        · refine ev_ListComp (R := R2 n₀) (cl := []) hh (R2.flat n₀).up RI.flat (itold _ _ (.refl _ _)) (by omega) (clos_none (by decide)) (fun s₉ q₉ => ?_)
          refine cturn_tuple (xs := [(Str.ofString "text", _), (Str.ofString "times", _)]) hh (by decide) rfl (R2.firm n₀) rowlist (fun C r a its m₆ s₁₀ E hd q₁₀ hC hr hl hn₁₀ => ?_) (fun C => rfl)
          obtain ⟨a', v1, v3, e', hl', r1, r3⟩ := hr
          cases e'
          have := plain_eq hl hl'
          subst this
          refine wpAny_tests_nil ?_
          rw [if_pos rfl]
          refine (ev_Name (v := v3) (.loc _ (ce_loc (scope := sc3)) hn₁₀ rfl) rfl).cont fun y s' q' e' => ?_
          obtain ⟨rfl, rfl⟩ := e'
          exact ⟨q', _, rfl, r3, r3.new⟩
        · have e1 : ((toldF [a, b, c, d, e]).filterMap fun r => some r.2) = (toldF [a, b, c, d, e]).map (·.2) := by simp
          rw [e1] at h₈
          have := ev_sum (prog := prog) (w := w) hh h₈.1
          rw [PL.sum] at this
          exact this.cont fun v s' q' h' => ⟨q₈.trans q', h'⟩
      · obtain ⟨rfl, rfl⟩ := e'
        refine PyProof.Rows.callWith_builtin1 (args_cons ((ev_Name (.cel cc hsw (by rw [hcs]; rfl) (cell_away q₈ hc₇ (by simp))) hk).cont fun v s' q' e' => args_nil ?_))
        obtain ⟨rfl, rfl⟩ := e'
        obtain ⟨lt, its, rfl, hlt, hpt⟩ := RL.up (fun _ _ _ _ _ h => h) _ _ _ _ q₈ htx7
        have hn' : its.size = 16 := by have := Paired.length hpt; rw [htxl] at this; simpa using this
        refine PyProof.Rows.len_list hlt.isList (by rw [hn']; decide) ⟨.toked (by omega), ?_⟩
        rw [hn']; exact ⟨_, rfl⟩
    · subst e8
      rw [if_neg (by decide)]
      refine wpAny_execs_nil ?_
      dsimp only
      refine wpAny_execs_cons (wpAny_Return_some (Do.cont (W := []) (P := fun v _ => v = .bool true) ?_ fun v₉ s₉ q₉ h₉ => ⟨(b₇.trans q₈.any).trans q₉.any, by rw [h₉]⟩))
      intro E
      refine wpAny_Compare1 (Do.cont (W := []) (P := fun v s' => RL RW s' v ((toldF [a, b, c, d, e]).filterMap fun _ => none) ∧ New s₈ v) ?_ fun v₉ s₉ q₉ h₉ => ?_)
      · refine ev_ListComp (R := R2 n₀) (cl := [(Str.ofString "texts", cc)]) hh (R2.flat n₀).up RW.flat (itold _ _ q₈) (by omega) (clos_texts hcs) (fun s₉ q₉ => ?_)
        refine cturn_tuple (xs := [(Str.ofString "text", _), (Str.ofString "times", _)]) hh (by decide) rfl (R2.firm n₀) rowlist (fun C r a its m₆ s₁₀ E hd q₁₀ hC hr hl hn₁₀ => ?_) (fun C => rfl)
        obtain ⟨a', v1, v3, e', hl', r1, r3⟩ := hr
        cases e'
        have := plain_eq hl hl'
        subst this
        have fr : ∀ z ∈ [C], s₇.heap.get? z = none := by intro z hz; rw [List.mem_singleton.mp hz]; exact (q₈.trans q₉).freshBack (by simp) hC
        have g₁₀ : Gr s₁₀.heap := g₇.modW (q₈.trans q₉) q₁₀ fr
        have hcC : cc ∉ [C] := fun hm => by
          obtain ⟨o, e⟩ := cell_old hc₇
          rw [fr cc hm] at e; cases e
        have hc₁₀ : s₁₀.heap.IsCell cc (some v₄) := cell_away q₁₀ (cell_away (q₈.trans q₉) hc₇ (by simp)) hcC
        have htx10 : RL (RT n₀) s₁₀ v₄ txs := by
          obtain ⟨lt, its, rfl, hlt, hpt⟩ := htx7
          exact ⟨lt, its, rfl, hlt.at fun o e => q₁₀.keep _ o (fun hm => by rw [fr lt hm] at e; cases e) ((q₈.trans q₉).all _ _ e), Paired.weak (fun _ _ _ h => h) hpt⟩
        refine wpAny_tests_one (Do.cont (W := []) (P := fun v _ => v = decide (((txs.count r.1 : Nat) : Int) ≠ r.2)) ?_ fun c1 s₁₁ q₁₁ e11 => ?_)
        · refine ev_test (R₁ := RI) (R₂ := RI) (d₁ := ((txs.count r.1 : Nat) : Int)) (d₂ := r.2) RI.flat.up ?_ (fun s' q' => At.ev (At.mod RI.flat.up q' ⟨v3, .loc _ (ce_loc (scope := sc4)) hn₁₀ rfl, r3⟩) rfl) (fun a b s' q' ha hb => ev_ne_int ha hb)
          intro E
          obtain ⟨o, pm, cd, doc, ho, hd', _⟩ := g₁₀.countOf
          refine Call_ ((ev_Name (v := .ref 67) (.glo (ce_glo (scope := sc4)) ev.globals rfl g₁₀) rfl).cont fun f s' q' e' => ?_)
          obtain ⟨rfl, rfl⟩ := e'
          refine callWith_def hd' (args_cons ((ev_Name (v := v₄) (.cel cc (ce_cel (scope := sc4) hk hsw) rfl hc₁₀) rfl).cont fun f s' q' e' => args_cons ?_))
          obtain ⟨rfl, rfl⟩ := e'
          refine (ev_Name (v := v1) (.loc _ (ce_loc (scope := sc4)) hn₁₀ rfl) rfl).cont fun f s' q' e' => args_nil ?_
          obtain ⟨rfl, rfl⟩ := e'
          obtain ⟨tt, rfl, htt⟩ := r1
          exact ⟨ho, countOf_ok (k := 3) g₁₀ hA htx10 ⟨tt, rfl, (htt (PL.tlong r hd)).1⟩ hn0p E⟩
        · subst e11
          have hcnt := PL.count r hd
          rw [htxs] at hcnt
          rw [decide_eq_false (by simpa using hcnt), if_neg Bool.false_ne_true]
          exact ⟨q₁₁, rfl⟩
      · have e0 : ((toldF [a, b, c, d, e]).filterMap fun _ => (none : Option Str)) = [] := by simp
        rw [e0] at h₉
        obtain ⟨⟨l9, its9, rfl, hl9, hp9⟩, _⟩ := h₉
        have hi9 : its9 = #[] := by
          have := Paired.length hp9
          exact Array.eq_empty_of_size_eq_zero (by simpa using this)
        subst hi9
        refine ev_list0.cont fun v₁₀ s₁₀ q₁₀ h₁₀ => ?_
        obtain ⟨l10, rfl, hl10, _⟩ := h₁₀
        exact (ev_eq_nil hA.line ⟨l9, rfl, hl9.at fun o e => q₁₀.all _ _ e⟩ ⟨l10, rfl, hl10⟩).cont fun v s' q' e => ⟨(q₉.trans q₁₀).trans q', e⟩
  · show pure (env.blockKind == .function && env.kindOf (Str.ofString "texts") == some .local && _ && _) = pure false
    rw [hsw]
    have : (some NameKind.cell == some NameKind.local) = false := rfl
    rw [this, Bool.and_false]; rfl
end
end Mine

/-! ### Plain -/
namespace Mine
open PySem PySem.Calls PyProof.Rows

/-! ## sums -/
def tot {α : Type} (f : α → Int) : List α → Int
  | [] => 0
  | a :: r => f a + tot f r
theorem tot_append {α : Type} (f : α → Int) : ∀ (l r : List α), tot f (l ++ r) = tot f l + tot f r
  | [], r => by simp [tot]
  | a :: l, r => by rw [List.cons_append]; simp only [tot]; rw [tot_append f l r]; omega
theorem tot_map {α β : Type} (f : β → Int) (g : α → β) : ∀ l : List α, tot f (l.map g) = tot (fun a => f (g a)) l
  | [] => rfl
  | a :: l => by rw [List.map_cons]; simp only [tot]; rw [tot_map f g l]
theorem tot_flatMap {α β : Type} (f : β → Int) (g : α → List β) : ∀ l : List α, tot f (l.flatMap g) = tot (fun a => tot f (g a)) l
  | [] => rfl
  | a :: l => by rw [List.flatMap_cons, tot_append]; simp only [tot]; rw [tot_flatMap f g l]
theorem tot_congr {α : Type} {f g : α → Int} : ∀ {l : List α}, (∀ a ∈ l, f a = g a) → tot f l = tot g l
  | [], _ => rfl
  | a :: l, h => by simp only [tot]; rw [h a (List.mem_cons_self ..), tot_congr fun b hb => h b (List.mem_cons_of_mem _ hb)]
theorem tot_add {α : Type} (f g : α → Int) : ∀ l : List α, tot (fun a => f a + g a) l = tot f l + tot g l
  | [] => rfl
  | a :: l => by simp only [tot]; rw [tot_add f g l]; omega
theorem tot_mul {α : Type} (f : α → Int) (k : Int) : ∀ l : List α, tot (fun a => k * f a) l = k * tot f l
  | [] => by simp [tot]
  | a :: l => by simp only [tot]; rw [tot_mul f k l, Int.mul_add]
theorem tot_filterMap {α β : Type} (f : β → Int) (g : α → Option β) : ∀ l : List α, tot f (l.filterMap g) = tot (fun a => match g a with | none => 0 | some b => f b) l
  | [] => rfl
  | a :: l => by
    rw [List.filterMap_cons]
    cases hg : g a with
    | none => simp only [tot, hg]; rw [tot_filterMap f g l]; omega
    | some b => simp only [tot, hg]; rw [tot_filterMap f g l]
theorem sum_tot {α : Type} (f : α → Int) : ∀ l : List α, (l.map f).sum = tot f l
  | [] => rfl
  | a :: l => by rw [List.map_cons, List.sum_cons, sum_tot f l]; rfl
theorem count_tot (y : Str) : ∀ l : List Str, (l.count y : Int) = tot (fun x => if x = y then 1 else 0) l
  | [] => rfl
  | a :: l => by
    rw [List.count_cons]
    simp only [tot]
    rw [← count_tot y l]
    by_cases h : a = y <;> simp [h] <;> omega

/-! ## strs -/
theorem sext {x y : Str} (h : x.cps.toList = y.cps.toList) : x = y := Str.ext' (Array.toList_inj.mp h)
theorem tl_append (x y : Str) : (x ++ y).cps.toList = x.cps.toList ++ y.cps.toList := by rw [Str.cps_append, Array.toList_append]
theorem sassoc (x y z : Str) : x ++ y ++ z = x ++ (y ++ z) := sext (by simp [tl_append])
theorem empty_app (x : Str) : Str.empty ++ x = x := sext (by simp [tl_append, Str.empty])
theorem app_empty (x : Str) : x ++ Str.empty = x := sext (by simp [tl_append, Str.empty])

def rp (x : Str) : Str := Txt.replace x apo esc
theorem rp_tl (x : Str) : (rp x).cps.toList = escL x.cps.toList := replace_esc x
theorem rp_app (x : Str) (c : Nat) : rp (x ++ ⟨#[c]⟩) = rp x ++ writ c := by
  refine sext ?_
  rw [tl_append, rp_tl, tl_append, escL_append, rp_tl]
  congr 1
  unfold writ escL
  by_cases h : c = 39
  · rw [if_pos h, esc_eq]; simp [h]
  · rw [if_neg h]; simp [h]
theorem rp_one (c : Nat) : rp ⟨#[c]⟩ = writ c := by
  refine sext ?_
  rw [rp_tl]
  unfold writ escL
  by_cases h : c = 39
  · rw [if_pos h, esc_eq]; simp [h]
  · rw [if_neg h]; simp [h]
theorem safe_apo : safeC 39 = false := by decide +kernel
theorem safe_ne {c : Nat} (h : safeC c = true) : c ≠ 39 := by rintro rfl; rw [safe_apo] at h; cases h
theorem writ_safe {c : Nat} (h : safeC c = true) : writ c = ⟨#[c]⟩ := if_neg (safe_ne h)
theorem rp_safe {x : Str} (h : allSafe x = true) : rp x = x := by
  refine sext ?_
  rw [rp_tl]
  refine escL_free _ fun hm => ?_
  have := List.all_eq_true.mp h 39 hm
  rw [safe_apo] at this; cases this
theorem safe_app (x : Str) (c : Nat) : allSafe (x ++ ⟨#[c]⟩) = (allSafe x && safeC c) := by
  unfold allSafe; rw [tl_append, List.all_append]; simp
theorem safe_one (c : Nat) : allSafe ⟨#[c]⟩ = safeC c := by unfold allSafe; simp
theorem quote_safe {x : Str} (h : allSafe x = true) : quoteF x = x := if_pos h
theorem quote_not {x : Str} (h : allSafe x = false) : quoteF x = apo ++ rp x ++ apo := if_neg (by rw [h]; exact Bool.false_ne_true)

/-! ## what a way stands for -/
def gather (ps : List Str) : Str := ps.foldl (fun a p => a ++ quoteF p) Str.empty
theorem gather_snoc (ps : List Str) (p : Str) : gather (ps ++ [p]) = gather ps ++ quoteF p := by unfold gather; rw [List.foldl_append]; rfl
theorem foldl_quote : ∀ (ps : List Str) (x : Str), (ps.map quoteF).foldl (· ++ ·) x = ps.foldl (fun a p => a ++ quoteF p) x
  | [], _ => rfl
  | p :: r, x => by rw [List.map_cons, List.foldl_cons, List.foldl_cons]; exact foldl_quote r _
theorem textF_gather (w : List Str) (h : w ≠ []) : textF w = gather w := by
  match w, h with
  | p :: r, _ =>
    show (r.map quoteF).foldl (· ++ ·) (quoteF p) = _
    rw [foldl_quote]; unfold gather; rw [List.foldl_cons, empty_app]

def Phi (g : Str → Str → Int) (D p : Str) : Int := if allSafe p = true then g (D ++ p) stBare + g (D ++ apo ++ p) stShut else g (D ++ apo ++ rp p) stFree
def PhiW (g : Str → Str → Int) (w : List Str) : Int := Phi g (gather w.dropLast) (w.getLastD Str.empty)
/-- the rows that come from one row, told by g -/
def Gc (g : Str → Str → Int) (c : Nat) (t s : Str) : Int := tot (fun r : Row => r.2.2 * g r.1 r.2.1) (turnF c (t, s, 1))

theorem ne1 : stBare ≠ stFree := by decide +kernel
theorem ne2 : stBare ≠ stShut := by decide +kernel
theorem ne3 : stShut ≠ stFree := by decide +kernel
theorem ne4 : Str.empty ≠ stFree := by decide +kernel
theorem ne5 : Str.empty ≠ stShut := by decide +kernel
theorem ne6 : Str.empty ≠ stBare := by decide +kernel
theorem ne7 : stShut ≠ stBare := by decide +kernel

theorem next_lin (g : Str → Str → Int) (c : Nat) (t s : Str) (n : Int) : tot (fun r : Row => r.2.2 * g r.1 r.2.1) (nextF t s n c) = n * tot (fun r : Row => r.2.2 * g r.1 r.2.1) (nextF t s 1 c) := by
  unfold nextF
  split
  · simp [tot]
  · split
    · split
      · simp only [tot, List.cons_append, List.nil_append]; rw [Int.mul_add, Int.mul_add]; simp [Int.mul_assoc, Int.mul_comm]
      · simp only [tot, List.cons_append, List.nil_append]; rw [Int.mul_add, Int.mul_add]; simp
    · simp [tot]
theorem turn_lin (g : Str → Str → Int) (c : Nat) (r : Row) : tot (fun r : Row => r.2.2 * g r.1 r.2.1) (turnF c r) = r.2.2 * Gc g c r.1 r.2.1 := by
  obtain ⟨t, s, n⟩ := r
  unfold Gc turnF
  dsimp only
  split
  · rw [tot_append, tot_append, next_lin g c _ _ n, Int.mul_add]; simp [tot]
  · rw [next_lin g c _ _ n]

theorem gc_shut (g : Str → Str → Int) (c : Nat) (t : Str) : Gc g c t stShut = g (t ++ writ c) (if safeC c = true then stShut else stFree) := by
  unfold Gc turnF nextF
  dsimp only
  rw [if_neg ne3, if_pos rfl]
  simp only [tot, Int.one_mul, Int.add_zero]
theorem gc_bare (g : Str → Str → Int) (c : Nat) (t : Str) : Gc g c t stBare = if safeC c = true then g (t ++ apo ++ writ c) stShut + 2 * g (t ++ ⟨#[c]⟩) stBare else g (t ++ apo ++ writ c) stFree := by
  unfold Gc turnF nextF
  dsimp only
  rw [if_neg ne1, if_neg ne2, if_pos rfl]
  by_cases hc : safeC c = true
  · rw [if_pos hc, if_pos hc, if_pos hc]
    simp only [tot, Int.one_mul, Int.add_zero, List.cons_append, List.nil_append, Int.mul_one]
  · rw [if_neg hc, if_neg hc, if_neg hc]
    simp only [tot, Int.one_mul, Int.add_zero, List.cons_append, List.nil_append]
theorem gc_free (g : Str → Str → Int) (c : Nat) (t : Str) : Gc g c t stFree = g (t ++ writ c) stFree + if safeC c = true then g (t ++ apo ++ apo ++ writ c) stShut + g (t ++ apo ++ ⟨#[c]⟩) stBare else g (t ++ apo ++ apo ++ writ c) stFree := by
  unfold Gc turnF nextF
  dsimp only
  rw [if_pos rfl, if_neg ne5, if_neg ne6]
  by_cases hc : safeC c = true
  · rw [if_pos hc, if_pos hc, if_pos hc]
    simp only [tot, Int.one_mul, Int.add_zero, List.cons_append, List.nil_append]
  · rw [if_neg hc, if_neg hc, if_neg hc]
    simp only [tot, Int.one_mul, Int.add_zero, List.cons_append, List.nil_append]

theorem phi_step (g : Str → Str → Int) (c : Nat) (D p : Str) : Phi (Gc g c) D p = Phi g D (p ++ ⟨#[c]⟩) + Phi g (D ++ quoteF p) ⟨#[c]⟩ := by
  unfold Phi
  rw [safe_app, safe_one, rp_app, rp_one, gc_bare, gc_shut, gc_free]
  cases hp : allSafe p with
  | true =>
    rw [quote_safe hp, rp_safe hp]
    cases hc : safeC c with
    | true =>
      rw [writ_safe hc]
      simp only [Bool.and_true, if_true, sassoc]
      omega
    | false =>
      simp only [Bool.and_false, if_true, Bool.false_eq_true, if_false, sassoc]
      omega
  | false =>
    rw [quote_not hp]
    cases hc : safeC c with
    | true =>
      rw [writ_safe hc]
      simp only [Bool.and_true, if_true, Bool.false_eq_true, if_false, sassoc]
      omega
    | false =>
      simp only [Bool.and_false, Bool.false_eq_true, if_false, sassoc]

theorem phiW_step (g : Str → Str → Int) (c : Nat) (w : List Str) (h : w ≠ []) : PhiW (Gc g c) w = PhiW g (w.dropLast ++ [w.getLastD Str.empty ++ ⟨#[c]⟩]) + PhiW g (w ++ [⟨#[c]⟩]) := by
  have hw : w.dropLast ++ [w.getLastD Str.empty] = w := by
    rw [List.getLastD_eq_getLast?, List.getLast?_eq_some_getLast h]; exact List.dropLast_concat_getLast h
  unfold PhiW
  rw [phi_step, List.dropLast_concat, List.dropLast_concat]
  have e1 : (w.dropLast ++ [w.getLastD Str.empty ++ (⟨#[c]⟩ : Str)]).getLastD Str.empty = w.getLastD Str.empty ++ ⟨#[c]⟩ := by simp
  have e2 : (w ++ [(⟨#[c]⟩ : Str)]).getLastD Str.empty = ⟨#[c]⟩ := by simp
  rw [e1, e2, ← gather_snoc, hw]

/-- the rows are told by the ways -/
theorem rows_ways (a : Nat) : ∀ (cs : List Nat) (g : Str → Str → Int), tot (fun r : Row => r.2.2 * g r.1 r.2.1) (rowsF (a :: cs)) = tot (PhiW g) (waysF a cs) := by
  intro cs
  suffices h : ∀ n (cs : List Nat), cs.length = n → ∀ g : Str → Str → Int, tot (fun r : Row => r.2.2 * g r.1 r.2.1) (rowsF (a :: cs)) = tot (PhiW g) (waysF a cs) from h _ cs rfl
  intro n
  induction n with
  | zero =>
    intro cs hn g
    rw [List.length_eq_zero_iff.mp hn]
    show tot _ (stepT [(Str.empty, Str.empty, 1)] a) = tot (PhiW g) [[⟨#[a]⟩]]
    unfold stepT
    rw [tot_flatMap]
    simp only [tot, Int.add_zero]
    show tot _ (turnF a (Str.empty, Str.empty, 1)) = Phi g Str.empty ⟨#[a]⟩
    unfold turnF nextF Phi
    dsimp only
    rw [if_neg ne4, if_neg ne5, if_neg ne6, safe_one, rp_one]
    simp only [empty_app]
    cases hc : safeC a with
    | true =>
      rw [writ_safe hc]
      simp only [if_true, tot, Int.one_mul, Int.add_zero, List.cons_append, List.nil_append]
      omega
    | false => simp only [Bool.false_eq_true, if_false, tot, Int.one_mul, Int.add_zero, List.append_nil]
  | succ n ih =>
    intro cs hn g
    obtain ⟨ds, c, rfl⟩ : ∃ ds c, cs = ds ++ [c] := ⟨cs.dropLast, cs.getLast (by rintro rfl; simp at hn), (List.dropLast_concat_getLast _).symm⟩
    have hd : ds.length = n := by simpa using hn
    have e1 : rowsF (a :: (ds ++ [c])) = (rowsF (a :: ds)).flatMap (turnF c) := by
      unfold rowsF; rw [← List.cons_append, List.foldl_append]; rfl
    have e2 : waysF a (ds ++ [c]) = stepW (waysF a ds) c := by unfold waysF; rw [List.foldl_append]; rfl
    rw [e1, tot_flatMap, e2]
    unfold stepW
    rw [tot_append, tot_map, tot_map, ← tot_add]
    have e3 : tot (fun r : Row => tot (fun r : Row => r.2.2 * g r.1 r.2.1) (turnF c r)) (rowsF (a :: ds)) = tot (fun r : Row => r.2.2 * Gc g c r.1 r.2.1) (rowsF (a :: ds)) := tot_congr fun r _ => turn_lin g c r
    rw [e3, ih ds hd (Gc g c)]
    refine tot_congr fun w hw => ?_
    exact phiW_step g c w ((waysF_ok a ds).2 w hw).1

theorem told_texts (a : Nat) (cs : List Nat) (f : Str → Int) : tot (fun r : Str × Int => r.2 * f r.1) (toldF (a :: cs)) = tot (fun w => f (textF w)) (waysF a cs) := by
  unfold toldF
  rw [tot_filterMap, tot_map]
  have e := rows_ways a cs fun t s => if s = stShut then 0 else f (if s = stFree then t ++ apo else t)
  refine (tot_congr (g := fun r : Row => r.2.2 * (if r.2.1 = stShut then 0 else f (if r.2.1 = stFree then r.1 ++ apo else r.1))) fun r _ => ?_).trans (e.trans ?_)
  · unfold closeF
    dsimp only
    by_cases h : r.2.1 = stShut
    · rw [if_pos h, if_pos h]; simp
    · rw [if_neg h, if_neg h]
  refine tot_congr fun w hw => ?_
  have hne := ((waysF_ok a cs).2 w hw).1
  have hww : w.dropLast ++ [w.getLastD Str.empty] = w := by
    rw [List.getLastD_eq_getLast?, List.getLast?_eq_some_getLast hne]; exact List.dropLast_concat_getLast hne
  rw [textF_gather w hne]
  have hg : gather w = gather w.dropLast ++ quoteF (w.getLastD Str.empty) := by rw [← gather_snoc, hww]
  rw [hg]
  unfold PhiW Phi
  dsimp only
  rw [if_neg ne2, if_neg ne1, if_pos (rfl : stShut = stShut), if_neg ne3.symm, if_pos (rfl : stFree = stFree)]
  cases hp : allSafe (w.getLastD Str.empty) with
  | true => rw [if_pos rfl, quote_safe hp, Int.add_zero]
  | false => rw [if_neg Bool.false_ne_true, quote_not hp]; simp only [sassoc]

/-! ## the told texts are apart -/
def Apart (x y : Str) : Prop := ∃ k : Nat, ∃ u v : Nat, x.cps.toList[k]? = some u ∧ y.cps.toList[k]? = some v ∧ u ≠ v
theorem Apart.ne {x y : Str} (h : Apart x y) : x ≠ y := by
  rintro rfl
  obtain ⟨k, u, v, h1, h2, h3⟩ := h
  rw [h1] at h2; exact h3 (Option.some.inj h2)
theorem Apart.app {x y : Str} (h : Apart x y) (p q : Str) : Apart (x ++ p) (y ++ q) := by
  obtain ⟨k, u, v, h1, h2, h3⟩ := h
  have l1 : k < x.cps.toList.length := (List.getElem?_eq_some_iff.mp h1).1
  have l2 : k < y.cps.toList.length := (List.getElem?_eq_some_iff.mp h2).1
  exact ⟨k, u, v, by rw [tl_append, List.getElem?_append_left l1]; exact h1, by rw [tl_append, List.getElem?_append_left l2]; exact h2, h3⟩
theorem Apart.under (t : Str) {x y : Str} (h : Apart x y) : Apart (t ++ x) (t ++ y) := by
  obtain ⟨k, u, v, h1, h2, h3⟩ := h
  refine ⟨t.cps.toList.length + k, u, v, ?_, ?_, h3⟩ <;> rw [tl_append, List.getElem?_append_right (by omega), Nat.add_sub_cancel_left] <;> assumption
theorem apart_head {u v : Nat} {x y : Str} (h : u ≠ v) : Apart (⟨#[u]⟩ ++ x) (⟨#[v]⟩ ++ y) := ⟨0, u, v, by rw [tl_append]; rfl, by rw [tl_append]; rfl, h⟩

def starts (r q : Row) : Prop := ∃ u, q.1 = r.1 ++ u
theorem next_starts (t s : Str) (n : Int) (c : Nat) : ∀ q ∈ nextF t s n c, ∃ u, q.1 = t ++ u := by
  intro q hq
  unfold nextF at hq
  split at hq
  · rw [List.mem_singleton.mp hq]; exact ⟨_, rfl⟩
  · split at hq
    · rcases List.mem_append.mp hq with hq | hq <;> rw [List.mem_singleton.mp hq]
      · exact ⟨apo ++ writ c, sassoc _ _ _⟩
      · exact ⟨_, rfl⟩
    · rw [List.append_nil] at hq
      rw [List.mem_singleton.mp hq]
      exact ⟨apo ++ writ c, sassoc _ _ _⟩
theorem turn_starts (c : Nat) (r : Row) : ∀ q ∈ turnF c r, ∃ u, q.1 = r.1 ++ u := by
  intro q hq
  unfold turnF at hq
  split at hq
  · rcases List.mem_append.mp hq with hq | hq
    · rw [List.mem_singleton.mp hq]; exact ⟨_, rfl⟩
    · obtain ⟨u, e⟩ := next_starts _ _ _ _ q hq
      exact ⟨apo ++ u, by rw [e, sassoc]⟩
  · exact next_starts _ _ _ _ q hq
theorem apo_one : apo = ⟨#[39]⟩ := apo_eq
theorem one_app (c : Nat) : (⟨#[c]⟩ : Str) = ⟨#[c]⟩ ++ Str.empty := (app_empty _).symm
theorem next_apart (t s : Str) (n : Int) (c : Nat) : (nextF t s n c).Pairwise fun a b => Apart a.1 b.1 := by
  unfold nextF
  split
  · exact List.pairwise_singleton _ _
  · by_cases hc : safeC c = true
    · rw [if_pos hc, if_pos hc]
      refine List.pairwise_cons.mpr ⟨fun q hq => ?_, List.pairwise_singleton _ _⟩
      rw [List.mem_singleton.mp hq]
      show Apart (t ++ apo ++ writ c) (t ++ (⟨#[c]⟩ : Str))
      rw [sassoc]
      refine Apart.under t ?_
      rw [apo_one, one_app c]
      exact apart_head fun h => safe_ne hc h.symm
    · rw [if_neg hc, if_neg hc, List.append_nil]; exact List.pairwise_singleton _ _
theorem turn_apart (c : Nat) (r : Row) : (turnF c r).Pairwise fun a b => Apart a.1 b.1 := by
  unfold turnF
  split
  · refine List.pairwise_cons.mpr ⟨fun q hq => ?_, next_apart _ _ _ _⟩
    show Apart (r.1 ++ writ c) q.1
    by_cases hc : c = 39
    · have hs : safeC c = false := by rw [hc]; exact safe_apo
      have hq' : q.1 = r.1 ++ apo ++ apo ++ writ c := by
        change q ∈ nextF (r.1 ++ apo) Str.empty r.2.2 c at hq
        unfold nextF at hq
        rw [if_neg ne5, hs] at hq
        simp only [Bool.false_eq_true, if_false, List.append_nil] at hq
        rw [List.mem_singleton.mp hq]
      rw [hq', sassoc, sassoc]
      refine Apart.under _ ⟨1, 34, 39, ?_, ?_, by decide⟩
      · unfold writ; rw [if_pos hc, esc_eq]; rfl
      · rw [tl_append, tl_append, apo_one]; rfl
    · obtain ⟨u, e⟩ := next_starts _ _ _ _ q hq
      rw [e, sassoc]
      refine Apart.under _ ?_
      have : writ c = ⟨#[c]⟩ := if_neg hc
      rw [this, apo_one, one_app c]
      exact apart_head hc
  · exact next_apart _ _ _ _
theorem rows_apart (cs : List Nat) : (rowsF cs).Pairwise fun a b => Apart a.1 b.1 := by
  suffices h : ∀ (cs : List Nat) (rows : List Row), rows.Pairwise (fun a b => Apart a.1 b.1) → (cs.foldl stepT rows).Pairwise fun a b => Apart a.1 b.1 from h cs _ (List.pairwise_singleton _ _)
  intro cs
  induction cs with
  | nil => intro rows h; exact h
  | cons c r ih =>
    intro rows h
    refine ih _ ?_
    unfold stepT
    rw [List.pairwise_flatMap]
    refine ⟨fun q _ => turn_apart c q, h.imp fun {a b} hab x hx y hy => ?_⟩
    obtain ⟨u, e⟩ := turn_starts c a x hx
    obtain ⟨v, e'⟩ := turn_starts c b y hy
    rw [e, e']; exact hab.app u v
theorem told_apart (cs : List Nat) : (toldF cs).Pairwise fun a b => a.1 ≠ b.1 := by
  unfold toldF
  rw [List.pairwise_filterMap, List.pairwise_map]
  refine (rows_apart cs).imp fun {a b} hab x hx y hy => ?_
  have cl : ∀ r : Row, ∃ u, (closeF r).1 = r.1 ++ u := fun r => by
    unfold closeF
    dsimp only
    split
    · exact ⟨_, rfl⟩
    · exact ⟨Str.empty, (app_empty _).symm⟩
  obtain ⟨u, e⟩ := cl a
  obtain ⟨v, e'⟩ := cl b
  have h1 : x.1 = (closeF a).1 := by split at hx <;> simp at hx; rw [← hx]
  have h2 : y.1 = (closeF b).1 := by split at hy <;> simp at hy; rw [← hy]
  rw [h1, h2, e, e']
  exact (hab.app u v).ne

theorem tot_one {l : List (Str × Int)} (h : l.Pairwise fun a b => a.1 ≠ b.1) : ∀ r ∈ l, tot (fun q : Str × Int => q.2 * (if q.1 = r.1 then 1 else 0)) l = r.2 := by
  induction l with
  | nil => intro r hr; cases hr
  | cons a l ih =>
    intro r hr
    obtain ⟨h1, h2⟩ := List.pairwise_cons.mp h
    simp only [tot]
    rcases List.mem_cons.mp hr with rfl | hr
    · rw [if_pos rfl]
      have : tot (fun q : Str × Int => q.2 * (if q.1 = r.1 then 1 else 0)) l = tot (fun q => 0 * 0) l := tot_congr fun q hq => by
        rw [if_neg fun e => h1 q hq e.symm]; simp
      rw [this, tot_mul]; omega
    · rw [if_neg (h1 r hr), ih h2 r hr]; omega

/-! ## lengths -/
theorem next_longer (t s : Str) (n : Int) (c : Nat) : ∀ q ∈ nextF t s n c, t.length + 1 ≤ q.1.length := by
  have hw : 1 ≤ (writ c).length := by
    unfold writ
    split
    · rw [esc_eq]; exact (by decide : 1 ≤ 5)
    · exact Nat.le_refl 1
  have e1 : (⟨#[c]⟩ : Str).length = 1 := rfl
  intro q hq
  unfold nextF at hq
  split at hq
  · rw [List.mem_singleton.mp hq]; show _ ≤ (t ++ writ c).length; rw [Str.length_append]; omega
  · split at hq
    · rcases List.mem_append.mp hq with hq | hq <;> rw [List.mem_singleton.mp hq]
      · show _ ≤ (t ++ apo ++ writ c).length; rw [Str.length_append, Str.length_append]; omega
      · show _ ≤ (t ++ (⟨#[c]⟩ : Str)).length; rw [Str.length_append]; omega
    · rw [List.append_nil] at hq
      rw [List.mem_singleton.mp hq]
      show _ ≤ (t ++ apo ++ writ c).length; rw [Str.length_append, Str.length_append]; omega
theorem turn_longer (c : Nat) (r : Row) : ∀ q ∈ turnF c r, r.1.length + 1 ≤ q.1.length := by
  have hw : 1 ≤ (writ c).length := by
    unfold writ
    split
    · rw [esc_eq]; exact (by decide : 1 ≤ 5)
    · exact Nat.le_refl 1
  intro q hq
  unfold turnF at hq
  split at hq
  · rcases List.mem_append.mp hq with hq | hq
    · rw [List.mem_singleton.mp hq]; show _ ≤ (r.1 ++ writ c).length; rw [Str.length_append]; omega
    · have := next_longer _ _ _ _ q hq; rw [Str.length_append] at this; omega
  · exact next_longer _ _ _ _ q hq
theorem rows_long : ∀ (cs : List Nat) (i : Nat) (rows : List Row), (∀ r ∈ rows, i ≤ r.1.length) → ∀ r ∈ cs.foldl stepT rows, i + cs.length ≤ r.1.length
  | [], _, _, h => h
  | c :: cs, i, rows, h => by
    intro r hr
    have := rows_long cs (i + 1) (stepT rows c) (fun q hq => by
      obtain ⟨p, hp, hq⟩ := List.mem_flatMap.mp hq
      have := turn_longer c p q hq
      have := h p hp
      omega) r hr
    rw [List.length_cons]; omega
theorem told_long (cs : List Nat) : ∀ r ∈ toldF cs, cs.length ≤ r.1.length := by
  intro r hr
  unfold toldF at hr
  obtain ⟨q, hq, e⟩ := List.mem_filterMap.mp hr
  obtain ⟨p, hp, rfl⟩ := List.mem_map.mp hq
  have h1 := rows_long cs 0 _ (fun _ _ => Nat.zero_le _) p hp
  have h2 : r.1 = (closeF p).1 := by split at e <;> simp at e; rw [← e]
  rw [h2]
  unfold closeF
  dsimp only
  split
  · rw [Str.length_append]; omega
  · omega

theorem tot_nonneg {α : Type} {f : α → Int} (h : ∀ a, 0 ≤ f a) : ∀ l : List α, 0 ≤ tot f l
  | [] => Int.le_refl 0
  | a :: l => by simp only [tot]; have := h a; have := tot_nonneg h l; omega
theorem tot_zero {α : Type} {f : α → Int} (h : ∀ a, 0 ≤ f a) : ∀ {l : List α}, tot f l = 0 → ∀ a ∈ l, f a = 0
  | b :: l, e, a, ha => by
    simp only [tot] at e
    have h1 := h b
    have h2 := tot_nonneg h l
    rcases List.mem_cons.mp ha with rfl | ha
    · omega
    · exact tot_zero h (by omega) a ha
theorem tot_const {α : Type} (l : List α) : tot (fun _ => 1) l = l.length := by
  induction l with
  | nil => rfl
  | cons a l ih => simp only [tot, List.length_cons]; rw [ih]; omega

theorem plain_law (a b c d e : Nat) : PlainLaw a b c d e := by
  have key := told_texts a [b, c, d, e]
  have tl := told_long [a, b, c, d, e]
  have cnt : ∀ r ∈ toldF [a, b, c, d, e], (((waysF a [b, c, d, e]).map textF).count r.1 : Int) = r.2 := by
    intro r hr
    rw [count_tot, tot_map, ← key fun x => if x = r.1 then 1 else 0]
    exact tot_one (told_apart _) r hr
  refine ⟨?_, fun r hr => Nat.le_trans (show 2 ≤ 5 by decide) (tl r hr), ?_, cnt⟩
  · intro way hway
    have k0 := key fun x => if x.length < 2 then 1 else 0
    have z : tot (fun r : Str × Int => r.2 * (if r.1.length < 2 then 1 else 0)) (toldF [a, b, c, d, e]) = 0 := by
      rw [tot_congr (g := fun _ => 0 * 0) fun r hr => by
        have h2 : 2 ≤ r.1.length := Nat.le_trans (show 2 ≤ 5 by decide) (tl r hr)
        rw [if_neg (by omega)]; simp]
      rw [tot_mul]; simp
    rw [z] at k0
    have := tot_zero (f := fun w => if (textF w).length < 2 then 1 else 0) (fun w => by split <;> decide) k0.symm way hway
    split at this
    · cases this
    · omega
  · rw [sum_tot]
    have := key fun _ => 1
    simp only [Int.mul_one] at this
    rw [this, tot_const, (waysF_ok a [b, c, d, e]).1]
    rfl
end Mine

/-! ### Head -/
namespace Mine
open PySem PySem.W PyProof.Rows
open_top hd for PySem.Challenge.rw_op0007_01
end Mine

/-! ### Ground -/
namespace Mine
open PySem PySem.Calls PyProof.Rows PySem.W

theorem fn_of {K : Frag} {h : Heap} {a : Addr} {name : Str} {st : Stmt} {o : Obj} {pm cd doc : Value} (X : K.In h) (ho : K.lookup a = some o) (hd : o.data = .func (docDef name (defPars st) (defBody st) (defScope st) pm cd doc)) (hc : codeIn K cd name = true) : Fn h a name st :=
  ⟨o, pm, cd, doc, X _ _ ho, hd, codeRec_of X hc⟩

theorem gr_of {w : World} {h : Heap} {loose : List Str} {mean : ExcName → Option Value} {mg mb : Str → Option Value} (KX : (hd.heap_39 w.params).In h) (T : Top hd.view_39 loose mean mg mb h) : Gr h where
  names := by
    refine ⟨mg, mb, T.g, T.b, fun x v e => ?_, fun x v e => ?_⟩
    · have hm := mem_of_lookup e
      simp only [globs, List.mem_cons, List.not_mem_nil, or_false, Prod.mk.injEq] at hm
      rcases hm with ⟨rfl, rfl⟩ | ⟨rfl, rfl⟩ | ⟨rfl, rfl⟩ | ⟨rfl, rfl⟩ | ⟨rfl, rfl⟩ | ⟨rfl, rfl⟩ | ⟨rfl, rfl⟩ | ⟨rfl, rfl⟩ | ⟨rfl, rfl⟩ | ⟨rfl, rfl⟩ <;> exact mg_of KX T.g (by kernel_rfl)
    · have hm := mem_of_lookup e
      simp only [buis, List.mem_cons, List.not_mem_nil, or_false, Prod.mk.injEq] at hm
      rcases hm with ⟨rfl, rfl⟩ | ⟨rfl, rfl⟩ | ⟨rfl, rfl⟩ | ⟨rfl, rfl⟩ | ⟨rfl, rfl⟩ | ⟨rfl, rfl⟩ | ⟨rfl, rfl⟩ <;> exact ⟨mg_none_of KX T.g (by kernel_rfl), (T.builtins _ (by decide)).trans (by kernel_rfl)⟩
  nolimit := T.nolimit
  booked := by
    obtain ⟨mc, hn, _⟩ := T.nodigits
    exact ⟨mc, hn, ns_none_of KX hn (by kernel_rfl)⟩
  quote := fn_of KX rfl rfl (by kernel_rfl)
  concat := fn_of KX rfl rfl (by kernel_rfl)
  countOf := fn_of KX rfl rfl (by kernel_rfl)
  word := fn_of KX rfl rfl (by kernel_rfl)
  ways := fn_of KX rfl rfl (by kernel_rfl)
  next := fn_of KX rfl rfl (by kernel_rfl)
  told := fn_of KX rfl rfl (by kernel_rfl)
  reduce := ⟨_, _, _, _, KX _ _ rfl, rfl, codeRec_of KX (by kernel_rfl)⟩
  dflt := KX _ _ (by kernel_rfl)
  missing := KX _ _ (by kernel_rfl)
  find := KX _ _ (by kernel_rfl)
  pattern := ⟨_, _, KX _ _ rfl⟩
  code := KX _ _ (by kernel_rfl)
end Mine

/-! ### Fin -/
open PySem PySem.W PyProof.Rows

theorem Mine.ints_paired {s : Shared} {vs : List Value} {ns : List Int} (h : IntsAre vs ns) : Paired (fun y d => Mine.RI s y d) vs ns := by
  induction h with
  | nil => exact .nil
  | cons n t _ ih => exact .cons ⟨t, rfl⟩ ih

theorem Mine.caller_ok (env : Env) : Mine.AOk 4 (callerA.deeper env) := ⟨rfl, by show callerA.depth + 1 + 4 < recursionLimit; decide +kernel, by show callerA.units + 3 + 8 * 4 + 20 < cLine; decide +kernel⟩

theorem PySem.Challenge.cw_op0007_01_holds : PySem.Challenge.rw_op0007_01.Holds := by
  refine Mine.hd ?_
  w_strict (k_go0
            (all_goals try k_fold)
            rename_i s₀ s₁ mg mb G Y fa o pm doc ho hg KX X V GL T B TE TW w10 w9 M w8 w7 hcd ns hs hlay0 hL1 hr1 hl2 w5 w4 l vs w1 hLi ra ww1 r0 hI hr hc1 hc2 K0 hD h₁ tk₁ F wc right N0 X0
            clear X0 hD K0 G Y X V GL B TE TW M hcd
            have gg := Mine.gr_of KX T
            have hcl : h₁.IsCell (s₁.heap.objs.size + 1) _ := ⟨wc, (N0 _ (List.mem_singleton.mpr rfl)).1, right⟩
            have hL0 : s₁.heap.get? s₁.heap.objs.size = none := Heap.get?_none_of_le (Nat.le_refl _)
            have hc0 : s₁.heap.get? (s₁.heap.objs.size + 1) = none := Heap.get?_none_of_le (Nat.le_succ _)
            refine Mine.Do.cont (Mine.law_body (s := s₁) (l := l) (vs := vs.toArray) (ns := ns) (cc := s₁.heap.objs.size + 1) Mine.plain_law gg F.keep ⟨rfl, rfl, rfl⟩ (Mine.caller_ok _) hL0 hc0 (Nat.ne_of_lt (Nat.lt_succ_self _)) rfl F.ns rfl hcl hLi (Mine.ints_paired hI) (by omega)) (fun fl s' q h => ?_)
            subst h
            have keep : ∀ b o, s₁.heap.get? b = some o → s'.heap.get? b = some o := fun b o e => q.keep b o (fun hm => by
              simp only [List.mem_cons, List.not_mem_nil, or_false] at hm
              rcases hm with rfl | rfl
              · have : s₁.heap.get? s₁.heap.objs.size = some o := e
                rw [hL0] at this; cases this
              · rw [hc0] at e; cases e) (F.keep b o e)
            obtain ⟨h', tk', rfl⟩ := q.same
            show GoodW _ _ _ _ s₁ (.ok (.ret (.bool true))) _
            refine ⟨.inl ⟨_, .bool true, [], rfl, raisesW_false ?hn9, .bool true, ?hp9, unshared_nil⟩, keep, rfl, hg⟩
            (case hn9 => wrow_none_raised)
            (case hp9 => refine' postW_of ?s9 ?v9 ?e9; (case s9 => rfl); (case v9 => wtm_val); (case e9 => w_fin)))
