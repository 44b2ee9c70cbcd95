import PyProof.Rows.All
import Wide.All
import OpenK.AllK
import Wide.FinOn
import PySem.Challenge.RW_dn0261_10
set_option Elab.async false
set_option maxRecDepth 100000
set_option linter.unusedVariables false
open PySem PySem.W PyProof.Rows PySem.Calls
namespace Mine
abbrev Sub (g h : Heap) : Prop := ∀ b o, g.get? b = some o → h.get? b = some o
theorem Sub.rfl' {g : Heap} : Sub g g := fun _ _ e => e
theorem Sub.tr {a b c : Heap} (x : Sub a b) (y : Sub b c) : Sub a c := fun _ _ e => y _ _ (x _ _ e)

def Same (s s' : Shared) : Prop := s' = { s with heap := s'.heap, toks := s'.toks }
theorem Same.refl (s : Shared) : Same s s := rfl
theorem Same.mk' (s : Shared) (h : Heap) (tk : Nat) : Same s { s with heap := h, toks := tk } := rfl
theorem Same.trans {a b c : Shared} (x : Same a b) (y : Same b c) : Same a c := by
  unfold Same at *
  rw [x] at y
  exact y

/-- tree t, from heap h, ends in Q (value, heap) or raises into E -/
structure Ev {α : Type} (M : Model) (A : Around) (t : Sem α) (h : Heap) (Q : α → Heap → Prop) (E : Value → Heap → Prop) : Prop where
  run : ∀ s : Shared, s.heap = h → wpAny M A t (fun a s' => Same s s' ∧ Q a s'.heap) (fun e s' => Same s s' ∧ E e s'.heap) s

structure EvC (M : Model) (A : Around) (c : Code) (h : Heap) (R : Result → Heap → Prop) : Prop where
  run : ∀ s : Shared, s.heap = h → codeAny M A c (fun r s' => Same s s' ∧ R r s'.heap) s

section
variable {α β : Type} {M : Model} {A : Around} {h : Heap} {E : Value → Heap → Prop}

theorem Ev.use {t : Sem α} {Q : α → Heap → Prop} {s₀ s : Shared} {Q' : α → Shared → Prop} (k : Ev M A t h Q E) (hs : s.heap = h) (m : Same s₀ s)
    (f : ∀ a s', Same s₀ s' → Q a s'.heap → Q' a s') : wpAny M A t Q' (fun e s' => Same s₀ s' ∧ E e s'.heap) s :=
  wpAny_mono (k.run s hs) (fun a s' x => f a s' (m.trans x.1) x.2) fun _ _ x => ⟨m.trans x.1, x.2⟩

theorem Ev.pure {a : α} {Q : α → Heap → Prop} (k : Q a h) : Ev M A (pure a) h Q E := .mk fun s hs => wpAny_pure ⟨.refl s, hs ▸ k⟩
theorem Ev.mono {t : Sem α} {Q Q' : α → Heap → Prop} {E' : Value → Heap → Prop} (k : Ev M A t h Q E) (f : ∀ a h', Q a h' → Q' a h') (g : ∀ e h', E e h' → E' e h') : Ev M A t h Q' E' :=
  .mk fun s hs => wpAny_mono (k.run s hs) (fun a s' x => ⟨x.1, f _ _ x.2⟩) fun _ _ x => ⟨x.1, g _ _ x.2⟩
theorem Ev.no {t : Sem α} {Q Q' : α → Heap → Prop} (k : Ev M A t h Q (fun _ _ => False)) (f : ∀ a h', Q a h' → Q' a h') : Ev M A t h Q' E := k.mono f fun _ _ x => x.elim
theorem Ev.bind {m : Sem α} {f : α → Sem β} {Q : β → Heap → Prop} (k : Ev M A m h (fun a h' => Ev M A (f a) h' Q E) E) : Ev M A (m >>= f) h Q E :=
  .mk fun s hs => wpAny_bind (k.use hs (.refl s) fun _ _ m₁ k₁ => k₁.use rfl m₁ fun _ _ m₂ q => ⟨m₂, q⟩)
/-- any library rule whose end keeps all but heap and tokens -/
theorem Ev.of {t : Sem α} {Q : α → Heap → Prop} (k : ∀ s : Shared, s.heap = h → wpAny M A t (fun a s' => Same s s' ∧ Q a s'.heap) (fun e s' => Same s s' ∧ E e s'.heap) s) : Ev M A t h Q E := ⟨k⟩
end

section
variable {M : Model} {A : Around} {h : Heap} {E : Value → Heap → Prop} {env : Env}

theorem execs_nil {Q : Flow → Heap → Prop} (k : Q .next h) : Ev M A (execs [] env) h Q E := .mk fun s hs => wpAny_execs_nil ⟨.refl s, hs ▸ k⟩
theorem execs_cons {st : Stmt} {rest : List Stmt} {Q : Flow → Heap → Prop}
    (k : Ev M A (exec st env) h (fun f h' => match f with | .next => Ev M A (execs rest env) h' Q E | f => Q f h') E) : Ev M A (execs (st :: rest) env) h Q E :=
  .mk fun s hs => wpAny_execs_cons (k.use hs (.refl s) fun f s' m k' => by cases f <;> first | exact Ev.use k' rfl m fun _ _ m₂ q => ⟨m₂, q⟩ | exact ⟨m, k'⟩)

theorem Const_int {i : Int} {n : Nat} {pos : Pos} {Q : Value → Heap → Prop} (k : ∀ tk, Q (.int i tk) h) : Ev M A (eval (.Constant (.int i) n pos) env) h Q E :=
  .mk fun s hs => wpAny_Constant_int ⟨rfl, hs ▸ k _⟩
theorem Const_str {x : Str} {n : Nat} {pos : Pos} {Q : Value → Heap → Prop} (k : ∀ tk, Q (.str x tk) h) : Ev M A (eval (.Constant (.str x) n pos) env) h Q E :=
  .mk fun s hs => wpAny_Constant_str ⟨rfl, hs ▸ k _⟩
theorem Const_none {n : Nat} {pos : Pos} {Q : Value → Heap → Prop} (k : Q .none h) : Ev M A (eval (.Constant .none n pos) env) h Q E :=
  .mk fun s hs => wpAny_Constant_none ⟨rfl, hs ▸ k⟩
theorem Const_bool {b : Bool} {n : Nat} {pos : Pos} {Q : Value → Heap → Prop} (k : Q (.bool b) h) : Ev M A (eval (.Constant (.bool b) n pos) env) h Q E :=
  .mk fun s hs => wpAny_Constant_bool ⟨rfl, hs ▸ k⟩

theorem Compare1 {l r : Expr} {op : CmpOp} {pos : Pos} {Q : Value → Heap → Prop}
    (k : Ev M A (eval l env) h (fun a h₁ => Ev M A (eval r env) h₁ (fun b h₂ => Ev M A (compareOp op a b) h₂ Q E) E) E)
    (hm : behindInMarks op r = false := by with_unfolding_all rfl) : Ev M A (eval (.Compare l [op] [r] pos) env) h Q E :=
  .mk fun s hs => wpAny_Compare1 (k.use hs (.refl s) fun _ _ m₁ k₁ => k₁.use rfl m₁ fun _ _ m₂ k₂ => k₂.use rfl m₂ fun _ _ m₃ q => ⟨m₃, q⟩) hm
theorem BinOp_ {l r : Expr} {op : Operator} {pos : Pos} {Q : Value → Heap → Prop}
    (k : Ev M A (eval l env) h (fun a h₁ => Ev M A (eval r env) h₁ (fun b h₂ => Ev M A (binaryOp op a b) h₂ Q E) E) E) : Ev M A (eval (.BinOp l op r pos) env) h Q E :=
  .mk fun s hs => wpAny_BinOp (k.use hs (.refl s) fun _ _ m₁ k₁ => k₁.use rfl m₁ fun _ _ m₂ k₂ => k₂.use rfl m₂ fun _ _ m₃ q => ⟨m₃, q⟩)
theorem UnaryOp_ {op : UnaryOp} {x : Expr} {pos : Pos} {Q : Value → Heap → Prop} (k : Ev M A (eval x env) h (fun v h₁ => Ev M A (unaryOp op v) h₁ Q E) E) : Ev M A (eval (.UnaryOp op x pos) env) h Q E :=
  .mk fun s hs => wpAny_UnaryOp (k.use hs (.refl s) fun _ _ m₁ k₁ => k₁.use rfl m₁ fun _ _ m₃ q => ⟨m₃, q⟩)
theorem IfExp_ {test body orelse : Expr} {pos : Pos} {Q : Value → Heap → Prop}
    (k : Ev M A (isTrue test env (eval test env)) h (fun b h₁ => if b then Ev M A (eval body env) h₁ Q E else Ev M A (eval orelse env) h₁ Q E) E) : Ev M A (eval (.IfExp test body orelse pos) env) h Q E :=
  .mk fun s hs => wpAny_IfExp (k.use hs (.refl s) fun b _ m₁ k₁ => by cases b <;> exact Ev.use k₁ rfl m₁ fun _ _ m₃ q => ⟨m₃, q⟩)
theorem If_ {test : Expr} {body orelse : List Stmt} {pos : Pos} {Q : Flow → Heap → Prop}
    (k : Ev M A (isTrue test env (eval test env)) h (fun b h₁ => if b then Ev M A (execs body env) h₁ Q E else Ev M A (execs orelse env) h₁ Q E) E) : Ev M A (exec (.If test body orelse pos) env) h Q E :=
  .mk fun s hs => wpAny_If (k.use hs (.refl s) fun b _ m₁ k₁ => by cases b <;> exact Ev.use k₁ rfl m₁ fun _ _ m₃ q => ⟨m₃, q⟩)
theorem isTrue_Compare1 {l r : Expr} {op : CmpOp} {pos : Pos} {whole : Sem Value} {Q : Bool → Heap → Prop}
    (k : Ev M A (eval l env) h (fun a h₁ => Ev M A (eval r env) h₁ (fun b h₂ => Ev M A (compareOp op a b) h₂ (fun c h₃ => Ev M A (truthy c) h₃ Q E) E) E) E)
    (hm : behindInMarks op r = false := by with_unfolding_all rfl) : Ev M A (isTrue (.Compare l [op] [r] pos) env whole) h Q E :=
  .mk fun s hs => wpAny_isTrue_Compare1 (k.use hs (.refl s) fun _ _ m₁ k₁ => k₁.use rfl m₁ fun _ _ m₂ k₂ => k₂.use rfl m₂ fun _ _ m₃ k₃ => k₃.use rfl m₃ fun _ _ m₄ q => ⟨m₄, q⟩) hm
theorem isTrue_Not {x : Expr} {pos : Pos} {whole : Sem Value} {Q : Bool → Heap → Prop} (k : Ev M A (isTrue x env (eval x env)) h (fun b h₁ => Q (!b) h₁) E) : Ev M A (isTrue (.UnaryOp .Not x pos) env whole) h Q E :=
  .mk fun s hs => wpAny_isTrue_Not (k.use hs (.refl s) fun _ _ m q => ⟨m, q⟩)
theorem isTrue_value {e : Expr} {whole : Sem Value} {Q : Bool → Heap → Prop} (k : Ev M A whole h (fun v h₁ => Ev M A (truthy v) h₁ Q E) E)
    (he : isTrue e env whole = (do let v ← whole; standAt e.pos; holding [v] (truthy v)) := by rfl) : Ev M A (isTrue e env whole) h Q E :=
  .mk fun s hs => wpAny_isTrue_value (k.use hs (.refl s) fun _ _ m₁ k₁ => k₁.use rfl m₁ fun _ _ m₂ q => ⟨m₂, q⟩) he
theorem isTrue_BoolOp {op : BoolOp} {values : List Expr} {pos : Pos} {whole : Sem Value} {Q : Bool → Heap → Prop} (k : Ev M A (allTrue op values env) h Q E) : Ev M A (isTrue (.BoolOp op values pos) env whole) h Q E :=
  .mk fun s hs => wpAny_isTrue_BoolOp (k.run s hs)
theorem allTrue_And_nil {Q : Bool → Heap → Prop} (k : Q true h) : Ev M A (allTrue .And [] env) h Q E := .mk fun s hs => wpAny_allTrue_And_nil ⟨.refl s, hs ▸ k⟩
theorem allTrue_Or_nil {Q : Bool → Heap → Prop} (k : Q false h) : Ev M A (allTrue .Or [] env) h Q E := .mk fun s hs => wpAny_allTrue_Or_nil ⟨.refl s, hs ▸ k⟩
theorem allTrue_And_cons {x : Expr} {rest : List Expr} {Q : Bool → Heap → Prop} (k : Ev M A (isTrue x env (eval x env)) h (fun b h₁ => if b then Ev M A (allTrue .And rest env) h₁ Q E else Q false h₁) E) :
    Ev M A (allTrue .And (x :: rest) env) h Q E :=
  .mk fun s hs => wpAny_allTrue_And_cons (k.use hs (.refl s) fun b _ m₁ k₁ => by cases b <;> first | exact ⟨m₁, k₁⟩ | exact Ev.use k₁ rfl m₁ fun _ _ m₃ q => ⟨m₃, q⟩)
theorem allTrue_Or_cons {x : Expr} {rest : List Expr} {Q : Bool → Heap → Prop} (k : Ev M A (isTrue x env (eval x env)) h (fun b h₁ => if b then Q true h₁ else Ev M A (allTrue .Or rest env) h₁ Q E) E) :
    Ev M A (allTrue .Or (x :: rest) env) h Q E :=
  .mk fun s hs => wpAny_allTrue_Or_cons (k.use hs (.refl s) fun b _ m₁ k₁ => by cases b <;> first | exact ⟨m₁, k₁⟩ | exact Ev.use k₁ rfl m₁ fun _ _ m₃ q => ⟨m₃, q⟩)
theorem truthy_bool {b : Bool} {Q : Bool → Heap → Prop} (k : Q b h) : Ev M A (truthy (.bool b)) h Q E := .mk fun s hs => wpAny_truthy_bool ⟨.refl s, hs ▸ k⟩
theorem Return_ {e : Expr} {pos : Pos} {Q : Flow → Heap → Prop} (k : Ev M A (eval e env) h (fun v => Q (.ret v)) E) : Ev M A (exec (.Return (some e) pos) env) h Q E :=
  .mk fun s hs => wpAny_Return_some (k.use hs (.refl s) fun _ _ m q => ⟨m, q⟩)
theorem Assign_Name {x : Str} {pos' pos : Pos} {value : Expr} {Q : Flow → Heap → Prop}
    (k : Ev M A (eval value env) h (fun v h₁ => Ev M A (storeName env x v) h₁ (fun _ => Q .next) E) E)
    (hsw : swapsWith value (some (.Name x pos')) pos.line env = pure false := by rfl) : Ev M A (exec (.Assign [.Name x pos'] value pos) env) h Q E :=
  .mk fun s hs => wpAny_Assign_Name (k.use hs (.refl s) fun _ _ m₁ k₁ => k₁.use rfl m₁ fun _ _ m₂ q => ⟨m₂, q⟩) hsw
theorem AugAssign_Name {x : Str} {pos' pos : Pos} {op : Operator} {value : Expr} {Q : Flow → Heap → Prop}
    (k : Ev M A (loadName env x) h (fun old h₁ => Ev M A (eval value env) h₁ (fun v h₂ => Ev M A (inplaceOp op old v) h₂ (fun r h₃ => Ev M A (storeName env x r) h₃ (fun _ => Q .next) E) E) E) E) :
    Ev M A (exec (.AugAssign (.Name x pos') op value pos) env) h Q E :=
  .mk fun s hs => wpAny_AugAssign_Name (k.use hs (.refl s) fun _ _ m₁ k₁ => k₁.use rfl m₁ fun _ _ m₂ k₂ => k₂.use rfl m₂ fun _ _ m₃ k₃ => k₃.use rfl m₃ fun _ _ m₄ q => ⟨m₄, q⟩)
theorem items_nil {pos : Pos} {Q : List Value → Heap → Prop} (k : Q [] h) : Ev M A (spliced (backTo pos (starEach [] env))) h Q E := .mk fun s hs => wpAny_items_nil ⟨.refl s, hs ▸ k⟩
theorem items_cons {pos : Pos} {e : Expr} {rest : List Expr} {Q : List Value → Heap → Prop}
    (k : Ev M A (eval e env) h (fun v h₁ => Ev M A (spliced (backTo pos (starEach rest env))) h₁ (fun vs h₂ => Q (v :: vs) h₂) E) E)
    (he : starEach (e :: rest) env = (false, eval e env) :: starEach rest env := by rfl) : Ev M A (spliced (backTo pos (starEach (e :: rest) env))) h Q E :=
  .mk fun s hs => wpAny_items_cons (k.use hs (.refl s) fun _ _ m₁ k₁ => k₁.use rfl m₁ fun _ _ m₂ q => ⟨m₂, q⟩) he
theorem is_none' {v : Value} {Q : Value → Heap → Prop} (k : Q (.bool (v == .none)) h) : Ev M A (compareOp .Is v .none) h Q E := .mk fun s hs => is_none ⟨.refl s, hs ▸ k⟩
theorem isNot_none' {v : Value} {Q : Value → Heap → Prop} (k : Q (.bool (!(v == .none))) h) : Ev M A (compareOp .IsNot v .none) h Q E := .mk fun s hs => isNot_none ⟨.refl s, hs ▸ k⟩
end

/-- frozen heap g kept; frame L with names m; ledger led of the call's own mutable objects -/
structure Loc (g : Heap) (L : Addr) (cs : List (Str × Addr)) (m : Str → Option Value) (ld : List (Addr × Obj)) (h : Heap) : Prop where
  sub : Sub g h
  ns : ∃ m₀, h.Ns L m₀ ∧ ∀ x, cs.lookup x = none → m₀ x = m x
  gL : g.get? L = none
  led : ∀ p ∈ ld, h.get? p.1 = some p.2 ∧ p.1 ≠ L ∧ g.get? p.1 = none
  nd : (ld.map (·.1)).Nodup
  cell : ∀ x c, cs.lookup x = some c → h.IsCell c (m x)
  capart : ∀ x y c, cs.lookup x = some c → cs.lookup y = some c → x = y
  cnew : ∀ x c, cs.lookup x = some c → c ≠ L ∧ g.get? c = none ∧ ∀ p ∈ ld, p.1 ≠ c

inductive Put (a : Addr) (o o' : Obj) : List (Addr × Obj) → List (Addr × Obj) → Prop
  | head {l : List (Addr × Obj)} : Put a o o' ((a, o) :: l) ((a, o') :: l)
  | tail {p : Addr × Obj} {l l' : List (Addr × Obj)} : Put a o o' l l' → Put a o o' (p :: l) (p :: l')

theorem Put.mem {a : Addr} {o o' : Obj} {l l' : List (Addr × Obj)} (h : Put a o o' l l') : (a, o) ∈ l := by
  induction h with
  | head => exact .head _
  | tail _ ih => exact .tail _ ih
theorem Put.addrs {a : Addr} {o o' : Obj} {l l' : List (Addr × Obj)} (h : Put a o o' l l') : l'.map (·.1) = l.map (·.1) := by
  induction h with
  | head => rfl
  | tail _ ih => simp [ih]
theorem Put.cases' {a : Addr} {o o' : Obj} {l l' : List (Addr × Obj)} (h : Put a o o' l l') (nd : (l.map (·.1)).Nodup) : ∀ p ∈ l', p = (a, o') ∨ (p ∈ l ∧ p.1 ≠ a) := by
  induction h with
  | @head l =>
    intro p hp
    rcases List.mem_cons.mp hp with e | e
    · exact .inl e
    · refine .inr ⟨.tail _ e, fun q => ?_⟩
      simp only [List.map_cons, List.nodup_cons] at nd
      exact nd.1 (List.mem_map.mpr ⟨p, e, q⟩)
  | @tail q l l' hl ih =>
    intro p hp
    simp only [List.map_cons, List.nodup_cons] at nd
    rcases List.mem_cons.mp hp with e | e
    · subst e
      refine .inr ⟨.head _, fun q => nd.1 (List.mem_map.mpr ⟨(a, o), hl.mem, q.symm⟩)⟩
    · rcases ih nd.2 p e with h1 | h1
      · exact .inl h1
      · exact .inr ⟨.tail _ h1.1, h1.2⟩

section
variable {g h h' : Heap} {L a : Addr} {cs : List (Str × Addr)} {m m' : Str → Option Value} {led led' : List (Addr × Obj)} {o o' : Obj}

theorem isCell_keep {h h' : Heap} {c : Addr} {v : Option Value} (x : h.IsCell c v) (e : ∀ o, h.get? c = some o → h'.get? c = some o) : h'.IsCell c v := let ⟨o, ho, r⟩ := x; ⟨o, e o ho, r⟩
theorem Loc.lt (F : Loc g L cs m led h) : ∃ o, h.get? L = some o := let ⟨_, ⟨o, _, _, ho, _⟩, _⟩ := F.ns; ⟨o, ho⟩
/-- one address of the call's own changes; all else stands -/
theorem Loc.ext (F : Loc g L cs m led h) (ha : g.get? a = none) (haL : a ≠ L) (hled : ∀ p ∈ led, p.1 ≠ a) (hc : ∀ x c, cs.lookup x = some c → c ≠ a) (e : Heap.ExtBut a h h') : Loc g L cs m led h' := by
  refine ⟨fun b x q => e b x (fun z => by rw [z, ha] at q; cases q) (F.sub b x q), ?_, F.gL, fun p hp => ⟨e _ _ (hled p hp) (F.led p hp).1, (F.led p hp).2⟩, F.nd, fun x c q => isCell_keep (F.cell x c q) fun o z => e _ _ (hc x c q) z, F.capart, F.cnew⟩
  obtain ⟨m₀, n, r⟩ := F.ns
  exact ⟨m₀, n.extBut e (Ne.symm haL), r⟩
theorem Loc.keep (F : Loc g L cs m led h) (e : Sub h h') : Loc g L cs m led h' := by
  refine ⟨F.sub.tr e, ?_, F.gL, fun p hp => ⟨e _ _ (F.led p hp).1, (F.led p hp).2⟩, F.nd, fun x c q => isCell_keep (F.cell x c q) fun o z => e _ _ z, F.capart, F.cnew⟩
  obtain ⟨m₀, n, r⟩ := F.ns
  exact ⟨m₀, n.keeps e, r⟩
theorem Loc.get (F : Loc g L cs m led h) (hm : (a, o) ∈ led) : h.get? a = some o := (F.led _ hm).1
theorem Loc.set {x : Str} {v : Value} (F : Loc g L cs m led h) (hx : cs.lookup x = none) {m₀ : Str → Option Value} (hr : ∀ y, cs.lookup y = none → m₀ y = m y) (hn : h'.Ns L (fun y => if y = x then some v else m₀ y)) (hs : Heap.SameBut L h h') : Loc g L cs (fun y => if y = x then some v else m y) led h' := by
  refine ⟨fun b o e => (hs.2 b (fun q => by rw [q, F.gL] at e; cases e)).trans (F.sub b o e), ⟨_, hn, fun y hy => ?_⟩, F.gL, fun p hp => ⟨(hs.2 _ (F.led p hp).2.1).trans (F.led p hp).1, (F.led p hp).2⟩, F.nd, fun y c q => ?_, F.capart, F.cnew⟩
  · simp only [hr y hy]
  · have : y ≠ x := fun z => by rw [z, hx] at q; cases q
    simp only [this, if_false]
    exact isCell_keep (F.cell y c q) fun o z => (hs.2 _ (F.cnew y c q).1).trans z
theorem Loc.setC {x : Str} {v : Value} {c : Addr} (F : Loc g L cs m led h) (hx : cs.lookup x = some c) (hn : h'.IsCell c (some v)) (hs : Heap.SameBut c h h') : Loc g L cs (fun y => if y = x then some v else m y) led h' := by
  have D := F.cnew x c hx
  obtain ⟨m₀, n, r⟩ := F.ns
  refine ⟨fun b o e => (hs.2 b (fun q => by rw [q, D.2.1] at e; cases e)).trans (F.sub b o e), ⟨m₀, n.sameBut hs (Ne.symm D.1), fun y hy => ?_⟩, F.gL, fun p hp => ⟨(hs.2 _ (D.2.2 p hp)).trans (F.led p hp).1, (F.led p hp).2⟩, F.nd, fun y d q => ?_, F.capart, F.cnew⟩
  · have : y ≠ x := fun z => by rw [z, hx] at hy; cases hy
    simp only [this, if_false, r y hy]
  · by_cases hy : y = x
    · subst hy
      rw [hx] at q; cases q
      simpa using hn
    · simp only [hy, if_false]
      exact isCell_keep (F.cell y d q) fun o z => (hs.2 _ (fun e => hy (F.capart y x c (e ▸ q) hx))).trans z
theorem Loc.putE (F : Loc g L cs m led h) (P : Put a o o' led led') (hs : Heap.ExtBut a h h') (ho : h'.get? a = some o') : Loc g L cs m led' h' := by
  have D := F.led _ P.mem
  obtain ⟨m₀, n, r⟩ := F.ns
  refine ⟨fun b x e => hs b x (fun q => by rw [q, D.2.2] at e; cases e) (F.sub b x e), ⟨m₀, n.extBut hs (Ne.symm D.2.1), r⟩, F.gL, fun p hp => ?_, P.addrs ▸ F.nd,
    fun x c q => isCell_keep (F.cell x c q) fun o z => hs _ _ (Ne.symm ((F.cnew x c q).2.2 _ P.mem)) z, F.capart, fun x c q => ⟨(F.cnew x c q).1, (F.cnew x c q).2.1, fun p hp => ?_⟩⟩
  · rcases P.cases' F.nd p hp with rfl | ⟨h1, h2⟩
    · exact ⟨ho, D.2⟩
    · exact ⟨hs _ _ h2 (F.led p h1).1, (F.led p h1).2⟩
  · rcases P.cases' F.nd p hp with rfl | ⟨h1, h2⟩
    · have := (F.cnew x c q).2.2 (a, o) P.mem; exact this
    · exact (F.cnew x c q).2.2 p h1
theorem Loc.put (F : Loc g L cs m led h) (P : Put a o o' led led') (hs : Heap.SameBut a h h') (ho : h'.get? a = some o') : Loc g L cs m led' h' := F.putE P hs.extBut ho
theorem Loc.new (F : Loc g L cs m led h) (o : Obj) (hf : o.isFreed = false := by rfl) : Loc g L cs m ((h.objs.size, o) :: led) (h.push o) := by
  have lt : ∀ {b x}, h.get? b = some x → b ≠ h.objs.size := fun e => Nat.ne_of_lt (Heap.lt_size e)
  obtain ⟨oL, hL⟩ := F.lt
  have K := F.keep (h' := h.push o) fun b x e => Heap.get?_push_of_some _ e
  refine ⟨K.sub, K.ns, K.gL, fun p hp => ?_, ?_, K.cell, K.capart, fun x c q => ⟨(K.cnew x c q).1, (K.cnew x c q).2.1, fun p hp => ?_⟩⟩
  · rcases List.mem_cons.mp hp with rfl | hp
    · refine ⟨Heap.get?_push_size _ hf, (lt hL).symm, ?_⟩
      cases q : g.get? h.objs.size with
      | none => rfl
      | some x => exact absurd rfl (lt (F.sub _ _ q))
    · exact K.led p hp
  · simp only [List.map_cons, List.nodup_cons]
    refine ⟨fun q => ?_, F.nd⟩
    obtain ⟨p, hp, e⟩ := List.mem_map.mp q
    exact lt (F.led p hp).1 e
  · rcases List.mem_cons.mp hp with rfl | hp
    · obtain ⟨oc, hoc, _⟩ := F.cell x c q
      exact (lt hoc).symm
    · exact (F.cnew x c q).2.2 p hp
theorem Loc.drop {p : Addr × Obj} (F : Loc g L cs m (p :: led) h) : Loc g L cs m led h :=
  ⟨F.sub, F.ns, F.gL, fun q hq => F.led q (.tail _ hq), by have := F.nd; simp only [List.map_cons, List.nodup_cons] at this; exact this.2, F.cell, F.capart, fun x c q => ⟨(F.cnew x c q).1, (F.cnew x c q).2.1, fun p hp => (F.cnew x c q).2.2 p (.tail _ hp)⟩⟩
theorem Loc.only (F : Loc g L cs m led h) (hs : ∀ p ∈ led', p ∈ led) (nd : (led'.map (·.1)).Nodup) : Loc g L cs m led' h :=
  ⟨F.sub, F.ns, F.gL, fun q hq => F.led q (hs q hq), nd, F.cell, F.capart, fun x c q => ⟨(F.cnew x c q).1, (F.cnew x c q).2.1, fun p hp => (F.cnew x c q).2.2 p (hs p hp)⟩⟩
theorem Loc.extDrop (F : Loc g L cs m ((a, o) :: led) h) (hs : Heap.ExtBut a h h') : Loc g L cs m led h' := by
  have D := F.led _ (.head _)
  have nd := F.nd
  simp only [List.map_cons, List.nodup_cons] at nd
  exact F.drop.ext D.2.2 D.2.1 (fun p hp q => nd.1 (List.mem_map.mpr ⟨p, hp, q⟩)) (fun x c q => Ne.symm ((F.cnew x c q).2.2 _ (.head _))) hs
theorem none_sub {g g' : Heap} (e : Sub g' g) {b : Addr} (q : g.get? b = none) : g'.get? b = none := by
  cases z : g'.get? b with
  | none => rfl
  | some x => have := e _ _ z; rw [q] at this; cases this
theorem Loc.base (F : Loc g L cs m led h) {g' : Heap} (e : Sub g' g) : Loc g' L cs m led h :=
  ⟨e.tr F.sub, F.ns, none_sub e F.gL, fun p hp => ⟨(F.led p hp).1, (F.led p hp).2.1, none_sub e (F.led p hp).2.2⟩, F.nd, F.cell, F.capart, fun x c q => ⟨(F.cnew x c q).1, none_sub e (F.cnew x c q).2.1, (F.cnew x c q).2.2⟩⟩
theorem mem_of_look {x : Str} {c : Addr} : ∀ {cs : List (Str × Addr)}, cs.lookup x = some c → c ∈ cs.map (·.2)
  | (y, d) :: r, q => by
    rw [List.lookup_cons] at q
    cases hb : x == y with
    | true => rw [hb] at q; cases q; exact .head _
    | false => rw [hb] at q; exact .tail _ (mem_of_look q)
/-- what is in the heap, but neither frame nor ledger nor cell, may be frozen -/
theorem Loc.freeze (F : Loc g L cs m led h) : ∃ g', Loc g' L cs m led h ∧ Sub g g' ∧ ∀ b o, h.get? b = some o → b ≠ L → (∀ p ∈ led, p.1 ≠ b) → (∀ x, cs.lookup x ≠ some b) → g'.get? b = some o := by
  obtain ⟨keepB, hk⟩ : ∃ hid : List Addr, ∀ b, b ∈ hid ↔ (b = L ∨ (∃ p ∈ led, p.1 = b) ∨ ∃ x, cs.lookup x = some b) := by
    classical
    refine ⟨L :: (led.map (·.1) ++ (cs.map (·.2)).filter fun b => decide (∃ x, cs.lookup x = some b)), fun b => ?_⟩
    simp only [List.mem_cons, List.mem_append, List.mem_map, List.mem_filter, decide_eq_true_eq]
    constructor
    · rintro (q | ⟨p, hp, e⟩ | ⟨_, q⟩)
      · exact .inl q
      · exact .inr (.inl ⟨p, hp, e⟩)
      · exact .inr (.inr q)
    · rintro (q | ⟨p, hp, e⟩ | ⟨x, q⟩)
      · exact .inl q
      · exact .inr (.inl ⟨p, hp, e⟩)
      · refine .inr (.inr ⟨?_, x, q⟩)
        obtain ⟨p, hp, e⟩ := List.mem_map.mp (mem_of_look q)
        exact ⟨p, hp, e⟩
  refine ⟨hideAll h keepB, ⟨fun b o e => of_hideAll _ e, F.ns, hideAll_none _ ((hk L).mpr (.inl rfl)), fun p hp => ⟨(F.led p hp).1, (F.led p hp).2.1, hideAll_none _ ((hk _).mpr (.inr (.inl ⟨p, hp, rfl⟩)))⟩, F.nd, F.cell, F.capart,
    fun x c q => ⟨(F.cnew x c q).1, hideAll_none _ ((hk _).mpr (.inr (.inr ⟨x, q⟩))), (F.cnew x c q).2.2⟩⟩, fun b o e => ?_, fun b o e h1 h2 h3 => ?_⟩
  · refine hideAll_get _ (F.sub b o e) fun q => ?_
    rcases (hk b).mp q with rfl | ⟨p, hp, rfl⟩ | ⟨x, hx⟩
    · rw [F.gL] at e; cases e
    · rw [(F.led p hp).2.2] at e; cases e
    · rw [(F.cnew x b hx).2.1] at e; cases e
  · refine hideAll_get _ e fun q => ?_
    rcases (hk b).mp q with rfl | ⟨p, hp, rfl⟩ | ⟨x, hx⟩
    · exact h1 rfl
    · exact h2 p hp rfl
    · exact h3 x hx
end

section
variable {M : Model} {A : Around} {g h : Heap} {E : Value → Heap → Prop} {env : Env} {L : Addr} {cs : List (Str × Addr)} {m : Str → Option Value} {led : List (Addr × Obj)} {x : Str} {v : Value} {pos : Pos} {Q : Value → Heap → Prop}

theorem load_L (F : Loc g L cs m led h) (hv : m x = some v) (k : Q v h) (hL : env.locals = L := by rfl) (hk : env.scope.kind = .function := by rfl) (hl : env.kindOf x = some .local := by rfl) (hc : cs.lookup x = none := by rfl) :
    Ev M A (loadName env x) h Q E := .mk fun s hs => by
  subst hs hL
  obtain ⟨m₀, n, r⟩ := F.ns
  exact wpAny_loadName_local hk hl n ((r x hc).trans hv) ⟨.refl s, k⟩
theorem Name_L (F : Loc g L cs m led h) (hv : m x = some v) (k : Q v h) (hL : env.locals = L := by rfl) (hk : env.scope.kind = .function := by rfl) (hl : env.kindOf x = some .local := by rfl) (hc : cs.lookup x = none := by rfl)
    (hd : (x == ("__debug__" : Str)) = false := by decide) : Ev M A (eval (.Name x pos) env) h Q E := .mk fun s hs => wpAny_Name ((load_L F hv k hL hk hl hc).run s hs) hd
theorem store_L {Q : Unit → Heap → Prop} (F : Loc g L cs m led h) (k : ∀ h', Loc g L cs (fun y => if y = x then some v else m y) led h' → Q () h') (hL : env.locals = L := by rfl)
    (hk : env.scope.kind = .function := by rfl) (hl : env.kindOf x = some .local := by rfl) (hc : cs.lookup x = none := by rfl) : Ev M A (storeName env x v) h Q E := .mk fun s hs => by
  subst hL hs
  obtain ⟨m₀, n, r⟩ := F.ns
  exact wpAny_storeName_local hl n (fun h' hn hb => ⟨rfl, k h' (F.set hc r hn hb)⟩) (by rw [hk]; rfl)

theorem load_C {c : Addr} (F : Loc g L cs m led h) (hv : m x = some v) (k : Q v h) (hk : env.scope.kind = .function := by rfl) (hl : env.kindOf x = some .cell := by rfl) (hc : env.cells.lookup x = some c := by rfl) (hcs : cs.lookup x = some c := by rfl) :
    Ev M A (loadName env x) h Q E := .mk fun s hs => by
  subst hs
  exact wpAny_loadName_cell hk hl hc (hv ▸ F.cell x c hcs) ⟨.refl s, k⟩
theorem Name_C {c : Addr} (F : Loc g L cs m led h) (hv : m x = some v) (k : Q v h) (hk : env.scope.kind = .function := by rfl) (hl : env.kindOf x = some .cell := by rfl) (hc : env.cells.lookup x = some c := by rfl) (hcs : cs.lookup x = some c := by rfl)
    (hd : (x == ("__debug__" : Str)) = false := by decide) : Ev M A (eval (.Name x pos) env) h Q E := .mk fun s hs => wpAny_Name ((load_C F hv k hk hl hc hcs).run s hs) hd
theorem store_C {c : Addr} {Q : Unit → Heap → Prop} (F : Loc g L cs m led h) (k : ∀ h', Loc g L cs (fun y => if y = x then some v else m y) led h' → Q () h')
    (hk : env.scope.kind = .function := by rfl) (hl : env.kindOf x = some .cell := by rfl) (hc : env.cells.lookup x = some c := by rfl) (hcs : cs.lookup x = some c := by rfl) : Ev M A (storeName env x v) h Q E := .mk fun s hs => by
  subst hs
  exact wpAny_storeName_cell hk hl hc (F.cell x c hcs) fun h' hn hb => ⟨rfl, k h' (F.setC hcs hn hb)⟩
end

/-- what the text's top left: the written part, globals, builtins -/
structure Amb (K : Frag) (mg mb : Str → Option Value) (h : Heap) : Prop where
  k : K.In h
  g : h.Ns mainGlobals mg
  b : h.Ns builtinsNs mb
  bb : ∀ x : Str, x ≠ "__name__" → mb x = bootBuiltins x
  lim : h.NoLimit
theorem Amb.keep {K : Frag} {mg mb : Str → Option Value} {h h' : Heap} (X : Amb K mg mb h) (e : Sub h h') : Amb K mg mb h' :=
  ⟨X.k.keeps e, X.g.keeps e, X.b.keeps e, X.bb, X.lim.keeps e⟩

section
variable {M : Model} {A : Around} {g h : Heap} {E : Value → Heap → Prop} {env : Env} {K : Frag} {mg mb : Str → Option Value} {x : Str} {v : Value} {pos : Pos} {Q : Value → Heap → Prop}
theorem Name_G (X : Amb K mg mb h) (e : nsIn K mainGlobals x = some (some v)) (k : Q v h) (hg : env.globals = mainGlobals := by rfl) (hk : env.scope.kind = .function := by rfl) (hx : env.kindOf x = some .globalImplicit := by rfl)
    (hd : (x == ("__debug__" : Str)) = false := by decide) : Ev M A (eval (.Name x pos) env) h Q E := .mk fun s hs => by
  subst hs
  exact Name_function_global hk hx (loadGlobal_global (hg ▸ X.g) (mg_of X.k X.g e) ⟨.refl s, k⟩) hd
theorem Name_B (X : Amb K mg mb h) (e : nsIn K mainGlobals x = some none) (hv : bootBuiltins x = some v) (hn : x ≠ "__name__") (k : Q v h) (hg : env.globals = mainGlobals := by rfl) (hb : env.builtins = builtinsNs := by rfl)
    (hk : env.scope.kind = .function := by rfl) (hx : env.kindOf x = some .globalImplicit := by rfl) (hd : (x == ("__debug__" : Str)) = false := by decide) : Ev M A (eval (.Name x pos) env) h Q E := .mk fun s hs => by
  subst hs
  exact Name_function_global hk hx (loadGlobal_builtin (hg ▸ X.g) (mg_none_of X.k X.g e) (hb ▸ X.b) ((X.bb x hn).trans hv) ⟨.refl s, k⟩) hd
end

/-- room for n more frames -/
structure Rm (A : Around) (n : Nat) : Prop where
  hd : A.handled = none
  dp : A.depth + 2 * n < recursionLimit
  un : A.units + 8 * n + 100 < cLine
  gd : A.guards = some []

theorem Rm.deeper {A : Around} {n : Nat} {env : Env} (R : Rm A (n + 1)) : Rm (A.deeper env) n :=
  ⟨R.hd, by have := R.dp; show A.depth + 1 + 2 * n < _; omega, by have := R.un; show A.units + 3 + 8 * n + 100 < _; omega, R.gd⟩
theorem Rm.le {A : Around} {n k : Nat} (R : Rm A n) (hk : k ≤ n) : Rm A k := ⟨R.hd, by have := R.dp; omega, by have := R.un; omega, R.gd⟩

theorem get_size (h : Heap) : h.get? h.objs.size = none := by
  cases q : h.get? h.objs.size with
  | none => rfl
  | some x => exact absurd (Heap.lt_size q) (Nat.lt_irrefl _)

section
variable {prog : Program} {w : World} {A : Around} {h : Heap} {E : Value → Heap → Prop} {K : Frag} {mg mb : Str → Option Value} {Q : Value → Heap → Prop}
theorem cells_kind : ∀ (names : List (Str × NameKind)) (n : Nat) (acc : List (Str × Addr)), (names.map (·.1)).Nodup → ∀ (y : Str) (c : Addr), (∀ z d, (z, d) ∈ acc → z ≠ y) → (cellsFrom n names acc).lookup y = some c → names.lookup y = some .cell
  | [], _, acc, _, y, c, ha, q => absurd rfl (ha y c (mem_of_lookup q))
  | (x, k) :: r, n, acc, nd, y, c, ha, q => by
    simp only [List.map_cons, List.nodup_cons] at nd
    unfold cellsFrom at q
    by_cases hk : (k == NameKind.cell) = true
    · rw [if_pos hk] at q
      by_cases hy : y = x
      · subst hy
        rw [List.lookup_cons, beq_self_eq_true, beq_iff_eq.mp hk]
      · have : (y == x) = false := by simpa using hy
        rw [List.lookup_cons, this]
        refine cells_kind r (n + 1) ((x, n) :: acc) nd.2 y c (fun z d hm => ?_) q
        rcases List.mem_cons.mp hm with e | hm
        · cases e; exact fun e => hy e.symm
        · exact ha z d hm
    · rw [if_neg hk] at q
      have := cells_kind r n acc nd.2 y c ha q
      by_cases hy : y = x
      · subst hy
        exact absurd (List.mem_map.mpr ⟨_, mem_of_lookup this, rfl⟩) nd.1
      · have hb : (y == x) = false := by simpa using hy
        rw [List.lookup_cons, hb]; exact this
/-- a def of the text that has no cells is called, and raises nothing -/
theorem call_fn {f : Addr} {oc : Value} {od : Option Addr} {osl : Array (Option Value)} {fd : FuncData} {body : List Stmt} {pos : List Value} {kw : List (Str × Value)} {binds : List (Str × Value)}
    (X : Amb K mg mb h) (ho : K.lookup f = some ⟨oc, od, .func fd, osl⟩) (hcd : codeIn K fd.code fd.qualname = true) (hbody : fd.body = .stmts body) {n : Nat} (R : Rm A (n + 1))
    (hbind : ∀ s : Shared, s.heap = h → BindsTo s fd ⟨pos, kw⟩ binds) (hcell : (fd.scope.names.all fun x => x.2 != .cell) = true) (hloc : ((binds.map (·.1)).all fun y => fd.scope.names.lookup y == some .local) = true)
    (k : ∀ A' L h', Rm A' n → Loc h L [] (fun x => binds.reverse.lookup x) [] h' →
      Ev (model prog w) A' (execs body (callEnv fd L f)) h' (fun fl h'' => Q (match fl with | .ret v => v | _ => .none) h'') (fun _ _ => False))
    (hco : fd.scope.isCoroutine = false := by rfl) (hgen : fd.scope.isGenerator = false := by rfl) (hk : fd.scope.kind = .function := by rfl) :
    Ev (model prog w) A (call (.ref f) pos kw) h Q E := .mk fun s hs => by
  subst hs
  refine wpAny_call (codeAny_call_def (by have := R.dp; omega) (X.k _ _ ho) rfl X.lim (codeRec_of X.k hcd) hbody (hbind s rfl) (fun x hx => by have := List.all_eq_true.mp hcell x hx; simpa using this) (fun x hx => by have := List.all_eq_true.mp hloc x.1 (List.mem_map.mpr ⟨x, hx, rfl⟩); simpa using this) (fun h₀ hns hk₀ => ?_) hco hgen hk)
  have F : Loc s.heap s.heap.objs.size [] (fun x => binds.reverse.lookup x) [] h₀ := ⟨hk₀, ⟨_, hns, fun _ _ => rfl⟩, get_size _, fun _ hp => (by cases hp), List.nodup_nil, fun _ _ q => (by cases q), fun _ _ _ q => (by cases q), fun _ _ q => (by cases q)⟩
  exact wpAny_mono ((k _ _ _ R.deeper F).run _ rfl) (fun fl s' q => ⟨Same.trans (Same.mk' s _ _) q.1, q.2⟩) fun _ _ q => q.2.elim

/-- a def of the text whose names are in part kept in cells -/
theorem call_fnC {f : Addr} {oc : Value} {od : Option Addr} {osl : Array (Option Value)} {fd : FuncData} {body : List Stmt} {pos : List Value} {kw : List (Str × Value)} {binds : List (Str × Value)}
    (X : Amb K mg mb h) (ho : K.lookup f = some ⟨oc, od, .func fd, osl⟩) (hcd : codeIn K fd.code fd.qualname = true) (hbody : fd.body = .stmts body) {n : Nat} (R : Rm A (n + 1))
    (hbind : ∀ s : Shared, s.heap = h → BindsTo s fd ⟨pos, kw⟩ binds)
    (hkind : ((binds.map (·.1)).all fun y => fd.scope.names.lookup y == some .local || (fd.scope.names.lookup y == some .cell && ((cellsFrom 0 fd.scope.names []).map (·.1)).contains y)) = true)
    (hnn : (fd.scope.names.map (·.1)).Nodup) (hbn : (binds.map (·.1)).Nodup) {cs : Addr → List (Str × Addr)} (hcs : ∀ L, cellsFrom (L + 1) fd.scope.names [] = cs L)
    (k : ∀ A' L h', Rm A' n → Loc h L (cs L) (fun x => binds.reverse.lookup x) [] h' →
      Ev (model prog w) A' (execs body (callEnvC fd L f)) h' (fun fl h'' => Q (match fl with | .ret v => v | _ => .none) h'') (fun _ _ => False))
    (hclo : fd.closure = [] := by rfl) (hco : fd.scope.isCoroutine = false := by rfl) (hgen : fd.scope.isGenerator = false := by rfl) (hk : fd.scope.kind = .function := by rfl) :
    Ev (model prog w) A (call (.ref f) pos kw) h Q E := .mk fun s hs => by
  subst hs
  have hsub : ∀ (n : Nat) (y : Str), (cellsFrom n fd.scope.names []).lookup y = none ∨ fd.scope.names.lookup y = some .cell := fun n y => by
    cases q : (cellsFrom n fd.scope.names []).lookup y with
    | none => exact .inl rfl
    | some c => exact .inr (cells_kind fd.scope.names n [] hnn y c (fun _ _ hm => (by cases hm)) q)
  have hkd : ∀ x ∈ binds, fd.scope.names.lookup x.1 = some .local ∨ (fd.scope.names.lookup x.1 = some .cell ∧ ((cellsFrom (s.heap.objs.size + 1) fd.scope.names []).lookup x.1).isSome = true) := fun x hx => by
    have := List.all_eq_true.mp hkind x.1 (List.mem_map.mpr ⟨x, hx, rfl⟩)
    simp only [Bool.or_eq_true, Bool.and_eq_true, beq_iff_eq] at this
    refine this.imp id fun q => ⟨q.1, ?_⟩
    exact cellsFrom_some _ _ _ (.inl q.1)
  refine wpAny_call (codeAny_call_function (by have := R.dp; omega) (X.k _ _ ho) rfl hco hgen hbody (codeRec_of X.k hcd) ((hbind s rfl) _ _ _ _ ?_))
  rw [hclo]
  refine wpAny_newFunctionEnv_cells hk hkd fun env he s' x => ?_
  subst he
  refine ⟨X.lim.keeps x.toInCall.keep, codeAny_func ?_⟩
  obtain ⟨h₁, tk, rfl, hk₁⟩ := x.done
  have F : Loc s.heap s.heap.objs.size (cellsFrom (s.heap.objs.size + 1) fd.scope.names []) (fun x => binds.reverse.lookup x) [] h₁ := by
    have hbl : ∀ (kd : Str → Option NameKind) (bs : List (Str × Value)) (m : Str → Option Value), (bs.map (·.1)).Nodup → ∀ y, (kd y = some .local → bindL kd bs m y = (bs.reverse.lookup y).or (m y)) ∧ (kd y ≠ some .local → bindC kd bs m y = (bs.reverse.lookup y).or (m y)) := by
      intro kd bs
      induction bs with
      | nil => intro m _ y; exact ⟨fun _ => by simp [bindL], fun _ => by simp [bindC]⟩
      | cons b r ih =>
        obtain ⟨bn, bv⟩ := b
        intro m nd y
        simp only [List.map_cons, List.nodup_cons] at nd
        have e : ((bn, bv) :: r).reverse.lookup y = (r.reverse.lookup y).or (if y = bn then some bv else none) := by
          simp only [List.reverse_cons, List.lookup_append, List.lookup_cons, List.lookup_nil]
          by_cases hy : y = bn
          · subst hy; simp
          · have : (y == bn) = false := by simpa using hy
            simp [this, hy]
        constructor
        · intro hl
          unfold bindL
          rw [((ih _ nd.2 y).1 hl), e]
          by_cases hy : y = bn
          · subst hy; simp only [hl, if_true]; cases r.reverse.lookup y <;> simp
          · split <;> simp [hy]
        · intro hl
          unfold bindC
          rw [((ih _ nd.2 y).2 hl), e]
          by_cases hy : y = bn
          · subst hy; simp only [hl, if_false]; cases r.reverse.lookup y <;> simp
          · split <;> simp [hy]
    have kdE : ∀ y, (newEnv fd.scope s.heap.objs.size fd.globals (cellsFrom (s.heap.objs.size + 1) fd.scope.names []) (fd.qualname ++ ".<locals>.") (some f) fd.code none fd.builtins).kindOf y = fd.scope.names.lookup y := fun y => rfl
    refine ⟨hk₁, ⟨_, x.toInCall.ns, fun y hy => ?_⟩, get_size _, fun _ hp => (by cases hp), List.nodup_nil, fun y c hc => ?_, fun y z c h1 h2 => name_of_addr x.apart (mem_of_lookup h1) (mem_of_lookup h2), fun y c hc => ⟨Nat.ne_of_gt (x.above y c (mem_of_lookup hc)), ?_, fun _ hp => (by cases hp)⟩⟩
    · by_cases hl : fd.scope.names.lookup y = some .local
      · have := (hbl _ binds (fun _ => none) hbn y).1 ((kdE y).trans hl)
        simpa using this
      · have none1 : binds.reverse.lookup y = none := by
          cases q : binds.reverse.lookup y with
          | none => rfl
          | some v =>
            exfalso
            have hm := List.mem_reverse.mp (mem_of_lookup q)
            rcases hkd _ hm with h1 | ⟨_, h1⟩
            · exact hl h1
            · have hy' : (cellsFrom (s.heap.objs.size + 1) fd.scope.names []).lookup y = none := hy
              rw [hy'] at h1; cases h1
        have : ∀ (kd : Str → Option NameKind) (bs : List (Str × Value)) (m : Str → Option Value), kd y ≠ some .local → bindL kd bs m y = m y := by
          intro kd bs
          induction bs with
          | nil => intro m _; rfl
          | cons b r ih =>
            obtain ⟨bn, bv⟩ := b
            intro m hne
            unfold bindL
            rw [ih _ hne]
            split
            · rename_i h1
              have : y ≠ bn := fun z => hne (z ▸ h1)
              simp [this]
            · rfl
        show bindL _ binds (fun _ => none) y = _
        rw [this _ binds _ (by rw [kdE y]; exact hl), none1]
    · have hl : fd.scope.names.lookup y = some .cell := (hsub _ y).resolve_left (by rw [hc]; exact Option.some_ne_none c)
      have e := (hbl (newEnv fd.scope s.heap.objs.size fd.globals (cellsFrom (s.heap.objs.size + 1) fd.scope.names []) (fd.qualname ++ ".<locals>.") (some f) fd.code none fd.builtins).kindOf binds (fun _ => none) hbn y).2 (by rw [kdE y, hl]; decide)
      have := x.cell y c hc
      rw [e] at this
      simpa using this
    · cases q : s.heap.get? c with
      | none => rfl
      | some o =>
        have h1 := x.above y c (mem_of_lookup hc)
        exact absurd (Nat.lt_trans (Heap.lt_size q) h1) (Nat.lt_irrefl _)
  rw [hcs] at F
  exact wpAny_mono ((k _ _ _ R.deeper F).run _ rfl) (fun fl s' q => ⟨Same.trans (Same.mk' s _ _) q.1, q.2⟩) fun _ _ q => q.2.elim
end

abbrev No : Value → Heap → Prop := fun _ _ => False

theorem Ev.use0 {α : Type} {M : Model} {A : Around} {h : Heap} {t : Sem α} {Q : α → Heap → Prop} {s₀ s : Shared} {Q' : α → Shared → Prop} {E' : Value → Shared → Prop} (k : Ev M A t h Q No) (hs : s.heap = h) (m : Same s₀ s)
    (f : ∀ a s', Same s₀ s' → Q a s'.heap → Q' a s') : wpAny M A t Q' E' s :=
  wpAny_mono (k.run s hs) (fun a s' x => f a s' (m.trans x.1) x.2) fun _ _ x => x.2.elim

abbrev LoopP := Nat → Heap → (Str → Option Value) → List (Addr × Obj) → Prop

section
variable {prog : Program} {w : World} {A : Around} {env : Env} {target iter : Expr} {body : List Stmt} {pos : Pos} {h : Heap} {E : Value → Heap → Prop}

theorem For_ {orelse : List Stmt} {Q : Flow → Heap → Prop}
    (k : Ev (model prog w) A (eval iter env) h (fun xv h₁ => Ev (model prog w) A (pyIter xv) h₁ (fun it h₂ =>
      EvC (model prog w) A (.forLoop target it body orelse env) h₂ (fun r h' => match r with | .ok f => Q f h' | .error _ => False)) E) E)
    (hs : ∀ x, foldedSetIterable iter env x = pure x := by intro _; rfl) : Ev (model prog w) A (exec (.For target iter body orelse pos) env) h Q E :=
  .mk fun s hs' => wpAny_For (k.use hs' (.refl s) fun xv s₁ m₁ k₁ => k₁.use rfl m₁ fun it s₂ m₂ k₂ => codeAny_mono (k₂.run s₂ rfl) fun r s' q => by
    cases r with
    | ok f => exact ⟨m₂.trans q.1, q.2⟩
    | error e => exact q.2.elim) hs

/-- where the iterator's own objects stand -/
def Side (fp : List Addr) (I : Addr) (P : LoopP) : Prop := ∀ b ∈ fp, b = I ∨ ∃ o, ∀ i g m led, P i g m led → (g.get? b = some o ∨ (b, o) ∈ led)

theorem forLoop_walk {R : Result → Heap → Prop} {I L : Addr} {fp : List Addr} {n : Nat} {Pv : Nat → Value → Prop} {St : Nat → Heap → Prop} {g : Heap} {cs : List (Str × Addr)} {m : Str → Option Value} {led : List (Addr × Obj)} {o : Obj} (P : LoopP)
    (W : Walks prog w A I fp [I] n Pv St) (live : ∀ i h, St i h → ∃ o, h.get? I = some o) (side : Side fp I P)
    (go : ∀ i v s Q E, St i s.heap → Q () s → wpAny (model prog w) A (letOwnedTupleGo target (.ref I) v) Q E s)
    (F : Loc g L cs m ((I, o) :: led) h) (hst : St 0 h) (h0 : P 0 g m led)
    (turn : ∀ i v o g m led h, i < n → Pv i v → P i g m led → Loc g L cs m ((I, o) :: led) h →
      Ev (model prog w) A (assign target env v) h (fun _ h₁ => Ev (model prog w) A (execs body env) h₁ (fun fl h₂ => match fl with
        | .ret v => R (.ok (.ret v)) h₂
        | .brk => R (.ok .next) h₂
        | _ => ∃ g' m' led', P (i + 1) g' m' led' ∧ Loc g' L cs m' ((I, o) :: led') h₂) No) No)
    (done : ∀ g m led h, P n g m led → Loc g L cs m led h → R (.ok .next) h) :
    EvC (model prog w) A (.forLoop target (.ref I) body [] env) h R := .mk fun s hs => by
  refine codeAny_forLoop_any (fun k s' => ∃ i g m led o, Same s s' ∧ St i s'.heap ∧ P i g m led ∧ Loc g L cs m ((I, o) :: led) s'.heap ∧ i ≤ n ∧ k = n + 1 - i) ?_ (n + 1)
    ⟨0, g, m, led, o, .refl s, hs ▸ hst, h0, hs ▸ F, Nat.zero_le _, rfl⟩
  rintro k s' ⟨i, g, m, led, o, sm, sti, hP, F, hi, rfl⟩
  by_cases hlt : i < n
  · refine W.item i _ _ _ hlt sti fun v h₁ tk₁ hv st₁ hk₁ => ?_
    obtain ⟨o₁, ho₁⟩ := live _ _ st₁
    have F₁ : Loc g L cs m ((I, o₁) :: led) h₁ := F.putE .head (fun b x hb e => hk₁ b x (by simpa using hb) e) ho₁
    refine go (i + 1) v _ _ _ st₁ ?_
    refine (turn i v o₁ g m led h₁ hlt hv hP F₁).use0 rfl (sm.trans (Same.mk' s' h₁ tk₁)) fun _ s₂ m₂ k₂ => ?_
    refine k₂.use0 rfl m₂ fun fl s₃ m₃ q => ?_
    have fin : (∃ g' m' led', P (i + 1) g' m' led' ∧ Loc g' L cs m' ((I, o₁) :: led') s₃.heap) → ∃ k, k < n + 1 - i ∧ ∃ i g m led o, Same s s₃ ∧ St i s₃.heap ∧ P i g m led ∧ Loc g L cs m ((I, o) :: led) s₃.heap ∧ i ≤ n ∧ k = n + 1 - i := by
      rintro ⟨g', m', led', hP', F'⟩
      refine ⟨n + 1 - (i + 1), by omega, i + 1, g', m', led', o₁, m₃, W.frame _ _ _ st₁ (fun b hb x e => ?_), hP', F', hlt, rfl⟩
      rcases side b hb with rfl | ⟨ob, hob⟩
      · have := F'.get (.head _); rw [ho₁] at e; rw [← Option.some.inj e]; exact this
      · have old : h₁.get? b = some ob := (hob _ _ _ _ hP).elim (fun q => F₁.sub _ _ q) fun q => F₁.get (.tail _ q)
        rw [old] at e
        rw [← Option.some.inj e]
        exact (hob _ _ _ _ hP').elim (fun q => F'.sub _ _ q) fun q => F'.get (.tail _ q)
    cases fl with
    | ret v => exact ⟨m₃, q⟩
    | brk => exact ⟨m₃, q⟩
    | next => exact fin q
    | cont => exact fin q
  · have : i = n := by omega
    subst this
    refine W.done _ _ _ sti fun h₁ tk₁ hk₁ => wpAny_execs_nil ⟨sm.trans (Same.mk' s' h₁ tk₁), ?_⟩
    exact done g m led h₁ hP (F.extDrop fun b x hb e => hk₁ b x (by simpa using hb) e)

theorem go_name {x : Str} {px : Pos} {I : Addr} {v : Value} {s : Shared} {Q : Unit → Shared → Prop} {E : Value → Shared → Prop} (q : Q () s) : wpAny (model prog w) A (letOwnedTupleGo (.Name x px) (.ref I) v) Q E s := wpAny_pure q
theorem go_list {I l : Addr} {i : Nat} {v : Value} {s : Shared} {Q : Unit → Shared → Prop} {E : Value → Shared → Prop} (hit : s.heap.IsListIter I l i) (q : Q () s) : wpAny (model prog w) A (letOwnedTupleGo target (.ref I) v) Q E s := by
  cases target
  case Tuple elts k p =>
    cases v
    case ref T => exact wpAny_letOwnedTupleGo_listiter hit q
    all_goals exact wpAny_pure q
  case List elts p =>
    cases v
    case ref T => exact wpAny_letOwnedTupleGo_listiter (x1 := 0) (elts := elts) (pos := p) hit q
    all_goals exact wpAny_pure q
  all_goals exact wpAny_pure q

abbrev listO (vs : List Value) (n : Nat) : Obj := { cls := .type "list", data := .seq vs.toArray n }
/-- a list that stands, in the frozen heap or the ledger -/
def ListAt (a : Addr) (o : Obj) (g : Heap) (led : List (Addr × Obj)) : Prop := g.get? a = some o ∨ (a, o) ∈ led
def IsL (o : Obj) (vs : List Value) : Prop := o.cls = .type "list" ∧ ∃ n, o.data = .seq vs.toArray n
theorem isL_listO (vs : List Value) (n : Nat) : IsL (listO vs n) vs := ⟨rfl, n, rfl⟩
theorem IsL.isList {h : Heap} {a : Addr} {o : Obj} {vs : List Value} (x : IsL o vs) (ho : h.get? a = some o) : h.IsList a vs.toArray := ⟨o, ho, x.1, x.2⟩
theorem ListAt.get {a L : Addr} {o : Obj} {g h : Heap} {cs : List (Str × Addr)} {m : Str → Option Value} {led : List (Addr × Obj)} (x : ListAt a o g led) (F : Loc g L cs m led h) : h.get? a = some o := x.elim (fun q => F.sub _ _ q) fun q => F.get q

/-- a loop over a list that the turns leave alone -/
theorem loop_list {R : Result → Heap → Prop} {L ax : Addr} {oa : Obj} {vs : List Value} {g : Heap} {cs : List (Str × Addr)} {m : Str → Option Value} {led : List (Addr × Obj)} (P : LoopP) (hh : A.handled = none)
    (hl : IsL oa vs) (F : Loc g L cs m led h) (h0 : P 0 g m led) (side : ∀ i g m led, P i g m led → ListAt ax oa g led)
    (turn : ∀ i v I o g m led h, vs[i]? = some v → P i g m led → Loc g L cs m ((I, o) :: led) h →
      Ev (model prog w) A (assign target env v) h (fun _ h₁ => Ev (model prog w) A (execs body env) h₁ (fun fl h₂ => match fl with
        | .ret v => R (.ok (.ret v)) h₂
        | .brk => R (.ok .next) h₂
        | _ => ∃ g' m' led', P (i + 1) g' m' led' ∧ Loc g' L cs m' ((I, o) :: led') h₂) No) No)
    (done : ∀ g m led h, P vs.length g m led → Loc g L cs m led h → R (.ok .next) h) :
    Ev (model prog w) A (pyIter (.ref ax)) h (fun it h₂ => EvC (model prog w) A (.forLoop target it body [] env) h₂ R) E := .mk fun s hs => by
  subst hs
  have hax := (side _ _ _ _ h0).get F
  refine wpAny_pyIter_list (hl.isList hax) ⟨rfl, ?_⟩
  have hne : ax ≠ s.heap.objs.size := Nat.ne_of_lt (Heap.lt_size hax)
  refine forLoop_walk P (Walks.list hh s.heap.objs.size ax hne vs.toArray) (fun i h x => let ⟨o, ho, _⟩ := x.1; ⟨o, ho⟩) (fun b hb => ?_) (fun i v s Q E st q => go_list st.1 q) (F.new _)
    ⟨⟨_, Heap.get?_push_size _ rfl, rfl, rfl⟩, (hl.isList hax).push _⟩ h0 (fun i v o g m led h hi hv => turn i v _ o g m led h (by simpa using hv)) (by simpa using done)
  rcases List.mem_cons.mp hb with rfl | hb
  · exact .inl rfl
  · exact .inr ⟨oa, fun i g m led hP => by rw [List.mem_singleton.mp hb]; exact side i g m led hP⟩

/-- a loop over a text's signs -/
theorem loop_str {R : Result → Heap → Prop} {L : Addr} {x : Str} {t : Tok} {g : Heap} {cs : List (Str × Addr)} {m : Str → Option Value} {led : List (Addr × Obj)} {y : Str} {py : Pos} (P : LoopP) (hh : A.handled = none)
    (F : Loc g L cs m led h) (h0 : P 0 g m led)
    (turn : ∀ i c u I o g m led h, x.cps[i]? = some c → P i g m led → Loc g L cs m ((I, o) :: led) h →
      Ev (model prog w) A (assign (.Name y py) env (.str ⟨#[c]⟩ u)) h (fun _ h₁ => Ev (model prog w) A (execs body env) h₁ (fun fl h₂ => match fl with
        | .ret v => R (.ok (.ret v)) h₂
        | .brk => R (.ok .next) h₂
        | _ => ∃ g' m' led', P (i + 1) g' m' led' ∧ Loc g' L cs m' ((I, o) :: led') h₂) No) No)
    (done : ∀ g m led h, P x.cps.size g m led → Loc g L cs m led h → R (.ok .next) h) :
    Ev (model prog w) A (pyIter (.str x t)) h (fun it h₂ => EvC (model prog w) A (.forLoop (.Name y py) it body [] env) h₂ R) E := .mk fun s hs => by
  subst hs
  have key : ∀ ty : String, (∀ I, Walks prog w A I [I] [I] x.cps.size (SignAt x) (fun i h => h.IsStrIter I ty x t i)) →
      EvC (model prog w) A (.forLoop (.Name y py) (.ref s.heap.objs.size) body [] env) (s.heap.push { cls := .type ty, data := .fields #[.str x t, .int 0 0] }) R := fun ty W => by
    refine forLoop_walk P (W _) (fun i h x => let ⟨o, ho, _⟩ := x; ⟨o, ho⟩) (fun b hb => .inl (List.mem_singleton.mp hb)) (fun i v s Q E st q => go_name q) (F.new _)
      ⟨_, Heap.get?_push_size _ rfl, rfl, rfl⟩ h0 (fun i v o g m led h hi hv hP F => ?_) done
    obtain ⟨c, u, hc, rfl⟩ := hv
    exact turn i c u _ o g m led h hc hP F
  cases ha : x.cps.all (· < 128)
  · exact wpAny_pyIter_wide ha ⟨rfl, key _ fun I => Walks.strWide hh I x t⟩
  · exact wpAny_pyIter_ascii ha ⟨rfl, key _ fun I => Walks.strAscii hh I x t⟩

theorem assign_L {g : Heap} {L : Addr} {cs : List (Str × Addr)} {m : Str → Option Value} {led : List (Addr × Obj)} {x : Str} {v : Value} {px : Pos} {Q : Unit → Heap → Prop} (F : Loc g L cs m led h) (k : ∀ h', Loc g L cs (fun y => if y = x then some v else m y) led h' → Q () h') (hL : env.locals = L := by rfl)
    (hk : env.scope.kind = .function := by rfl) (hl : env.kindOf x = some .local := by rfl) (hc : cs.lookup x = none := by rfl) : Ev (model prog w) A (assign (.Name x px) env v) h Q E :=
  .mk fun s hs => wpAny_assign_Name ((store_L F k hL hk hl hc).run s hs)
theorem assign_C {g : Heap} {L c : Addr} {cs : List (Str × Addr)} {m : Str → Option Value} {led : List (Addr × Obj)} {x : Str} {v : Value} {px : Pos} {Q : Unit → Heap → Prop} (F : Loc g L cs m led h) (k : ∀ h', Loc g L cs (fun y => if y = x then some v else m y) led h' → Q () h') 
    (hk : env.scope.kind = .function := by rfl) (hl : env.kindOf x = some .cell := by rfl) (hc : env.cells.lookup x = some c := by rfl) (hcs : cs.lookup x = some c := by rfl) : Ev (model prog w) A (assign (.Name x px) env v) h Q E :=
  .mk fun s hs => wpAny_assign_Name ((store_C F k hk hl hc hcs).run s hs)
end

theorem fin0 {α : Type} {s : Shared} {h : Heap} {Q : α → Heap → Prop} {v : α} (hs : s.heap = h) (k : Q v h) : Same s s ∧ Q v s.heap := by subst hs; exact ⟨.refl s, k⟩
theorem fint {α : Type} {s : Shared} {h : Heap} {Q : α → Heap → Prop} {v : α} (hs : s.heap = h) (k : Q v h) (tk : Nat) : Same s { s with toks := tk } ∧ Q v ({ s with toks := tk } : Shared).heap := by subst hs; exact ⟨rfl, k⟩
section
variable {prog : Program} {w : World} {A : Around} {h : Heap} {E : Value → Heap → Prop} {env : Env} {Q : Value → Heap → Prop} {a b : Int} {t u : Tok} {x y : Str}
theorem eLtE_str (k : Q (.bool (!(decide (y.cps.toList < x.cps.toList)))) h) : Ev (model prog w) A (compareOp .LtE (.str x t) (.str y u)) h Q E := .mk fun s hs => PySem.P.le_str (fin0 (Q := Q) hs k)
theorem eLtE_1 {c d : Nat} (hx : x = ⟨#[c]⟩) (hy : y = ⟨#[d]⟩) (k : Q (.bool (decide (c ≤ d))) h) : Ev (model prog w) A (compareOp .LtE (.str x t) (.str y u)) h Q E := by
  subst hx hy
  refine eLtE_str ?_
  have e : (!(decide ((⟨#[d]⟩ : Str).cps.toList < (⟨#[c]⟩ : Str).cps.toList))) = decide (c ≤ d) := by
    show (!(decide ([d] < [c]))) = _
    have : ([d] < [c]) ↔ d < c := by simp [List.cons_lt_cons_iff]
    rw [show decide ([d] < [c]) = decide (d < c) from decide_eq_decide.mpr this]
    by_cases hd : d < c
    · have : ¬ c ≤ d := by omega
      simp [hd, this]
    · have : c ≤ d := by omega
      simp [hd, this]
  rw [e]; exact k
theorem eLt_1 {c d : Nat} (hx : x = ⟨#[c]⟩) (hy : y = ⟨#[d]⟩) (k : Q (.bool (decide (c < d))) h) : Ev (model prog w) A (compareOp .Lt (.str x t) (.str y u)) h Q E := by
  subst hx hy
  refine .mk fun s hs => PyProof.Rows.lt_str ⟨.refl s, ?_⟩
  subst hs
  have e : decide ((⟨#[c]⟩ : Str).cps.toList < (⟨#[d]⟩ : Str).cps.toList) = decide (c < d) := by
    show decide ([c] < [d]) = _
    exact decide_eq_decide.mpr (by simp [List.cons_lt_cons_iff])
  rw [e]; exact k
theorem eLt_str (k : Q (.bool (decide (x.cps.toList < y.cps.toList))) h) : Ev (model prog w) A (compareOp .Lt (.str x t) (.str y u)) h Q E := .mk fun s hs => PyProof.Rows.lt_str (fin0 (Q := Q) hs k)
theorem eEq_str (k : Q (.bool (x == y)) h) : Ev (model prog w) A (compareOp .Eq (.str x t) (.str y u)) h Q E := .mk fun s hs => PyProof.Rows.eq_str (fin0 (Q := Q) hs k)
theorem eNe_str (k : Q (.bool (x != y)) h) : Ev (model prog w) A (compareOp .NotEq (.str x t) (.str y u)) h Q E := .mk fun s hs => PyProof.Rows.ne_str (fin0 (Q := Q) hs k)
theorem eAdd_str (k : ∀ t', Q (.str (x ++ y) t') h) (hsz : x.length + y.length ≤ sizeLine) : Ev (model prog w) A (binaryOp .Add (.str x t) (.str y u)) h Q E := .mk fun s hs => PyProof.Rows.add_str (fun _ _ => (fint (Q := Q) hs (k _) _)) hsz
theorem eIadd_str (k : ∀ t', Q (.str (x ++ y) t') h) (hsz : x.length + y.length ≤ sizeLine) : Ev (model prog w) A (inplaceOp .Add (.str x t) (.str y u)) h Q E := .mk fun s hs => PyProof.Rows.iadd_str (fun _ _ => (fint (Q := Q) hs (k _) _)) hsz
theorem eAdd_int (k : ∀ tk, Q (.int (a + b) tk) h) : Ev (model prog w) A (binaryOp .Add (.int a t) (.int b u)) h Q E := .mk fun s hs => PyProof.Rows.add_int (fint (Q := Q) hs (k _) _)
theorem eIadd_int (k : ∀ tk, Q (.int (a + b) tk) h) : Ev (model prog w) A (inplaceOp .Add (.int a t) (.int b u)) h Q E := .mk fun s hs => PyProof.Rows.iadd_int (fint (Q := Q) hs (k _) _)
theorem eIsub_int (k : ∀ tk, Q (.int (a - b) tk) h) : Ev (model prog w) A (inplaceOp .Sub (.int a t) (.int b u)) h Q E := .mk fun s hs => PyProof.Rows.isub_int (fint (Q := Q) hs (k _) _)
theorem eSub_int (k : ∀ tk, Q (.int (a - b) tk) h) : Ev (model prog w) A (binaryOp .Sub (.int a t) (.int b u)) h Q E := .mk fun s hs => PyProof.Rows.sub_int (fint (Q := Q) hs (k _) _)
theorem eMod_int (hb : b ≠ 0) (k : ∀ tk, Q (.int (a.fmod b) tk) h) : Ev (model prog w) A (binaryOp .Mod (.int a t) (.int b u)) h Q E := .mk fun s hs => PyProof.Rows.mod_int hb (fint (Q := Q) hs (k _) _)
theorem eDiv_int (hb : b ≠ 0) (hs : b.natAbs < 1073741824) (k : ∀ tk, Q (.int (a.fdiv b) tk) h) : Ev (model prog w) A (binaryOp .FloorDiv (.int a t) (.int b u)) h Q E := .mk fun s hs' => PyProof.Rows.floordiv_int hb (fint (Q := Q) hs' (k _) _) (.inl (PyProof.noPylong_small hs))
theorem eNeg_int (k : ∀ tk, Q (.int (-a) tk) h) : Ev (model prog w) A (unaryOp .USub (.int a t)) h Q E := .mk fun s hs => PyProof.Rows.neg_int (fint (Q := Q) hs (k _) _)
theorem eLt_int (k : Q (.bool (decide (a < b))) h) : Ev (model prog w) A (compareOp .Lt (.int a t) (.int b u)) h Q E := .mk fun s hs => PyProof.Rows.lt_int (fin0 (Q := Q) hs k)
theorem eLe_int (k : Q (.bool (decide (a ≤ b))) h) : Ev (model prog w) A (compareOp .LtE (.int a t) (.int b u)) h Q E := .mk fun s hs => PyProof.Rows.le_int (fin0 (Q := Q) hs k)
theorem eGt_int (k : Q (.bool (decide (b < a))) h) : Ev (model prog w) A (compareOp .Gt (.int a t) (.int b u)) h Q E := .mk fun s hs => PyProof.Rows.gt_int (fin0 (Q := Q) hs k)
theorem eGe_int (k : Q (.bool (decide (b ≤ a))) h) : Ev (model prog w) A (compareOp .GtE (.int a t) (.int b u)) h Q E := .mk fun s hs => PyProof.Rows.ge_int (fin0 (Q := Q) hs k)
theorem eEq_int (k : Q (.bool (a == b)) h) : Ev (model prog w) A (compareOp .Eq (.int a t) (.int b u)) h Q E := .mk fun s hs => PyProof.Rows.eq_int (fin0 (Q := Q) hs k)
theorem eNe_int (k : Q (.bool (a != b)) h) : Ev (model prog w) A (compareOp .NotEq (.int a t) (.int b u)) h Q E := .mk fun s hs => PyProof.Rows.ne_int (fin0 (Q := Q) hs k)
theorem eOrd {c : Nat} (k : ∀ tk, Q (.int c tk) h) : Ev (model prog w) A (call (.builtin "ord") [.str ⟨#[c]⟩ t]) h Q E := .mk fun s hs => PySem.P.ord_of_char (fint (Q := Q) hs (k _) _)
theorem eOrd1 (h1 : x.length = 1) (k : ∀ tk, Q (.int (x.cps.getD 0 0 : Nat) tk) h) : Ev (model prog w) A (call (.builtin "ord") [.str x t]) h Q E := .mk fun s hs => ord_of_one h1 (fint (Q := Q) hs (k _) _)
theorem eChr (h0 : 0 ≤ a) (h1 : a ≤ 1114111) (k : ∀ tk, Q (.str ⟨#[a.toNat]⟩ tk) h) : Ev (model prog w) A (call (.builtin "chr") [.int a t]) h Q E := .mk fun s hs => chr_of_range h0 h1 (fint (Q := Q) hs (k _) _)
theorem truthy_int {Q : Bool → Heap → Prop} (k : Q (a != 0) h) : Ev (model prog w) A (truthy (.int a t)) h Q E := .mk fun s hs => PyProof.Rows.truthy_int (fin0 (Q := Q) hs k)
end

section
variable {M : Model} {A : Around} {h : Heap} {E : Value → Heap → Prop} {env : Env} {pos : Pos}
theorem isTrue_chain2 {l r₁ r₂ : Expr} {op₁ op₂ : CmpOp} {whole : Sem Value} {Q : Bool → Heap → Prop}
    (k : Ev M A (eval l env) h (fun a h₁ => Ev M A (eval r₁ env) h₁ (fun b h₂ => Ev M A (compareOp op₁ a b) h₂ (fun c h₃ => Ev M A (truthy c) h₃ (fun t h₄ =>
      if t then Ev M A (eval r₂ env) h₄ (fun d h₅ => Ev M A (compareOp op₂ b d) h₅ (fun e h₆ => Ev M A (truthy e) h₆ Q E) E) E else Q false h₄) E) E) E) E)
    (hm : lastMarks [op₁, op₂] [r₁, r₂] = false := by with_unfolding_all rfl) : Ev M A (isTrue (.Compare l [op₁, op₂] [r₁, r₂] pos) env whole) h Q E :=
  .mk fun s hs => isTrue_chain (k.use hs (.refl s) fun a s₁ m₁ k₁ => test_link (k₁.use rfl m₁ fun b s₂ m₂ k₂ => k₂.use rfl m₂ fun c s₃ m₃ k₃ => k₃.use rfl m₃ fun t s₄ m₄ k₄ => by
    cases t with
    | true =>
      have k₄ : Ev M A (eval r₂ env) s₄.heap (fun d h₅ => Ev M A (compareOp op₂ b d) h₅ (fun e h₆ => Ev M A (truthy e) h₆ Q E) E) E := k₄
      exact test_last (k₄.use rfl m₄ fun d s₅ m₅ k₅ => k₅.use rfl m₅ fun e s₆ m₆ k₆ => k₆.use rfl m₆ fun _ _ m₇ q => ⟨m₇, q⟩)
    | false => exact ⟨m₄, k₄⟩)) hm
theorem Call_e {func : Expr} {args : List Expr} {Q : Value → Heap → Prop} (k : Ev M A (eval func env) h (fun f h₁ => Ev M A (callWith pos f [] (backTo pos (starEach args env)) []) h₁ Q E) E)
    (he : eval (.Call func args [] pos) env = (do callWith pos (← eval func env) [] (backTo pos (starEach args env)) (backToKw pos (keywordEach [] env))) := by rfl) : Ev M A (eval (.Call func args [] pos) env) h Q E :=
  .mk fun s hs => Call_ (k.use hs (.refl s) fun _ _ m₁ k₁ => k₁.use rfl m₁ fun _ _ m₂ q => ⟨m₂, q⟩) he
theorem callWith_B {id : String} {e : Expr} {rest : List Expr} {Q : Value → Heap → Prop} (k : Ev M A (spliced (backTo pos (starEach (e :: rest) env))) h (fun vs h₁ => Ev M A (call (.builtin id) vs) h₁ Q E) E)
    (he : starEach (e :: rest) env = (false, eval e env) :: starEach rest env := by rfl) (hplain : (backTo pos (starEach rest env)).any (·.1) = false := by rfl) :
    Ev M A (callWith pos (.builtin id) [] (backTo pos (starEach (e :: rest) env)) []) h Q E :=
  .mk fun s hs => callWith_builtin1 (k.use hs (.refl s) fun _ _ m₁ k₁ => k₁.use rfl m₁ fun _ _ m₂ q => ⟨m₂, q⟩) he hplain
theorem callWith_T {T : String} {e : Expr} {rest : List Expr} {Q : Value → Heap → Prop} (k : Ev M A (spliced (backTo pos (starEach (e :: rest) env))) h (fun vs h₁ => Ev M A (call (.type T) vs) h₁ Q E) E)
    (he : starEach (e :: rest) env = (false, eval e env) :: starEach rest env := by rfl) (hplain : (backTo pos (starEach rest env)).any (·.1) = false := by rfl) :
    Ev M A (callWith pos (.type T) [] (backTo pos (starEach (e :: rest) env)) []) h Q E :=
  .mk fun s hs => PyProof.Rows.callWith_type1 (k.use hs (.refl s) fun _ _ m₁ k₁ => k₁.use rfl m₁ fun _ _ m₂ q => ⟨m₂, q⟩) he hplain
/-- what is called is of the written part -/
theorem callWith_F {K : Frag} {f : Value} {first : List Value} {e : Expr} {rest : List Expr} {Q : Value → Heap → Prop} (X : K.In h) (hk : keepIn K f = true)
    (k : Ev M A (spliced (backTo pos (starEach (e :: rest) env))) h (fun vs h₁ => K.In h₁ ∧ Ev M A (call f (first ++ vs)) h₁ Q E) E)
    (he : starEach (e :: rest) env = (false, eval e env) :: starEach rest env := by rfl) (hplain : (backTo pos (starEach rest env)).any (·.1) = false := by rfl) :
    Ev M A (callWith pos f first (backTo pos (starEach (e :: rest) env)) []) h Q E :=
  .mk fun s hs => callWith_K (hs ▸ X) hk (k.use hs (.refl s) fun _ _ m₁ k₁ => ⟨k₁.1, k₁.2.use rfl m₁ fun _ _ m₂ q => ⟨m₂, q⟩⟩) he hplain
theorem callWith_F0 {K : Frag} {f : Value} {first : List Value} {Q : Value → Heap → Prop} (X : K.In h) (hk : keepIn K f = true) (k : Ev M A (call f (first ++ [])) h Q E) :
    Ev M A (callWith pos f first (backTo pos (starEach [] env)) []) h Q E :=
  .mk fun s hs => callWith_K0 (hs ▸ X) hk (k.run s hs)
end

section
variable {M : Model} {A : Around} {g h : Heap} {E : Value → Heap → Prop} {env : Env} {K : Frag} {mg mb : Str → Option Value} {L : Addr} {cs : List (Str × Addr)} {m : Str → Option Value} {led : List (Addr × Obj)} {x : Str} {v : Value} {pos : Pos} {Q : Value → Heap → Prop}
theorem Loc.amb (F : Loc g L cs m led h) (X : Amb K mg mb g) : Amb K mg mb h := X.keep F.sub
end

theorem bb_chr : bootBuiltins "chr" = some (.builtin "chr") := PyProof.Rows.boot_chr
theorem bb_ord : bootBuiltins "ord" = some (.builtin "ord") := PyProof.Rows.boot_ord
theorem bb_len : bootBuiltins "len" = some (.builtin "len") := PySem.boot_len
theorem bb_str : bootBuiltins "str" = some (.type "str") := PyProof.Rows.boot_str
theorem bb_range : bootBuiltins "range" = some (.type "range") := PyProof.Rows.boot_range
theorem bb_type : bootBuiltins "type" = some (.type "type") := PyProof.Rows.boot_type
theorem bb_list : bootBuiltins "list" = some (.type "list") := PyProof.Rows.boot_list

section
variable {prog : Program} {w : World} {A : Around}

abbrev testsOf (ifs : List Expr) (env : Env) : Sem Bool := forIn ifs true fun c r => if r = true then do let ok ← isTrue c env (eval c env); pure (ForInStep.yield ok) else pure (ForInStep.yield r)

theorem compLoop_any {R : Result → Shared → Prop} {s : Shared} {elt target iter : Expr} {ifs : List Expr} {scope : Scope} {pos : Pos} {it acc : Value} {env : Env} (I : Nat → Shared → Prop)
    (turn : ∀ n s, I n s → wpAny (model prog w) A (pyNext it) (fun r s₁ => match r with
      | none => R (.ok .next) s₁
      | some v => wpAny (model prog w) A (letOwnedTupleGo target it v) (fun _ s₀ => wpAny (model prog w) A (assign target env v) (fun _ s₂ =>
          wpAny (model prog w) A (testsOf ifs env) (fun ok s₃ =>
            if ok = true then wpAny (model prog w) A (eval elt env) (fun x s₄ =>
              wpAny (model prog w) A (call (.builtin "list.append") [acc, x]) (fun _ s₅ => ∃ m, m < n ∧ I m s₅) (fun _ _ => False) s₄) (fun _ _ => False) s₃
            else ∃ m, m < n ∧ I m s₃) (fun _ _ => False) s₂) (fun _ _ => False) s₀) (fun _ _ => False) s₁) (fun _ _ => False) s)
    (n : Nat) (h : I n s) : codeAny (model prog w) A (.compLoop (.ListComp elt [⟨target, iter, ifs, 0⟩] scope pos) 0 it acc env) R s := by
  refine codeAny_loop rfl I (fun n s hI => ?_) n h
  show wpAny _ A ((compTurn (.ListComp elt [⟨target, iter, ifs, 0⟩] scope pos) 0 it acc env).onRaise (fun x => do noteFrame x env; theTreesLotGoes x)) _ _ s
  refine wpAny_noted ?_
  rw [compTurn_list]
  refine wpAny_bind (wpAny_standAt (wpAny_bind (wpAny_mono (turn n s hI) (fun r s₁ h₁ => ?_) fun _ _ h' => h'.elim)))
  cases r with
  | none => exact wpAny_pure h₁
  | some v =>
    refine wpAny_bind (wpAny_mono h₁ (fun _ s₀ h₀ => ?_) fun _ _ h' => h'.elim)
    refine wpAny_bind (wpAny_mono h₀ (fun _ s₂ h₂ => wpAny_bind (wpAny_mono h₂ (fun ok s₃ h₃ => ?_) fun _ _ h' => h'.elim)) fun _ _ h' => h'.elim)
    cases ok with
    | false => exact wpAny_pure ⟨rfl, h₃⟩
    | true =>
      exact wpAny_bind (wpAny_bind (wpAny_mono h₃ (fun x s₄ h₄ => wpAny_bind (wpAny_mono h₄ (fun _ s₅ h₅ => wpAny_pure (wpAny_pure ⟨rfl, h₅⟩)) fun _ _ h' => h'.elim)) fun _ _ h' => h'.elim))

/-- the cells that a block of its own does not see, as a ledger -/
theorem cells_rest {g h : Heap} {L : Addr} {cs cl : List (Str × Addr)} {m : Str → Option Value} {led : List (Addr × Obj)} (F : Loc g L cs m led h) :
    ∃ rest : List (Addr × Obj), (∀ p ∈ rest, h.get? p.1 = some p.2 ∧ ∃ x, cs.lookup x = some p.1 ∧ cl.lookup x = none) ∧ (∀ x c, cs.lookup x = some c → cl.lookup x = none → ∃ o, (c, o) ∈ rest) ∧ (rest.map (·.1)).Nodup := by
  have key : ∀ ns : List Str, ∃ rest : List (Addr × Obj), (∀ p ∈ rest, h.get? p.1 = some p.2 ∧ ∃ x, cs.lookup x = some p.1 ∧ cl.lookup x = none) ∧ (∀ x ∈ ns, ∀ c, cs.lookup x = some c → cl.lookup x = none → ∃ o, (c, o) ∈ rest) ∧ (rest.map (·.1)).Nodup := by
    intro ns
    induction ns with
    | nil => exact ⟨[], fun _ hp => (by cases hp), fun _ hx => (by cases hx), List.nodup_nil⟩
    | cons x r ih =>
      obtain ⟨rest, h1, h2, h3⟩ := ih
      cases hc : cs.lookup x with
      | none => exact ⟨rest, h1, fun y hy c q z => by
          rcases List.mem_cons.mp hy with rfl | hy
          · rw [hc] at q; cases q
          · exact h2 y hy c q z, h3⟩
      | some c =>
        cases hl : cl.lookup x with
        | some d => exact ⟨rest, h1, fun y hy c q z => by
            rcases List.mem_cons.mp hy with rfl | hy
            · rw [hl] at z; cases z
            · exact h2 y hy c q z, h3⟩
        | none =>
          by_cases hm : c ∈ rest.map (·.1)
          · obtain ⟨p, hp, e⟩ := List.mem_map.mp hm
            refine ⟨rest, h1, fun y hy d q z => ?_, h3⟩
            rcases List.mem_cons.mp hy with rfl | hy
            · rw [hc] at q; cases q
              exact ⟨p.2, by rw [← e]; exact hp⟩
            · exact h2 y hy d q z
          · obtain ⟨o, ho, _⟩ := F.cell x c hc
            refine ⟨(c, o) :: rest, fun p hp => ?_, fun y hy d q z => ?_, by simp only [List.map_cons, List.nodup_cons]; exact ⟨hm, h3⟩⟩
            · rcases List.mem_cons.mp hp with rfl | hp
              · exact ⟨ho, x, hc, hl⟩
              · exact h1 p hp
            · rcases List.mem_cons.mp hy with rfl | hy
              · rw [hc] at q; cases q
                exact ⟨o, .head _⟩
              · obtain ⟨o', h'⟩ := h2 y hy d q z
                exact ⟨o', .tail _ h'⟩
  obtain ⟨rest, h1, h2, h3⟩ := key (cs.map (·.1))
  refine ⟨rest, h1, fun x c q z => h2 x ?_ c q z, h3⟩
  have := mem_of_lookup q
  exact List.mem_map.mpr ⟨_, this, rfl⟩

def CellsIn : List (Str × Addr) → List (Str × Addr) → Prop
  | [], _ => True
  | (x, c) :: r, cs => cs.lookup x = some c ∧ CellsIn r cs
theorem CellsIn.look {x : Str} {c : Addr} {cs : List (Str × Addr)} : ∀ {cl : List (Str × Addr)}, CellsIn cl cs → cl.lookup x = some c → cs.lookup x = some c
  | (y, d) :: r, h, q => by
    rw [List.lookup_cons] at q
    cases hb : x == y with
    | true => rw [hb] at q; cases q; rw [beq_iff_eq.mp hb]; exact h.1
    | false => rw [hb] at q; exact CellsIn.look h.2 q
abbrev CompP := Nat → Heap → List Value → Prop
/-- the names that a comprehension sees through cells are as they were -/
def Caught (cl : List (Str × Addr)) (m mc : Str → Option Value) : Prop := ∀ x, (cl.lookup x).isSome = true → mc x = m x
theorem Caught.set {cl : List (Str × Addr)} {m mc : Str → Option Value} {k : Str} {v : Option Value} (x : Caught cl m mc) (hk : (cl.lookup k).isSome = false) : Caught cl m (fun y => if y = k then v else mc y) := fun y hy => by
  have : y ≠ k := fun e => by rw [e, hk] at hy; cases hy
  simp only [this, if_false]; exact x y hy

structure CompTurn (prog : Program) (w : World) (A : Around) (env : Env) (scope : Scope) (cl : List (Str × Addr)) (m : Str → Option Value) (led : List (Addr × Obj)) (target elt : Expr) (ifs : List Expr) (n : Nat) (Pv : Nat → Value → Prop) (P : CompP) : Prop where
  turn : ∀ i v C mc led' g ys h, i < n → Pv i v → P i g ys → (∀ p ∈ led, p ∈ led') → Loc g C cl mc led' h → Caught cl m mc →
    Ev (model prog w) A (assign target (compEnvC scope cl C env) v) h (fun _ h₁ => Ev (model prog w) A (testsOf ifs (compEnvC scope cl C env)) h₁ (fun ok h₂ =>
      if ok = true then Ev (model prog w) A (eval elt (compEnvC scope cl C env)) h₂ (fun y h₃ => ∃ g' mc', P (i + 1) g' (ys ++ [y]) ∧ Loc g' C cl mc' led' h₃ ∧ Caught cl m mc') No
      else ∃ g' mc', P (i + 1) g' ys ∧ Loc g' C cl mc' led' h₂ ∧ Caught cl m mc') No) No

theorem comp_turn_end {P : Heap → Prop} {g h : Heap} {C : Addr} {cl : List (Str × Addr)} {m mc : Str → Option Value} {led' : List (Addr × Obj)} (F : Loc g C cl mc led' h) (hP : P g) (hc : Caught cl m mc) : ∃ g' mc', P g' ∧ Loc g' C cl mc' led' h ∧ Caught cl m mc' := ⟨g, mc, hP, F, hc⟩

section
variable {env : Env} {scope : Scope} {cl cs : List (Str × Addr)} {elt target iter : Expr} {ifs : List Expr} {pos : Pos} {I L : Addr} {fp : List Addr} {n : Nat} {Pv : Nat → Value → Prop} {St : Nat → Heap → Prop} {g h : Heap} {m : Str → Option Value} {led : List (Addr × Obj)} {o : Obj} {E : Value → Heap → Prop}

/-- all that a comprehension does, from its iterator on; U: what comes of the list (and the block's own names, still there) -/
theorem comp_core {U : Addr → Addr → Obj → Heap → Prop} (P : CompP) (W : Walks prog w A I fp [I] n Pv St) (live : ∀ i h, St i h → ∃ o, h.get? I = some o)
    (side : ∀ b ∈ fp, b = I ∨ ∃ ob, ∀ i g ys, P i g ys → (g.get? b = some ob ∨ (b, ob) ∈ led))
    (go : ∀ i v s Q E, St i s.heap → Q () s → wpAny (model prog w) A (letOwnedTupleGo target (.ref I) v) Q E s)
    (hcl : ∀ x c, cl.lookup x = some c → cs.lookup x = some c) (hcell : (scope.names.all fun x => x.2 != .cell) = true) (hkind : scope.kind = .function)
    (F : Loc g L cs m ((I, o) :: led) h) (hst : St 0 h) (h0 : P 0 g []) (T : CompTurn prog w A env scope cl m led target elt ifs n Pv P) (hsz : n ≤ sizeLine)
    (done : ∀ g ys D C oC k h, P n g ys → Loc g L cs m ((D, listO ys k) :: (C, oC) :: led) h → (∃ mc, h.Ns C mc) → U D C oC h)
    (s : Shared) (hs : s.heap = h) {E' : Value → Shared → Prop} :
    wpAny (model prog w) A (newList []) (fun acc s₃ => wpAny (model prog w) A (newFunctionEnv scope env.globals cl [] env.qual none .none (some env)) (fun cenv s₄ =>
      codeAny (model prog w) A (.compStart (.ListComp elt [⟨target, iter, ifs, 0⟩] scope pos) 0 (.ref I) acc { cenv with scope := relabel scope env })
        (fun r s' => r = .ok .next ∧ Same s s' ∧ ∃ D oC, acc = .ref D ∧ U D cenv.locals oC s'.heap) s₄) E' s₃) E' s := by
  subst hs
  refine wpAny_newObj_type (wpAny_newFunctionEnv (fun x hx => by have := List.all_eq_true.mp hcell x hx; simpa using this) (by intro y hy; simp at hy) (fun h₁ hns₁ hsb₁ => ?_) hkind)
  dsimp only at hns₁ hsb₁ ⊢
  have F1 := F.new ({ cls := .type "list", dict := none, data := .seq ([] : List Value).toArray } : Obj)
  have F2 := F1.new ({ cls := .type "dict", data := .dict #[] } : Obj)
  generalize hH2 : s.heap.push ({ cls := .type "list", dict := none, data := .seq ([] : List Value).toArray } : Obj) = H2 at hns₁ hsb₁ F1 F2 ⊢
  have hD : s.heap.objs.size = H2.objs.size - 1 := by rw [← hH2, Heap.size_push]; rfl
  generalize hDD : s.heap.objs.size = D at F1 F2 ⊢
  generalize hCC : H2.objs.size = C at F2 hns₁ hsb₁ ⊢
  -- the frame of the block's own
  obtain ⟨oC, hoC⟩ : ∃ oC, h₁.get? C = some oC := let ⟨oC, _, _, q, _⟩ := hns₁; ⟨oC, q⟩
  have F3 : Loc g L cs m ((C, oC) :: (D, listO [] 0) :: (I, o) :: led) h₁ := F2.putE .head hsb₁.extBut hoC
  obtain ⟨rest, r1, r2, r3⟩ := cells_rest (cl := cl) F3
  obtain ⟨oL, hoL⟩ := F3.lt
  -- seen from within
  have In : Loc g C cl (fun y => if (cl.lookup y).isSome then m y else none) ((L, oL) :: (D, listO [] 0) :: (I, o) :: (led ++ rest)) h₁ := by
    have gC : g.get? C = none := (F3.led _ (.head _)).2.2
    have mem3 : ∀ p ∈ (D, listO [] 0) :: (I, o) :: led, h₁.get? p.1 = some p.2 ∧ p.1 ≠ L ∧ g.get? p.1 = none ∧ p.1 ≠ C := fun p hp => by
      have q := F3.led p (.tail _ hp)
      refine ⟨q.1, q.2.1, q.2.2, fun e => ?_⟩
      have nd := F3.nd
      simp only [List.map_cons (f := fun x : Addr × Obj => x.1) (a := (C, oC)), List.nodup_cons] at nd
      exact nd.1 (List.mem_map.mpr ⟨p, hp, e⟩)
    have memR : ∀ p ∈ rest, h₁.get? p.1 = some p.2 ∧ p.1 ≠ L ∧ g.get? p.1 = none ∧ p.1 ≠ C ∧ ∀ q ∈ (D, listO [] 0) :: (I, o) :: led, q.1 ≠ p.1 := fun p hp => by
      obtain ⟨h1, x, hx, _⟩ := r1 p hp
      have c := F3.cnew x p.1 hx
      exact ⟨h1, c.1, c.2.1, fun e => c.2.2 (C, oC) (.head _) e.symm, fun q hq => c.2.2 q (.tail _ hq)⟩
    refine ⟨F3.sub, ⟨_, hns₁, fun x q => by simp [q]⟩, gC, fun p hp => ?_, ?_, fun x c q => ?_, fun x y c h1 h2 => F3.capart x y c (hcl x c h1) (hcl y c h2), fun x c q => ?_⟩
    · rcases List.mem_cons.mp hp with rfl | hp
      · exact ⟨hoL, fun e => (F3.led _ (.head _)).2.1 e.symm, F3.gL⟩
      · rw [← List.cons_append, ← List.cons_append] at hp
        rcases List.mem_append.mp hp with hp | hp
        · exact ⟨(mem3 p hp).1, (mem3 p hp).2.2.2, (mem3 p hp).2.2.1⟩
        · exact ⟨(memR p hp).1, (memR p hp).2.2.2.1, (memR p hp).2.2.1⟩
    · rw [← List.cons_append, ← List.cons_append]
      simp only [List.map_cons (f := fun x : Addr × Obj => x.1) (a := (L, oL)), List.nodup_cons]
      refine ⟨fun q => ?_, ?_⟩
      · obtain ⟨p, hp, e⟩ := List.mem_map.mp q
        rcases List.mem_append.mp hp with hp | hp
        · exact (mem3 p hp).2.1 e
        · exact (memR p hp).2.1 e
      · rw [List.map_append]
        refine List.nodup_append.mpr ⟨?_, r3, fun a ha b hb e => ?_⟩
        · have nd := F3.nd
          simp only [List.map_cons (f := fun x : Addr × Obj => x.1) (a := (C, oC)), List.nodup_cons] at nd
          exact nd.2
        · obtain ⟨p, hp, rfl⟩ := List.mem_map.mp ha
          obtain ⟨q, hq, rfl⟩ := List.mem_map.mp hb
          exact (memR q hq).2.2.2.2 p hp e
    · have : (cl.lookup x).isSome = true := by rw [q]; rfl
      simp only [this, if_true]
      exact F3.cell x c (hcl x c q)
    · have c3 := F3.cnew x c (hcl x c q)
      refine ⟨fun e => c3.2.2 (C, oC) (.head _) e.symm, c3.2.1, fun p hp => ?_⟩
      rcases List.mem_cons.mp hp with rfl | hp
      · exact c3.1.symm
      · rw [← List.cons_append, ← List.cons_append] at hp
        rcases List.mem_append.mp hp with hp | hp
        · exact c3.2.2 p (.tail _ hp)
        · intro e
          obtain ⟨_, y, hy, hn⟩ := r1 p hp
          have := F3.capart x y c (hcl x c q) (e ▸ hy)
          rw [← this, q] at hn; cases hn
  have st₁ : St 0 h₁ := by
    refine W.frame _ _ _ hst fun b hb x e => ?_
    rcases side b hb with rfl | ⟨ob, hob⟩
    · have := F.get (.head _); rw [e] at this; rw [Option.some.inj this]; exact F3.get (.tail _ (.tail _ (.head _)))
    · have old : s.heap.get? b = some ob := (hob _ _ _ h0).elim (fun q => F.sub _ _ q) fun q => F.get (.tail _ q)
      rw [old] at e; rw [← Option.some.inj e]
      exact (hob _ _ _ h0).elim (fun q => F3.sub _ _ q) fun q => F3.get (.tail _ (.tail _ (.tail _ q)))
  have keyd : ∀ s₄ : Shared, s₄ = { s with heap := h₁, toks := s.toks + ([] : List (Str × Value)).length } →
      codeAny (model prog w) A (.compLoop (.ListComp elt [⟨target, iter, ifs, 0⟩] scope pos) 0 (.ref I) (.ref D) (compEnvC scope cl C env))
        (fun r s' => r = .ok .next ∧ Same s s' ∧ ∃ D' oC, Value.ref D = .ref D' ∧ U D' C oC s'.heap) s₄ := by
    rintro s₄ rfl
    refine compLoop_any (fun k s' => ∃ i g mc ys e oI, Same s s' ∧ St i s'.heap ∧ P i g ys ∧ Loc g C cl mc ((L, oL) :: (D, listO ys e) :: (I, oI) :: (led ++ rest)) s'.heap ∧ Caught cl m mc ∧ i ≤ n ∧ ys.length ≤ i ∧ k = n + 1 - i) ?_ (n + 1)
      ⟨0, g, _, [], 0, o, Same.mk' s _ _, st₁, h0, In, fun x hx => by simp only [hx, if_true], Nat.zero_le _, Nat.le_refl _, rfl⟩
    rintro k s' ⟨i, g, mc, ys, e, oI, sm, sti, hP, F, hca, hi, hys, rfl⟩
    by_cases hlt : i < n
    · refine W.item i _ _ _ hlt sti fun v h₂ tk₂ hv st₂ hk₂ => ?_
      obtain ⟨o₂, ho₂⟩ := live _ _ st₂
      have F₂ : Loc g C cl mc ((L, oL) :: (D, listO ys e) :: (I, o₂) :: (led ++ rest)) h₂ := F.putE (.tail (.tail .head)) (fun b x hb e => hk₂ b x (by simpa using hb) e) ho₂
      refine go (i + 1) v _ _ _ st₂ ?_
      refine (T.turn i v C mc _ g ys h₂ hlt hv hP (fun p hp => .tail _ (.tail _ (.tail _ (List.mem_append_left _ hp)))) F₂ hca).use0 rfl (sm.trans (Same.mk' s' h₂ tk₂)) fun _ s₃ m₃ k₃ => ?_
      refine k₃.use0 rfl m₃ fun ok s₅ m₅ q => ?_
      have stN : ∀ {g' mc' h' ys' e'}, P (i + 1) g' ys' → Loc g' C cl mc' ((L, oL) :: (D, listO ys' e') :: (I, o₂) :: (led ++ rest)) h' → St (i + 1) h' := fun {g' mc' h' ys' e'} hP' F' => by
        refine W.frame _ _ _ st₂ fun b hb x e => ?_
        rcases side b hb with rfl | ⟨ob, hob⟩
        · rw [ho₂] at e; rw [← Option.some.inj e]; exact F'.get (.tail _ (.tail _ (.head _)))
        · have old : h₂.get? b = some ob := (hob _ _ _ hP).elim (fun q => F₂.sub _ _ q) fun q => F₂.get (.tail _ (.tail _ (.tail _ (List.mem_append_left _ q))))
          rw [old] at e; rw [← Option.some.inj e]
          exact (hob _ _ _ hP').elim (fun q => F'.sub _ _ q) fun q => F'.get (.tail _ (.tail _ (.tail _ (List.mem_append_left _ q))))
      cases ok with
      | false =>
        obtain ⟨g', mc', hP', F', hca'⟩ := q
        exact ⟨n + 1 - (i + 1), by omega, i + 1, g', mc', ys, e, o₂, m₅, stN hP' F', hP', F', hca', hlt, Nat.le_succ_of_le hys, rfl⟩
      | true =>
        have q : Ev (model prog w) A (eval elt (compEnvC scope cl C env)) s₅.heap (fun y h₃ => ∃ g' mc', P (i + 1) g' (ys ++ [y]) ∧ Loc g' C cl mc' ((L, oL) :: (D, listO ys e) :: (I, o₂) :: (led ++ rest)) h₃ ∧ Caught cl m mc') No := q
        refine q.use0 rfl m₅ fun y s₆ m₆ q₆ => ?_
        obtain ⟨g', mc', hP', F', hca'⟩ := q₆
        refine wpAny_list_append_plain (hsz := by simp; omega) ⟨e, F'.get (.tail _ (.head _))⟩ fun h₇ hl₇ hs₇ => ?_
        obtain ⟨e₇, hl₇⟩ := hl₇
        have F₇ : Loc g' C cl mc' ((L, oL) :: (D, listO (ys ++ [y]) e₇) :: (I, o₂) :: (led ++ rest)) h₇ := F'.put (.tail .head) hs₇ (by rw [hl₇]; simp)
        refine ⟨n + 1 - (i + 1), by omega, i + 1, g', mc', ys ++ [y], e₇, o₂, m₆.trans (Same.mk' s₆ h₇ s₆.toks), stN hP' F₇, hP', F₇, hca', hlt, by simp; omega, rfl⟩
    · have : i = n := by omega
      subst this
      refine W.done _ _ _ sti fun h₂ tk₂ hk₂ => ⟨rfl, sm.trans (Same.mk' s' h₂ tk₂), ?_⟩
      have F₂ : ∃ _x : Obj, Loc g C cl mc ((L, oL) :: (D, listO ys e) :: (led ++ rest)) h₂ := by
        have Fd : Loc g C cl mc ((I, oI) :: (L, oL) :: (D, listO ys e) :: (led ++ rest)) s'.heap := F.only (fun p hp => by
          rcases List.mem_cons.mp hp with rfl | hp
          · exact .tail _ (.tail _ (.head _))
          · rcases List.mem_cons.mp hp with rfl | hp
            · exact .head _
            · rcases List.mem_cons.mp hp with rfl | hp
              · exact .tail _ (.head _)
              · exact .tail _ (.tail _ (.tail _ hp))) (by
          have nd := F.nd
          simp only [List.map_cons, List.nodup_cons, List.mem_cons, not_or] at nd ⊢
          obtain ⟨⟨a1, a2, a3⟩, ⟨b1, b2⟩, c1, d1⟩ := nd
          exact ⟨⟨fun e => a2 e.symm, fun e => b1 e.symm, c1⟩, ⟨a1, a3⟩, b2, d1⟩)
        exact ⟨oI, Fd.extDrop fun b x hb e => hk₂ b x (by simpa using hb) e⟩
      obtain ⟨_, F₂⟩ := F₂
      obtain ⟨oC₂, hoC₂⟩ := F₂.lt
      refine ⟨D, oC₂, rfl, done g ys D C oC₂ e h₂ hP ?_ (let ⟨m₀, q, _⟩ := F₂.ns; ⟨m₀, q⟩)⟩
      -- seen from without again
      have hLo := F₂.get (.head _)
      have gL := (F₂.led _ (.head _)).2.2
      have inl : ∀ p ∈ led, p ∈ (L, oL) :: (D, listO ys e) :: (led ++ rest) := fun p hp => .tail _ (.tail _ (List.mem_append_left _ hp))
      have inr : ∀ p ∈ rest, p ∈ (L, oL) :: (D, listO ys e) :: (led ++ rest) := fun p hp => .tail _ (.tail _ (List.mem_append_right _ hp))
      have nd := F₂.nd
      simp only [List.map_cons, List.map_append, List.nodup_cons, List.mem_cons, not_or, List.mem_append, List.nodup_append] at nd
      obtain ⟨⟨nLD, nLl, nLr⟩, ⟨nDl, nDr⟩, ndl, ndr, ndlr⟩ := nd
      have cellO : ∀ x c, cs.lookup x = some c → (∃ oc, h₂.get? c = some oc ∧ oc.data = .cell (m x)) ∧ c ≠ L ∧ g.get? c = none ∧ c ≠ D ∧ c ≠ C ∧ ∀ p ∈ led, p.1 ≠ c := fun x c hc => by
        cases hl : cl.lookup x with
        | some d =>
          have hd := hcl x d hl
          rw [hc] at hd; cases hd
          obtain ⟨oc, h1, h2⟩ := F₂.cell x c hl
          have n2 := F₂.cnew x c hl
          refine ⟨⟨oc, h1, by rw [h2, hca x (by rw [hl]; rfl)]⟩, Ne.symm (n2.2.2 _ (.head _)), n2.2.1, Ne.symm (n2.2.2 _ (.tail _ (.head _))), n2.1, fun p hp => n2.2.2 p (inl p hp)⟩
        | none =>
          obtain ⟨oc, hm⟩ := r2 x c hc hl
          have q := F₂.led _ (inr _ hm)
          obtain ⟨oc', h1', h2'⟩ := F3.cell x c hc
          have : oc' = oc := by have := (r1 _ hm).1; rw [h1'] at this; exact Option.some.inj this
          subst this
          refine ⟨⟨oc', q.1, h2'⟩, fun e => nLr (List.mem_map.mpr ⟨_, hm, e⟩), q.2.2, fun e => nDr (List.mem_map.mpr ⟨_, hm, e⟩), q.2.1, fun p hp e => ndlr _ (List.mem_map.mpr ⟨p, hp, rfl⟩) _ (List.mem_map.mpr ⟨_, hm, rfl⟩) e⟩
      have nsL : ∃ m₀, h₂.Ns L m₀ ∧ ∀ x, cs.lookup x = none → m₀ x = m x := by
        obtain ⟨m₀, ⟨ob, es, ep, q, r⟩, z⟩ := F3.ns
        rw [hoL] at q
        cases q
        exact ⟨m₀, ⟨_, es, ep, hLo, r⟩, z⟩
      have CL : C ≠ L := fun e => (F₂.led _ (.head _)).2.1 e.symm
      refine ⟨F₂.sub, nsL, gL, fun p hp => ?_, ?_, fun x c hc => let ⟨oc, h1, h2⟩ := (cellO x c hc).1; ⟨oc, h1, h2⟩, F3.capart, fun x c hc => ⟨(cellO x c hc).2.1, (cellO x c hc).2.2.1, fun p hp => ?_⟩⟩
      · rcases List.mem_cons.mp hp with rfl | hp
        · have q := F₂.led _ (.tail _ (.head _)); exact ⟨q.1, fun e => nLD e.symm, q.2.2⟩
        · rcases List.mem_cons.mp hp with rfl | hp
          · exact ⟨hoC₂, CL, F₂.gL⟩
          · have q := F₂.led _ (inl p hp); exact ⟨q.1, fun e => nLl (List.mem_map.mpr ⟨p, hp, e⟩), q.2.2⟩
      · simp only [List.map_cons, List.nodup_cons, List.mem_cons, not_or]
        refine ⟨⟨(F₂.led _ (.tail _ (.head _))).2.1, nDl⟩, fun q => ?_, ndl⟩
        obtain ⟨p, hp, e⟩ := List.mem_map.mp q
        exact (F₂.led _ (inl p hp)).2.1 e
      · rcases List.mem_cons.mp hp with rfl | hp
        · exact (cellO x c hc).2.2.2.1.symm
        · rcases List.mem_cons.mp hp with rfl | hp
          · exact (cellO x c hc).2.2.2.2.1.symm
          · exact (cellO x c hc).2.2.2.2.2 p hp
  refine codeAny_compStart_list (keyd _ rfl) (W.self 0 _ _ _ st₁ ?_)
  exact keyd _ rfl

/-- what a comprehension wants behind its iterator -/
structure CompAt (prog : Program) (w : World) (A : Around) (env : Env) (scope : Scope) (cl : List (Str × Addr)) (elt target iter : Expr) (ifs : List Expr) (pos : Pos) (it : Value) (h : Heap) (U : Addr → Addr → Obj → Heap → Prop) : Prop where
  run : ∀ (s : Shared) (E' : Value → Shared → Prop), s.heap = h → wpAny (model prog w) A (newList []) (fun acc s₃ => wpAny (model prog w) A (newFunctionEnv scope env.globals cl [] env.qual none .none (some env)) (fun cenv s₄ =>
      codeAny (model prog w) A (.compStart (.ListComp elt [⟨target, iter, ifs, 0⟩] scope pos) 0 it acc { cenv with scope := relabel scope env })
        (fun r s' => r = .ok .next ∧ Same s s' ∧ ∃ D oC, acc = .ref D ∧ U D cenv.locals oC s'.heap) s₄) E' s₃) E' s

def plainU (Q : Value → Heap → Prop) (D C : Addr) (oC : Obj) (h : Heap) : Prop := (∃ mc, h.Ns C mc) ∧ ∀ h', Heap.SameBut C h h' → Q (.ref D) h'

theorem ListComp_ {Q : Value → Heap → Prop} (hclos : closureFor scope env = pure cl) (hnames : (scope.names.all fun x => !(x.2 == .local) || scope.names.lookup x.1 == some .local) = true) (hkind : scope.kind = .function)
    (k : Ev (model prog w) A (eval iter env) h (fun xv h₁ => Ev (model prog w) A (pyIter xv) h₁ (fun it h₂ => CompAt prog w A env scope cl elt target iter ifs pos it h₂ (plainU Q)) E) E)
    (hs : ∀ x, foldedSetIterable iter env x = pure x := by intro _; rfl) : Ev (model prog w) A (eval (.ListComp elt [⟨target, iter, ifs, 0⟩] scope pos) env) h Q E := .mk fun s hs' => by
  rw [eval_ListComp]
  refine wpAny_comprehension_free (use := none) rfl hs hclos hkind (fun x hx hl => by have := List.all_eq_true.mp hnames x hx; simpa [hl] using this) (k.use hs' (.refl s) fun xv s₁ m₁ k₁ => k₁.use rfl m₁ fun it s₂ m₂ k₂ => ?_)
  refine wpAny_mono (k₂.run s₂ (fun e s' => Same s s' ∧ E e s'.heap) rfl) (fun acc s₃ h₃ => wpAny_mono h₃ (fun cenv s₄ h₄ => codeAny_mono h₄ fun r s' q => ?_) fun _ _ e => e) fun _ _ e => e
  obtain ⟨rfl, sm, D, oC, rfl, ⟨mc, hn⟩, q⟩ := q
  exact ⟨mc, hn, fun h' hs'' => ⟨(m₂.trans sm).trans (Same.mk' s' h' s'.toks), q h' hs''⟩⟩

theorem Assign_ListComp {y : Str} {py spos : Pos} {Q : Flow → Heap → Prop} (hsw : swapsWith (.ListComp elt [⟨target, iter, ifs, 0⟩] scope pos) (some (.Name y py)) spos.line env = pure true)
    (hclos : closureFor scope env = pure cl) (hnames : (scope.names.all fun x => !(x.2 == .local) || scope.names.lookup x.1 == some .local) = true) (hkind : scope.kind = .function)
    (k : Ev (model prog w) A (eval iter env) h (fun xv h₁ => Ev (model prog w) A (pyIter xv) h₁ (fun it h₂ => CompAt prog w A env scope cl elt target iter ifs pos it h₂ (fun D C oC h₃ =>
      Ev (model prog w) A (assign (.Name y py) env (.ref D)) h₃ (fun _ h₄ => (∃ mc, h₄.Ns C mc) ∧ ∀ h', Heap.SameBut C h₄ h' → Q .next h') No)) E) E)
    (hs : ∀ x, foldedSetIterable iter env x = pure x := by intro _; rfl) : Ev (model prog w) A (exec (.Assign [.Name y py] (.ListComp elt [⟨target, iter, ifs, 0⟩] scope pos) spos) env) h Q E := .mk fun s hs' => by
  rw [exec_Assign_Name_used _ _ _ _ hsw]
  refine wpAny_bind (wpAny_standAt (wpAny_bind ?_))
  show wpAny _ A (do let _ ← comprehension (.ListComp elt [⟨target, iter, ifs, 0⟩] scope pos) scope env _ (newList []) false (eval iter env) (some (assign (.Name y py) env))) _ _ s
  refine wpAny_bind (wpAny_mono (wpAny_comprehension_free (use := some (assign (.Name y py) env)) (Q := fun _ s' => Same s s' ∧ Q .next s'.heap) rfl hs hclos hkind (fun x hx hl => by have := List.all_eq_true.mp hnames x hx; simpa [hl] using this)
    (k.use hs' (.refl s) fun xv s₁ m₁ k₁ => k₁.use rfl m₁ fun it s₂ m₂ k₂ => ?_)) (fun _ s' hq => wpAny_pure (wpAny_pure hq)) fun _ _ e => e)
  refine wpAny_mono (k₂.run s₂ (fun e s' => Same s s' ∧ E e s'.heap) rfl) (fun acc s₃ h₃ => wpAny_mono h₃ (fun cenv s₄ h₄ => codeAny_mono h₄ fun r s' q => ?_) fun _ _ e => e) fun _ _ e => e
  obtain ⟨rfl, sm, D, oC, rfl, q⟩ := q
  refine q.use0 rfl (m₂.trans sm) fun _ s₅ m₅ q₅ => ?_
  obtain ⟨⟨mc, hn⟩, q₅⟩ := q₅
  exact ⟨mc, hn, fun h' hs'' => ⟨m₅.trans (Same.mk' s₅ h' s₅.toks), q₅ h' hs''⟩⟩

theorem Loc.dropC {C : Addr} {oC : Obj} {p : Addr × Obj} (F : Loc g L cs m (p :: (C, oC) :: led) h) {h' : Heap} (hs : Heap.SameBut C h h') : Loc g L cs m (p :: led) h' := by
  have Fd : Loc g L cs m ((C, oC) :: p :: led) h := F.only (fun q hq => by
    rcases List.mem_cons.mp hq with rfl | hq
    · exact .tail _ (.head _)
    · rcases List.mem_cons.mp hq with rfl | hq
      · exact .head _
      · exact .tail _ (.tail _ hq)) (by
    have nd := F.nd
    simp only [List.map_cons, List.nodup_cons, List.mem_cons, not_or] at nd ⊢
    exact ⟨⟨fun e => nd.1.1 e.symm, nd.2.1⟩, nd.1.2, nd.2.2⟩)
  exact Fd.extDrop hs.extBut

/-- a comprehension over a list that stands -/
theorem comp_list {Q : Value → Heap → Prop} {ax : Addr} {oa : Obj} {vs : List Value} (P : CompP) (hh : A.handled = none) (hl : IsL oa vs) (F : Loc g L cs m led h) (side : ∀ i g ys, P i g ys → ListAt ax oa g led) (h0 : P 0 g [])
    (T : CompTurn prog w A env scope cl m led target elt ifs vs.length (fun i v => vs[i]? = some v) P)
    (done : ∀ g ys D k h, P vs.length g ys → Loc g L cs m ((D, listO ys k) :: led) h → Q (.ref D) h)
    (hcl : CellsIn cl cs) (hcell : (scope.names.all fun x => x.2 != .cell) = true) (hkind : scope.kind = .function) (hsz : vs.length ≤ sizeLine) :
    Ev (model prog w) A (pyIter (.ref ax)) h (fun it h₂ => CompAt prog w A env scope cl elt target iter ifs pos it h₂ (plainU Q)) E := .mk fun s hs => by
  subst hs
  have hax := (side _ _ _ h0).get F
  have hne : ax ≠ s.heap.objs.size := Nat.ne_of_lt (Heap.lt_size hax)
  refine wpAny_pyIter_list (hl.isList hax) ⟨rfl, ⟨fun s' E' hs' => ?_⟩⟩
  refine comp_core P (Walks.list hh s.heap.objs.size ax hne vs.toArray) (fun i h x => let ⟨o, ho, _⟩ := x.1; ⟨o, ho⟩) (fun b hb => ?_) (fun i v s Q E st q => go_list st.1 q) (fun _ _ z => hcl.look z) hcell hkind (F.new _)
    ⟨⟨_, Heap.get?_push_size _ rfl, rfl, rfl⟩, (hl.isList hax).push _⟩ h0 ?_ (by simpa using hsz) (fun g ys D C oC k h hP F hn => ⟨hn, fun h' hs' => done g ys D k h' (by simpa using hP) (F.dropC hs')⟩) s' hs'
  · rcases List.mem_cons.mp hb with rfl | hb
    · exact .inl rfl
    · exact .inr ⟨oa, fun i g ys hP => by rw [List.mem_singleton.mp hb]; exact side i g ys hP⟩
  · refine ⟨fun i v C mc led' g ys h hi hv => T.turn i v C mc led' g ys h (by simpa using hi) (by simpa using hv)⟩

theorem comp_listA {Q : Flow → Heap → Prop} {y : Str} {py : Pos} {ax : Addr} {oa : Obj} {vs : List Value} (P : CompP) (hh : A.handled = none) (hl : IsL oa vs) (F : Loc g L cs m led h) (side : ∀ i g ys, P i g ys → ListAt ax oa g led) (h0 : P 0 g [])
    (T : CompTurn prog w A env scope cl m led target elt ifs vs.length (fun i v => vs[i]? = some v) P)
    (done : ∀ g ys D k h, P vs.length g ys → Loc g L cs (fun z => if z = y then some (.ref D) else m z) ((D, listO ys k) :: led) h → Q .next h)
    (hcl : CellsIn cl cs) (hcell : (scope.names.all fun x => x.2 != .cell) = true) (hkind : scope.kind = .function) (hsz : vs.length ≤ sizeLine)
    (hL : env.locals = L := by rfl) (hk : env.scope.kind = .function := by rfl) (hly : env.kindOf y = some .local := by rfl) (hc : cs.lookup y = none := by rfl) :
    Ev (model prog w) A (pyIter (.ref ax)) h (fun it h₂ => CompAt prog w A env scope cl elt target iter ifs pos it h₂ (fun D C oC h₃ =>
      Ev (model prog w) A (assign (.Name y py) env (.ref D)) h₃ (fun _ h₄ => (∃ mc, h₄.Ns C mc) ∧ ∀ h', Heap.SameBut C h₄ h' → Q .next h') No)) E := .mk fun s hs => by
  subst hs
  have hax := (side _ _ _ h0).get F
  have hne : ax ≠ s.heap.objs.size := Nat.ne_of_lt (Heap.lt_size hax)
  refine wpAny_pyIter_list (hl.isList hax) ⟨rfl, ⟨fun s' E' hs' => ?_⟩⟩
  refine comp_core (U := fun D C _ h₃ => Ev (model prog w) A (assign (.Name y py) env (.ref D)) h₃ (fun _ h₄ => (∃ mc, h₄.Ns C mc) ∧ ∀ h', Heap.SameBut C h₄ h' → Q .next h') No) P (Walks.list hh s.heap.objs.size ax hne vs.toArray) (fun i h x => let ⟨o, ho, _⟩ := x.1; ⟨o, ho⟩) (fun b hb => ?_) (fun i v s Q E st q => go_list st.1 q) (fun _ _ z => hcl.look z) hcell hkind (F.new _)
    ⟨⟨_, Heap.get?_push_size _ rfl, rfl, rfl⟩, (hl.isList hax).push _⟩ h0 ?_ (by simpa using hsz) (fun g ys D C oC k h hP F hn => ?_) s' hs'
  · rcases List.mem_cons.mp hb with rfl | hb
    · exact .inl rfl
    · exact .inr ⟨oa, fun i g ys hP => by rw [List.mem_singleton.mp hb]; exact side i g ys hP⟩
  · refine ⟨fun i v C mc led' g ys h hi hv => T.turn i v C mc led' g ys h (by simpa using hi) (by simpa using hv)⟩
  · refine assign_L F (fun h₄ F₄ => ⟨?_, fun h' hs' => done g ys D k h' (by simpa using hP) (F₄.dropC hs')⟩) hL hk hly hc
    obtain ⟨mc, ob, es, ep, q, r⟩ := hn
    have e1 := F.get (.tail _ (.head _))
    rw [q] at e1
    exact ⟨mc, ob, es, ep, by rw [Option.some.inj e1]; exact F₄.get (.tail _ (.head _)), r⟩

/-- a comprehension over a range by ones or more -/
theorem comp_range {Q : Value → Heap → Prop} {r : Addr} {a b c : Int} {t u v : Tok} {n : Nat} (P : CompP) (hh : A.handled = none) (hr : IsRange h r a b c t u v) (hsmall : Builtin.Range.small a b c = true) (hn : Builtin.Range.rangeSize a b c = (n : Int)) (F : Loc g L cs m led h) (h0 : P 0 g [])
    (T : CompTurn prog w A env scope cl m led target elt ifs n (fun i v => ∃ t, v = .int (a + i * c) t) P)
    (done : ∀ g ys D k h, P n g ys → Loc g L cs m ((D, listO ys k) :: led) h → Q (.ref D) h) (htn : ∃ x p, target = .Name x p)
    (hcl : CellsIn cl cs) (hcell : (scope.names.all fun x => x.2 != .cell) = true) (hkind : scope.kind = .function) (hsz : n ≤ sizeLine) :
    Ev (model prog w) A (pyIter (.ref r)) h (fun it h₂ => CompAt prog w A env scope cl elt target iter ifs pos it h₂ (plainU Q)) E := .mk fun s hs => by
  subst hs
  obtain ⟨x, p, rfl⟩ := htn
  refine wpAny_pyIter_range hr hsmall ⟨rfl, ⟨fun s' E' hs' => ?_⟩⟩
  refine comp_core P (Walks.range hh s.heap.objs.size a c n) (fun i h x => ⟨_, x⟩) (fun b hb => .inl (List.mem_singleton.mp hb)) (fun i v s Q E st q => go_name q) (fun _ _ z => hcl.look z) hcell hkind (F.new _)
    ?_ h0 T hsz (fun g ys D C oC k h hP F hn => ⟨hn, fun h' hs' => done g ys D k h' hP (F.dropC hs')⟩) s' hs'
  show (s.heap.push _).get? s.heap.objs.size = _
  rw [Heap.get?_push_size _ rfl, hn]
  simp
end
end

/-- heap h reads datum d at v -/
def Rd (h : Heap) (v : Value) (d : PyData) : Prop := ∃ as, Reads h v d as
def RdAll (h : Heap) (vs : List Value) (ds : List PyData) : Prop := ∃ as, ReadsAll h vs ds as
theorem Rd.keep {h h' : Heap} {v : Value} {d : PyData} (x : Rd h v d) (e : Sub h h') : Rd h' v d := let ⟨as, r⟩ := x; ⟨as, PyProof.Rows.Reads.keeps e r⟩
theorem RdAll.keep {h h' : Heap} {vs : List Value} {ds : List PyData} (x : RdAll h vs ds) (e : Sub h h') : RdAll h' vs ds := let ⟨as, r⟩ := x; ⟨as, PyProof.Rows.ReadsAll.keeps e r⟩
theorem rd_none {h : Heap} : Rd h .none .none := ⟨_, .none⟩
theorem rd_bool {h : Heap} {b : Bool} : Rd h (.bool b) (.bool b) := ⟨_, .bool b⟩
theorem rd_int {h : Heap} {i : Int} {t : Tok} : Rd h (.int i t) (.int i) := ⟨_, .int i t⟩
theorem rd_str {h : Heap} {x : Str} {t : Tok} : Rd h (.str x t) (.str x) := ⟨_, .str x t⟩
theorem RdAll.nil {h : Heap} : RdAll h [] [] := ⟨_, .nil⟩
theorem RdAll.cons {h : Heap} {v : Value} {d : PyData} {vs : List Value} {ds : List PyData} (x : Rd h v d) (y : RdAll h vs ds) : RdAll h (v :: vs) (d :: ds) := let ⟨_, a⟩ := x; let ⟨_, b⟩ := y; ⟨_, .cons a b⟩
theorem rd_list {h : Heap} {a : Addr} {o : Obj} {vs : List Value} {ds : List PyData} (ho : h.get? a = some o) (hl : IsL o vs) (r : RdAll h vs ds) : Rd h (.ref a) (.list ds) :=
  let ⟨as, r⟩ := r; let ⟨n, hd⟩ := hl.2; ⟨_, .list ho hl.1 hd (by simpa using r)⟩
abbrev tupO (vs : List Value) (n : Nat) : Obj := { cls := .type "tuple", data := .seq vs.toArray n }
theorem rd_tuple {h : Heap} {a : Addr} {n : Nat} {vs : List Value} {ds : List PyData} (ho : h.get? a = some (tupO vs n)) (r : RdAll h vs ds) : Rd h (.ref a) (.tuple ds) :=
  let ⟨as, r⟩ := r; ⟨_, .tuple ho rfl rfl (by simpa using r)⟩
theorem RdAll.snoc {h : Heap} {v : Value} {d : PyData} : ∀ {vs : List Value} {ds : List PyData}, RdAll h vs ds → Rd h v d → RdAll h (vs ++ [v]) (ds ++ [d])
  | [], [], _, y => .cons y .nil
  | [], _ :: _, ⟨_, r⟩, _ => by cases r
  | _ :: _, [], ⟨_, r⟩, _ => by cases r
  | u :: vs, e :: ds, ⟨_, r⟩, y => by
    cases r with
    | cons a b => exact .cons ⟨_, a⟩ (RdAll.snoc ⟨_, b⟩ y)
theorem RdAll.length {h : Heap} : ∀ {vs : List Value} {ds : List PyData}, RdAll h vs ds → vs.length = ds.length
  | [], [], _ => rfl
  | [], _ :: _, ⟨_, r⟩ => by cases r
  | _ :: _, [], ⟨_, r⟩ => by cases r
  | u :: vs, e :: ds, ⟨_, r⟩ => by
    cases r with
    | cons a b => simp [RdAll.length ⟨_, b⟩]
theorem RdAll.get {h : Heap} {v : Value} : ∀ {vs : List Value} {ds : List PyData} {i : Nat}, RdAll h vs ds → vs[i]? = some v → ∃ d, ds[i]? = some d ∧ Rd h v d
  | [], _, _, _, q => by simp at q
  | _ :: _, [], _, ⟨_, r⟩, _ => by cases r
  | u :: vs, e :: ds, i, ⟨_, r⟩, q => by
    cases r with
    | cons a b =>
      cases i with
      | zero => simp at q; subst q; exact ⟨e, rfl, ⟨_, a⟩⟩
      | succ i => simpa using RdAll.get (i := i) ⟨_, b⟩ (by simpa using q)
theorem RdAll.append {h : Heap} : ∀ {vs us : List Value} {ds es : List PyData}, RdAll h vs ds → RdAll h us es → RdAll h (vs ++ us) (ds ++ es)
  | [], _, [], _, _, y => y
  | [], _, _ :: _, _, ⟨_, r⟩, _ => by cases r
  | _ :: _, _, [], _, ⟨_, r⟩, _ => by cases r
  | u :: vs, us, e :: ds, es, ⟨_, r⟩, y => by
    cases r with
    | cons a b => exact .cons ⟨_, a⟩ (RdAll.append ⟨_, b⟩ y)
theorem Rd.tup {h : Heap} {v : Value} {ds : List PyData} (x : Rd h v (.tuple ds)) : ∃ a o vs n, v = .ref a ∧ h.get? a = some o ∧ o.cls = .type "tuple" ∧ o.data = .seq vs n ∧ RdAll h vs.toList ds := by
  obtain ⟨as, r⟩ := x
  cases r with
  | tuple h1 h2 h3 h4 => exact ⟨_, _, _, _, rfl, h1, h2, h3, _, h4⟩
theorem Rd.lst {h : Heap} {v : Value} {ds : List PyData} (x : Rd h v (.list ds)) : ∃ a o vs, v = .ref a ∧ h.get? a = some o ∧ IsL o vs ∧ RdAll h vs ds := by
  obtain ⟨as, r⟩ := x
  cases r with
  | @list a o vs n xs as h1 h2 h3 h4 => exact ⟨_, _, vs.toList, rfl, h1, ⟨h2, n, by simpa using h3⟩, _, h4⟩
theorem RdAll.two {h : Heap} {vs : List Value} {x y : Str} (r : RdAll h vs [.str x, .str y]) : ∃ t u, vs = [.str x t, .str y u] := by
  obtain ⟨_, r⟩ := r
  cases r with
  | cons a b => cases b with
    | cons b c => cases c; cases a; cases b; exact ⟨_, _, rfl⟩
theorem Rd.st {h : Heap} {v : Value} {x : Str} (r : Rd h v (.str x)) : ∃ t, v = .str x t := by
  obtain ⟨as, r⟩ := r
  cases r with
  | str x t => exact ⟨t, rfl⟩
theorem Rd.inv_int {h : Heap} {v : Value} {x : Int} (r : Rd h v (.int x)) : ∃ t, v = .int x t := by
  obtain ⟨as, r⟩ := r
  cases r with
  | int x t => exact ⟨t, rfl⟩

section
variable {prog : Program} {w : World} {A : Around} {g h : Heap} {E : Value → Heap → Prop} {env : Env} {Q : Value → Heap → Prop} {L : Addr} {cs : List (Str × Addr)} {m : Str → Option Value} {led : List (Addr × Obj)} {t u : Tok} {x : Str}

theorem eEq {a b : Value} {da db : PyData} (ra : Rd h a da) (rb : Rd h b db) (ha : da.canLay0 = true) (hb : db.canLay0 = true) (hu : A.units + min da.depth db.depth < cLine) (k : Q (.bool (PyData.eqv da db)) h) : Ev (model prog w) A (compareOp .Eq a b) h Q E := .mk fun s hs => by
  subst hs; obtain ⟨_, ra⟩ := ra; obtain ⟨_, rb⟩ := rb
  exact PySem.SeqAt.compareEq_reads ra rb ha hb hu ⟨.refl s, k⟩
theorem eNe {a b : Value} {da db : PyData} (ra : Rd h a da) (rb : Rd h b db) (ha : da.canLay0 = true) (hb : db.canLay0 = true) (hu : A.units + min da.depth db.depth < cLine) (k : Q (.bool (!PyData.eqv da db)) h) : Ev (model prog w) A (compareOp .NotEq a b) h Q E := .mk fun s hs => by
  subst hs; obtain ⟨_, ra⟩ := ra; obtain ⟨_, rb⟩ := rb
  exact PySem.SeqAt.compareNe_reads ra rb ha hb hu ⟨.refl s, k⟩

theorem Sub_ {M : Model} {value slice : Expr} {pos : Pos} (k : Ev M A (eval value env) h (fun o h₁ => Ev M A (eval slice env) h₁ (fun i h₂ => Ev M A (subscriptTail value slice o i) h₂ Q E) E) E) : Ev M A (eval (.Subscript value slice pos) env) h Q E :=
  .mk fun s hs => Subscript_ (k.use hs (.refl s) fun _ _ m₁ k₁ => k₁.use rfl m₁ fun _ _ m₂ k₂ => k₂.use rfl m₂ fun _ _ m₃ q => ⟨m₃, q⟩)

theorem eItem_str {value slice : Expr} {i : Int} {c : Nat} (h0 : 0 ≤ i) (hc : x.cps[i.toNat]? = some c) (hl : x.length < 2 ^ 62) (k : ∀ tk, Q (.str ⟨#[c]⟩ tk) h)
    (hs : subscripted slice false (.str x t) (.int i u) = operate [.str x t, .int i u] (getItem (.str x t) (.int i u)) := by with_unfolding_all rfl) : Ev (model prog w) A (subscriptTail value slice (.str x t) (.int i u)) h Q E := .mk fun s hs' => by
  have hlt : i.toNat < x.cps.size := (Array.getElem?_eq_some_iff.mp hc).1
  have hl' : x.cps.size < 2 ^ 62 := hl
  refine tail_any (typeIs_str s x t) PySem.F.slot_str_getitem.lookup (PyProof.Rows.getItem_str (c := c) ?_ ?_ (fint (Q := Q) hs' (k _) _)) hs
  · have h1 : ¬ i < -(2 ^ 63 : Int) := by omega
    have h2 : ¬ i ≥ 2 ^ 63 := by omega
    rw [decide_eq_false h1, decide_eq_false h2]; rfl
  · have e : seqIndex? i x.length = some i.toNat := by
      unfold seqIndex?
      have h1 : ¬ i < 0 := by omega
      simp only [h1, if_false]
      have h2 : i < (x.length : Int) := by show i < (x.cps.size : Int); omega
      simp [h0, h2]
    rw [e]; exact hc
theorem eLen_str (hl : x.length < 2 ^ 62) (k : ∀ tk, Q (.int x.length tk) h) : Ev (model prog w) A (call (.builtin "len") [.str x t]) h Q E :=
  .mk fun s hs => PyProof.Rows.len_str (by omega) (fint (Q := Q) hs (k _) _)
theorem eLen_list {a : Addr} {o : Obj} {vs : List Value} (ho : h.get? a = some o) (hl : IsL o vs) (hn : vs.length < 2 ^ 62) (k : ∀ tk, Q (.int vs.length tk) h) : Ev (model prog w) A (call (.builtin "len") [.ref a]) h Q E :=
  .mk fun s hs => PyProof.Rows.len_list (hs ▸ hl.isList ho) (by simp; omega) (fint (Q := Q) hs (by simpa using k _) _)
/-- range(n) -/
theorem eRange1 {n : Int} (F : Loc g L cs m led h) (k : ∀ r h' t u v, IsRange h' r 0 n 1 t u v → Loc g L cs m led h' → Q (.ref r) h') : Ev (model prog w) A (call (.type "range") [.int n t]) h Q E :=
  .mk fun s hs => call_range_1 ⟨rfl, by subst hs; exact k _ _ _ _ _ (Heap.get?_push_size _ rfl) (F.new _).drop⟩
theorem eRange3 {a b c : Int} {t u v : Tok} (F : Loc g L cs m led h) (hc : c ≠ 0) (hc' : c.natAbs < 1073741824) (k : ∀ r h', IsRange h' r a b c t u v → Loc g L cs m led h' → Q (.ref r) h') : Ev (model prog w) A (call (.type "range") [.int a t, .int b u, .int c v]) h Q E :=
  .mk fun s hs => call_range_3 hc ⟨rfl, by subst hs; exact k _ _ (Heap.get?_push_size _ rfl) (F.new _).drop⟩ (.inl (PyProof.noPylong_small hc'))
/-- a list display -/
theorem List_e {elts : List Expr} {pos : Pos} (k : Ev (model prog w) A (spliced (backTo pos (starEach elts env))) h (fun vs h₁ => vs.length ≤ sizeLine ∧ ∃ g L cs m led, Loc g L cs m led h₁ ∧ ∀ D h', Loc g L cs m ((D, listO vs 0) :: led) h' → Q (.ref D) h') E) :
    Ev (model prog w) A (eval (.List elts pos) env) h Q E :=
  .mk fun s hs => wpAny_List (k.use hs (.refl s) fun vs s₁ m₁ ⟨hsz, g, L, cs, m, led, F, k₁⟩ => ⟨hsz, m₁.trans rfl, k₁ _ _ (F.new _)⟩)
theorem Tuple_e {elts : List Expr} {n : Nat} {pos : Pos} (k : Ev (model prog w) A (spliced (backTo pos (starEach elts env))) h (fun vs h₁ => vs.length ≤ sizeLine ∧ ∃ g L cs m led, Loc g L cs m led h₁ ∧ ∀ D h', Loc g L cs m ((D, tupO vs 0) :: led) h' → Q (.ref D) h') E) :
    Ev (model prog w) A (eval (.Tuple elts n pos) env) h Q E :=
  .mk fun s hs => wpAny_Tuple (k.use hs (.refl s) fun vs s₁ m₁ ⟨hsz, g, L, cs, m, led, F, k₁⟩ => ⟨hsz, m₁.trans rfl, k₁ _ _ (F.new _)⟩)
theorem comp_range1 {scope : Scope} {cl : List (Str × Addr)} {elt target iter : Expr} {ifs : List Expr} {pos : Pos} {r : Addr} {t u v : Tok} {n : Nat} (P : CompP) (hh : A.handled = none) (hr : IsRange h r 0 (n : Int) 1 t u v) (F : Loc g L cs m led h) (h0 : P 0 g []) (hsz : n ≤ sizeLine)
    (T : CompTurn prog w A env scope cl m led target elt ifs n (fun i v => ∃ t, v = .int i t) P)
    (done : ∀ g ys D k h, P n g ys → Loc g L cs m ((D, listO ys k) :: led) h → Q (.ref D) h) (htn : ∃ x p, target = .Name x p)
    (hcl : CellsIn cl cs) (hcell : (scope.names.all fun x => x.2 != .cell) = true) (hkind : scope.kind = .function) :
    Ev (model prog w) A (pyIter (.ref r)) h (fun it h₂ => CompAt prog w A env scope cl elt target iter ifs pos it h₂ (plainU Q)) E := by
  have hn : n ≤ 2 ^ 24 := by rw [sizeLine_eq] at hsz; omega
  refine comp_range P hh hr (small_one (by omega) (by omega) (by omega) (by omega)) (by rw [rangeSize_nat]; simp) F h0 ?_ done htn hcl hcell hkind hsz
  refine ⟨fun i v C mc led' g ys h hi hv => T.turn i v C mc led' g ys h hi ?_⟩
  obtain ⟨t, rfl⟩ := hv
  exact ⟨t, by simp⟩
theorem tests_nil {Q : Bool → Heap → Prop} (k : Q true h) : Ev (model prog w) A (testsOf [] env) h Q E := .mk fun s hs => by
  show wpAny _ _ (forIn [] true _) _ _ _
  rw [List.forIn_nil]; exact wpAny_pure (fin0 (Q := Q) hs k)
theorem tests_one {c : Expr} {Q : Bool → Heap → Prop} (k : Ev (model prog w) A (isTrue c env (eval c env)) h Q E) : Ev (model prog w) A (testsOf [c] env) h Q E := .mk fun s hs => by
  show wpAny _ _ (forIn [c] true _) _ _ _
  rw [List.forIn_cons]
  refine wpAny_bind ?_
  show wpAny _ _ (do let ok ← isTrue c env (eval c env); pure (ForInStep.yield ok)) _ _ _
  refine wpAny_bind (k.use hs (.refl s) fun b s₁ m₁ q => wpAny_pure ?_)
  show wpAny _ _ (forIn [] b _) _ _ _
  rw [List.forIn_nil]; exact wpAny_pure ⟨m₁, q⟩
end

theorem Loc.freeze1 {g h : Heap} {L a : Addr} {cs : List (Str × Addr)} {m : Str → Option Value} {led : List (Addr × Obj)} {o : Obj} (F : Loc g L cs m ((a, o) :: led) h) : ∃ g', Loc g' L cs m led h ∧ Sub g g' ∧ g'.get? a = some o := by
  obtain ⟨g', F', s, q⟩ := F.drop.freeze
  have D := F.led _ (.head _)
  have nd := F.nd
  simp only [List.map_cons, List.nodup_cons] at nd
  refine ⟨g', F', s, q a o D.1 D.2.1 (fun p hp e => nd.1 (List.mem_map.mpr ⟨p, hp, e⟩)) (fun x hx => (F.cnew x a hx).2.2 _ (.head _) rfl)⟩

inductive PutF (a : Addr) (o : Obj) : List (Addr × Obj) → (Obj → List (Addr × Obj)) → Prop
  | head {l : List (Addr × Obj)} : PutF a o ((a, o) :: l) (fun o' => (a, o') :: l)
  | tail {p : Addr × Obj} {l : List (Addr × Obj)} {f : Obj → List (Addr × Obj)} : PutF a o l f → PutF a o (p :: l) (fun o' => p :: f o')
theorem PutF.put {a : Addr} {o : Obj} {l : List (Addr × Obj)} {f : Obj → List (Addr × Obj)} (h : PutF a o l f) (o' : Obj) : Put a o o' l (f o') := by
  induction h with
  | head => exact .head
  | tail _ ih => exact .tail ih
theorem Loc.perm {g h : Heap} {L : Addr} {cs : List (Str × Addr)} {m : Str → Option Value} {led led' : List (Addr × Obj)} (F : Loc g L cs m led h) (p : led'.Perm led) : Loc g L cs m led' h :=
  F.only (fun q hq => p.mem_iff.mp hq) ((p.map (·.1)).nodup_iff.mpr F.nd)
theorem Loc.p4 {g h : Heap} {L : Addr} {cs : List (Str × Addr)} {m : Str → Option Value} {a b c d : Addr × Obj} (F : Loc g L cs m [a, b, c, d] h) : Loc g L cs m [d, b, c, a] h :=
  F.perm ((List.Perm.swap b d [c, a]).trans (((List.Perm.swap c d [a]).cons b).trans ((((List.Perm.swap a d []).cons c).cons b).trans (((List.Perm.swap a c [d]).cons b).trans (List.Perm.swap a b [c, d])))))
theorem Loc.swap {g h : Heap} {L : Addr} {cs : List (Str × Addr)} {m : Str → Option Value} {a b : Addr × Obj} {led : List (Addr × Obj)} (F : Loc g L cs m (a :: b :: led) h) : Loc g L cs m (b :: a :: led) h := F.perm (List.Perm.swap a b led)
theorem intsAre_get {vs : List Value} {ns : List Int} (x : IntsAre vs ns) {i : Nat} {v : Value} (q : vs[i]? = some v) : ∃ n t, v = .int n t ∧ ns[i]? = some n := by
  induction x generalizing i with
  | nil => simp at q
  | cons n t _ ih =>
    cases i with
    | zero => simp at q; exact ⟨n, t, q.symm, rfl⟩
    | succ i => simpa using ih (by simpa using q)
section
variable {prog : Program} {w : World} {A : Around} {g h : Heap} {E : Value → Heap → Prop} {env : Env} {Q : Value → Heap → Prop} {L a : Addr} {cs : List (Str × Addr)} {m : Str → Option Value} {led : List (Addr × Obj)} {t u : Tok} {x : Str} {o : Obj} {vs : List Value}

theorem AugSub {M : Model} {o i value : Expr} {pos' pos : Pos} {op : Operator} {Q : Flow → Heap → Prop}
    (k : Ev M A (eval o env) h (fun ov h₁ => Ev M A (eval i env) h₁ (fun iv h₂ => Ev M A (getItem ov iv) h₂ (fun old h₃ => Ev M A (eval value env) h₃ (fun v h₄ => Ev M A (inplaceOp op old v) h₄ (fun new h₅ => Ev M A (setItem ov iv new) h₅ (fun _ => Q .next) E) E) E) E) E) E)
    (ha : ∀ ov iv new, augStore i ov iv new = (do holding [new, ov, iv] (setItem ov iv new); release [new, ov, iv] []; pure .next) := by intro _ _ _; rfl) :
    Ev M A (exec (.AugAssign (.Subscript o i pos') op value pos) env) h Q E :=
  .mk fun s hs => wpAny_AugAssign_Subscript_any (k.use hs (.refl s) fun _ _ m₁ k₁ => k₁.use rfl m₁ fun _ _ m₂ k₂ => k₂.use rfl m₂ fun _ _ m₃ k₃ => k₃.use rfl m₃ fun _ _ m₄ k₄ => k₄.use rfl m₄ fun _ _ m₅ k₅ => k₅.use rfl m₅ fun _ _ m₆ q => ⟨m₆, q⟩) ha
theorem eGet_list {i : Int} {v : Value} (ho : h.get? a = some o) (hl : IsL o vs) (h0 : 0 ≤ i) (hi : i < 2 ^ 62) (hx : vs[i.toNat]? = some v) (k : Q v h) : Ev (model prog w) A (getItem (.ref a) (.int i u)) h Q E :=
  .mk fun s hs => wpAny_getItem_list (hs ▸ hl.isList ho) h0 (by omega) (by simpa using hx) (fin0 (Q := Q) hs k)
theorem eGet_last {v : Value} {us : List Value} (ho : h.get? a = some o) (hl : IsL o (us ++ [v])) (k : Q v h) : Ev (model prog w) A (getItem (.ref a) (.int (-1) u)) h Q E :=
  .mk fun s hs => wpAny_getItem_list_neg (hs ▸ hl.isList ho) (by omega) (by simp; omega) (by omega) (by
    have e : (-1 + ((us.length : Int) + 1)).toNat = us.length := by omega
    simp [e]) (fin0 (Q := Q) hs k)
theorem tail_list {value slice : Expr} {i : Int} (ho : h.get? a = some o) (hl : IsL o vs) (k : Ev (model prog w) A (getItem (.ref a) (.int i u)) h Q E)
    (hs : subscripted slice false (.ref a) (.int i u) = operate [.ref a, .int i u] (getItem (.ref a) (.int i u)) := by with_unfolding_all rfl) : Ev (model prog w) A (subscriptTail value slice (.ref a) (.int i u)) h Q E :=
  .mk fun s hs' => tail_any (Heap.IsList.typeIs (hs' ▸ hl.isList ho)) slot_list_getitem.lookup (k.run s hs') hs
theorem eSet_list {i : Int} {v : Value} {Q : Unit → Heap → Prop} {led' : Obj → List (Addr × Obj)} (F : Loc g L cs m led h) (hput : PutF a o led led') (hl : IsL o vs) (h0 : 0 ≤ i) (hi : i < 2 ^ 62) (hn : i < vs.length)
    (k : ∀ o' h', IsL o' (vs.set i.toNat v) → Loc g L cs m (led' o') h' → Q () h') : Ev (model prog w) A (setItem (.ref a) (.int i u) v) h Q E := .mk fun s hs => by
  subst hs
  refine wpAny_setItem_list (hl.isList (F.get (hput.put o).mem)) h0 (by omega) (by simpa using hn) fun h' hl' hs' => ⟨rfl, ?_⟩
  obtain ⟨o', ho', hc, n, hd⟩ := hl'
  refine k o' h' ⟨hc, n, ?_⟩ (F.put (hput.put o') hs' ho')
  rw [hd]; congr 1; apply Array.ext'; simp
theorem eAppend {v : Value} {n : Nat} {led' : Obj → List (Addr × Obj)} (F : Loc g L cs m led h) (hput : PutF a (listO vs n) led led') (hn : vs.length < sizeLine)
    (k : ∀ n' h', Loc g L cs m (led' (listO (vs ++ [v]) n')) h' → Q .none h') : Ev (model prog w) A (call (.builtin "list.append") [.ref a, v]) h Q E := .mk fun s hs => by
  subst hs
  refine wpAny_list_append_plain (hsz := by simp; omega) ⟨n, F.get (hput.put (listO vs n)).mem⟩ fun h' hl' hs' => ⟨rfl, ?_⟩
  obtain ⟨n', hl'⟩ := hl'
  exact k n' h' (F.put (hput.put _) hs' (by rw [hl']; simp))
/-- the statement xs.append(e) -/
theorem Call_append {xs elt : Expr} {apos pos : Pos}
    (k : Ev (model prog w) A (eval xs env) h (fun ov h₁ => ∃ D vs n, ov = .ref D ∧ h₁.get? D = some (listO vs n) ∧ Ev (model prog w) A (eval elt env) h₁ (fun y h₂ => Ev (model prog w) A (call (.builtin "list.append") [.ref D, y]) h₂ Q E) E) E)
    (hbase : attributeBase xs "append" env (eval xs env) = eval xs env := by rfl)
    (hfew : ((backTo pos (starEach [elt] env)).all (fun x => !x.1) && (backToKw pos (keywordEach [] env)).all (fun x => x.1.isSome) && decide (([elt] : List Expr).length + ([] : List Keyword).length + (if ([] : List Keyword).isEmpty then 0 else 1) < 30)) = true := by rfl)
    (hline : (apos.endLine == pos.line) = true := by rfl) (htrees : backTo pos (starEach [elt] env) = [(false, eval elt env)] := by rfl) :
    Ev (model prog w) A (eval (.Call (.Attribute xs "append" apos) [elt] [] pos) env) h Q E := .mk fun s hs => by
  refine wpAny_Call_append hbase hfew hline htrees (k.use hs (.refl s) fun ov s₁ m₁ k₁ => ?_)
  obtain ⟨D, vs, n, rfl, ho, k₁⟩ := k₁
  exact ⟨D, vs.toArray, rfl, ⟨_, n, ho, rfl, rfl, rfl⟩, k₁.use rfl m₁ fun _ _ m₂ k₂ => k₂.use rfl m₂ fun _ _ m₃ q => ⟨m₃, q⟩⟩
def NoRef : Value → Prop
  | .ref _ => False
  | _ => True
theorem Expr_ {M : Model} {e : Expr} {pos : Pos} {Q : Flow → Heap → Prop} (k : Ev M A (eval e env) h (fun v h' => NoRef v ∧ Q .next h') E) (hi : interactive env = false := by rfl) (hsw : swapsWith e none pos.line env = pure false := by rfl) :
    Ev M A (exec (.Expr e pos) env) h Q E :=
  .mk fun s hs => wpAny_Expr (k.use hs (.refl s) fun v s' m' q => by cases v <;> first | exact q.1.elim | exact ⟨m', q.2⟩) hi hsw
theorem eStr_int {n : Int} (hn : n.natAbs < 18446744073709551616) (k : ∀ tk, Q (.str (Str.ofString (toString n)) tk) h) : Ev (model prog w) A (call (.type "str") [.int n t]) h Q E :=
  .mk fun s hs => PySem.P.str_of_int (by
    by_cases h0 : n.natAbs = 0
    · rw [h0]; decide
    · exact Nat.lt_trans ((Nat.log2_lt h0).mpr (by show _ < 2 ^ 64; exact hn)) (by decide)) (fint (Q := Q) hs (k _) _)
/-- a, b = xs, for a list or a tuple of two -/
theorem assign_two {t₁ t₂ : Expr} {n : Nat} {pos : Pos} {v₁ v₂ : Value} {Q : Unit → Heap → Prop} (hh : A.handled = none) (F : Loc g L cs m led h) (ho : h.get? a = some o) (hd : (o.cls = .type "list" ∨ o.cls = .type "tuple") ∧ ∃ e, o.data = .seq #[v₁, v₂] e)
    (k : ∀ h', Loc g L cs m led h' → Ev (model prog w) A (assign t₁ env v₁) h' (fun _ h₁ => Ev (model prog w) A (assign t₂ env v₂) h₁ Q E) E)
    (he : assignEach [t₁, t₂] env = [(false, assign t₁ env), (false, assign t₂ env)] := by rfl) : Ev (model prog w) A (assign (.Tuple [t₁, t₂] n pos) env (.ref a)) h Q E := .mk fun s hs => by
  subst hs
  rw [arm_assign_Tuple]
  refine wpAny_bind (wpAny_standAt ?_)
  unfold unpack
  rw [he]
  have fin : ∀ h', Heap.ExtBut s.heap.objs.size s.heap h' → wpAny (model prog w) A (assignInOrder (([(false, assign t₁ env), (false, assign t₂ env)] : List (Bool × (Value → Sem Unit))).map (·.2)) [v₁, v₂]) (fun a s' => Same s s' ∧ Q a s'.heap) (fun e s' => Same s s' ∧ E e s'.heap) { s with heap := h' } := fun h' hb => by
    have F' : Loc g L cs m led h' := F.keep fun b x e => hb b x (Nat.ne_of_lt (Heap.lt_size e)) e
    show wpAny _ _ (do holding [v₂] (assign t₁ env v₁); (do holding [] (assign t₂ env v₂); pure ())) _ _ _
    refine wpAny_bind (wpAny_holding ((k h' F').use rfl (Same.mk' s h' s.toks) fun _ s₁ m₁ k₁ => ?_))
    exact wpAny_bind (wpAny_holding (k₁.use rfl m₁ fun _ s₂ m₂ q => wpAny_pure ⟨m₂, q⟩))
  refine wpAny_bind (wpAny_holding ?_)
  obtain ⟨hc, e, hd⟩ := hd
  rcases hc with hc | hc
  · exact kun_itemsOf (items := #[v₁, v₂]) hh ⟨o, ho, hc, e, hd⟩ fin
  · exact wpAny_unpackItems_tuple (items := #[v₁, v₂]) hh ⟨o, ho, hc, e, hd⟩ fin
end

theorem slot_search : Slot "re.Pattern" "search" "re.Pattern.search" :=
  .of (owner := "re.Pattern") (n := "search") (by rw [typeLookup_type, builtinLookup_eq_fast]; kernel_rfl) (by decide +kernel) (by decide +kernel) (by decide +kernel)
    (by first | exact .inl (by decide +kernel) | exact .inr (by decide +kernel)) (by rw [isSubtype_type]; kernel_rfl)
theorem type_search : typeOf (.builtin "re.Pattern.search") = pure (.type "method_descriptor") := by show builtinType _ = _; rw [builtinType_eq_fast]; kernel_rfl
theorem entry_search : entryFor table "re.Pattern.search" = some Builtin.«re.Pattern.search» := entryFor_of_tree (by kernel_rfl)
theorem args_search (a b : Value) : argsOk "re.Pattern.search" ⟨[a, b], []⟩ := by unfold argsOk; kernel_rfl
theorem attrs_pattern : PlainAttrs "re.Pattern" := ⟨⟨"object.__getattribute__", by rw [typeLookup_type, builtinLookup_eq_fast]; kernel_rfl, by decide +kernel⟩, by rw [typeLookup_type, builtinLookup_eq_fast]; kernel_rfl⟩

/-- the code never takes the sign c at its first-set -/
def NoIn (code : Array Nat) (c : Nat) : Prop := ∀ seen, ∃ seen', Sre.inSet code c code.size 5 true seen = .ok (false, seen')

theorem admitted_none {m : Sre.M} (hn : ∀ c ∈ m.text.toList, NoIn m.code c) (hl : m.lim = m.text.size) : ∀ (fuel s : Nat) (seen : Sre.Seen), ∃ seen', m.admitted fuel s seen = .ok (none, seen')
  | 0, s, seen => ⟨seen, rfl⟩
  | fuel + 1, s, seen => by
    unfold Sre.M.admitted
    by_cases h : s ≥ m.lim
    · rw [if_pos h]; exact ⟨seen, rfl⟩
    · rw [if_neg h]
      have hs : s < m.text.size := by omega
      have hm : m.text.getD s 0 ∈ m.text.toList := by
        rw [Array.getD_eq_getD_getElem?, Array.getElem?_eq_getElem hs]
        simp
      obtain ⟨seen', e⟩ := hn _ hm seen
      rw [e]
      exact admitted_none hn hl fuel (s + 1) seen'

def failM (m : Sre.M) : Prop := m.answer = some false ∧ m.frames = [] ∧ m.outcome = none

theorem attemptFrom_fail {m : Sre.M} {s : Nat} {first : Bool} (hs : m.hasFirstSet = true) (hn : ∀ c ∈ m.text.toList, NoIn m.code c) (hl : m.lim = m.text.size) (hfr : m.frames = []) (ho : m.outcome = none) : failM (m.attemptFrom s first) := by
  obtain ⟨seen', e⟩ := admitted_none hn hl (m.lim + 1 - s) s m.seen
  unfold Sre.M.attemptFrom
  rw [hs, e]
  exact ⟨rfl, hfr, ho⟩
theorem forSearch_fail {code text : Array Nat} (hn : ∀ c ∈ text.toList, NoIn code c) (hf : ∀ m : Sre.M, m.code = code → m.hasFirstSet = true) :
    failM (Sre.forSearch code text 0 0 text.size false) := by
  unfold Sre.forSearch
  dsimp only
  split
  · exact ⟨rfl, rfl, rfl⟩
  · exact attemptFrom_fail (hf _ rfl) hn rfl rfl rfl

theorem run_fail {m : Sre.M} (h : failM m) : ∃ m', m.runFor 4 = m' ∧ m'.outcome = some .failed := by
  obtain ⟨h1, h2, h3⟩ := h
  have e : m.step = { m with outcome := some .failed } := by
    unfold Sre.M.step
    rw [h3, h1, h2]
    rfl
  refine ⟨_, rfl, ?_⟩
  unfold Sre.M.runFor
  rw [h3, e]
  rfl

section
variable {prog : Program} {w : World} {A : Around} {E : Value → Shared → Prop} {s : Shared}
theorem rules_none {M : Model} {body : Nat → Sem (ForInStep PUnit)} (hb : ∀ i (Q' : ForInStep PUnit → Shared → Prop), Q' (.yield .unit) s → wpAny M A (body i) Q' E s) {Q : PUnit → Shared → Prop} (q : Q .unit s) : ∀ l : List Nat, wpAny M A (forIn l PUnit.unit fun i _ => body i) Q E s
  | [] => by rw [List.forIn_nil]; exact wpAny_pure q
  | i :: r => by
    rw [List.forIn_cons]
    exact wpAny_bind (hb i _ (rules_none hb q r))
theorem runToEnd_fail {M : Model} {m : Sre.M} {Q : Option Sre.M → Shared → Prop} (h : failM m) (q : Q none s) : wpAny M A (Builtin.Re.reRunToEnd m) Q E s := by
  obtain ⟨m', e1, e2⟩ := run_fail h
  unfold Builtin.Re.reRunToEnd
  rw [show (2 ^ 64 : Nat) = 18446744073709551615 + 1 from by decide]
  refine wpAny_bind ?_
  unfold Builtin.Re.reDrive
  dsimp only
  rw [show Builtin.Re.reTurnSteps = 4 from rfl, e1, e2]
  refine wpAny_pure (wpAny_bind (rules_none (fun i Q' q' => ?_) ?_ _))
  · split
    · exact wpAny_bind (wpAny_rule (wpAny_pure q'))
    · exact wpAny_bind (wpAny_pure (wpAny_pure q'))
  · rw [e2]
    exact wpAny_pure q

theorem named1 (v : Value) : Builtin.Re.reNamed "re.Pattern.search" "search" ["string", "pos", "endpos"] 1 [v] [] = pure [some v, none, none] := by kernel_rfl
def codeOf (its : Array Value) : Array Nat := (its.map Builtin.Re.reRawOf).map (·.toNat)
theorem target_str {M : Model} {a b : Addr} {oa ob : Obj} {fs its : Array Value} {n : Nat} {x : Str} {t : Tok} {Q : Builtin.Re.ReTarget → Shared → Prop} (ha : s.heap.get? a = some oa) (hd : oa.data = .fields fs) (h6 : fs.getD 6 .none = .int 0 0) (h2 : fs.getD 2 .none = .int 0 0) (h5 : fs.getD 5 .none = .ref b)
    (hb : s.heap.get? b = some ob) (hbd : ob.data = .seq its n) (hx : x.length ≤ 1000) (q : Q ⟨.ref a, .str x t, codeOf its, x.cps, 0, 0, 0, x.cps.size⟩ s) :
    wpAny M A (Builtin.Re.reTarget "re.Pattern.search" "search" ⟨[.ref a, .str x t], []⟩) Q E s := by
  unfold Builtin.Re.reTarget
  dsimp only
  rw [named1]
  refine wpAny_bind (wpAny_pure ?_)
  dsimp only
  refine wpAny_bind (wpAny_pure (wpAny_bind (wpAny_pure ?_)))
  refine wpAny_bind (wpAny_fieldsOf ha hd ?_)
  have et : Builtin.Re.reTextOf (.str x t) = pure (x.cps, 0) := by rfl
  rw [et]
  refine wpAny_bind (wpAny_pure ?_)
  dsimp only
  rw [h6, h2, h5]
  show wpAny _ _ (do Builtin.Re.reNoCollectionInside (.str x t) 0; _) _ _ _
  refine wpAny_bind (wpAny_pure ?_)
  unfold Builtin.Re.reRawItems
  refine wpAny_bind (wpAny_bind (wpAny_seqItems hb hbd (wpAny_pure ?_)))
  refine wpAny_pure ?_
  have hx' : x.cps.size ≤ 1000 := hx
  have e1 : min (0 : Int).toNat x.cps.size = 0 := by simp
  have e2 : min ((2 ^ 63 - 1 : Int)).toNat x.cps.size = x.cps.size := by
    have : ((2 ^ 63 - 1 : Int)).toNat = 9223372036854775807 := by decide
    rw [this]; omega
  rw [e1, e2]
  exact q

theorem search_none {a b : Addr} {oa ob : Obj} {fs its : Array Value} {n : Nat} {x : Str} {t : Tok} {Q : Value → Shared → Prop} (ha : s.heap.get? a = some oa) (hc : oa.cls = .type "re.Pattern") (hd : oa.data = .fields fs) (h6 : fs.getD 6 .none = .int 0 0) (h2 : fs.getD 2 .none = .int 0 0) (h5 : fs.getD 5 .none = .ref b)
    (hb : s.heap.get? b = some ob) (hbd : ob.data = .seq its n) (hx : x.length ≤ 1000) (hf : ∀ m : Sre.M, m.code = codeOf its → m.hasFirstSet = true) (hn : ∀ c ∈ x.cps.toList, NoIn (codeOf its) c) (q : Q .none s) :
    wpAny (model prog w) A (call (.builtin "re.Pattern.search") [.ref a, .str x t]) Q E s := by
  refine wpAny_call_entry slot_search ⟨oa, ha, hc⟩ entry_search ?_ (args_search _ _)
  unfold Builtin.«re.Pattern.search»
  refine wpAny_bind (target_str ha hd h6 h2 h5 hb hbd hx ?_)
  dsimp only
  unfold Builtin.Re.reAnswer
  exact wpAny_bind (runToEnd_fail (forSearch_fail hn hf) (wpAny_pure ⟨_, rfl, q⟩))
theorem method_search {M : Model} {a : Addr} {oa : Obj} {pl : Sem Bool} {Q : Value × List Value → Shared → Prop} (ha : s.heap.get? a = some oa) (hc : oa.cls = .type "re.Pattern") (hd : oa.dict = none) (q : Q (.builtin "re.Pattern.search", [.ref a]) s) :
    wpAny M A (getMethod (.ref a) "search" pl) Q E s := getMethod_builtin ⟨oa, ha, hc⟩ attrs_pattern slot_search type_search (fun _ e => by cases e; exact ⟨oa, ha, hd⟩) q
end
abbrev nameRe : Array Value := #[.int 14 0, .int 10 0, .int 4 0, .int 1 0, .int 1 0, .int 22 0, .int 0 0, .int 31 0, .int 16 0, .int 127 0, .int 0 0, .int 13 0, .int 7 0, .int 22 0, .int 0 0, .int 31 0, .int 16 0, .int 127 0, .int 0 0, .int 1 0]
abbrev valueRe : Array Value := #[.int 14 0, .int 14 0, .int 4 0, .int 1 0, .int 1 0, .int 9 0, .int 4294966783 0, .int 0 0, .int 0 0, .int 2147483648 0, .int 0 0, .int 0 0, .int 0 0, .int 0 0, .int 0 0, .int 13 0, .int 11 0, .int 9 0, .int 4294966783 0, .int 0 0, .int 0 0, .int 2147483648 0, .int 0 0, .int 0 0, .int 0 0, .int 0 0, .int 0 0, .int 1 0]
theorem code_name : codeOf nameRe = #[14, 10, 4, 1, 1, 22, 0, 31, 16, 127, 0, 13, 7, 22, 0, 31, 16, 127, 0, 1] := by decide +kernel
theorem code_value : codeOf valueRe = #[14, 14, 4, 1, 1, 9, 4294966783, 0, 0, 2147483648, 0, 0, 0, 0, 0, 13, 11, 9, 4294966783, 0, 0, 2147483648, 0, 0, 0, 0, 0, 1] := by decide +kernel
theorem first_name (m : Sre.M) (h : m.code = codeOf nameRe) : m.hasFirstSet = true := by unfold Sre.M.hasFirstSet; rw [h, code_name]; rfl
theorem first_value (m : Sre.M) (h : m.code = codeOf valueRe) : m.hasFirstSet = true := by unfold Sre.M.hasFirstSet; rw [h, code_value]; rfl
theorem noIn_name {c : Nat} (h1 : 32 ≤ c) (h2 : c ≠ 127) : NoIn (codeOf nameRe) c := fun seen => by
  rw [code_name]
  apply Exists.intro
  show (if (decide (0 ≤ c) && decide (c ≤ 31)) = true then _ else _) = _
  rw [if_neg (by simp; omega)]
  show (if (c == 127) = true then _ else _) = _
  rw [if_neg (by simpa using h2)]
  rfl
theorem noIn_value {c : Nat} (h1 : 32 ≤ c ∨ c = 9) (h2 : c ≠ 127) : NoIn (codeOf valueRe) c := fun seen => by
  rw [code_value]
  apply Exists.intro
  have key : (decide (c < 256) && (((#[14, 14, 4, 1, 1, 9, 4294966783, 0, 0, 2147483648, 0, 0, 0, 0, 0, 13, 11, 9, 4294966783, 0, 0, 2147483648, 0, 0, 0, 0, 0, 1] : Array Nat).getD (5 + (1 + c / 32)) 0).testBit (c % 32))) = false := by
    by_cases hc : c < 256
    · have : ∀ d : Fin 256, (32 ≤ d.val ∨ d.val = 9) → d.val ≠ 127 → (((#[14, 14, 4, 1, 1, 9, 4294966783, 0, 0, 2147483648, 0, 0, 0, 0, 0, 13, 11, 9, 4294966783, 0, 0, 2147483648, 0, 0, 0, 0, 0, 1] : Array Nat).getD (5 + (1 + d.val / 32)) 0).testBit (d.val % 32)) = false := by decide +kernel
      rw [this ⟨c, hc⟩ h1 h2, Bool.and_false]
    · simp [hc]
  show (if (decide (c < 256) && (((#[14, 14, 4, 1, 1, 9, 4294966783, 0, 0, 2147483648, 0, 0, 0, 0, 0, 13, 11, 9, 4294966783, 0, 0, 2147483648, 0, 0, 0, 0, 0, 1] : Array Nat).getD (5 + (1 + c / 32)) 0).testBit (c % 32))) = true then _ else _) = _
  rw [key, if_neg Bool.false_ne_true]
  rfl

theorem subHide {h : Heap} {as : List Addr} : Sub (hideAll h as) h := fun b o e => of_hideAll _ e
theorem extBut_hide {h h' : Heap} {D : Addr} (s : Sub (hideAll h [D]) h') : Heap.ExtBut D h h' := fun b o hb e => s b o (hideAll_get _ e (by simpa using hb))
theorem sub_hide {g h : Heap} {as : List Addr} (s : Sub g h) (n : ∀ a ∈ as, g.get? a = none) : Sub g (hideAll h as) := fun b o e => hideAll_get _ (s b o e) fun q => by rw [n b q] at e; cases e
theorem Rm.make {A : Around} {C : Addr} {vals : List Value} {n : Nat} (R : Rm A (n + 1)) : Rm (A.under (.builtin "type.__call__" ⟨.ref C :: vals, []⟩)) n :=
  ⟨R.hd, by have := R.dp; show A.depth + 1 + 2 * n < _; omega, by have := R.un; show A.units + 1 + 8 * n + 100 < _; omega, R.gd⟩
theorem Rm.in1 {A : Around} {n : Nat} (R : Rm A (n + 1)) : Rm A.in1 n := ⟨R.hd, by have := R.dp; show A.depth + 2 * n < _; omega, by have := R.un; show A.units + 1 + 8 * n + 100 < _; omega, R.gd⟩

section
variable {prog : Program} {w : World} {A : Around} {g h : Heap} {E : Value → Heap → Prop} {K : Frag} {mg mb : Str → Option Value} {Q : Value → Heap → Prop}
theorem EvC.call {M : Model} {f : Value} {pos : List Value} {kw : List (Str × Value)} (k : EvC M A (.call f ⟨pos, kw⟩) h (fun r h' => match r with | .ok (.ret v) => Q v h' | _ => False)) : Ev M A (call f pos kw) h Q E :=
  .mk fun s hs => wpAny_call (codeAny_mono (k.run s hs) fun r s' z => by
    obtain ⟨m, z⟩ := z
    rcases r with e | (v | _ | _ | _) <;> first | exact z.elim | exact ⟨m, z⟩)
/-- a def of the text is called; the objects of led are its to change -/
theorem code_fnM {f : Addr} {oc : Value} {od : Option Addr} {osl : Array (Option Value)} {fd : FuncData} {body : List Stmt} {pos : List Value} {kw : List (Str × Value)} {binds : List (Str × Value)} {led : List (Addr × Obj)} {P : Result → Heap → Prop}
    (X : Amb K mg mb g) (hg : Sub g h) (hled : ∀ p ∈ led, h.get? p.1 = some p.2 ∧ g.get? p.1 = none) (nd : (led.map (·.1)).Nodup)
    (ho : K.lookup f = some ⟨oc, od, .func fd, osl⟩) (hcd : codeIn K fd.code fd.qualname = true) (hbody : fd.body = .stmts body) {n : Nat} (R : Rm A (n + 1))
    (hbind : ∀ s : Shared, s.heap = h → BindsTo s fd ⟨pos, kw⟩ binds) (hcell : (fd.scope.names.all fun x => x.2 != .cell) = true) (hloc : ((binds.map (·.1)).all fun y => fd.scope.names.lookup y == some .local) = true)
    (k : ∀ A' L g' h', Rm A' n → Sub g g' → g' = hideAll h (led.map (·.1)) → Loc g' L [] (fun x => binds.reverse.lookup x) led h' →
      Ev (model prog w) A' (execs body (callEnv fd L f)) h' (fun fl h'' => P (.ok (.ret (match fl with | .ret v => v | _ => .none))) h'') (fun _ _ => False))
    (hco : fd.scope.isCoroutine = false := by rfl) (hgen : fd.scope.isGenerator = false := by rfl) (hk : fd.scope.kind = .function := by rfl) :
    EvC (model prog w) A (.call (.ref f) ⟨pos, kw⟩) h P := .mk fun s hs => by
  subst hs
  have X' := X.keep hg
  refine codeAny_call_def (by have := R.dp; omega) (X'.k _ _ ho) rfl X'.lim (codeRec_of X'.k hcd) hbody (hbind s rfl) (fun x hx => by have := List.all_eq_true.mp hcell x hx; simpa using this) (fun x hx => by have := List.all_eq_true.mp hloc x.1 (List.mem_map.mpr ⟨x, hx, rfl⟩); simpa using this) (fun h₀ hns hk₀ => ?_) hco hgen hk
  have F : Loc (hideAll s.heap (led.map (·.1))) s.heap.objs.size [] (fun x => binds.reverse.lookup x) led h₀ :=
    ⟨subHide.tr hk₀, ⟨_, hns, fun _ _ => rfl⟩, none_sub subHide (get_size _), fun p hp => ⟨hk₀ _ _ (hled p hp).1, Nat.ne_of_lt (Heap.lt_size (hled p hp).1), hideAll_none _ (List.mem_map.mpr ⟨p, hp, rfl⟩)⟩, nd, fun _ _ q => (by cases q), fun _ _ _ q => (by cases q), fun _ _ q => (by cases q)⟩
  refine wpAny_mono ((k _ _ _ _ R.deeper (sub_hide hg fun a ha => ?_) rfl F).run _ rfl) (fun fl s' q => ⟨Same.trans (Same.mk' s _ _) q.1, q.2⟩) fun _ _ q => q.2.elim
  obtain ⟨p, hp, rfl⟩ := List.mem_map.mp ha
  exact (hled p hp).2

/-- a class of the text is called -/
theorem eMake {C fI : Addr} {rest : List Value} (X : Amb K mg mb h) (hm : makesIn K C = true) (hi : findIn K (.ref C) "__init__" = some (some (.ref fI))) (hf : typeIn K (.ref fI) = some (.type "function"))
    (k : ∀ x dx h', Sub h h' → h.get? x = none → h.get? dx = none → x ≠ dx → h'.get? x = some (instObj C dx) → h'.get? dx = some emptyDict →
      EvC (model prog w) (A.under (.builtin "type.__call__" ⟨.ref C :: rest, []⟩)) (.call (.ref fI) ⟨.ref x :: rest, []⟩) h' (fun r h'' => match r with | .ok (.ret v) => v = .none ∧ Q (.ref x) h'' | _ => False)) :
    Ev (model prog w) A (call (.ref C) rest) h Q E := .mk fun s hs => by
  subst hs
  obtain ⟨hh, gg, d, t, os⟩ := s
  have n1 : hh.get? (hh.objs.size + 1) = none := by
    cases q : hh.get? (hh.objs.size + 1) with
    | none => rfl
    | some o => exact absurd (Heap.lt_size q) (Nat.not_lt.mpr (Nat.le_succ _))
  have e2 : ((hh.push emptyDict).push (instObj C hh.objs.size)).get? (hh.objs.size + 1) = some (instObj C hh.objs.size) := by heap_get
  have e3 : ((hh.push emptyDict).push (instObj C hh.objs.size)).get? hh.objs.size = some emptyDict := Heap.get?_push_of_some _ (Heap.get?_push_size _ rfl)
  refine wpAny_call (make_core (makes_of X.k hm) (looks_findIn X.k hi) (fun self => bind_fn X.k self hf) (.inl rfl) ?_)
  refine codeAny_mono ((k _ _ _ (fun b o e => Heap.get?_push_of_some _ (Heap.get?_push_of_some _ e)) n1 (get_size _) (Nat.succ_ne_self _) e2 e3).run _ rfl) fun r s' z => ?_
  obtain ⟨m₁, z⟩ := z
  rcases r with e | (v | _ | _ | _) <;> first | exact z.elim | exact ⟨z.1, Same.trans (Same.mk' ⟨hh, gg, d, t, os⟩ _ t) m₁, z.2⟩
/-- an object of the class C that holds under the name a alone the value v -/
def OneAt (C : Addr) (a : Str) (h : Heap) (x : Addr) (v : Value) : Prop := ∃ dx hash t, h.get? x = some (instObj C dx) ∧ h.get? dx = some (dictOf [⟨hash, .str a t, v⟩] 1)
theorem OneAt.keep {C : Addr} {a : Str} {h h' : Heap} {x : Addr} {v : Value} (H : OneAt C a h x v) (e : Sub h h') : OneAt C a h' x v := let ⟨dx, hs, t, p, q⟩ := H; ⟨dx, hs, t, e _ _ p, e _ _ q⟩
def OneNew (C : Addr) (a : Str) (h₀ h : Heap) (x : Addr) (v : Value) : Prop := ∃ dx hash t, h₀.get? x = none ∧ h₀.get? dx = none ∧ h.get? x = some (instObj C dx) ∧ h.get? dx = some (dictOf [⟨hash, .str a t, v⟩] 1)
theorem Loc.freezeOne {C : Addr} {a : Str} {h₀ h : Heap} {x : Addr} {v : Value} {L : Addr} {cs : List (Str × Addr)} {m : Str → Option Value} {led : List (Addr × Obj)} (F : Loc g L cs m led h₀) (e : Sub h₀ h) (H : OneNew C a h₀ h x v) :
    ∃ g', Loc g' L cs m led h ∧ Sub g g' ∧ OneAt C a g' x v := by
  obtain ⟨dx, hs, t, nx, nd, p, q⟩ := H
  obtain ⟨g', F', s, fr⟩ := (F.keep e).freeze
  have ne : ∀ b, h₀.get? b = none → b ≠ L ∧ (∀ p ∈ led, p.1 ≠ b) ∧ (∀ y, cs.lookup y ≠ some b) := fun b hb => by
    refine ⟨fun z => ?_, fun p hp z => ?_, fun y z => ?_⟩
    · obtain ⟨o, ho⟩ := F.lt; rw [z, ho] at hb; cases hb
    · rw [← z, (F.led p hp).1] at hb; cases hb
    · obtain ⟨o, ho, _⟩ := F.cell y b z; rw [ho] at hb; cases hb
  exact ⟨g', F', s, dx, hs, t, fr _ _ p (ne x nx).1 (ne x nx).2.1 (ne x nx).2.2, fr _ _ q (ne dx nd).1 (ne dx nd).2.1 (ne dx nd).2.2⟩

theorem Attr_name {x attr : Str} {xp pos : Pos} {env : Env} {M : Model} (k : Ev M A (eval (.Name x xp) env) h (fun o h₁ => Ev M A (getAttr o attr true) h₁ Q E) E) : Ev M A (eval (.Attribute (.Name x xp) attr pos) env) h Q E :=
  .mk fun s hs => Attribute_name (k.use hs (.refl s) fun _ _ m₁ k₁ => k₁.use rfl m₁ fun _ _ m₂ q => ⟨m₂, q⟩)
theorem eGetAttr {x C dx : Addr} {es : List DictEntry} {n : Nat} {name : Str} {v : Value} {attr : Option Value} {expr : Bool} (X : K.In h) (hx : h.get? x = some (instObj C dx)) (hdx : h.get? dx = some (dictOf es n)) (hg : plainGet K C name = true) (hh : hasDictIn K C = true)
    (ha : findIn K (.ref C) name = some attr) (hn : noGet K attr = true) (hl : getL name es = some (some v)) (hv : handedIn v = true) (k : Q v h) : Ev (model prog w) A (getAttr (.ref x) name expr) h Q E :=
  .mk fun s hs => get_value (od := some (dictOf es n)) (hs ▸ X) ⟨hs ▸ hx, rfl, rfl, hs ▸ hdx⟩ (plainGet_of hg).1 (findObj_own hh ha hn hl) hv (fint (Q := Q) hs k _)
theorem eMethod {x C dx f : Addr} {es : List DictEntry} {n : Nat} {name : Str} {pl : Sem Bool} {Q : Value × List Value → Heap → Prop} (X : K.In h) (hx : h.get? x = some (instObj C dx)) (hdx : h.get? dx = some (dictOf es n)) (hg : plainGet K C name = true)
    (hf : findIn K (.ref C) name = some (some (.ref f))) (ht : isFn K (.ref f) = true) (hl : getL name es = some none) (k : Q (.ref f, [.ref x]) h) : Ev (model prog w) A (getMethod (.ref x) name pl) h Q E :=
  .mk fun s hs => method_fn (hs ▸ X) (od := some (dictOf es n)) ⟨hs ▸ hx, rfl, rfl, hs ▸ hdx⟩ (plainGet_of hg).1 (plainGet_of hg).2 hf (beq_iff_eq.mp ht) (by show (lookIn name (dictOf es n)).map _ = _; rw [lookIn_dict, hl]; rfl) (fin0 (Q := Q) hs k)
theorem Meth_ {M : Model} {env : Env} {o : Expr} {name : Str} {apos pos : Pos} {args : List Expr} {kws : List Keyword} {pl : Sem Bool}
    (k : Ev M A (eval o env) h (fun ov h₁ => Ev M A (getMethod ov name pl) h₁ (fun fx h₂ => Ev M A (callWith pos fx.1 fx.2 (backTo pos (starEach args env)) (backToKw pos (keywordEach kws env))) h₂ Q E) E) E)
    (he : eval (.Call (.Attribute o name apos) args kws pos) env = (do
      let ov ← eval o env
      standAt apos.atName
      let (f, first) ← holding [ov] (getMethod ov name pl)
      callWith pos f first (backTo pos (starEach args env)) (backToKw pos (keywordEach kws env))) := by rfl) :
    Ev M A (eval (.Call (.Attribute o name apos) args kws pos) env) h Q E :=
  .mk fun s hs => methodCall_KW (k.use hs (.refl s) fun _ _ m₁ k₁ => k₁.use rfl m₁ fun _ _ m₂ k₂ => k₂.use rfl m₂ fun _ _ m₃ q => ⟨m₃, q⟩) he
/-- keywords too; what is called is of the written part -/
theorem callWith_W {M : Model} {env : Env} {pos : Pos} {f : Value} {first : List Value} {e : Expr} {rest : List Expr} {kws : List Keyword} (X : K.In h) (hk : keepIn K f = true) (hall : (backToKw pos (keywordEach kws env)).all (·.1.isSome) = true)
    (k : Ev M A (spliced (backTo pos (starEach (e :: rest) env))) h (fun vs h₁ => Ev M A (evalAll ((backToKw pos (keywordEach kws env)).map (·.2))) h₁
      (fun ks h₂ => K.In h₂ ∧ Ev M A (call f (first ++ vs) (((backToKw pos (keywordEach kws env)).filterMap (·.1)).zip ks)) h₂ Q E) E) E)
    (hplain : ((backTo pos (starEach (e :: rest) env)).any (·.1) || (backToKw pos (keywordEach kws env)).any (·.1.isNone)) = false := by rfl) (he : starEach (e :: rest) env = (false, eval e env) :: starEach rest env := by rfl) :
    Ev M A (callWith pos f first (backTo pos (starEach (e :: rest) env)) (backToKw pos (keywordEach kws env))) h Q E :=
  .mk fun s hs => callWith_KW X hk hall (k.use hs (.refl s) fun _ _ m₁ k₁ => k₁.use rfl m₁ fun _ _ m₂ k₂ => ⟨k₂.1, k₂.2.use rfl m₂ fun _ _ m₃ q => ⟨m₃, q⟩⟩) hplain he
theorem kw_nil {M : Model} {env : Env} {pos : Pos} {Q : List Value → Heap → Prop} (k : Q [] h) : Ev M A (evalAll ((backToKw pos (keywordEach [] env)).map (·.2))) h Q E := .mk fun s hs => kwAll_nil (fin0 (Q := Q) hs k)
theorem kw_cons {M : Model} {env : Env} {pos p : Pos} {name : Str} {value : Expr} {rest : List Keyword} {Q : List Value → Heap → Prop}
    (k : Ev M A (eval value env) h (fun v h₁ => Ev M A (evalAll ((backToKw pos (keywordEach rest env)).map (·.2))) h₁ (fun vs h₂ => Q (v :: vs) h₂) E) E) :
    Ev M A (evalAll ((backToKw pos (keywordEach (⟨some name, value, p⟩ :: rest) env)).map (·.2))) h Q E :=
  .mk fun s hs => kwAll_cons (k.use hs (.refl s) fun _ _ m₁ k₁ => k₁.use rfl m₁ fun _ _ m₂ q => ⟨m₂, q⟩)
/-- a built-in method with its own value first -/
theorem callWith_M {M : Model} {env : Env} {pos : Pos} {id : String} {first : List Value} {e : Expr} {rest : List Expr} (k : Ev M A (spliced (backTo pos (starEach (e :: rest) env))) h (fun vs h₁ => Ev M A (call (.builtin id) (first ++ vs)) h₁ Q E) E)
    (he : starEach (e :: rest) env = (false, eval e env) :: starEach rest env := by rfl) (hplain : (backTo pos (starEach (e :: rest) env)).any (·.1) = false := by rfl) :
    Ev M A (callWith pos (.builtin id) first (backTo pos (starEach (e :: rest) env)) (backToKw pos (keywordEach [] env))) h Q E :=
  .mk fun s hs => callWith_builtin hplain (evalArgs_kw2 (kws := []) rfl (k.use hs (.refl s) fun _ _ m₁ k₁ => kwAll_nil (k₁.use rfl m₁ fun _ _ m₂ q => ⟨m₂, q⟩)) he)
theorem callWith_M0 {M : Model} {env : Env} {pos : Pos} {id : String} {first : List Value} (k : Ev M A (call (.builtin id) (first ++ [])) h Q E) :
    Ev M A (callWith pos (.builtin id) first (backTo pos (starEach [] env)) (backToKw pos (keywordEach [] env))) h Q E :=
  .mk fun s hs => callWith_builtin rfl (evalArgs_kw2_nil (kws := []) rfl (kwAll_nil (k.run s hs)))

theorem special_fn' {M : Model} {x C dx f : Addr} {od : Obj} {name : Str} {args : List Value} {Q : Option Value → Heap → Prop} (X : K.In h) (hx : h.get? x = some (instObj C dx)) (hdx : h.get? dx = some od) (hs : findIn K (.ref C) name = some (some (.ref f))) (hf : isFn K (.ref f) = true)
    (k : Ev M A (call (.ref f) (.ref x :: args)) h (fun v h' => Q (some v) h') E) : Ev M A (callSpecial? (.ref x) name args) h Q E :=
  .mk fun s hs' => special_fn (od := some od) (hs' ▸ X) ⟨hs' ▸ hx, rfl, rfl, hs' ▸ hdx⟩ hs (beq_iff_eq.mp hf) (k.run s hs')
theorem eIn {M : Model} {x C dx f : Addr} {od : Obj} {v : Value} (X : K.In h) (hx : h.get? x = some (instObj C dx)) (hdx : h.get? dx = some od) (hs : findIn K (.ref C) "__contains__" = some (some (.ref f))) (hf : isFn K (.ref f) = true)
    (k : Ev M A (call (.ref f) [.ref x, v]) h (fun r h' => Ev M A (truthy r) h' (fun b => Q (.bool b)) E) E) : Ev M A (compareOp .In v (.ref x)) h Q E := .mk fun s hs' => by
  subst hs'
  have I : InstAt s.heap x (instObj C dx) C (some od) := ⟨hx, rfl, rfl, hdx⟩
  refine wpAny_bind (m := contains (.ref x) v) ?_
  unfold contains
  refine wpAny_holding (wpAny_bind (wpAny_bind (I.type.here ((looks_findIn X hs).here ?_))))
  rw [if_neg (by simp)]
  exact wpAny_bind (unlessNone_K X I hs hf (k.use rfl (.refl s) fun r s₁ m₁ k₁ => k₁.use rfl m₁ fun b s₂ m₂ q => wpAny_pure ⟨m₂, q⟩))
theorem eLen_inst {x C dx f : Addr} {od : Obj} (X : K.In h) (hx : h.get? x = some (instObj C dx)) (hdx : h.get? dx = some od) (hs : findIn K (.ref C) "__len__" = some (some (.ref f))) (hf : isFn K (.ref f) = true)
    (k : Ev (model prog w) A.in1 (call (.ref f) [.ref x]) h (fun r h' => ∃ n t, r = .int n t ∧ (0 ≤ n ∧ n < 2 ^ 63) ∧ ∀ t', Q (.int n t') h') E) : Ev (model prog w) A (call (.builtin "len") [.ref x]) h Q E := .mk fun s hs' => by
  refine Calls.call_function_entry kind_len plain_len entry_len (args_len1 _) ?_
  unfold Builtin.«len»
  refine wpAny_bind (m := oneArg "len" _) (wpAny_pure ?_)
  refine wpAny_bind (m := callSpecial? (.ref x) (Str.ofString "__len__")) ((special_fn' (Q := fun r h' => ∃ n t, r = some (.int n t) ∧ (0 ≤ n ∧ n < 2 ^ 63) ∧ ∀ t', Q (.int n t') h') X hx hdx hs hf (k.mono (fun v h' ⟨n, t, e, q⟩ => ⟨n, t, by rw [e], q⟩) fun _ _ e => e)).use hs' (.refl s) fun r s' m hr => ?_)
  obtain ⟨n, t, rfl, ⟨h0, h1⟩, hq⟩ := hr
  refine wpAny_bind (wpAny_holding (wpAny_pure ?_))
  refine wpAny_bind (wpAny_letGo ?_)
  show wpAny _ _ (if n < 0 then _ else _) _ _ _
  rw [if_neg (by omega)]
  show wpAny _ _ (if n ≥ 2 ^ 63 then _ else _) _ _ _
  rw [if_neg (by omega)]
  exact wpAny_bind (wpAny_mkInt (wpAny_pure ⟨_, rfl, m.trans (Same.mk' _ _ _), hq _⟩))
theorem Assign_Attr {M : Model} {env : Env} {o value : Expr} {attr : Str} {pos' pos : Pos} {Q : Flow → Heap → Prop}
    (k : Ev M A (eval value env) h (fun v h₁ => Ev M A (eval o env) h₁ (fun ov h₂ => Ev M A (setAttr ov attr v) h₂ (fun _ => Q .next) E) E) E)
    (hs : swapsWith value (some (.Attribute o attr pos')) pos.line env = pure false := by rfl) : Ev M A (exec (.Assign [.Attribute o attr pos'] value pos) env) h Q E :=
  .mk fun s hs' => plainObj_wpAny_Assign_Attribute (k.use hs' (.refl s) fun _ _ m₁ k₁ => k₁.use rfl m₁ fun _ _ m₂ k₂ => k₂.use rfl m₂ fun _ _ m₃ q => ⟨m₃, q⟩) hs
/-- the first name of a new object -/
theorem eSetAttr {x C dx L : Addr} {cs : List (Str × Addr)} {m : Str → Option Value} {led : List (Addr × Obj)} {led' : Obj → List (Addr × Obj)} {name : Str} {v : Value} {Q : Unit → Heap → Prop} (X : K.In h) (F : Loc g L cs m led h) (hx : h.get? x = some (instObj C dx)) (hput : PutF dx emptyDict led led')
    (hs : findIn K (.ref C) "__setattr__" = some (some (.builtin "object.__setattr__"))) (hp : plainOver K C = true) (ht : takerIn K C name = some none) (hh : hasDictIn K C = true)
    (k : ∀ hash t h', Loc g L cs m (led' (dictOf [⟨hash, .str name t, v⟩] 1)) h' → Q () h') : Ev (model prog w) A (setAttr (.ref x) name v) h Q E := .mk fun s hs' => by
  subst hs'
  have D := F.get (hput.put emptyDict).mem
  have I : InstAt s.heap x (instObj C dx) C (some emptyDict) := ⟨hx, rfl, rfl, D⟩
  refine set_plain X I hs (osa_open (s := { s with toks := s.toks + 1 }) X I hp ht fun b => ?_)
  obtain ⟨cd, hc, hd'⟩ := any_some hh
  refine wpAny_bind (wpAny_pure (wpAny_bind (wpAny_bind (wpAny_loadPart (s := { s with toks := s.toks + 1 }) hx (wpAny_bind ((looks_clsIn X hc).here (s := { s with toks := s.toks + 1 }) ?_))))))
  rw [hd']
  refine wpAny_pure (a := some dx) (wpAny_bind (wpAny_pure (wpAny_bind ?_)))
  unfold nsSet
  refine wpAny_bind (wpAny_bind (wpAny_askSetting (wpAny_pure (wpAny_bind (wpAny_mkText (wpAny_bind (wpAny_loadPart D ?_)))))))
  dsimp only
  rw [aRefKeyMayBeTheName_at]
  rw [if_neg (by simp)]
  refine wpAny_updatePart (s := { s with toks := s.toks + 1 + 1 }) D ?_
  have e : Obj.putName name (PyData.keyHash w.params name) (.str name (s.toks + 1)) v (dictOf [] 0) = dictOf [⟨PyData.keyHash w.params name, .str name (s.toks + 1), v⟩] 1 := by rw [putName_dict]; rfl
  have D' : (s.heap.update dx (Obj.putName name (PyData.keyHash w.params name) (.str name (s.toks + 1)) v)).get? dx = some (dictOf [⟨PyData.keyHash w.params name, .str name (s.toks + 1), v⟩] 1) := by
    have := Heap.get?_update_self (Obj.putName name (PyData.keyHash w.params name) (.str name (s.toks + 1)) v) D (by rw [show (emptyDict : Obj) = dictOf [] 0 from rfl, e]; rfl)
    rw [this, show (emptyDict : Obj) = dictOf [] 0 from rfl, e]
  refine wpAny_bind (wpAny_lookBehind D' (pastItsLine_dict (by simp [sizeLine_eq])) ?_)
  exact wpAny_pure ⟨rfl, k _ _ _ (F.putE (hput.put _) (fun b o hb q => (Heap.get?_update_ne _ _ _ _ hb).trans q) D')⟩
end

section
variable {prog : Program} {w : World} {A : Around} {g h : Heap} {E : Value → Heap → Prop} {env : Env} {Q : Value → Heap → Prop} {L a : Addr} {cs : List (Str × Addr)} {m : Str → Option Value} {led : List (Addr × Obj)} {t u : Tok} {x : Str} {o : Obj} {vs : List Value}

theorem eType_str (k : Q (.type "str") h) : Ev (model prog w) A (call (.type "type") [.str x t]) h Q E := .mk fun s hs => call_type_of (typeIs_str s x t) (by decide +kernel) (fin0 (Q := Q) hs k)
theorem eType_list (ho : h.get? a = some o) (hc : o.cls = .type "list") (k : Q (.type "list") h) : Ev (model prog w) A (call (.type "type") [.ref a]) h Q E := .mk fun s hs => call_type_of ⟨o, hs ▸ ho, hc⟩ (by decide +kernel) (fin0 (Q := Q) hs k)
theorem eIs_type {M : Model} {X Y : String} (k : Q (.bool (Value.type X == Value.type Y)) h) : Ev M A (compareOp .Is (.type X) (.type Y)) h Q E := .mk fun s hs => wpAny_is_plain rfl (fin0 (Q := Q) hs k)
theorem eIsNot_type {M : Model} {X Y : String} (k : Q (.bool (!(Value.type X == Value.type Y))) h) : Ev M A (compareOp .IsNot (.type X) (.type Y)) h Q E := .mk fun s hs => wpAny_isNot_plain rfl (fin0 (Q := Q) hs k)
theorem eIs_same {M : Model} {X : String} (k : Q (.bool true) h) : Ev M A (compareOp .Is (.type X) (.type X)) h Q E := eIs_type (by rw [beq_self_eq_true]; exact k)
theorem eIsNot_same {M : Model} {X : String} (k : Q (.bool false) h) : Ev M A (compareOp .IsNot (.type X) (.type X)) h Q E := eIsNot_type (by rw [beq_self_eq_true]; exact k)
theorem is_none_ref {M : Model} {a : Addr} (k : Q (.bool false) h) : Ev M A (compareOp .Is (.ref a) .none) h Q E := is_none' k
theorem is_none_str {M : Model} {x : Str} {t : Tok} (k : Q (.bool false) h) : Ev M A (compareOp .Is (.str x t) .none) h Q E := is_none' k
theorem is_none_none {M : Model} (k : Q (.bool true) h) : Ev M A (compareOp .Is .none .none) h Q E := is_none' k
theorem isNot_none_ref {M : Model} {a : Addr} (k : Q (.bool true) h) : Ev M A (compareOp .IsNot (.ref a) .none) h Q E := isNot_none' k
theorem isNot_none_str {M : Model} {x : Str} {t : Tok} (k : Q (.bool true) h) : Ev M A (compareOp .IsNot (.str x t) .none) h Q E := isNot_none' k
theorem isNot_none_none {M : Model} (k : Q (.bool false) h) : Ev M A (compareOp .IsNot .none .none) h Q E := isNot_none' k
/-- the walk stops here -/
structure Hold (p : Prop) : Prop where
  out : p
theorem callWith_W0 {K : Frag} {M : Model} {pos : Pos} {f : Value} {first : List Value} (X : K.In h) (hk : keepIn K f = true) (k : Ev M A (call f (first ++ [])) h Q E) :
    Ev M A (callWith pos f first (backTo pos (starEach [] env)) (backToKw pos (keywordEach [] env))) h Q E := callWith_F0 X hk k
theorem callWith_W1 {K : Frag} {M : Model} {pos : Pos} {f : Value} {first : List Value} {e : Expr} {rest : List Expr} (X : K.In h) (hk : keepIn K f = true)
    (k : Ev M A (spliced (backTo pos (starEach (e :: rest) env))) h (fun vs h₁ => K.In h₁ ∧ Ev M A (call f (first ++ vs)) h₁ Q E) E)
    (he : starEach (e :: rest) env = (false, eval e env) :: starEach rest env := by rfl) (hplain : (backTo pos (starEach rest env)).any (·.1) = false := by rfl) :
    Ev M A (callWith pos f first (backTo pos (starEach (e :: rest) env)) (backToKw pos (keywordEach [] env))) h Q E := callWith_F X hk k he hplain
theorem callWith_m0 {M : Model} {pos : Pos} {id : String} {v : Value} (k : Ev M A (call (.builtin id) [v]) h Q E) : Ev M A (callWith pos (.builtin id) [v] (backTo pos (starEach [] env)) (backToKw pos (keywordEach [] env))) h Q E := callWith_M0 k
theorem callWith_m {M : Model} {pos : Pos} {id : String} {v : Value} {e : Expr} {rest : List Expr} (k : Ev M A (spliced (backTo pos (starEach (e :: rest) env))) h (fun vs h₁ => Ev M A (call (.builtin id) (v :: vs)) h₁ Q E) E)
    (he : starEach (e :: rest) env = (false, eval e env) :: starEach rest env := by rfl) (hplain : (backTo pos (starEach (e :: rest) env)).any (·.1) = false := by rfl) :
    Ev M A (callWith pos (.builtin id) [v] (backTo pos (starEach (e :: rest) env)) (backToKw pos (keywordEach [] env))) h Q E := callWith_M k he hplain
theorem Name_debug {M : Model} {pos : Pos} (k : Q (.bool true) h) : Ev M A (eval (.Name (Str.ofString "__debug__") pos) env) h Q E := .mk fun s hs => by
  have e : eval (.Name (Str.ofString "__debug__") pos) env = (do standAt pos; debugConstant) := by with_unfolding_all rfl
  rw [e]
  exact wpAny_bind (wpAny_standAt (wpAny_bind (wpAny_rule (wpAny_pure (fin0 (Q := Q) hs k)))))
theorem truthy_none {M : Model} {Q : Bool → Heap → Prop} (k : Q false h) : Ev M A (truthy .none) h Q E := .mk fun s hs => wpAny_of_eq rfl (fin0 (Q := Q) hs k)
theorem eLower (hx : x.length ≤ 5592405) (k : ∀ t', Q (.str (Txt.lower x) t') h) : Ev (model prog w) A (call (.builtin "str.lower") [.str x t]) h Q E := .mk fun s hs => SC.lower (fit_lower hx) (fint (Q := Q) hs (k _) _)
theorem eMeth_lower {M : Model} {pl : Sem Bool} {Q : Value × List Value → Heap → Prop} (k : Q (.builtin "str.lower", [.str x t]) h) : Ev M A (getMethod (.str x t) "lower" pl) h Q E := .mk fun s hs => GM.lower (fin0 (Q := Q) hs k)

theorem While_ {test : Expr} {body orelse : List Stmt} {pos : Pos} {Q : Flow → Heap → Prop} (I : Nat → Heap → Prop)
    (turn : ∀ n h, I n h → Ev (model prog w) A (isTrue test env (eval test env)) h (fun b h₂ => if b then Ev (model prog w) A (execs body env) h₂ (fun f h₃ => match f with | .next | .cont => ∃ m, m < n ∧ I m h₃ | .brk => Q .next h₃ | .ret v => Q (.ret v) h₃) No
      else Ev (model prog w) A (execs orelse env) h₂ Q No) No)
    (n : Nat) (h0 : I n h) : Ev (model prog w) A (exec (.While test body orelse pos) env) h Q E := .mk fun s hs => by
  subst hs
  refine wpAny_While (codeAny_whileLoop (fun n s' => Same s s' ∧ I n s'.heap) (fun n s₁ hI => ?_) n ⟨.refl s, h0⟩)
  refine (turn n _ hI.2).use0 rfl hI.1 fun b s₂ m₂ k₂ => ?_
  cases b with
  | false => exact Ev.use0 k₂ rfl m₂ fun f s₃ m₃ q => ⟨m₃, q⟩
  | true =>
    refine Ev.use0 k₂ rfl m₂ fun f s₃ m₃ q => ?_
    cases f with
    | next => obtain ⟨k, hk, q⟩ := q; exact ⟨k, hk, m₃, q⟩
    | cont => obtain ⟨k, hk, q⟩ := q; exact ⟨k, hk, m₃, q⟩
    | brk => exact ⟨m₃, q⟩
    | ret v => exact ⟨m₃, q⟩

theorem part_none {M : Model} (k : Q .none h) : Ev M A (evalPart none env) h Q E := .mk fun s hs => wpAny_evalPart_none (fin0 (Q := Q) hs k)
theorem part_some {M : Model} {e : Expr} (k : Ev M A (eval e env) h Q E) : Ev M A (evalPart (some e) env) h Q E := .mk fun s hs => wpAny_evalPart_some (k.run s hs)
theorem Slice_any {value : Expr} {lower upper : Option Expr} {p pos : Pos}
    (k : Ev (model prog w) A (eval value env) h (fun ov h₁ => Ev (model prog w) A (evalPart lower env) h₁ (fun vl h₂ => Ev (model prog w) A (evalPart upper env) h₂ (fun vu h₃ =>
      ∀ s₃ : Shared, s₃.heap = h₃ → wpAny (model prog w) A (subscriptTail value (.Slice lower upper none p) ov (.ref s₃.heap.objs.size)) (fun v s' => Same s₃ s' ∧ Q v s'.heap) (fun e s' => Same s₃ s' ∧ E e s'.heap) { s₃ with heap := s₃.heap.push { cls := .type "slice", data := .fields #[vl, vu, .none] } }) E) E) E) :
    Ev (model prog w) A (eval (.Subscript value (.Slice lower upper none p) pos) env) h Q E := .mk fun s hs => by
  refine Subscript_ (k.use hs (.refl s) fun ov s₁ m₁ k₁ => wpAny_Slice (k₁.use rfl m₁ fun vl s₂ m₂ k₂ => k₂.use rfl m₂ fun vu s₃ m₃ k₃ => ?_))
  rw [evalPart_none]
  exact wpAny_pure (wpAny_mono (k₃ s₃ rfl) (fun _ _ q => ⟨m₃.trans q.1, q.2⟩) fun _ _ q => ⟨m₃.trans q.1, q.2⟩)
theorem Slice_str {value : Expr} {lower upper : Option Expr} {p pos : Pos}
    (k : Ev (model prog w) A (eval value env) h (fun ov h₁ => Ev (model prog w) A (evalPart lower env) h₁ (fun vl h₂ => Ev (model prog w) A (evalPart upper env) h₂ (fun vu h₃ =>
      ∃ x t l u, ov = .str x t ∧ vl = partValue l ∧ vu = partValue u ∧ x.length ≤ sizeLine ∧ ∃ g L cs m led, Loc g L cs m led h₃ ∧ ∀ t' h', Loc g L cs m led h' → Q (.str (Txt.slice x (l.map (·.1)) (u.map (·.1))) t') h') E) E) E) :
    Ev (model prog w) A (eval (.Subscript value (.Slice lower upper none p) pos) env) h Q E :=
  Slice_any (k.mono (fun ov h₁ k => k.mono (fun vl h₂ k => k.mono (fun vu h₃ k s₃ hs => by
    subst hs
    obtain ⟨x, t, l, u, rfl, rfl, rfl, hsz, g, L, cs, m, led, F, k₃⟩ := k
    refine tail_any (typeIs_str _ x t) PySem.F.slot_str_getitem.lookup (wpAny_getItem_str_slice (l := l) (u := u) (st := none) ⟨_, Heap.get?_push_size _ rfl, rfl, rfl⟩ rfl (post_val_or_str ⟨Nat.le_trans (Txt.slice_le x _ _) hsz, fun t' k => ?_⟩)) rfl
    exact ⟨Same.mk' _ _ _, k₃ _ _ (F.new _).drop⟩) fun _ _ e => e) fun _ _ e => e) fun _ _ e => e)
theorem Slice_list {value : Expr} {lower upper : Option Expr} {p pos : Pos}
    (k : Ev (model prog w) A (eval value env) h (fun ov h₁ => Ev (model prog w) A (evalPart lower env) h₁ (fun vl h₂ => Ev (model prog w) A (evalPart upper env) h₂ (fun vu h₃ =>
      ∃ l o vs lo hi, ov = .ref l ∧ h₃.get? l = some o ∧ IsL o vs ∧ vs.length ≤ sizeLine ∧ IsPart vl lo ∧ IsPart vu hi ∧ ∃ g L cs m led, Loc g L cs m led h₃ ∧ ∀ D h', Loc g L cs m ((D, listO (slicePick vs.toArray lo hi none).toList 0) :: led) h' → Q (.ref D) h') E) E) E) :
    Ev (model prog w) A (eval (.Subscript value (.Slice lower upper none p) pos) env) h Q E :=
  Slice_any (k.mono (fun ov h₁ k => k.mono (fun vl h₂ k => k.mono (fun vu h₃ k s₃ hs => by
    subst hs
    obtain ⟨l, o, vs, lo, hi, rfl, ho, hl, hsz, pl, pu, g, L, cs, m, led, F, k₃⟩ := k
    refine tail_any (Heap.IsList.typeIs (s := { s₃ with heap := s₃.heap.push { cls := .type "slice", data := .fields #[vl, vu, .none] } }) ((hl.isList ho).push _)) list_getitem_lookup
      (wpAny_getItem_list_slice ((hl.isList ho).push _) (Heap.IsSliceOf.new ..) pl pu .none (by simp) ⟨Same.mk' _ _ _, ?_⟩ (by simpa using hsz)) rfl
    have F' := (F.new { cls := .type "slice", data := .fields #[vl, vu, .none] }).drop.new { cls := .type "list", data := .seq (slicePick vs.toArray lo hi none) }
    exact k₃ _ _ (by simpa using F')) fun _ _ e => e) fun _ _ e => e) fun _ _ e => e)
theorem While_J {test : Expr} {body : List Stmt} {pos : Pos} {Q : Flow → Heap → Prop} (I : Nat → Heap → Prop) (J : Heap → Prop)
    (turn : ∀ n h, I n h → Ev (model prog w) A (isTrue test env (eval test env)) h (fun b h₂ => if b then Ev (model prog w) A (execs body env) h₂ (fun f h₃ => match f with | .next | .cont => ∃ m, m < n ∧ I m h₃ | .brk => J h₃ | .ret v => Q (.ret v) h₃) No
      else J h₂) No)
    (n : Nat) (h0 : I n h) (done : ∀ h', J h' → Q .next h') : Ev (model prog w) A (exec (.While test body [] pos) env) h Q E :=
  While_ I (fun n h hI => (turn n h hI).mono (fun b h₂ k => by
    cases b with
    | false => exact execs_nil (done _ k)
    | true =>
      refine Ev.mono k (fun f h₃ q => ?_) fun _ _ e => e
      cases f with
      | brk => exact done _ q
      | _ => exact q) fun _ _ e => e) n h0
theorem eTup0 {value slice : Expr} {v₀ v₁ : Value} (ht : IsTup h a #[v₀, v₁]) (k : Q v₀ h)
    (hs : subscripted slice false (.ref a) (.int 0 u) = operate [.ref a, .int 0 u] (getItem (.ref a) (.int 0 u)) := by with_unfolding_all rfl) : Ev (model prog w) A (subscriptTail value slice (.ref a) (.int 0 u)) h Q E :=
  .mk fun s hs' => tail_any (IsTup.typeIs (s := s) (hs' ▸ ht)) slot_tuple_getitem.lookup (getItem_tuple (hs' ▸ ht) (by decide) (by decide) (j := 0) rfl rfl (fin0 (Q := Q) hs' k)) hs
theorem eTup1 {value slice : Expr} {v₀ v₁ : Value} (ht : IsTup h a #[v₀, v₁]) (k : Q v₁ h)
    (hs : subscripted slice false (.ref a) (.int 1 u) = operate [.ref a, .int 1 u] (getItem (.ref a) (.int 1 u)) := by with_unfolding_all rfl) : Ev (model prog w) A (subscriptTail value slice (.ref a) (.int 1 u)) h Q E :=
  .mk fun s hs' => tail_any (IsTup.typeIs (s := s) (hs' ▸ ht)) slot_tuple_getitem.lookup (getItem_tuple (hs' ▸ ht) (by decide) (by decide) (j := 1) rfl rfl (fin0 (Q := Q) hs' k)) hs
end

/-- objects of the frozen heap that may change after all -/
theorem Loc.unfreeze {h h₁ : Heap} {L : Addr} {cs : List (Str × Addr)} {m : Str → Option Value} {led : List (Addr × Obj)} (F : Loc h L cs m [] h₁) (hled : ∀ p ∈ led, h.get? p.1 = some p.2) (nd : (led.map (·.1)).Nodup) : Loc (hideAll h (led.map (·.1))) L cs m led h₁ :=
  ⟨subHide.tr F.sub, F.ns, none_sub subHide F.gL, fun p hp => ⟨F.sub _ _ (hled p hp), (fun e => by have := hled p hp; rw [e, F.gL] at this; cases this), hideAll_none _ (List.mem_map.mpr ⟨p, hp, rfl⟩)⟩, nd, F.cell, F.capart,
    fun x c q => ⟨(F.cnew x c q).1, none_sub subHide (F.cnew x c q).2.1, fun p hp e => by have := hled p hp; rw [e, (F.cnew x c q).2.1] at this; cases this⟩⟩
theorem Loc.unfreeze1 {h h₁ : Heap} {L D : Addr} {o : Obj} {cs : List (Str × Addr)} {m : Str → Option Value} (F : Loc h L cs m [] h₁) (hD : h.get? D = some o) : Loc (hideAll h [D]) L cs m [(D, o)] h₁ :=
  F.unfreeze (led := [(D, o)]) (fun p hp => by rw [List.mem_singleton.mp hp]; exact hD) (by simp)
section
variable {prog : Program} {w : World} {A : Around} {s : Shared} {E : Value → Shared → Prop}
/-- xs[:] = ys -/
theorem setItem_all {D D2 sl : Addr} {vs ys : Array Value} {n : Nat} {o2 : Obj} {Q : Unit → Shared → Prop} (ho : s.heap.get? D = some ⟨.type "list", none, .seq vs n, #[]⟩) (h2 : s.heap.get? D2 = some o2) (hc2 : o2.cls = .type "list") {n2 : Nat} (hd2 : o2.data = .seq ys n2) (hne : D ≠ D2)
    (hs : s.heap.IsSliceOf sl .none .none .none) (hz : vs.size + ys.size ≤ sizeLine)
    (k : ∀ h' n', Heap.ExtBut D s.heap h' → h'.get? D = some ⟨.type "list", none, .seq ys n', #[]⟩ → Q () { s with heap := h' }) : wpAny (model prog w) A (setItem (.ref D) (.ref sl) (.ref D2)) Q E s := by
  obtain ⟨os, hos, hcs, hds⟩ := id hs
  have hTs : s.TypeIs (.ref sl) "slice" := ⟨os, hos, hcs⟩
  have hT : s.TypeIs (.ref D) "list" := ⟨_, ho, rfl⟩
  have hT2 : s.TypeIs (.ref D2) "list" := ⟨_, h2, hc2⟩
  unfold setItem
  refine wpAny_holding (wpAny_bind (wpAny_sequenceKey hT (by decide) ?_))
  refine wpAny_bind (wpAny_callSpecial?_slot (name := Str.ofString "__setitem__") hT F.slot_list_setitem (wpAny_call_entry F.slot_list_setitem hT F.entry_list_setitem ?_ (F.args_list_setitem_3 _ _ _)))
  unfold Builtin.«list.__setitem__»
  refine wpAny_bind (wpAny_pure ?_)
  dsimp only
  refine wpAny_bind (m := Builtin.List.listSubscript? (.ref sl)) ?_
  unfold Builtin.List.listSubscript?
  refine wpAny_bind (wpAny_specialOf hTs slice_no_index ?_)
  simp only [Option.isNone_none, if_true]
  refine wpAny_pure ?_
  refine wpAny_bind (wpAny_typeOf hTs ?_)
  rw [if_neg (by decide)]
  rw [listSliceParts_eq]
  refine wpAny_bind (wpAny_bind (wpAny_field hos hds (x := .none) rfl (wpAny_bind (wpAny_listPart .none ?_))))
  rw [if_neg (show ¬ ((rawPart none == rawInt 0) = true) from Bool.false_ne_true)]
  refine wpAny_bind (wpAny_field hos hds (x := .none) rfl (wpAny_bind (wpAny_listPart .none ?_)))
  refine wpAny_bind (wpAny_field hos hds (x := .none) rfl (wpAny_bind (wpAny_listPart .none (wpAny_pure ?_))))
  rw [if_neg (show ¬ (Builtin.List.listSameRef (.ref D) (.ref D2) = true) from by unfold Builtin.List.listSameRef; simpa using hne)]
  refine wpAny_bind (m := Builtin.List.listAllItems (.ref D2) _) ?_
  unfold Builtin.List.listAllItems
  refine wpAny_bind (wpAny_typeOf hT2 ?_)
  rw [if_pos (by decide)]
  refine listItems_at h2 hd2 ?_
  refine wpAny_bind (listItems_at ho rfl ?_)
  refine wpAny_bind (wpAny_of_eq (sliceIndices_raw none none none vs.size (by simp)) ?_)
  rw [if_pos (by rfl)]
  refine wpAny_bind (wpAny_rule ?_)
  rw [if_neg (show ¬ (Builtin.List.listTooLong (vs.size + ys.size) = true) from by unfold Builtin.List.listTooLong; simp; omega)]
  have key : ∀ (f : Array Value → Array Value) (l : List Value), f vs = ys → wpAny (model prog w) A.in1 (do Builtin.List.listUpdate (.ref D) f; letGo l; ret Value.none) (fun fin s' => ∃ v, fin = .done (.ret v) ∧ wpAny (model prog w) A (pure ()) Q E s') E s := by
    intro f l ef
    refine wpAny_bind (listUpdate_at ho rfl ?_ (by omega) (by rw [ef]; omega))
    refine wpAny_bind (wpAny_letGo (wpAny_pure ⟨_, rfl, wpAny_pure (k _ (if ys.size == vs.size then n else n + 1) (fun b o hb q => (Heap.get?_update_ne _ _ _ _ hb).trans q) ?_)⟩))
    rw [Heap.get?_update_self (Obj.mapSeq f) ho rfl]
    show some (⟨.type "list", none, .seq (f vs) (if (f vs).size == vs.size then n else n + 1), #[]⟩ : Obj) = _
    rw [ef]
  refine key _ _ ?_
  have b1 : (sliceBounds none none none vs.size).1 = 0 := rfl
  have b2 : (sliceBounds none none none vs.size).2.1 = vs.size := rfl
  rw [b1, b2]
  apply Array.ext'
  simp
end
section
variable {prog : Program} {w : World} {A : Around} {g h : Heap} {E : Value → Heap → Prop} {env : Env} {L : Addr} {cs : List (Str × Addr)} {m : Str → Option Value} {led : List (Addr × Obj)}
/-- the statement o[:] = value -/
theorem Assign_all {o value : Expr} {p pos' pos : Pos} {Q : Flow → Heap → Prop}
    (k : Ev (model prog w) A (eval value env) h (fun v h₁ => Ev (model prog w) A (eval o env) h₁ (fun ov h₂ =>
      ∃ D D2 vs ys n o2 g L cs m led led', ov = .ref D ∧ v = .ref D2 ∧ Loc g L cs m led h₂ ∧ PutF D (listO vs n) led led' ∧ h₂.get? D2 = some o2 ∧ IsL o2 ys ∧ D ≠ D2 ∧ vs.length + ys.length ≤ sizeLine ∧
        ∀ n' h', Loc g L cs m (led' (listO ys n')) h' → Q .next h') E) E)
    (hs : swapsWith value (some (.Subscript o (.Slice none none none p) pos')) pos.line env = pure false := by rfl) : Ev (model prog w) A (exec (.Assign [.Subscript o (.Slice none none none p) pos'] value pos) env) h Q E := .mk fun s hs' => by
  refine wpAny_Assign_Subscript (k.use hs' (.refl s) fun v s₁ m₁ k₁ => k₁.use rfl m₁ fun ov s₂ m₂ k₂ => ?_) hs
  obtain ⟨D, D2, vs, ys, n, o2, g, L, cs, m, led, led', rfl, rfl, F, hput, h2, hl2, hne, hz, k₂⟩ := k₂
  refine wpAny_Slice ?_
  rw [evalPart_none]
  refine wpAny_pure (wpAny_pure (wpAny_pure ?_))
  have F' : Loc g L cs m led (s₂.heap.push { cls := .type "slice", data := .fields #[.none, .none, .none] }) := (F.new _).drop
  obtain ⟨hc2, n2, hd2⟩ := hl2
  refine setItem_all (s := { s₂ with heap := s₂.heap.push { cls := .type "slice", data := .fields #[.none, .none, .none] } }) (F'.get (hput.put (listO vs n)).mem) (Heap.get?_push_of_some _ h2) hc2 hd2 hne (Heap.IsSliceOf.new ..) (by simpa using hz) fun h' n' he hd => ?_
  exact ⟨m₂.trans (Same.mk' _ _ _), k₂ n' h' (F'.putE (hput.put _) he hd)⟩
theorem Delete_ {M : Model} {t : Expr} {pos : Pos} {Q : Flow → Heap → Prop} (k : Ev M A (delete t env) h (fun _ => Q .next) E) : Ev M A (exec (.Delete [t] pos) env) h Q E :=
  .mk fun s hs => wpAny_Delete (wpAny_deleteEach_cons (k.use hs (.refl s) fun _ _ m₁ q => wpAny_deleteEach_nil ⟨m₁, q⟩))
theorem delete_Sub {M : Model} {o i : Expr} {pos : Pos} {Q : Unit → Heap → Prop} (k : Ev M A (eval o env) h (fun ov h₁ => Ev M A (eval i env) h₁ (fun iv h₂ => Ev M A (delItem ov iv) h₂ (fun _ => Q ()) E) E) E) :
    Ev M A (delete (.Subscript o i pos) env) h Q E := .mk fun s hs => by
  rw [arm_delete_Subscript]
  exact wpAny_bind (k.use hs (.refl s) fun _ _ m₁ k₁ => wpAny_bind (wpAny_holding (k₁.use rfl m₁ fun _ _ m₂ k₂ => wpAny_bind (wpAny_standAt (wpAny_bind (wpAny_holding (k₂.use rfl m₂ fun _ _ m₃ q => wpAny_release ⟨m₃, q⟩)))))))
theorem Assign_Sub {M : Model} {o i value : Expr} {pos' pos : Pos} {Q : Flow → Heap → Prop}
    (k : Ev M A (eval value env) h (fun v h₁ => Ev M A (eval o env) h₁ (fun ov h₂ => Ev M A (eval i env) h₂ (fun iv h₃ => Ev M A (setItem ov iv v) h₃ (fun _ => Q .next) E) E) E) E)
    (hs : swapsWith value (some (.Subscript o i pos')) pos.line env = pure false := by rfl) : Ev M A (exec (.Assign [.Subscript o i pos'] value pos) env) h Q E :=
  .mk fun s hs' => wpAny_Assign_Subscript (k.use hs' (.refl s) fun _ _ m₁ k₁ => k₁.use rfl m₁ fun _ _ m₂ k₂ => k₂.use rfl m₂ fun _ _ m₃ k₃ => k₃.use rfl m₃ fun _ _ m₄ q => ⟨m₄, q⟩) hs
theorem eDelI {K : Frag} {M : Model} {x C dx f : Addr} {od : Obj} {v : Value} {Q : Unit → Heap → Prop} (X : K.In h) (hx : h.get? x = some (instObj C dx)) (hdx : h.get? dx = some od) (hq : noSeq K C = true) (hs : findIn K (.ref C) "__delitem__" = some (some (.ref f))) (hf : isFn K (.ref f) = true)
    (k : Ev M A (call (.ref f) [.ref x, v]) h (fun _ => Q ()) E) : Ev M A (delItem (.ref x) v) h Q E := .mk fun s hs' => by
  subst hs'
  have I : InstAt s.heap x (instObj C dx) C (some od) := ⟨hx, rfl, rfl, hdx⟩
  unfold delItem sequenceKey
  refine wpAny_holding (wpAny_bind (wpAny_bind (I.type.here (wpAny_bind ((anyM_none X hq).here ?_)))))
  rw [if_pos (show (!false) = true from rfl)]
  exact wpAny_pure (wpAny_bind (special_fn X I hs (beq_iff_eq.mp hf) (k.use rfl (.refl s) fun _ _ m q => wpAny_pure ⟨m, q⟩)))
theorem eSetI {K : Frag} {M : Model} {x C dx f : Addr} {od : Obj} {v i : Value} {Q : Unit → Heap → Prop} (X : K.In h) (hx : h.get? x = some (instObj C dx)) (hdx : h.get? dx = some od) (hq : noSeq K C = true) (hs : findIn K (.ref C) "__setitem__" = some (some (.ref f))) (hf : isFn K (.ref f) = true)
    (k : Ev M A (call (.ref f) [.ref x, i, v]) h (fun _ => Q ()) E) : Ev M A (setItem (.ref x) i v) h Q E := .mk fun s hs' => by
  subst hs'
  have I : InstAt s.heap x (instObj C dx) C (some od) := ⟨hx, rfl, rfl, hdx⟩
  unfold setItem sequenceKey
  refine wpAny_holding (wpAny_bind (wpAny_bind (I.type.here (wpAny_bind ((anyM_none X hq).here ?_)))))
  rw [if_pos (show (!false) = true from rfl)]
  exact wpAny_pure (wpAny_bind (special_fn X I hs (beq_iff_eq.mp hf) (k.use rfl (.refl s) fun _ _ m q => wpAny_pure ⟨m, q⟩)))
end

section
variable {prog : Program} {w : World} {A : Around} {g h : Heap} {E : Value → Heap → Prop} {env : Env} {Q : Value → Heap → Prop} {L a : Addr} {cs : List (Str × Addr)} {m : Str → Option Value} {led : List (Addr × Obj)} {t u : Tok} {x : Str} {o : Obj} {vs : List Value}
theorem BoolOp_and' {M : Model} {e₁ e₂ : Expr} {rest : List Expr} {pos : Pos} (k : Ev M A (eval e₁ env) h (fun v h₁ => Ev M A (truthy v) h₁ (fun c h₂ => if c then Ev M A (eval (.BoolOp .And (e₂ :: rest) pos) env) h₂ Q E else Q v h₂) E) E) : Ev M A (eval (.BoolOp .And (e₁ :: e₂ :: rest) pos) env) h Q E :=
  .mk fun s hs => BoolOp_and (k.use hs (.refl s) fun v s₁ m₁ k₁ => k₁.use rfl m₁ fun c s₂ m₂ k₂ => by cases c <;> first | exact ⟨m₂, k₂⟩ | exact Ev.use k₂ rfl m₂ fun _ _ m₃ q => ⟨m₃, q⟩)
theorem BoolOp_or' {M : Model} {e₁ e₂ : Expr} {rest : List Expr} {pos : Pos} (k : Ev M A (eval e₁ env) h (fun v h₁ => Ev M A (truthy v) h₁ (fun c h₂ => if c then Q v h₂ else Ev M A (eval (.BoolOp .Or (e₂ :: rest) pos) env) h₂ Q E) E) E) : Ev M A (eval (.BoolOp .Or (e₁ :: e₂ :: rest) pos) env) h Q E :=
  .mk fun s hs => BoolOp_or (k.use hs (.refl s) fun v s₁ m₁ k₁ => k₁.use rfl m₁ fun c s₂ m₂ k₂ => by cases c <;> first | exact ⟨m₂, k₂⟩ | exact Ev.use k₂ rfl m₂ fun _ _ m₃ q => ⟨m₃, q⟩)
theorem BoolOp_one' {M : Model} {op : BoolOp} {e : Expr} {pos : Pos} (k : Ev M A (eval e env) h Q E) : Ev M A (eval (.BoolOp op [e] pos) env) h Q E := .mk fun s hs => BoolOp_one (k.run s hs)
theorem eNotIn {K : Frag} {M : Model} {x C dx f : Addr} {od : Obj} {v : Value} (X : K.In h) (hx : h.get? x = some (instObj C dx)) (hdx : h.get? dx = some od) (hs : findIn K (.ref C) "__contains__" = some (some (.ref f))) (hf : isFn K (.ref f) = true)
    (k : Ev M A (call (.ref f) [.ref x, v]) h (fun r h' => Ev M A (truthy r) h' (fun b => Q (.bool (!b))) E) E) : Ev M A (compareOp .NotIn v (.ref x)) h Q E := .mk fun s hs' => by
  subst hs'
  have I : InstAt s.heap x (instObj C dx) C (some od) := ⟨hx, rfl, rfl, hdx⟩
  refine wpAny_bind (m := contains (.ref x) v) ?_
  unfold contains
  refine wpAny_holding (wpAny_bind (wpAny_bind (I.type.here ((looks_findIn X hs).here ?_))))
  rw [if_neg (by simp)]
  exact wpAny_bind (unlessNone_K X I hs hf (k.use rfl (.refl s) fun r s₁ m₁ k₁ => k₁.use rfl m₁ fun b s₂ m₂ q => wpAny_pure ⟨m₂, q⟩))
/-- xs[::-1] -/
theorem Slice_rev {value st : Expr} {p pos : Pos}
    (k : Ev (model prog w) A (eval value env) h (fun ov h₁ => Ev (model prog w) A (eval st env) h₁ (fun vt h₃ =>
      ∃ l o vs u, ov = .ref l ∧ vt = .int (-1) u ∧ h₃.get? l = some o ∧ IsL o vs ∧ vs.length ≤ sizeLine ∧ ∃ g L cs m led, Loc g L cs m led h₃ ∧ ∀ D h', Loc g L cs m ((D, listO vs.reverse 0) :: led) h' → Q (.ref D) h') E) E) :
    Ev (model prog w) A (eval (.Subscript value (.Slice none none (some st) p) pos) env) h Q E := .mk fun s hs => by
  refine Subscript_ (k.use hs (.refl s) fun ov s₁ m₁ k₁ => wpAny_Slice ?_)
  rw [evalPart_none]
  refine wpAny_pure (wpAny_pure (wpAny_evalPart_some (k₁.use rfl m₁ fun vt s₃ m₃ k₃ => ?_)))
  obtain ⟨l, o, vs, u, rfl, rfl, ho, hl, hsz, g, L, cs, m, led, F, k₃⟩ := k₃
  refine tail_any (Heap.IsList.typeIs (s := { s₃ with heap := s₃.heap.push { cls := .type "slice", data := .fields #[.none, .none, .int (-1) u] } }) ((hl.isList ho).push _)) list_getitem_lookup
    (wpAny_getItem_list_slice ((hl.isList ho).push _) (Heap.IsSliceOf.new ..) .none .none (.int (-1) u) (by decide) ⟨m₃.trans (Same.mk' _ _ _), ?_⟩ (by simpa using hsz)) rfl
  have F' := (F.new { cls := .type "slice", data := .fields #[.none, .none, .int (-1) u] }).drop.new { cls := .type "list", data := .seq (slicePick vs.toArray none none (some (-1))) }
  refine k₃ _ _ ?_
  rw [krv_pick] at F' ⊢
  simpa using F'
theorem loop_range {target : Expr} {body : List Stmt} {R : Result → Heap → Prop} {r : Addr} {b c d : Int} {v₁ v₂ v₃ : Tok} {n : Nat} {y : Str} {py : Pos} (P : LoopP) (hh : A.handled = none) (hr : IsRange h r b c d v₁ v₂ v₃) (hsmall : Builtin.Range.small b c d = true) (hn : Builtin.Range.rangeSize b c d = (n : Int))
    (F : Loc g L cs m led h) (h0 : P 0 g m led)
    (turn : ∀ i u I o g m led h, i < n → P i g m led → Loc g L cs m ((I, o) :: led) h →
      Ev (model prog w) A (assign (.Name y py) env (.int (b + i * d) u)) h (fun _ h₁ => Ev (model prog w) A (execs body env) h₁ (fun fl h₂ => match fl with
        | .ret v => R (.ok (.ret v)) h₂
        | .brk => R (.ok .next) h₂
        | _ => ∃ g' m' led', P (i + 1) g' m' led' ∧ Loc g' L cs m' ((I, o) :: led') h₂) No) No)
    (done : ∀ g m led h, P n g m led → Loc g L cs m led h → R (.ok .next) h) :
    Ev (model prog w) A (pyIter (.ref r)) h (fun it h₂ => EvC (model prog w) A (.forLoop (.Name y py) it body [] env) h₂ R) E := .mk fun s hs => by
  subst hs
  refine wpAny_pyIter_range hr hsmall ⟨rfl, ?_⟩
  refine forLoop_walk P (Walks.range hh s.heap.objs.size b d n) (fun i h x => ⟨_, x⟩) (fun b hb => .inl (List.mem_singleton.mp hb)) (fun i v s Q E st q => go_name q) (F.new _) ?_ h0 (fun i v o g m led h hi hv hP F => ?_) done
  · show (s.heap.push _).get? s.heap.objs.size = _
    rw [Heap.get?_push_size _ rfl, hn]
    simp
  · obtain ⟨u, rfl⟩ := hv
    exact turn i u _ o g m led h hi hP F
end

theorem isl_cls {o : Obj} {vs : List Value} (h : IsL o vs) : o.cls = .type "list" := h.1
theorem neStr {x y : Str} (h : (x == y) = false) : ¬ x = y := fun e => by rw [e] at h; simp at h
theorem s_a : Str.ofString "a" = ⟨#[97]⟩ := by decide +kernel
theorem s_z : Str.ofString "z" = ⟨#[122]⟩ := by decide +kernel
theorem s_A : Str.ofString "A" = ⟨#[65]⟩ := by decide +kernel
theorem s_Z : Str.ofString "Z" = ⟨#[90]⟩ := by decide +kernel
local macro_rules | `(tactic| walk_at "sg") => `(tactic| with_reducible first | exact rfl | exact s_a | exact s_z | exact s_A | exact s_Z)
local macro_rules | `(tactic| walk_at "lk") => `(tactic| first
  | assumption
  | (with_reducible exact if_pos rfl)
  | (refine (if_neg (neStr (by decide))).trans ?_; walk_at "lk")
  | (with_reducible exact rfl)
  | rfl)
local macro_rules | `(tactic| walk_at "name") => `(tactic| first
  | (refine' Name_L (by assumption) ?v ?_; (case v => walk_at "lk"))
  | (refine' Name_C (by assumption) ?v ?_; (case v => walk_at "lk"))
  | (refine' Name_G (Loc.amb ?F ?X) ?e ?_; (case F => assumption); (case X => assumption); (case e => walk_at "nsG"))
  | (refine' Name_B (Loc.amb ?F ?X) ?e ?b (by decide) ?_; (case F => assumption); (case X => assumption); (case e => walk_at "nsB"); (case b => walk_at "bb")))
local macro_rules | `(tactic| walk_at "bb") => `(tactic| with_reducible first | exact bb_chr | exact bb_ord | exact bb_len | exact bb_str | exact bb_range | exact bb_type | exact bb_list)
local macro_rules | `(tactic| walk_at "s") => `(tactic| first
  | ((with_reducible show Ev _ _ (execs (_ :: _) _) _ _ _); refine execs_cons ?_)
  | ((with_reducible show Ev _ _ (execs [] _) _ _ _); refine execs_nil ?_)
  | ((with_reducible show Ev _ _ (exec (Stmt.Return (some _) _) _) _ _ _); refine Return_ ?_)
  | ((with_reducible show Ev _ _ (exec (Stmt.Assign [Expr.Name _ _] _ _) _) _ _ _); refine Assign_Name ?_)
  | ((with_reducible show Ev _ _ (exec (Stmt.AugAssign (Expr.Name _ _) _ _ _) _) _ _ _); refine AugAssign_Name ?_)
  | ((with_reducible show Ev _ _ (exec (Stmt.If _ _ _ _) _) _ _ _); refine If_ ?_)
  | ((with_reducible show Ev _ _ (exec (Stmt.For _ _ _ _ _) _) _ _ _); refine For_ ?_)
  | ((with_reducible show Ev _ _ (eval (Expr.Constant (Const.int _) _ _) _) _ _ _); refine Const_int ?_; intro _)
  | ((with_reducible show Ev _ _ (eval (Expr.Constant (Const.str _) _ _) _) _ _ _); refine Const_str ?_; intro _)
  | ((with_reducible show Ev _ _ (eval (Expr.Constant Const.none _ _) _) _ _ _); refine Const_none ?_)
  | ((with_reducible show Ev _ _ (eval (Expr.Constant (Const.bool _) _ _) _) _ _ _); refine Const_bool ?_)
  | ((with_reducible show Ev _ _ (eval (Expr.Name (Str.ofString "__debug__") _) _) _ _ _); refine Name_debug ?_)
  | ((with_reducible show Ev _ _ (eval (Expr.Name _ _) _) _ _ _); walk_at "name")
  | ((with_reducible show Ev _ _ (loadName _ _) _ _ _); first | (refine' load_L (by assumption) ?v ?_; (case v => walk_at "lk")) | (refine' load_C (by assumption) ?v ?_; (case v => walk_at "lk")))
  | ((with_reducible show Ev _ _ (storeName _ _ _) _ _ _); first | (refine' store_L (by assumption) ?_; intro _ _) | (refine' store_C (by assumption) ?_; intro _ _))
  | ((with_reducible show Ev _ _ (assign (Expr.Name _ _) _ _) _ _ _); first | (refine' assign_L (by assumption) ?_; intro _ _) | (refine' assign_C (by assumption) ?_; intro _ _))
  | ((with_reducible show Ev _ _ (eval (Expr.Compare _ [_] [_] _) _) _ _ _); refine Compare1 ?_)
  | ((with_reducible show Ev _ _ (eval (Expr.BinOp _ _ _ _) _) _ _ _); refine BinOp_ ?_)
  | ((with_reducible show Ev _ _ (eval (Expr.UnaryOp _ _ _) _) _ _ _); refine UnaryOp_ ?_)
  | ((with_reducible show Ev _ _ (eval (Expr.IfExp _ _ _ _) _) _ _ _); refine IfExp_ ?_)
  | ((with_reducible show Ev _ _ (isTrue (Expr.Compare _ [_] [_] _) _ _) _ _ _); refine isTrue_Compare1 ?_)
  | ((with_reducible show Ev _ _ (isTrue (Expr.Compare _ [_, _] [_, _] _) _ _) _ _ _); refine isTrue_chain2 ?_)
  | ((with_reducible show Ev _ _ (isTrue (Expr.UnaryOp UnaryOp.Not _ _) _ _) _ _ _); refine isTrue_Not ?_)
  | ((with_reducible show Ev _ _ (isTrue (Expr.BoolOp _ _ _) _ _) _ _ _); refine isTrue_BoolOp ?_)
  | ((with_reducible show Ev _ _ (isTrue (Expr.Constant _ _ _) _ _) _ _ _); refine isTrue_value ?_)
  | ((with_reducible show Ev _ _ (isTrue (Expr.Name _ _) _ _) _ _ _); refine isTrue_value ?_)
  | ((with_reducible show Ev _ _ (isTrue (Expr.Call _ _ _ _) _ _) _ _ _); refine isTrue_value ?_)
  | ((with_reducible show Ev _ _ (allTrue BoolOp.And [] _) _ _ _); refine allTrue_And_nil ?_)
  | ((with_reducible show Ev _ _ (allTrue BoolOp.And (_ :: _) _) _ _ _); refine allTrue_And_cons ?_)
  | ((with_reducible show Ev _ _ (allTrue BoolOp.Or [] _) _ _ _); refine allTrue_Or_nil ?_)
  | ((with_reducible show Ev _ _ (allTrue BoolOp.Or (_ :: _) _) _ _ _); refine allTrue_Or_cons ?_)
  | ((with_reducible show Ev _ _ (truthy (Value.bool _)) _ _ _); refine truthy_bool ?_)
  | ((with_reducible show Ev _ _ (truthy (Value.int _ _)) _ _ _); refine truthy_int ?_)
  | ((with_reducible show Ev _ _ (spliced (backTo _ (starEach [] _))) _ _ _); refine items_nil ?_)
  | ((with_reducible show Ev _ _ (spliced (backTo _ (starEach (_ :: _) _))) _ _ _); refine items_cons ?_)
  | ((with_reducible show Ev _ _ (eval (Expr.Call (Expr.Name _ _) _ [] _) _) _ _ _); refine Call_e ?_)
  | ((with_reducible show Ev _ _ (callWith _ (Value.builtin _) [] (backTo _ (starEach (_ :: _) _)) []) _ _ _); refine callWith_B ?_)
  | ((with_reducible show Ev _ _ (callWith _ (Value.type _) [] (backTo _ (starEach (_ :: _) _)) []) _ _ _); refine callWith_T ?_)
  | ((with_reducible show Ev _ _ (callWith _ (Value.ref _) _ (backTo _ (starEach (_ :: _) _)) []) _ _ _); refine' callWith_F (Loc.amb ?F ?X).k ?e ?_; (case F => assumption); (case X => assumption); (case e => rfl))
  | ((with_reducible show Ev _ _ (callWith _ (Value.ref _) _ (backTo _ (starEach [] _)) []) _ _ _); refine' callWith_F0 (Loc.amb ?F ?X).k ?e ?_; (case F => assumption); (case X => assumption); (case e => rfl))
  | ((with_reducible show Ev _ _ (call (Value.builtin "ord") [Value.str ⟨#[_]⟩ _]) _ _ _); refine eOrd ?_; intro _)
  | ((with_reducible show Ev _ _ (compareOp CmpOp.LtE (Value.str _ _) (Value.str _ _)) _ _ _); first | refine eLtE_1 (by walk_at "sg") (by walk_at "sg") ?_ | refine eLtE_str ?_)
  | ((with_reducible show Ev _ _ (compareOp CmpOp.Lt (Value.str _ _) (Value.str _ _)) _ _ _); first | refine eLt_1 (by walk_at "sg") (by walk_at "sg") ?_ | refine eLt_str ?_)
  | ((with_reducible show Ev _ _ (compareOp CmpOp.Eq (Value.str _ _) (Value.str _ _)) _ _ _); refine eEq_str ?_)
  | ((with_reducible show Ev _ _ (compareOp CmpOp.NotEq (Value.str _ _) (Value.str _ _)) _ _ _); refine eNe_str ?_)
  | ((with_reducible show Ev _ _ (compareOp CmpOp.Lt (Value.int _ _) (Value.int _ _)) _ _ _); refine eLt_int ?_)
  | ((with_reducible show Ev _ _ (compareOp CmpOp.LtE (Value.int _ _) (Value.int _ _)) _ _ _); refine eLe_int ?_)
  | ((with_reducible show Ev _ _ (compareOp CmpOp.Gt (Value.int _ _) (Value.int _ _)) _ _ _); refine eGt_int ?_)
  | ((with_reducible show Ev _ _ (compareOp CmpOp.GtE (Value.int _ _) (Value.int _ _)) _ _ _); refine eGe_int ?_)
  | ((with_reducible show Ev _ _ (compareOp CmpOp.Eq (Value.int _ _) (Value.int _ _)) _ _ _); refine eEq_int ?_)
  | ((with_reducible show Ev _ _ (compareOp CmpOp.NotEq (Value.int _ _) (Value.int _ _)) _ _ _); refine eNe_int ?_)
  | ((with_reducible show Ev _ _ (compareOp CmpOp.Is _ Value.none) _ _ _); first | refine is_none_ref ?_ | refine is_none_str ?_ | refine is_none_none ?_ | refine is_none' ?_)
  | ((with_reducible show Ev _ _ (compareOp CmpOp.IsNot _ Value.none) _ _ _); first | refine isNot_none_ref ?_ | refine isNot_none_str ?_ | refine isNot_none_none ?_ | refine isNot_none' ?_)
  | ((with_reducible show Ev _ _ (binaryOp Operator.Add (Value.int _ _) (Value.int _ _)) _ _ _); refine eAdd_int ?_; intro _)
  | ((with_reducible show Ev _ _ (binaryOp Operator.Sub (Value.int _ _) (Value.int _ _)) _ _ _); refine eSub_int ?_; intro _)
  | ((with_reducible show Ev _ _ (binaryOp Operator.Mod (Value.int _ _) (Value.int _ _)) _ _ _); refine eMod_int (by decide) ?_; intro _)
  | ((with_reducible show Ev _ _ (binaryOp Operator.FloorDiv (Value.int _ _) (Value.int _ _)) _ _ _); refine eDiv_int (by decide) (by decide) ?_; intro _)
  | ((with_reducible show Ev _ _ (unaryOp UnaryOp.USub (Value.int _ _)) _ _ _); refine eNeg_int ?_; intro _)
  | ((with_reducible show Ev _ _ (inplaceOp Operator.Add (Value.int _ _) (Value.int _ _)) _ _ _); refine eIadd_int ?_; intro _)
  | ((with_reducible show Ev _ _ (inplaceOp Operator.Add (Value.str _ _) (Value.str _ _)) _ _ _); refine eIadd_str ?_ (by walk_at "size"); intro _)
  | ((with_reducible show Ev _ _ (binaryOp Operator.Add (Value.str _ _) (Value.str _ _)) _ _ _); refine eAdd_str ?_ (by walk_at "size"); intro _)
  | ((with_reducible show Ev _ _ (call (Value.builtin "chr") [Value.int _ _]) _ _ _); refine eChr (by walk_at "om") (by walk_at "om") ?_; intro _)
  | ((with_reducible show _ ∧ Ev _ _ _ _ _ _); refine ⟨(Loc.amb (by assumption) (by assumption)).k, ?_⟩)
  | ((with_reducible show ite _ _ _); walk_at "split")
  | ((with_reducible show Ev _ _ (exec (Stmt.Expr _ _) _) _ _ _); refine Expr_ ?_)
  | ((with_reducible show Ev _ _ (eval (Expr.Call (Expr.Attribute _ (Str.ofString "append") _) [_] [] _) _) _ _ _); refine Call_append ?_)
  | ((with_reducible show ∃ D vs n, Value.ref _ = Value.ref D ∧ Heap.get? _ D = some (listO vs n) ∧ _); refine ⟨_, _, _, rfl, by walk_at "get", ?_⟩)
  | ((with_reducible show Ev _ _ (call (Value.builtin "len") [Value.ref _]) _ _ _); refine' eLen_list (by walk_at "get") (by walk_at "isl") (by walk_at "len") ?_; intro _)
  | ((with_reducible show Ev _ _ (subscriptTail _ _ (Value.ref _) (Value.int 0 _)) _ _ _); refine' eTup0 (IsTup.keeps ?T (Loc.sub ?F)) ?_; (case T => assumption); (case F => assumption))
  | ((with_reducible show Ev _ _ (subscriptTail _ _ (Value.ref _) (Value.int 1 _)) _ _ _); refine' eTup1 (IsTup.keeps ?T (Loc.sub ?F)) ?_; (case T => assumption); (case F => assumption))
  | ((with_reducible show Ev _ _ (subscriptTail _ _ (Value.ref _) (Value.int _ _)) _ _ _); refine' tail_list (by walk_at "get") (by walk_at "isl") ?_)
  | ((with_reducible show Ev _ _ (getItem (Value.ref _) (Value.int (-1) _)) _ _ _); refine' eGet_last (by walk_at "get") (by walk_at "isl") ?_)
  | ((with_reducible show Ev _ _ (getItem (Value.ref _) (Value.int _ _)) _ _ _); refine' eGet_list (by walk_at "get") (by walk_at "isl") (by walk_at "om") (by walk_at "om") (by first | assumption | rfl) ?_)
  | ((with_reducible show Ev _ _ (setItem (Value.ref _) (Value.int _ _) _) _ _ _); refine' eSet_list (by assumption) (by walk_at "put") (by walk_at "isl") (by walk_at "om") (by walk_at "om") (by walk_at "len") ?_; intro o9 h9 l9 F9; (try dsimp only at F9))
  | ((with_reducible show Ev _ _ (call (Value.builtin "list.append") [Value.ref _, _]) _ _ _); refine' eAppend (by assumption) (by walk_at "put") (by walk_at "len") ?_; intro n9 h9 F9; (try dsimp only at F9))
  | ((with_reducible show NoRef _ ∧ _); refine ⟨trivial, ?_⟩)
  | ((with_reducible show Ev _ _ (exec (Stmt.AugAssign (Expr.Subscript _ _ _) _ _ _) _) _ _ _); refine AugSub ?_)
  | ((with_reducible show Ev _ _ (call (Value.type "str") [Value.int _ _]) _ _ _); refine eStr_int (by first | walk_at "om" | walk_at "len") ?_; intro _)
  | ((with_reducible show Ev _ _ (eval (Expr.Subscript _ (Expr.Slice _ _ _ _) _) _) _ _ _); refine Hold.out ?_)
  | ((with_reducible show Ev _ _ (exec (Stmt.While _ _ _ _) _) _ _ _); refine Hold.out ?_)
  | ((with_reducible show Ev _ _ (eval (Expr.Subscript _ _ _) _) _ _ _); refine Sub_ ?_)
  | ((with_reducible show Ev _ _ (exec (Stmt.Assign [Expr.Attribute _ _ _] _ _) _) _ _ _); refine Assign_Attr ?_)
  | ((with_reducible show Ev _ _ (exec (Stmt.Assign [Expr.Subscript _ (Expr.Slice none none none _) _] _ _) _) _ _ _); refine Assign_all ?_)
  | ((with_reducible show Ev _ _ (exec (Stmt.Assign [Expr.Subscript _ _ _] _ _) _) _ _ _); refine Assign_Sub ?_)
  | ((with_reducible show Ev _ _ (eval (Expr.BoolOp BoolOp.And (_ :: _ :: _) _) _) _ _ _); refine BoolOp_and' ?_)
  | ((with_reducible show Ev _ _ (eval (Expr.BoolOp BoolOp.Or (_ :: _ :: _) _) _) _ _ _); refine BoolOp_or' ?_)
  | ((with_reducible show Ev _ _ (eval (Expr.BoolOp _ [_] _) _) _ _ _); refine BoolOp_one' ?_)
  | ((with_reducible show Ev _ _ (exec (Stmt.Delete [_] _) _) _ _ _); refine Delete_ ?_)
  | ((with_reducible show Ev _ _ (delete (Expr.Subscript _ _ _) _) _ _ _); refine delete_Sub ?_)
  | ((with_reducible show Ev _ _ (eval (Expr.Call (Expr.Attribute _ _ _) _ _ _) _) _ _ _); refine Meth_ ?_)
  | ((with_reducible show Ev _ _ (eval (Expr.Attribute (Expr.Name _ _) _ _) _) _ _ _); refine Attr_name ?_)
  | ((with_reducible show Ev _ _ (getMethod (Value.str _ _) (Str.ofString "lower") _) _ _ _); refine eMeth_lower ?_)
  | ((with_reducible show Ev _ _ (callWith _ (Value.builtin _) _ (backTo _ (starEach [] _)) (backToKw _ (keywordEach [] _))) _ _ _); refine callWith_m0 ?_)
  | ((with_reducible show Ev _ _ (callWith _ (Value.builtin _) _ (backTo _ (starEach (_ :: _) _)) (backToKw _ (keywordEach [] _))) _ _ _); refine callWith_m ?_)
  | ((with_reducible show Ev _ _ (callWith _ (Value.ref _) _ (backTo _ (starEach [] _)) (backToKw _ (keywordEach [] _))) _ _ _); refine' callWith_W0 (Loc.amb ?F ?X).k ?e ?_; (case F => assumption); (case X => assumption); (case e => rfl))
  | ((with_reducible show Ev _ _ (callWith _ (Value.ref _) _ (backTo _ (starEach (_ :: _) _)) (backToKw _ (keywordEach [] _))) _ _ _); refine' callWith_W1 (Loc.amb ?F ?X).k ?e ?_; (case F => assumption); (case X => assumption); (case e => rfl))
  | ((with_reducible show Ev _ _ (callWith _ (Value.ref _) _ (backTo _ (starEach (_ :: _) _)) (backToKw _ (keywordEach (_ :: _) _))) _ _ _); refine' callWith_W (Loc.amb ?F ?X).k ?e (by rfl) ?_; (case F => assumption); (case X => assumption); (case e => rfl))
  | ((with_reducible show Ev _ _ (evalAll (List.map _ (backToKw _ (keywordEach [] _)))) _ _ _); refine kw_nil ?_)
  | ((with_reducible show Ev _ _ (evalAll (List.map _ (backToKw _ (keywordEach (_ :: _) _)))) _ _ _); refine kw_cons ?_)
  | ((with_reducible show Ev _ _ (call (Value.type "type") [Value.str _ _]) _ _ _); refine eType_str ?_)
  | ((with_reducible show Ev _ _ (call (Value.type "type") [Value.ref _]) _ _ _); refine' eType_list (by walk_at "get") (by walk_at "cls") ?_)
  | ((with_reducible show Ev _ _ (compareOp CmpOp.Is (Value.type _) (Value.type _)) _ _ _); refine eIs_same ?_)
  | ((with_reducible show Ev _ _ (compareOp CmpOp.IsNot (Value.type _) (Value.type _)) _ _ _); refine eIsNot_same ?_)
  | ((with_reducible show Ev _ _ (truthy Value.none) _ _ _); refine truthy_none ?_)
  | ((with_reducible show Ev _ _ (call (Value.builtin "str.lower") [Value.str _ _]) _ _ _); refine eLower (by omega) ?_; intro _)
  | ((with_reducible show Ev _ _ (evalPart none _) _ _ _); refine part_none ?_)
  | ((with_reducible show Ev _ _ (evalPart (some _) _) _ _ _); refine part_some ?_)
  | ((with_reducible show Ev _ _ (subscriptTail _ _ (Value.str _ _) (Value.int _ _)) _ _ _); refine eItem_str (by walk_at "om") (by assumption) (by walk_at "om") ?_; intro _)
  | ((with_reducible show Ev _ _ (call (Value.builtin "len") [Value.str _ _]) _ _ _); refine eLen_str (by walk_at "om") ?_; intro _)
  | ((with_reducible show Ev _ _ (call (Value.type "range") [Value.int _ _]) _ _ _); refine' eRange1 (by assumption) ?_; intro _ _ _ _ _ _ _)
  | ((with_reducible show Ev _ _ (eval (Expr.List _ _) _) _ _ _); refine List_e ?_)
  | ((with_reducible show Ev _ _ (eval (Expr.Tuple _ _ _) _) _ _ _); refine Tuple_e ?_)
  | ((with_reducible show List.length _ ≤ sizeLine ∧ _); refine ⟨by simp [sizeLine_eq], _, _, _, _, _, by assumption, ?_⟩; intro _ _ _)
  | ((with_reducible show Ev _ _ (testsOf [] _) _ _ _); refine tests_nil ?_)
  | ((with_reducible show Ev _ _ (testsOf [_] _) _ _ _); refine tests_one ?_)
  | ((with_reducible show Ev _ _ (inplaceOp Operator.Sub (Value.int _ _) (Value.int _ _)) _ _ _); refine eIsub_int ?_; intro _))
theorem turn_end {P : Heap → (Str → Option Value) → List (Addr × Obj) → Prop} {g h : Heap} {L : Addr} {cs : List (Str × Addr)} {m : Str → Option Value} {p : Addr × Obj} {led : List (Addr × Obj)} (F : Loc g L cs m (p :: led) h) (hP : P g m led) : ∃ g' m' led', P g' m' led' ∧ Loc g' L cs m' (p :: led') h := ⟨g, m, led, hP, F⟩
def IsS (v : Value) (x : Str) : Prop := ∃ t, v = .str x t
theorem isS {v : Value} {x y : Str} {t : Tok} (hv : v = .str x t) (e : x = y) : IsS v y := ⟨t, e ▸ hv⟩
theorem len1 (c : Nat) : (⟨#[c]⟩ : Str).length = 1 := rfl
theorem tt_t : ((true : Bool) = true) = True := by simp
theorem ff_t : ((false : Bool) = true) = False := by simp
theorem ite_both {c : Prop} [Decidable c] {a b : Prop} (h1 : c → a) (h2 : ¬ c → b) : if c then a else b := by
  by_cases h : c
  · rw [if_pos h]; exact h1 h
  · rw [if_neg h]; exact h2 h
local macro_rules | `(tactic| walk_at "len") => `(tactic| first | omega | (simp only [List.length_append, List.length_cons, List.length_nil, sizeLine_eq]; omega))
local macro_rules | `(tactic| walk_at "om") => `(tactic| omega)
local macro_rules | `(tactic| walk_at "size") => `(tactic| (simp only [len1, Str.length_append, sizeLine_eq]; omega))
local macro_rules | `(tactic| walk_at "split") => `(tactic| first
  | (with_reducible refine (if_pos rfl).mpr ?_)
  | (rw [if_pos rfl])
  | (rw [if_neg Bool.false_ne_true])
  | (with_reducible refine ite_both ?_ ?_ <;> intro hq9 <;> (try simp only [decide_eq_true_eq, Bool.not_eq_true, decide_eq_false_iff_not, Bool.not_eq_eq_eq_not, Bool.not_true, beq_iff_eq, bne_iff_ne, beq_eq_false_iff_ne] at hq9) <;> (try (exfalso; omega))))
local macro_rules | `(tactic| walk_at "mem") => `(tactic| first | (with_reducible exact List.Mem.head _) | (exact List.Mem.head _) | (refine List.Mem.tail _ ?_; walk_at "mem"))
local macro_rules | `(tactic| walk_at "get") => `(tactic| first | exact Loc.get (by assumption) (by walk_at "mem") | exact Loc.sub (by assumption) _ _ (by assumption))
local macro_rules | `(tactic| walk_at "cls") => `(tactic| first | exact isl_cls (by assumption) | exact rfl)
local macro_rules | `(tactic| walk_at "isl") => `(tactic| first | assumption | exact isL_listO _ _)
local macro_rules | `(tactic| walk_at "put") => `(tactic| first | (with_reducible exact PutF.head) | (apply PutF.tail; walk_at "put"))
local macro_rules | `(tactic| walk_at "w") => `(tactic| repeat' (walk_at "s"))

section
variable {prog : Program} {w : World} {A : Around} {g h : Heap} {E : Value → Heap → Prop} {env : Env} {Q : Value → Heap → Prop} {L a b : Addr} {cs : List (Str × Addr)} {m : Str → Option Value} {led : List (Addr × Obj)} {t u : Tok} {x : Str} {o o2 : Obj} {vs ws : List Value}
theorem eAdd_list (F : Loc g L cs m led h) (ha : h.get? a = some o) (hl : IsL o vs) (hb : h.get? b = some o2) (hl2 : IsL o2 ws) (hsz : vs.length + ws.length ≤ sizeLine)
    (k : ∀ D h', Loc g L cs m ((D, listO (vs ++ ws) 0) :: led) h' → Q (.ref D) h') : Ev (model prog w) A (binaryOp .Add (.ref a) (.ref b)) h Q E := .mk fun s hs => by
  subst hs
  obtain ⟨cls, dd, data, sl⟩ := o
  obtain ⟨cls2, dd2, data2, sl2⟩ := o2
  obtain ⟨hc, n, hd⟩ := hl
  obtain ⟨hc2, n2, hd2⟩ := hl2
  simp only at hc hd hc2 hd2
  subst hc hd hc2 hd2
  have e : vs.toArray ++ ws.toArray = (vs ++ ws).toArray := by simp
  refine concat_meets ⟨_, ha, rfl⟩ ⟨_, hb, rfl⟩ noFill_list_add seq_list_add PySem.F.slot_list_add PySem.F.entry_list_add (PySem.F.args_list_add_2 _ _) (list_addW a b vs.toArray ws.toArray n n2 dd dd2 sl sl2 (by simpa using hsz)) ⟨ha, hb, ?_⟩
  rw [e]
  exact ⟨rfl, k _ _ (F.new _)⟩
end
local macro_rules | `(tactic| walk_at "s") => `(tactic|
  ((with_reducible show Ev _ _ (binaryOp Operator.Add (Value.ref _) (Value.ref _)) _ _ _); refine' eAdd_list (by assumption) (by walk_at "get") (by walk_at "isl") (by walk_at "get") (by walk_at "isl") (by walk_at "len") ?_; intro _ _ _))

section
variable {prog : Program} {w : World} {A : Around} {g h h' : Heap} {E : Value → Heap → Prop} {env : Env} {Q : Value → Heap → Prop} {L a b : Addr} {cs : List (Str × Addr)} {m : Str → Option Value} {led : List (Addr × Obj)} {t u : Tok} {x : Str} {o o2 : Obj} {vs ws : List Value}
/-- an object that was not there before joins the ledger -/
theorem Loc.take {D : Addr} (F : Loc g L cs m led h) (e : Sub h h') (nD : h.get? D = none) (hD : h'.get? D = some o) : Loc g L cs m ((D, o) :: led) h' := by
  have K := F.keep e
  obtain ⟨oL, hL⟩ := F.lt
  refine ⟨K.sub, K.ns, K.gL, fun p hp => ?_, ?_, K.cell, K.capart, fun x c q => ⟨(K.cnew x c q).1, (K.cnew x c q).2.1, fun p hp => ?_⟩⟩
  · rcases List.mem_cons.mp hp with rfl | hp
    · exact ⟨hD, (fun z => by have z : D = L := z; rw [z, hL] at nD; cases nD), none_sub F.sub nD⟩
    · exact K.led p hp
  · rw [List.map_cons, List.nodup_cons]
    refine ⟨fun hm => ?_, F.nd⟩
    obtain ⟨p, hp, z⟩ := List.mem_map.mp hm
    have := (F.led p hp).1
    rw [z, nD] at this; cases this
  · rcases List.mem_cons.mp hp with rfl | hp
    · rintro rfl
      obtain ⟨oc, hoc, _⟩ := F.cell x _ q
      rw [hoc] at nD; cases nD
    · exact (K.cnew x c q).2.2 p hp
theorem PutF.mid : ∀ {l1 l2 : List (Addr × Obj)}, PutF a o (l1 ++ (a, o) :: l2) (fun o' => l1 ++ (a, o') :: l2)
  | [], _ => .head
  | _ :: l, _ => .tail (PutF.mid (l1 := l))
theorem eMeth_pop {M : Model} {pl : Sem Bool} {Q : Value × List Value → Heap → Prop} {n : Nat} (ho : h.get? a = some (listO vs n)) (k : Q (.builtin "list.pop", [.ref a]) h) : Ev M A (getMethod (.ref a) "pop" pl) h Q E := .mk fun s hs =>
  getMethod_builtin ⟨_, hs ▸ ho, rfl⟩ PySem.F.plainAttrs_list PySem.F.slot_list_pop PySem.F.type_list_pop (fun _ e => by cases e; exact ⟨_, hs ▸ ho, rfl⟩) (fin0 (Q := Q) hs k)
theorem ePop0 {y : Value} {n : Nat} {led' : Obj → List (Addr × Obj)} (F : Loc g L cs m led h) (hput : PutF a (listO (y :: vs) n) led led') (hz : vs.length < sizeLine)
    (k : ∀ n' h', Loc g L cs m (led' (listO vs n')) h' → Q y h') : Ev (model prog w) A (call (.builtin "list.pop") [.ref a, .int 0 u]) h Q E := .mk fun s hs => by
  subst hs
  have ho := F.get (hput.put (listO vs 0)).mem
  refine call_meets PySem.F.slot_list_pop ⟨_, ho, rfl⟩ PySem.F.entry_list_pop (PySem.F.args_list_pop_2 _ _) (PySem.MeetsSeq.list_pop_at a _ n 0 u 0 y (by decide) ?_ (by simp) (by simp; omega)) ⟨ho, ?_⟩
  · simp [seqIndex?]
  · refine ⟨rfl, k (n + 1) _ (F.put (hput.put _) (Heap.SameBut.update ..) ?_)⟩
    have q := PySem.IsL.update ho fun xs => xs.eraseIdxIfInBounds 0
    rw [show ((y :: vs).toArray).eraseIdxIfInBounds 0 = vs.toArray from by simp [Array.eraseIdxIfInBounds]] at q
    rw [if_neg (by simp)] at q
    exact q
theorem comp_listN {Qn : Heap → Prop} {y : Str} {py pos : Pos} {ax : Addr} {oa : Obj} {scope : Scope} {cl : List (Str × Addr)} {elt target iter : Expr} {ifs : List Expr} (P : CompP) (hh : A.handled = none) (hl : IsL oa vs) (F : Loc g L cs m led h) (side : ∀ i g ys, P i g ys → ListAt ax oa g led) (h0 : P 0 g [])
    (T : CompTurn prog w A env scope cl m led target elt ifs vs.length (fun i v => vs[i]? = some v) P)
    (done : ∀ g ys D k h, P vs.length g ys → Loc g L cs (fun z => if z = y then some (.ref D) else m z) ((D, listO ys k) :: led) h → Qn h)
    (hcl : CellsIn cl cs) (hcell : (scope.names.all fun x => x.2 != .cell) = true) (hkind : scope.kind = .function) (hsz : vs.length ≤ sizeLine)
    (hL : env.locals = L := by rfl) (hk : env.scope.kind = .function := by rfl) (hly : env.kindOf y = some .local := by rfl) (hc : cs.lookup y = none := by rfl) :
    Ev (model prog w) A (pyIter (.ref ax)) h (fun it h₂ => CompAt prog w A env scope cl elt target iter ifs pos it h₂ (fun D C oC h₃ =>
      Ev (model prog w) A (assign (.Name y py) env (.ref D)) h₃ (fun _ h₄ => (∃ mc, h₄.Ns C mc) ∧ ∀ h', Heap.SameBut C h₄ h' → Qn h') No)) E :=
  comp_listA (Q := fun _ => Qn) P hh hl F side h0 T done hcl hcell hkind hsz hL hk hly hc
end
local macro_rules | `(tactic| walk_at "s") => `(tactic|
  ((with_reducible show Ev _ _ (getMethod (Value.ref _) (Str.ofString "pop") _) _ _ _); refine' eMeth_pop (by walk_at "get") ?_))

section
variable {prog : Program} {w : World} {A : Around} {E : Value → Shared → Prop} {s : Shared} {a b : Addr} {o : Obj} {vs : List Value} {ds : List PyData}
theorem reprUnder_list {Q : Value → Shared → Prop} {base : Nat} (ho : s.heap.get? a = some o) (hl : IsL o vs) (hr : RdAll s.heap vs ds) (hs : PyData.showableAll ds = true) (hnd : PyData.hasDictAll ds = false) (hg : A.guards = some []) (hu : A.units + (PyData.depthAll ds + 1) < cLine)
    (hQ : ∀ h' u tk, Sub s.heap h' → Q (.str (PyData.shown (.list ds)) u) { s with heap := h', toks := tk }) (hsz : base + (PyData.shown (.list ds)).length ≤ sizeLine) : wpAny (model prog w) A (pyReprObjUnder base (.ref a)) Q E s := by
  obtain ⟨as, h4⟩ := hr
  obtain ⟨h2, n, h3⟩ := hl
  have hz' : base + (listText (PyData.shownAll ds)).length ≤ sizeLine := by simpa only [PyData.shown] using hsz
  obtain ⟨bs, hb, hk⟩ := ReprAllK.of_readsAll (prog := prog) (w := w) h4 hs (fun hx => by rw [hnd] at hx; cases hx) (fun t ht => Nat.le_trans (listText_mem_le ht) (by omega))
  have hna : a ∉ bs := not_mem_of_deeper (.list ho h2 h3 (by simpa using h4)) (by simp only [PyData.depth]; omega) hb
  simp only [PyData.shown] at hQ
  cases vs with
  | nil =>
    cases h4
    simp only [PyData.shownAll, listText_nil] at hQ
    exact wpAny_pyReprObjUnder_list_empty ⟨o, ho, h2⟩ (by omega) ho h3 (hQ s.heap _ _ fun _ _ e => e)
  | cons x l =>
    exact wpAny_pyReprObjUnder_listK ho h2 h3 hna (by simpa using hk.length_eq) (fun i y e => hk.item i y (by simpa using e)) hg (fun b _ => Clear.nil b) hu (fun _ _ e => e) (fun h' u tk hk => hQ h' u tk hk) hz'
theorem meets_sr {t u : Tok} {nm : Str} (hnm : nm.length ≤ 1000000) (hz : (PyData.shown (.list ds)).length ≤ 1000000) (hs : PyData.showableAll ds = true) (hnd : PyData.hasDictAll ds = false) :
    Meets (Builtin.«str.__mod__» ⟨[.str ⟨#[37, 115, 40, 37, 114, 41]⟩ t, .ref b], []⟩) (fun A R s => IsTup s.heap b #[.str nm u, .ref a] ∧ (s.heap.get? a = some o ∧ IsL o vs ∧ RdAll s.heap vs ds) ∧ A.guards = some [] ∧ A.units + 1 + (PyData.depthAll ds + 1) < cLine ∧
      ∀ h' t' k, Sub s.heap h' → R (.ok (.ret (.str (nm ++ Str.ofString "(" ++ PyData.shown (.list ds) ++ Str.ofString ")") t'))) { s with heap := h', toks := k }) :=
  Meets.of_wp fun prog w A R s hS => by
    obtain ⟨kptH, ⟨ho, hl, hr⟩, hg, hu, hR⟩ := hS
    obtain ⟨kptO, kptG, kptC, kptN, kptD⟩ := kptH
    rw [KPt.entry_is_r]
    unfold Builtin.Str.percentFormat
    refine wpAny_bind (wpAny_isInstance (T := "tuple") ⟨kptO, kptG, kptC⟩ KPt.sub_tt ?_)
    refine wpAny_bind (KPt.asStr_ref kptG kptD ?_)
    refine wpAny_bind (KPt.fills_ref ⟨kptO, kptG, kptC⟩ ?_)
    intro _
    kpc_if
    refine wpAny_bind (wpAny_seqItems kptG kptD ?_)
    refine wpAny_bind (wpAny_pure ?_)
    refine wpAny_bind ?_
    rw [KPc.range_list]
    refine KPc.start ?_
    intro _ _
    refine KPc.turn ?_
    kpc_check
    repeat kpc_if
    refine wpAny_bind ?_
    refine wpAny_holding ?_
    repeat kpc_if
    kpt_conv
    refine wpAny_pure ?_
    refine wpAny_pure ?_
    refine KPc.after_str0 (by kpc_g) hnm (by kpc_obj) ?_
    intro _ _
    refine KPc.turn ?_
    kpc_check
    repeat kpc_if
    refine wpAny_pure ?_
    kpt_piece
    refine KPc.turn ?_
    kpc_check
    repeat kpc_if
    refine wpAny_bind ?_
    refine wpAny_holding ?_
    repeat kpc_if
    rename KPc.Good _ (nm ++ Str.ofString "(") _ => hG
    have hgt := hG.total
    have h1 : (Str.ofString "(").length = 1 := by decide +kernel
    refine wpAny_bind (reprUnder_list ho hl hr hs hnd hg hu (fun h' u' tk hk => ?_) (by rw [sizeLine_eq]; rw [h1] at hgt; dsimp only; omega))
    refine wpAny_bind (wpAny_of_eq (a := some _) rfl ?_)
    refine wpAny_pure ?_
    refine wpAny_pure ?_
    refine KPc.after_str hG hz (by kpc_obj) ?_
    intro _ _
    refine KPc.turn ?_
    kpc_check
    repeat kpc_if
    refine wpAny_pure ?_
    kpt_piece
    refine KPc.turn ?_
    kpc_check
    repeat kpc_if
    refine wpAny_pure ?_
    kpc_if
    refine KPc.finish_ok (by kpc_g) (by decide +kernel) rfl ?_
    intro t' k
    exact ⟨_, rfl, hR _ _ _ hk⟩
end
section
variable {prog : Program} {w : World} {A : Around} {g h : Heap} {E : Value → Heap → Prop} {env : Env} {Q : Value → Heap → Prop} {L a b : Addr} {cs : List (Str × Addr)} {m : Str → Option Value} {led : List (Addr × Obj)} {t u : Tok} {x y nm : Str} {o : Obj} {vs : List Value} {ds : List PyData}
/-- '%s(%r)' % (text, list) -/
theorem eMod_sr {ot : Obj} {n : Nat} (hX : x = ⟨#[37, 115, 40, 37, 114, 41]⟩) (hb : h.get? b = some (tupO [.str nm u, .ref a] n)) (ho : h.get? a = some o) (hl : IsL o vs) (hr : RdAll h vs ds)
    (hnm : nm.length ≤ 1000000) (hz : (PyData.shown (.list ds)).length ≤ 1000000) (hs : PyData.showableAll ds = true) (hnd : PyData.hasDictAll ds = false) (hg : A.guards = some []) (hu : A.units + 1 + (PyData.depthAll ds + 1) < cLine)
    (k : ∀ t' h', Sub h h' → Q (.str (nm ++ Str.ofString "(" ++ PyData.shown (.list ds) ++ Str.ofString ")") t') h') : Ev (model prog w) A (binaryOp .Mod (.str x t) (.ref b)) h Q E := .mk fun s hs' => by
  subst hX hs'
  have ht : IsTup s.heap b #[.str nm u, .ref a] := ⟨_, hb, rfl, n, rfl⟩
  have hT : s.TypeIs (.ref b) "tuple" := ⟨_, hb, rfl⟩
  exact KPt.bin_left (T := "str") (U := "tuple") (op := .Mod) (by decide) (typeIs_str s _ t) hT PySem.F.fills_str_mod KPt.fills_tuple PySem.F.slot_str_mod
    (call_meets PySem.F.slot_str_mod (typeIs_str s _ t) PySem.F.entry_str_mod (PySem.F.args_str_mod_2 _ _) (meets_sr (o := o) (vs := vs) hnm hz hs hnd) ⟨ht, ⟨ho, hl, hr⟩, hg, hu, fun h' t' k' hk => ⟨(fun e => nomatch e), ⟨Same.mk' _ _ _, k _ _ hk⟩⟩⟩)
theorem eRepr_data {d : PyData} (r : Rd h (.ref a) d) (hs : d.showable = true) (hnd : d.hasDict = false) (hg : A.guards = some []) (hu : A.units + (d.depth + 1) < cLine) (hz : d.shown.length ≤ sizeLine)
    (k : ∀ t' h', Sub h h' → Q (.str d.shown t') h') : Ev (model prog w) A (call (.builtin "repr") [.ref a]) h Q E := .mk fun s hs' => by
  subst hs'
  obtain ⟨as, r⟩ := r
  exact repr_of_reads' r hs (fun hx => by rw [hnd] at hx; cases hx) hg hu (fun _ _ e => e) (fun h' u tk hk => ⟨Same.mk' _ _ _, k _ _ hk⟩) hz
theorem eIn_str (k : Q (.bool (Txt.contains x y)) h) : Ev (model prog w) A (compareOp .In (.str y u) (.str x t)) h Q E := .mk fun s hs => in_str (fin0 (Q := Q) hs k)
theorem eMeth_join {M : Model} {pl : Sem Bool} {Q : Value × List Value → Heap → Prop} (k : Q (.builtin "str.join", [.str x t]) h) : Ev M A (getMethod (.str x t) "join" pl) h Q E := .mk fun s hs => GM.join (fin0 (Q := Q) hs k)
theorem eMeth_reverse {M : Model} {pl : Sem Bool} {Q : Value × List Value → Heap → Prop} {n : Nat} (ho : h.get? a = some (listO vs n)) (k : Q (.builtin "list.reverse", [.ref a]) h) : Ev M A (getMethod (.ref a) "reverse" pl) h Q E := .mk fun s hs =>
  getMethod_builtin ⟨_, hs ▸ ho, rfl⟩ PySem.F.plainAttrs_list PySem.F.slot_list_reverse PySem.F.type_list_reverse (fun _ e => by cases e; exact ⟨_, hs ▸ ho, rfl⟩) (fin0 (Q := Q) hs k)
theorem eReverse {n : Nat} {led' : Obj → List (Addr × Obj)} (F : Loc g L cs m led h) (hput : PutF a (listO vs n) led led') (hz : vs.length ≤ sizeLine)
    (k : ∀ n' h', Loc g L cs m (led' (listO vs.reverse n')) h' → Q .none h') : Ev (model prog w) A (call (.builtin "list.reverse") [.ref a]) h Q E := .mk fun s hs => by
  subst hs
  have ho := F.get (hput.put (listO vs 0)).mem
  refine call_meets PySem.F.slot_list_reverse ⟨_, ho, rfl⟩ PySem.F.entry_list_reverse (PySem.F.args_list_reverse_1 _) (AutoSeq1.list_reverse_list_0 a vs.toArray n (by simpa using hz)) ⟨ho, ?_⟩
  have q := PySem.IsL.update ho fun xs => xs.reverse
  rw [show (vs.toArray).reverse = vs.reverse.toArray from by simp] at q
  exact ⟨Same.mk' _ _ _, k _ _ (F.put (hput.put _) (Heap.SameBut.update ..) q)⟩
theorem eJoin1 {n : Nat} (ho : h.get? a = some (listO [.str y u] n)) (hy : y.length + x.length ≤ 1000000) (k : ∀ t', Q (.str y t') h) : Ev (model prog w) A (call (.builtin "str.join") [.str x t, .ref a]) h Q E := .mk fun s hs => by
  subst hs
  refine SC.join (l := [(y, u)]) (texts := [y]) ⟨_, ho, rfl, n, rfl⟩ rfl ?_ fun t' k' => ⟨Same.mk' _ _ _, ?_⟩
  · simp [JoinOk, Builtin.Str.tooLong, sizeLine_eq]; omega
  · exact k _
theorem name_get {K : Frag} {s : Shared} {R : Result → Shared → Prop} {C : Addr} {oC : Obj} {v tp : Value} (hC : s.heap.get? C = some oC) (hcls : oC.cls = .type "type") (hsl : oC.slots[2]? = some (some v))
    (h : R (.ok (.ret v)) s) : codeAny (model prog w) A (.call (.builtin "getset_descriptor.__get__") ⟨[.builtin "type.__name__", .ref C, tp], []⟩) R s := by
  obtain ⟨hh, g, dr, t, os⟩ := s
  have L0 : Looks (model prog w) hh (typeOf (.ref C)) (.type "type") := hcls ▸ (Looks.ld hC).andThen .now
  have L1 : Looks (model prog w) hh (isSubtype (.type "type") (.type "type")) true := Looks.of_pure (by rw [isSubtype_type]; kernel_rfl)
  refine codeAny_call_builtin KF.slot_gs.plain KF.entry_gs (KF.slot_gs.check _ _ _ _ _ _ _ _ ktyn_type (KF.args_gs _ _ _) ?_)
  unfold Builtin.«getset_descriptor.__get__» Builtin.Getset_descriptor.descrGet
  rw [dga_obj]
  refine wpAny_bind (wpAny_pure ?_)
  unfold Builtin.Getset_descriptor.descrGetter Builtin.Getset_descriptor.descrCheckInstance Builtin.Getset_descriptor.descrNameAndClass isInstance
  simp only [ktyn_owner]
  repeat lk
  refine ⟨Code.quiet_builtin _ (by decide +kernel), codeAny_builtin ktyn_entry ?_⟩
  unfold Builtin.«type.__name__»
  dsimp only
  unfold Builtin.keptObject slotAt
  refine wpAny_bind (wpAny_bind (wpAny_loadPart hC (wpAny_pure ?_)))
  rw [hsl]
  exact wpAny_pure h
end

section
variable {prog : Program} {w : World} {A : Around} {g h : Heap} {E : Value → Heap → Prop} {env : Env} {Q : Value → Heap → Prop} {L a b : Addr} {cs : List (Str × Addr)} {m : Str → Option Value} {led : List (Addr × Obj)} {t u : Tok} {x y nm : Str} {o : Obj} {vs : List Value} {ds : List PyData} {K : Frag}
theorem eTypeName {C : Addr} {oC : Obj} {v : Value} {e : Bool} (X : K.In h) (hr : readsIn K C (.type "type") = true) (hf : findCls K (.ref C) (.type "type") (Str.ofString "__name__") = some (.get (.builtin "getset_descriptor.__get__") (.builtin "type.__name__") (.ref C) (.type "type")))
    (hC : K.lookup C = some oC) (hcls : oC.cls = .type "type") (hsl : oC.slots[2]? = some (some v)) (hh : handedIn v = true) (k : Q v h) : Ev (model prog w) A (getAttr (.ref C) (Str.ofString "__name__") e) h Q E := .mk fun s hs => by
  subst hs
  exact cls_bind X hr hf (wpAny_call (name_get (K := K) (s := { s with toks := s.toks + 1 }) (X _ _ hC) hcls hsl (handed_on hh ⟨Same.mk' _ _ _, k⟩)))
theorem eClass {x C dx : Addr} {od : Obj} {e : Bool} (X : K.In h) (hx : h.get? x = some (instObj C dx)) (hdx : h.get? dx = some od) (hg : plainGet K C (Str.ofString "__class__") = true) (hh : hasDictIn K C = true)
    (ha : findIn K (.ref C) (Str.ofString "__class__") = some (some (.builtin "object.__class__"))) (hn : specialIn K (.builtin "object.__class__") "__get__" = some (some (.builtin "getset_descriptor.__get__"))) (ht : takesIn K (.builtin "object.__class__") = some true)
    (hm : mroIn K C (.type "object") = some true) (k : Q (.ref C) h) : Ev (model prog w) A (getAttr (.ref x) (Str.ofString "__class__") e) h Q E := .mk fun s hs => by
  subst hs
  have I : InstAt s.heap x (instObj C dx) C (some od) := ⟨hx, rfl, rfl, hdx⟩
  exact get_bind X I (plainGet_of hg).1 (findObj_data (by obtain ⟨cd, hc, _⟩ := any_some hh; rw [hc]; rfl) ha hn ht) (plainGet_of hg).2
    (wpAny_call (class_get (s := { s with toks := s.toks + 1 }) (ox := instObj C dx) (od := some od) X I hm (handed_on rfl ⟨Same.mk' _ _ _, k⟩)))
theorem eRepr_inst {x C dx f : Addr} {od : Obj} (hu : A.in1.units < cLine) (X : K.In h) (hx : h.get? x = some (instObj C dx)) (hdx : h.get? dx = some od) (hs : findIn K (.ref C) "__repr__" = some (some (.ref f))) (hf : isFn K (.ref f) = true)
    (k : Ev (model prog w) A.in1 (call (.ref f) [.ref x]) h (fun r h' => ∃ z t, r = .str z t ∧ Q (.str z t) h') E) : Ev (model prog w) A (call (.builtin "repr") [.ref x]) h Q E := .mk fun s hs' => by
  subst hs'
  have I : InstAt s.heap x (instObj C dx) C (some od) := ⟨hx, rfl, rfl, hdx⟩
  refine Calls.call_function_entry PySem.F.kind_repr PySem.F.plain_repr PySem.F.entry_repr (PySem.F.args_repr1 _) ?_
  unfold Builtin.«repr»
  refine wpAny_bind (m := oneArg "repr" _) (wpAny_pure ?_)
  refine wpAny_bind (wpAny_cRoomFor hu ?_)
  refine wpAny_bind (wpAny_bind (I.type.here ((looks_findIn X hs).here ?_)))
  show wpAny _ _ (if (some (Value.ref f)).isNone = true then _ else _) _ _ _
  rw [if_neg (by simp)]
  refine wpAny_bind (m := callSpecialIfBound? (.ref x) (Str.ofString "__repr__") _) (ifBound_K X I hs hf (k.use rfl (.refl s) fun r s' m' hr => ?_))
  obtain ⟨z, tz, rfl, hr⟩ := hr
  refine wpAny_bind (wpAny_isInstance (typeIs_str _ _ _) isSubtype_str_str ?_)
  first
    | exact wpAny_pure ⟨_, rfl, m', hr⟩
    | (rw [if_pos rfl]; exact wpAny_pure ⟨_, rfl, m', hr⟩)
    | (simp only [if_true]; exact wpAny_pure ⟨_, rfl, m', hr⟩)
theorem wp_peekA' {α : Type} {M : Model} {E : Value → Shared → Prop} {Q : α → Shared → Prop} {s : Shared} {o : Obj} (X : K.In s.heap) :
    ∀ (t : Sem α) (g : Addr → Sem α), peekA K ⟨M.prog, M.w.params⟩ t = some (o, g) → (wpAny M A (g s.heap.objs.size) Q E { s with heap := s.heap.push o }) → wpAny M A t Q E s := by
  intro t
  induction t with
  | rule _ k ih => intro g e q Γ p hΓ; exact ih () g e q Γ p hΓ
  | point _ k ih => intro g e q Γ p hΓ; exact ih () g e q Γ p hΓ
  | ask k ih => intro g e q Γ p hΓ; exact ih _ g e q Γ p hΓ
  | load a _ k ih =>
    intro g e q Γ p hΓ
    simp only [peekA] at e
    split at e
    · rename_i ob ho; exact ⟨ob, X _ _ ho, ih ob g e q Γ p hΓ⟩
    · cases e
  | alloc ob k _ =>
    intro g e q
    have e : some (ob, k) = some (o, g) := e
    obtain ⟨e1, e2⟩ := Prod.mk.inj (Option.some.inj e)
    subst e1
    subst e2
    show wpAny M A (alloc ob >>= k) Q E s
    exact wpAny_bind (wpAny_alloc q)
  | _ => intro g e; cases e
theorem eMeth_items {M : Model} {pl : Sem Bool} {Q : Value × List Value → Heap → Prop} {n : Nat} {es : List DictEntry} (ho : h.get? a = some (dictOf es n)) (k : Q (.builtin "dict.items", [.ref a]) h) : Ev M A (getMethod (.ref a) "items" pl) h Q E := .mk fun s hs =>
  getMethod_builtin ⟨_, hs ▸ ho, rfl⟩ PySem.F.plainAttrs_dict PySem.F.slot_dict_items PySem.F.type_dict_items (fun _ e => by cases e; exact ⟨_, hs ▸ ho, rfl⟩) (fin0 (Q := Q) hs k)
/-- a loop over the items of an empty dict -/
theorem items_loop0 {R : Result → Heap → Prop} {target : Expr} {body : List Stmt} (hh : A.handled = none) (F : Loc g L cs m led h) (ho : h.get? a = some (dictOf [] 0)) (hsys : (a == sysModules) = false)
    (k : ∀ h', Loc g L cs m led h' → R (.ok .next) h') :
    Ev (model prog w) A (call (.builtin "dict.items") [.ref a]) h (fun v h₁ => Ev (model prog w) A (pyIter v) h₁ (fun it h₂ => EvC (model prog w) A (.forLoop target it body [] env) h₂ R) E) E := .mk fun s hs => by
  subst hs
  have hm : s.heap.DictAt (strKind prog w) a [] 0 := ⟨_, #[], ho, ⟨rfl, rfl, rfl⟩, rfl, (fun e he => absurd he (by simp)), Pairs.nil, List.nodup_nil⟩
  refine call_meetsIn PySem.F.slot_dict_items ⟨_, ho, rfl⟩ PySem.F.entry_dict_items (PySem.F.args_dict_items_1 _) (meets_dict_items (strKind prog w) a hsys) ⟨⟨[], hm.dictOf⟩, ?_⟩
  have F1 := F.new { cls := .type "dict_items", data := .fields #[.ref a] }
  have ho1 : (s.heap.push { cls := .type "dict_items", data := .fields #[.ref a] }).get? a = some (dictOf [] 0) := Heap.get?_push_of_some _ ho
  refine ⟨Same.mk' _ _ _, .mk fun s₁ hs₁ => ?_⟩
  have hs₁ : s₁.heap = s.heap.push { cls := .type "dict_items", data := .fields #[.ref a] } := hs₁
  rw [← hs₁] at F1 ho1
  have hm1 : s₁.heap.DictAt (strKind prog w) a [] 0 := ⟨_, #[], ho1, ⟨rfl, rfl, rfl⟩, rfl, (fun e he => absurd he (by simp)), Pairs.nil, List.nodup_nil⟩
  refine wpAny_pyIter_items (knd := strKind prog w) ⟨_, F1.get (.head _), rfl, rfl⟩ hm1 ⟨Same.mk' _ _ _, ⟨fun s₂ hs₂ => ?_⟩⟩
  have F2 := F1.new { cls := .type "dict_itemiterator", data := .fields #[.none, .bool false, .ref a, .int 0 0, .int ([] : List (Str × Value)).length 0, .int 0 0, .none, .none] }
  have hs₂ : s₂.heap = s₁.heap.push { cls := .type "dict_itemiterator", data := .fields #[.none, .bool false, .ref a, .int 0 0, .int ([] : List (Str × Value)).length 0, .int 0 0, .none, .none] } := hs₂
  have ho2 : s₂.heap.get? a = some (dictOf [] 0) := by rw [hs₂]; exact Heap.get?_push_of_some _ ho1
  rw [← hs₂] at F2
  have hm2 : s₂.heap.DictAt (strKind prog w) a [] 0 := ⟨_, #[], ho2, ⟨rfl, rfl, rfl⟩, rfl, (fun e he => absurd he (by simp)), Pairs.nil, List.nodup_nil⟩
  refine codeAny_forLoop_any (fun _ s' => s' = s₂) (fun n s' e => ?_) 0 rfl
  subst e
  refine wpAny_pyNext_items_end (knd := strKind prog w) (kvs := []) hh (F2.get (.head _)) hm2 (by simp) fun h' hx => ?_
  exact wpAny_execs_nil ⟨Same.mk' _ _ _, k h' (F2.extDrop hx).drop⟩
/-- a def with **more, to which no more is given -/
theorem call_fnKw {mg mb : Str → Option Value} {f : Addr} {oc : Value} {od : Option Addr} {osl : Array (Option Value)} {fd : FuncData} {body : List Stmt} {pos : List Value} {kw : List (Str × Value)} {front : List (Str × Value)} {nm : Str} {g₁ : Addr → Sem (List (Str × Value))}
    (X : Amb K mg mb h) (ho : K.lookup f = some ⟨oc, od, .func fd, osl⟩) (hcd : codeIn K fd.code fd.qualname = true) (hbody : fd.body = .stmts body) {n : Nat} (R : Rm A (n + 1))
    (hp : peekA K ⟨prog, w.params⟩ (bindArgs fd ⟨pos, kw⟩) = some (dictOf [] 0, g₁)) (hg₁ : ∀ D, g₁ D = pure (front ++ [(nm, .ref D)]))
    (hcell : (fd.scope.names.all fun x => x.2 != .cell) = true) (hloc : (((front.map (·.1)) ++ [nm]).all fun y => fd.scope.names.lookup y == some .local) = true)
    (k : ∀ A' D L h₁ h', Rm A' n → h.get? D = none → (D == sysModules) = false → h₁.get? D = some (dictOf [] 0) → Sub h h₁ → Loc h₁ L [] (fun x => (front ++ [(nm, Value.ref D)]).reverse.lookup x) [] h' →
      Ev (model prog w) A' (execs body (callEnv fd L f)) h' (fun fl h'' => Q (match fl with | .ret v => v | _ => .none) h'') (fun _ _ => False))
    (hco : fd.scope.isCoroutine = false := by rfl) (hgen : fd.scope.isGenerator = false := by rfl) (hk : fd.scope.kind = .function := by rfl) :
    Ev (model prog w) A (call (.ref f) pos kw) h Q E := .mk fun s hs => by
  subst hs
  refine wpAny_call (codeAny_call_function (by have := R.dp; omega) (X.k _ _ ho) rfl hco hgen hbody (codeRec_of X.k hcd) ?_)
  refine wp_peekA' (o := dictOf [] 0) X.k _ g₁ hp ?_
  rw [hg₁]
  refine wpAny_pure ?_
  have sub1 : Sub s.heap (s.heap.push (dictOf [] 0)) := fun b o e => Heap.get?_push_of_some _ e
  refine wpAny_newFunctionEnv (fun x hx => by have := List.all_eq_true.mp hcell x hx; simpa using this) (fun x hx => ?_) (fun h₀ hns₀ hsb₀ => ⟨(X.lim.keeps sub1).fresh _ hsb₀, codeAny_func ?_⟩) hk
  · have hm : x.1 ∈ (front.map (·.1)) ++ [nm] := by
      rcases List.mem_append.mp hx with q | q
      · exact List.mem_append.mpr (.inl (List.mem_map.mpr ⟨x, q, rfl⟩))
      · rw [List.mem_singleton.mp q]; exact List.mem_append.mpr (.inr (.head _))
    have := List.all_eq_true.mp hloc x.1 hm
    simpa using this
  · have hk₀ : Sub (s.heap.push (dictOf [] 0)) h₀ := fun b o e => hsb₀.extBut b o (Nat.ne_of_lt (Heap.lt_size e)) (Heap.get?_push_of_some _ e)
    have F : Loc (s.heap.push (dictOf [] 0)) (s.heap.push (dictOf [] 0)).objs.size [] (fun x => (front ++ [(nm, Value.ref s.heap.objs.size)]).reverse.lookup x) [] h₀ := ⟨hk₀, ⟨_, hns₀, fun _ _ => rfl⟩, get_size _, fun _ hp => (by cases hp), List.nodup_nil, fun _ _ q => (by cases q), fun _ _ _ q => (by cases q), fun _ _ q => (by cases q)⟩
    exact wpAny_mono ((k _ _ _ _ _ R.deeper (get_size _) (beq_eq_false_iff_ne.mpr (Nat.ne_of_gt (modules_low X.lim))) (Heap.get?_push_size _ rfl) sub1 F).run _ rfl) (fun fl s' q => ⟨Same.trans (Same.mk' s _ _) q.1, q.2⟩) fun _ _ q => q.2.elim
end

section
variable {prog : Program} {w : World} {A : Around} {g h : Heap} {E : Value → Heap → Prop} {env : Env} {Q : Value → Heap → Prop} {L a b : Addr} {cs : List (Str × Addr)} {m : Str → Option Value} {led : List (Addr × Obj)} {t u : Tok} {x y nm out : Str} {o : Obj} {vs : List Value} {ds : List PyData} {K : Frag} {M : Model}
theorem Joined_ {v₁ v₂ : Expr} {rest : List Expr} {pos : Pos} (k : Ev M A (joinParts Str.empty (evalEach (v₁ :: v₂ :: rest) env)) h Q E) : Ev M A (eval (.JoinedStr (v₁ :: v₂ :: rest) pos) env) h Q E := .mk fun s hs => JoinedStr_many (k.run s hs)
theorem joinP_nil (hz : out.length ≤ sizeLine) (k : ∀ t', Q (.str out t') h) : Ev M A (joinParts out (evalEach [] env)) h Q E := .mk fun s hs => joinParts_nil (fint (Q := Q) hs (k _) _) hz
theorem joinP_cons {e : Expr} {rest : List Expr} (k : Ev M A (eval e env) h (fun v h₁ => ∃ y t, v = .str y t ∧ (out ++ y).length ≤ sizeLine ∧ Ev M A (joinParts (out ++ y) (evalEach rest env)) h₁ Q E) E) : Ev M A (joinParts out (evalEach (e :: rest) env)) h Q E := .mk fun s hs =>
  joinParts_cons (k.use hs (.refl s) fun v s₁ m₁ k₁ => by
    obtain ⟨y, t, rfl, hz, k₁⟩ := k₁
    exact ⟨hz, k₁.use rfl m₁ fun _ _ m₂ q => ⟨m₂, q⟩⟩)
theorem FV_r {value : Expr} {pos : Pos} (k : Ev (model prog w) A (eval value env) h (fun v h₁ => Ev (model prog w) A (pyReprObj v) h₁ (fun r h₂ => ∃ y t, r = .str y t ∧ y.length ≤ sizeLine ∧ ∀ t', Q (.str y t') h₂) E) E) : Ev (model prog w) A (eval (.FormattedValue value 114 none pos) env) h Q E := .mk fun s hs =>
  wpAny_FormattedValue_repr (k.use hs (.refl s) fun v s₁ m₁ k₁ => k₁.use rfl m₁ fun r s₂ m₂ k₂ => by
    obtain ⟨y, t, rfl, hz, k₂⟩ := k₂
    exact formatField_str (fun t' tk => ⟨m₂.trans (Same.mk' s₂ _ _), k₂ t'⟩) hz)
theorem FV_s {value : Expr} {pos : Pos} (k : Ev (model prog w) A (eval value env) h (fun v h₁ => ∃ y t, v = .str y t ∧ y.length ≤ sizeLine ∧ ∀ t', Q (.str y t') h₁) E) : Ev (model prog w) A (eval (.FormattedValue value 115 none pos) env) h Q E := .mk fun s hs => by
  rw [arm_eval_FormattedValue]
  refine wpAny_bind (k.use hs (.refl s) fun v s₁ m₁ k₁ => ?_)
  obtain ⟨y, t, rfl, hz, k₁⟩ := k₁
  refine wpAny_bind (wpAny_standAt ?_)
  refine wpAny_bind (wpAny_holding ?_)
  show wpAny _ _ (habitSame "fstring-hands-on-the-str" (.str y t)) _ _ _
  exact habitSame_str (fun t' tk => formatField_str (fun t'' tk' => ⟨m₁.trans (Same.mk' s₁ _ _), k₁ t''⟩) hz) hz
theorem eReprObj {d : PyData} (r : Rd h (.ref a) d) (hs : d.showable = true) (hnd : d.hasDict = false) (hg : A.guards = some []) (hu : A.units + d.depth < cLine) (hz : d.shown.length ≤ sizeLine)
    (k : ∀ t' h', Sub h h' → Q (.str d.shown t') h') : Ev (model prog w) A (pyReprObj (.ref a)) h Q E := .mk fun s hs' => by
  subst hs'
  obtain ⟨as, r⟩ := r
  exact pyReprObj_of_reads r hs (fun hx => by rw [hnd] at hx; cases hx) hg hu (fun _ _ e => e) (fun h' u tk hk => ⟨Same.mk' _ _ _, k _ _ hk⟩) hz
theorem Attr_any {value : Expr} {attr : Str} {pos : Pos} (k : Ev (model prog w) A (eval value env) h (fun o h₁ => Ev (model prog w) A (getAttr o attr true) h₁ Q E) E)
    (he : eval (.Attribute value attr pos) env = (do
      let o ← eval value env
      standAt pos.atName
      let r ← holding [o] (getAttr o attr true)
      letTemporaryGo value o r
      pure r) := by rfl) : Ev (model prog w) A (eval (.Attribute value attr pos) env) h Q E :=
  .mk fun s hs => Attribute_any_ (k.use hs (.refl s) fun _ _ m₁ k₁ => k₁.use rfl m₁ fun _ _ m₂ q => ⟨m₂, q⟩) he
/-- several objects that were not there before join the ledger -/
theorem Loc.takeAll {h' : Heap} : ∀ {new : List (Addr × Obj)}, Loc g L cs m led h → Sub h h' → (∀ p ∈ new, h.get? p.1 = none ∧ h'.get? p.1 = some p.2) → (new.map (·.1)).Nodup → Loc g L cs m (new ++ led) h'
  | [], F, e, _, _ => F.keep e
  | p :: r, F, e, hn, nd => by
    rw [List.map_cons, List.nodup_cons] at nd
    have ih := Loc.takeAll F e (fun q hq => hn q (.tail _ hq)) nd.2
    obtain ⟨oL, hL⟩ := F.lt
    have hp := hn p (.head _)
    refine ⟨ih.sub, ih.ns, ih.gL, fun q hq => ?_, ?_, ih.cell, ih.capart, fun x c q => ⟨(ih.cnew x c q).1, (ih.cnew x c q).2.1, fun z hz => ?_⟩⟩
    · rcases List.mem_cons.mp hq with rfl | hq
      · exact ⟨hp.2, (fun z => by rw [z, hL] at hp; cases hp.1), none_sub F.sub hp.1⟩
      · exact ih.led q hq
    · show ((p :: (r ++ led)).map (·.1)).Nodup
      rw [List.map_cons, List.nodup_cons]
      refine ⟨fun hm => ?_, ih.nd⟩
      rw [List.map_append] at hm
      rcases List.mem_append.mp hm with hm | hm
      · exact nd.1 hm
      · obtain ⟨q, hq, z⟩ := List.mem_map.mp hm
        have := (F.led q hq).1
        rw [z, hp.1] at this; cases this
    · rcases List.mem_cons.mp hz with rfl | hz
      · rintro rfl
        obtain ⟨oc, hoc, _⟩ := F.cell x _ q
        rw [hoc] at hp; cases hp.1
      · exact (ih.cnew x c q).2.2 z hz
end
local macro_rules | `(tactic| walk_at "s") => `(tactic| first
  | ((with_reducible show Ev _ _ (eval (Expr.Attribute (Expr.Attribute _ _ _) _ _) _) _ _ _); refine Attr_any ?_)
  | ((with_reducible show Ev _ _ (eval (Expr.JoinedStr (_ :: _ :: _) _) _) _ _ _); refine Joined_ ?_)
  | ((with_reducible show Ev _ _ (joinParts _ (evalEach (_ :: _) _)) _ _ _); refine joinP_cons ?_)
  | ((with_reducible show Ev _ _ (eval (Expr.FormattedValue _ 115 none _) _) _ _ _); refine FV_s ?_)
  | ((with_reducible show Ev _ _ (eval (Expr.FormattedValue _ 114 none _) _) _ _ _); refine FV_r ?_)
  | ((with_reducible show Ev _ _ (getMethod (Value.ref _) (Str.ofString "reverse") _) _ _ _); refine' eMeth_reverse (by walk_at "get") ?_)
  | ((with_reducible show Ev _ _ (getMethod (Value.str _ _) (Str.ofString "join") _) _ _ _); refine eMeth_join ?_)
  | ((with_reducible show Ev _ _ (getMethod (Value.ref _) (Str.ofString "items") _) _ _ _); refine' eMeth_items (by walk_at "get") ?_)
  | ((with_reducible show Ev _ _ (call (Value.builtin "list.reverse") [Value.ref _]) _ _ _); refine' eReverse (by assumption) (by walk_at "put") (by walk_at "len") ?_; intro n9 h9 F9; (try dsimp only at F9))
  | ((with_reducible show Ev _ _ (compareOp CmpOp.In (Value.str _ _) (Value.str _ _)) _ _ _); refine eIn_str ?_)
  | fail "no rule of the third text")

set_option maxHeartbeats 8000000
open_top hd for PySem.Challenge.rw_dn0261_10

noncomputable abbrev K7 (w : World) : Frag := hd.heap_39 w.params
noncomputable abbrev p7 : Program := PySem.Challenge.rw_dn0261_10.row.prog
theorem n_len (w : World) : nsIn (K7 w) mainGlobals (Str.ofString "len") = some none := by rfl
theorem n_range (w : World) : nsIn (K7 w) mainGlobals (Str.ofString "range") = some none := by rfl
theorem n_str (w : World) : nsIn (K7 w) mainGlobals (Str.ofString "str") = some none := by rfl
theorem n_repr (w : World) : nsIn (K7 w) mainGlobals (Str.ofString "repr") = some none := by rfl
local macro_rules | `(tactic| walk_at "nsG") => `(tactic| with_reducible first | fail "no global")
local macro_rules | `(tactic| walk_at "nsB") => `(tactic| with_reducible first | exact n_len _ | exact n_range _ | exact n_str _ | exact n_repr _)
local macro_rules | `(tactic| walk_at "bb") => `(tactic| with_reducible first | exact bb_chr | exact bb_ord | exact bb_len | exact bb_str | exact bb_range | exact bb_type | exact bb_list | exact boot_repr)
def pairD (p : Str × Str) : PyData := .tuple [.str p.1, .str p.2]
def ascii (x : Str) : Prop := ∀ c ∈ x.cps.toList, 32 ≤ c ∧ c ≤ 126
def asciiB (x : Str) : Bool := x.cps.toList.all fun c => decide (32 ≤ c) && decide (c ≤ 126)
theorem ascii_of_B {x : Str} (h : asciiB x = true) : ascii x := fun c hc => by
  have := List.all_eq_true.mp h c hc
  simpa using this
theorem digits (k : Nat) (hk : k < 70) : ascii (Str.ofString (toString (k : Int))) ∧ (Str.ofString (toString (k : Int))).length ≤ 20 := by
  have h : ∀ j : Fin 70, asciiB (Str.ofString (toString ((j.val : Nat) : Int))) = true ∧ (Str.ofString (toString ((j.val : Nat) : Int))).length ≤ 20 := by decide +kernel
  have := h ⟨k, hk⟩
  exact ⟨ascii_of_B this.1, this.2⟩
structure GoodP (p : Str × Str) : Prop where
  a1 : ascii p.1
  l1 : p.1.length ≤ 63
  a2 : ascii p.2
  l2 : p.2.length ≤ 63
theorem goodP {x y : Str} (h1 : ascii x) (h2 : x.length ≤ 63) (h3 : ascii y) (h4 : y.length ≤ 63) : GoodP (x, y) := ⟨h1, h2, h3, h4⟩
theorem eqvAll_nil (ds : List PyData) : PyData.eqvAll ds [] = ds.isEmpty := by cases ds <;> rfl
theorem fmod_facts (a : Int) (b : Int) (hb : 0 < b) : 0 ≤ a.fmod b ∧ a.fmod b < b := ⟨Int.fmod_nonneg_of_pos a hb, Int.fmod_lt_of_pos a hb⟩

/-- no sign that the tables refuse -/
def clean (x : Str) : Prop := ∀ c ∈ x.cps.toList, 32 ≤ c ∧ c ≠ 127
theorem n_type (w : World) : nsIn (K7 w) mainGlobals (Str.ofString "type") = some none := by rfl
theorem n_nameRe (w : World) : nsIn (K7 w) mainGlobals (Str.ofString "_name_disallowed_re") = some (some (.ref 41)) := by rfl
theorem n_valueRe (w : World) : nsIn (K7 w) mainGlobals (Str.ofString "_value_disallowed_re") = some (some (.ref 46)) := by rfl
theorem n_list (w : World) : nsIn (K7 w) mainGlobals (Str.ofString "list") = some none := by rfl
local macro_rules | `(tactic| walk_at "nsG") => `(tactic| with_reducible first | exact n_nameRe _ | exact n_valueRe _)
local macro_rules | `(tactic| walk_at "nsB") => `(tactic| with_reducible first | exact n_len _ | exact n_range _ | exact n_str _ | exact n_repr _ | exact n_type _ | exact n_list _)
section
variable {w : World} {A : Around} {g h : Heap} {E : Value → Heap → Prop} {mg mb : Str → Option Value} {Q : Value → Heap → Prop} {x : Str} {t : Tok}
theorem search43 (X : Amb (K7 w) mg mb h) (hx : x.length ≤ 1000) (hc : clean x) (k : Q .none h) : Ev (model p7 w) A (call (.builtin "re.Pattern.search") [.ref 41, .str x t]) h Q E := .mk fun s hs =>
  search_none (hs ▸ X.k 41 _ (by rfl)) rfl rfl rfl rfl rfl (hs ▸ X.k 40 _ (by rfl)) rfl hx first_name (fun c hm => noIn_name (hc c hm).1 (hc c hm).2) (fin0 (Q := Q) hs k)
theorem search48 (X : Amb (K7 w) mg mb h) (hx : x.length ≤ 1000) (hc : clean x) (k : Q .none h) : Ev (model p7 w) A (call (.builtin "re.Pattern.search") [.ref 46, .str x t]) h Q E := .mk fun s hs =>
  search_none (hs ▸ X.k 46 _ (by rfl)) rfl rfl rfl rfl rfl (hs ▸ X.k 45 _ (by rfl)) rfl hx first_value (fun c hm => noIn_value (.inl (hc c hm).1) (hc c hm).2) (fin0 (Q := Q) hs k)
theorem meth43 {pl : Sem Bool} {Q : Value × List Value → Heap → Prop} (X : Amb (K7 w) mg mb h) (k : Q (.builtin "re.Pattern.search", [.ref 41]) h) : Ev (model p7 w) A (getMethod (.ref 41) "search" pl) h Q E := .mk fun s hs => method_search (hs ▸ X.k 41 _ (by rfl)) rfl rfl (fin0 (Q := Q) hs k)
theorem meth48 {pl : Sem Bool} {Q : Value × List Value → Heap → Prop} (X : Amb (K7 w) mg mb h) (k : Q (.builtin "re.Pattern.search", [.ref 46]) h) : Ev (model p7 w) A (getMethod (.ref 46) "search" pl) h Q E := .mk fun s hs => method_search (hs ▸ X.k 46 _ (by rfl)) rfl rfl (fin0 (Q := Q) hs k)
set_option maxHeartbeats 4000000 in
theorem conv_call {b : Bool} {self : Addr} (R : Rm A 1) (X : Amb (K7 w) mg mb h) (hx : x.length ≤ 1000) (hc : clean x) (k : ∀ h', Sub h h' → Q (.str x t) h') :
    Ev (model p7 w) A (call (.ref 76) [.ref self, .str x t] [(Str.ofString "name", .bool b)]) h Q E := by
  refine call_fn (binds := [(Str.ofString "self", .ref self), (Str.ofString "value", .str x t), (Str.ofString "name", .bool b)]) X (by rfl) (by rfl) rfl R (fun s hs => BindsTo.of_eq (by rfl)) (by rfl) (by rfl) (fun A L h₁ R F => ?_)
  walk_at "w"
  · refine meth43 (Loc.amb (by assumption) X) ?_
    walk_at "w"
    refine search43 (Loc.amb (by assumption) X) hx hc ?_
    walk_at "w"
    exact k _ (Loc.sub (by assumption))
  · refine meth48 (Loc.amb (by assumption) X) ?_
    walk_at "w"
    refine search48 (Loc.amb (by assumption) X) hx hc ?_
    walk_at "w"
    exact k _ (Loc.sub (by assumption))
end

abbrev HAt (h : Heap) (x D : Addr) : Prop := OneAt 175 (Str.ofString "_headers") h x (.ref D)
theorem mt_conv (w : World) : findIn (K7 w) (.ref 175) (Str.ofString "_convert_string_type") = some (some (.ref 76)) := by rfl
theorem mt_get (w : World) : findIn (K7 w) (.ref 175) (Str.ofString "get") = some (some (.ref 122)) := by rfl
theorem mt_items (w : World) : findIn (K7 w) (.ref 175) (Str.ofString "items") = some (some (.ref 139)) := by rfl
local macro_rules | `(tactic| walk_at "mt") => `(tactic| with_reducible first | exact mt_conv _ | exact mt_get _ | exact mt_items _)
section
variable {w : World} {A : Around} {g h : Heap} {E : Value → Heap → Prop} {mg mb : Str → Option Value} {Q : Value → Heap → Prop} {x D : Addr} {t : Tok}
theorem attr_h {e : Bool} (X : Amb (K7 w) mg mb h) (H : HAt h x D) (k : Q (.ref D) h) : Ev (model p7 w) A (getAttr (.ref x) (Str.ofString "_headers") e) h Q E := by
  obtain ⟨dx, hash, t, p, q⟩ := H
  exact eGetAttr X.k p q (by rfl) (by rfl) (attr := none) (by rfl) (by rfl) (by rfl) rfl k
theorem meth_h {name : Str} {f : Addr} {pl : Sem Bool} {Q : Value × List Value → Heap → Prop} (X : Amb (K7 w) mg mb h) (H : HAt h x D) (hf : findIn (K7 w) (.ref 175) name = some (some (.ref f))) (ht : isFn (K7 w) (.ref f) = true)
    (hl : ∀ hash t v, getL name [⟨hash, .str (Str.ofString "_headers") t, v⟩] = some none) (k : Q (.ref f, [.ref x]) h) : Ev (model p7 w) A (getMethod (.ref x) name pl) h Q E := by
  obtain ⟨dx, hash, t, p, q⟩ := H
  exact eMethod X.k p q (by rfl) hf ht (hl _ _ _) k
end
local macro_rules | `(tactic| walk_at "s") => `(tactic| first
  | ((with_reducible show Ev _ _ (getAttr (Value.ref _) (Str.ofString "_headers") _) _ _ _); refine' attr_h (Loc.amb ?F ?X) (OneAt.keep ?H (Loc.sub ?F)) ?_; (case F => assumption); (case X => assumption); (case H => assumption))
  | ((with_reducible show Ev _ _ (getMethod (Value.ref _) (Str.ofString _) _) _ _ _); refine' meth_h (Loc.amb ?F ?X) (OneAt.keep ?H (Loc.sub ?F)) ?mt ?ft ?l ?_; (case F => assumption); (case X => assumption); (case H => assumption); (case mt => walk_at "mt"); (case ft => rfl); (case l => (intro _ _ _; rfl))))
section
variable {w : World} {A : Around} {g h : Heap} {E : Value → Heap → Prop} {mg mb : Str → Option Value} {Q : Value → Heap → Prop} {x D : Addr} {t : Tok}
structure Neat (p : Str × Str) : Prop where
  c1 : clean p.1
  l1 : p.1.length ≤ 1000
  c2 : clean p.2
  l2 : p.2.length ≤ 1000
set_option maxHeartbeats 4000000 in
theorem new_call {us : List Value} {oD : Obj} {ps : List (Str × Str)} (R : Rm A 3) (X : Amb (K7 w) mg mb h) (hD : h.get? D = some oD) (hl : IsL oD us) (hr : RdAll h us (ps.map pairD)) (hp : ∀ p ∈ ps, Neat p)
    (k : ∀ x h', Sub h h' → OneNew 175 (Str.ofString "_headers") h h' x (.ref D) → Q (.ref x) h') : Ev (model p7 w) A (call (.ref 175) [.ref D]) h Q E := by
  refine eMake X (by rfl) (by rfl) (by rfl) fun x dx h' e1 nx nd hne hx hdx => ?_
  refine code_fnM (g := h) (led := [(dx, emptyDict)]) (binds := [(Str.ofString "self", .ref x), (Str.ofString "headers", .ref D)]) X e1 (fun p hp => by rw [List.mem_singleton.mp hp]; exact ⟨hdx, nd⟩) (by simp) (by rfl) (by rfl) rfl (Rm.make R) (fun s hs => binds_K (hs ▸ (X.keep e1).k) rfl (by rfl) rfl (by rfl) (by rfl)) (by rfl) (by rfl) (fun A L g' h₁ R sg eg F => ?_)
  have hx' : g'.get? x = some (instObj 175 dx) := eg ▸ hideAll_get _ hx (by simpa using hne)
  have X := X.keep sg
  have hD' := sg _ _ hD
  have hr' := hr.keep sg
  walk_at "w"
  rename_i h2 F2
  refine eSetAttr (name := Str.ofString "_headers") (F2.amb X).k F2 (F2.sub _ _ hx') PutF.head (by rfl) (by rfl) (by rfl) (by rfl) fun hash t h3 F3 => ?_
  obtain ⟨g2, F4, s2, hd2⟩ := F3.freeze1
  have H : HAt g2 x D := ⟨dx, hash, t, s2 _ _ hx', hd2⟩
  have X := X.keep s2
  walk_at "w"
  refine loop_list (fun i g m led => g = g2 ∧ led = [] ∧ m (Str.ofString "self") = some (.ref x)) R.hd hl F4 ⟨rfl, rfl, by walk_at "lk"⟩ (fun i g m led ⟨e, _⟩ => .inl (e ▸ s2 _ _ hD')) ?_ ?_
  · rintro i v I o g m led h₅ hv ⟨rfl, rfl, hm⟩ F
    obtain ⟨d, hd, hv'⟩ := hr'.get hv
    rw [List.getElem?_map] at hd
    obtain ⟨q, hq, rfl⟩ := Option.map_eq_some_iff.mp hd
    have hq' := hp q (List.mem_of_getElem? hq)
    obtain ⟨r, ro, rvs, n, rfl, hro, hrc, hrd, hrr⟩ := (hv'.keep s2).tup
    obtain ⟨t₁, t₂, e⟩ := hrr.two
    refine assign_two R.hd F (F.sub _ _ hro) ⟨.inr hrc, n, by rw [hrd]; congr 1; apply Array.ext'; exact e⟩ fun h₇ F => ?_
    walk_at "w"
    refine conv_call R (Loc.amb (by assumption) X) hq'.l1 hq'.c1 fun h8 e8 => ?_
    have F := Loc.keep (by assumption) e8
    walk_at "w"
    refine conv_call R (Loc.amb (by assumption) X) hq'.l2 hq'.c2 fun h9 e9 => ?_
    have F := Loc.keep (by assumption) e9
    walk_at "w"
    refine turn_end F ⟨rfl, rfl, by walk_at "lk"⟩
  · rintro g m led h₅ ⟨rfl, rfl, hm⟩ F
    walk_at "w"
    refine ⟨rfl, k x _ (sg.tr (s2.tr F.sub)) ?_⟩
    exact ⟨dx, hash, t, nx, nd, F.sub _ _ (s2 _ _ hx'), F.sub _ _ hd2⟩
end

def sameLow (name : Str) (p : Str × Str) : Bool := Txt.lower p.1 == Txt.lower name
section
variable {w : World} {A : Around} {g h : Heap} {E : Value → Heap → Prop} {mg mb : Str → Option Value} {Q : Value → Heap → Prop} {x D : Addr} {t : Tok}
/-- D is a list of the pairs ps -/
structure Pairs (h : Heap) (D : Addr) (ps : List (Str × Str)) : Prop where
  ex : ∃ o us, h.get? D = some o ∧ IsL o us ∧ RdAll h us (ps.map pairD)
  len : ∀ p ∈ ps, p.1.length ≤ 1000
theorem find_take {p : Str × Str → Bool} {ps : List (Str × Str)} {i : Nat} {q : Str × Str} (h : (ps.take i).find? p = none) (hq : ps[i]? = some q) (hp : p q = true) : ps.find? p = some q := by
  have e : ps = ps.take i ++ q :: ps.drop (i + 1) := by
    have hi : i < ps.length := (List.getElem?_eq_some_iff.mp hq).1
    have : q = ps[i] := by rw [List.getElem?_eq_getElem hi] at hq; exact (Option.some.inj hq).symm
    rw [this, List.getElem_cons_drop hi, List.take_append_drop]
  rw [e, List.find?_append, h, List.find?_cons, hp]; rfl
theorem find_take_succ {p : Str × Str → Bool} {ps : List (Str × Str)} {i : Nat} {q : Str × Str} (h : (ps.take i).find? p = none) (hq : ps[i]? = some q) (hp : p q = false) : (ps.take (i + 1)).find? p = none := by
  rw [List.take_add_one, hq, List.find?_append, h]
  simp [hp]
set_option maxHeartbeats 4000000 in
theorem get_body {L : Addr} {name : Str} {dv : Value} {ps : List (Str × Str)} {h₁ : Heap} {fd : FuncData} (R : Rm A 1) (X : Amb (K7 w) mg mb h) (H : HAt h x D) (hP : Pairs h D ps) (hn : name.length ≤ 1000) (hl : (Txt.lower name).length ≤ 1000) (hc : clean (Txt.lower name))
    (k1 : ∀ p t' h', ps.find? (sameLow name) = some p → Sub h h' → Q (.str p.2 t') h') (k2 : ps.find? (sameLow name) = none → ∀ h', Sub h h' → Q dv h')
    {oc : Value} {od : Option Addr} {osl : Array (Option Value)} (hf : (K7 w).lookup 122 = some ⟨oc, od, .func fd, osl⟩) {body : List Stmt} (hb : fd.body = .stmts body)
    (F : Loc h L [] (fun y => [(Str.ofString "self", .ref x), (Str.ofString "name", .str name t), (Str.ofString "default", dv)].reverse.lookup y) [] h₁) :
    Ev (model p7 w) A (execs body (callEnv fd L 122)) h₁ (fun fl h'' => Q (match fl with | .ret v => v | _ => .none) h'') (fun _ _ => False) := by
  cases hf
  cases hb
  obtain ⟨o, us, hD, hL, hr⟩ := hP.ex
  walk_at "w"
  refine conv_call R (Loc.amb (by assumption) X) hl hc fun h2 e2 => ?_
  have F := Loc.keep (by assumption) e2
  walk_at "w"
  rename_i h3 F3
  refine loop_list (fun i g m led => g = h ∧ led = [] ∧ (∃ v, m (Str.ofString "name") = some v ∧ IsS v (Txt.lower name)) ∧ m (Str.ofString "default") = some dv ∧ (ps.take i).find? (sameLow name) = none) R.hd hL F3 ⟨rfl, rfl, ⟨_, by walk_at "lk", _, rfl⟩, by walk_at "lk", by simp⟩ (fun i g m led ⟨e, _⟩ => .inl (e ▸ hD)) ?_ ?_
  · rintro i v I o g m led h₅ hv ⟨rfl, rfl, ⟨_, hm1, tn, rfl⟩, hm2, hfd⟩ F
    obtain ⟨d, hd, hv'⟩ := hr.get hv
    rw [List.getElem?_map] at hd
    obtain ⟨q, hq, rfl⟩ := Option.map_eq_some_iff.mp hd
    have hq' := hP.len q (List.mem_of_getElem? hq)
    obtain ⟨r, ro, rvs, n, rfl, hro, hrc, hrd, hrr⟩ := hv'.tup
    obtain ⟨t₁, t₂, e⟩ := hrr.two
    refine assign_two R.hd F (F.sub _ _ hro) ⟨.inr hrc, n, by rw [hrd]; congr 1; apply Array.ext'; exact e⟩ fun h₇ F => ?_
    walk_at "w"
    · exact k1 q _ _ (find_take hfd hq (by unfold sameLow; simpa using by assumption)) (Loc.sub (by assumption))
    · refine turn_end (by assumption) ⟨rfl, rfl, ⟨_, by walk_at "lk", _, rfl⟩, by walk_at "lk", find_take_succ hfd hq (by unfold sameLow; simpa using by assumption)⟩
  · rintro g m led h₅ ⟨rfl, rfl, ⟨_, hm1, tn, rfl⟩, hm2, hfd⟩ F
    walk_at "w"
    refine k2 ?_ _ (Loc.sub (by assumption))
    rwa [List.take_of_length_le (by rw [hr.length]; simp)] at hfd

theorem get_call3 {name : Str} {dv : Value} {ps : List (Str × Str)} (R : Rm A 2) (X : Amb (K7 w) mg mb h) (H : HAt h x D) (hP : Pairs h D ps) (hn : name.length ≤ 1000) (hl : (Txt.lower name).length ≤ 1000) (hc : clean (Txt.lower name))
    (k1 : ∀ p t' h', ps.find? (sameLow name) = some p → Sub h h' → Q (.str p.2 t') h') (k2 : ps.find? (sameLow name) = none → ∀ h', Sub h h' → Q dv h') : Ev (model p7 w) A (call (.ref 122) [.ref x, .str name t, dv]) h Q E := by
  refine call_fn (binds := [(Str.ofString "self", .ref x), (Str.ofString "name", .str name t), (Str.ofString "default", dv)]) X (by rfl) (by rfl) rfl R (fun s hs => binds_K (hs ▸ X.k) rfl (by rfl) rfl (by rfl) (by rfl)) (by rfl) (by rfl) (fun A L h₁ R F => ?_)
  exact get_body R X H hP hn hl hc k1 k2 (by rfl) rfl F
theorem get_call2 {name : Str} {ps : List (Str × Str)} (R : Rm A 2) (X : Amb (K7 w) mg mb h) (H : HAt h x D) (hP : Pairs h D ps) (hn : name.length ≤ 1000) (hl : (Txt.lower name).length ≤ 1000) (hc : clean (Txt.lower name))
    (k1 : ∀ p t' h', ps.find? (sameLow name) = some p → Sub h h' → Q (.str p.2 t') h') (k2 : ps.find? (sameLow name) = none → ∀ h', Sub h h' → Q .none h') : Ev (model p7 w) A (call (.ref 122) [.ref x, .str name t]) h Q E := by
  refine call_fn (binds := [(Str.ofString "self", .ref x), (Str.ofString "name", .str name t), (Str.ofString "default", .none)]) X (by rfl) (by rfl) rfl R (fun s hs => binds_K (hs ▸ X.k) rfl (by rfl) rfl (by rfl) (by rfl)) (by rfl) (by rfl) (fun A L h₁ R F => ?_)
  exact get_body R X H hP hn hl hc k1 k2 (by rfl) rfl F
theorem has_call {name : Str} {ps : List (Str × Str)} (R : Rm A 3) (X : Amb (K7 w) mg mb h) (H : HAt h x D) (hP : Pairs h D ps) (hn : name.length ≤ 1000) (hl : (Txt.lower name).length ≤ 1000) (hc : clean (Txt.lower name))
    (k : ∀ h', Sub h h' → Q (.bool (ps.find? (sameLow name)).isSome) h') : Ev (model p7 w) A (call (.ref 109) [.ref x, .str name t]) h Q E := by
  refine call_fn (binds := [(Str.ofString "self", .ref x), (Str.ofString "name", .str name t)]) X (by rfl) (by rfl) rfl R (fun s hs => BindsTo.of_eq (by rfl)) (by rfl) (by rfl) (fun A L h₁ R F => ?_)
  walk_at "w"
  have hP' : Pairs h₁ D ps := let ⟨o, us, hD, hL, hr⟩ := hP.ex; ⟨⟨o, us, F.sub _ _ hD, hL, hr.keep F.sub⟩, hP.len⟩
  refine get_call2 R (F.amb X) (H.keep F.sub) hP' hn hl hc (fun p t' h' e s => ?_) fun e h' s => ?_
  · walk_at "w"
    rw [e] at k
    exact k _ (F.sub.tr s)
  · walk_at "w"
    rw [e] at k
    exact k _ (F.sub.tr s)
theorem items_call {o : Obj} {us : List Value} (R : Rm A 1) (X : Amb (K7 w) mg mb h) (H : HAt h x D) (hD : h.get? D = some o) (hL : IsL o us) (hu : us.length ≤ 100000)
    (k : ∀ D' n h', Sub h h' → h.get? D' = none → h'.get? D' = some (listO us n) → Q (.ref D') h') : Ev (model p7 w) A (call (.ref 139) [.ref x]) h Q E := by
  refine call_fn (binds := [(Str.ofString "self", .ref x)]) X (by rfl) (by rfl) rfl R (fun s hs => BindsTo.of_eq (by rfl)) (by rfl) (by rfl) (fun A L h₁ R F => ?_)
  walk_at "w"
  refine ⟨Slice_list ?_⟩
  walk_at "w"
  refine ⟨_, _, _, _, _, rfl, F.sub _ _ hD, hL, by rw [sizeLine_eq]; omega, .none, .none, _, _, _, _, _, F, fun D' h' F' => ?_⟩
  refine k D' 0 h' F'.sub (F'.led _ (.head _)).2.2 ?_
  have := F'.get (.head _)
  rwa [slicePick_all] at this
end

theorem ascii_lt {x : Str} (h : ascii x) : ∀ c ∈ x.cps.toList, c < 128 := fun c hc => by have := h c hc; omega
theorem low_clean {x : Str} (h : ascii x) : clean (Txt.lower x) := by
  rw [lower_ascii (ascii_lt h)]
  intro c hc
  have hc : c ∈ (x.cps.map lo1).toList := hc
  rw [Array.toList_map] at hc
  obtain ⟨d, hd, rfl⟩ := List.mem_map.mp hc
  have := h d hd
  unfold lo1
  split <;> omega
theorem low_len {x : Str} (h : ascii x) : (Txt.lower x).length = x.length := by
  rw [lower_ascii (ascii_lt h)]
  show (x.cps.map lo1).size = x.cps.size
  simp
theorem ascii_clean {x : Str} (h : ascii x) : clean x := fun c hc => by have := h c hc; omega
theorem sub_ascii {x y : Str} (h : ascii x) (hs : ∀ c ∈ y.cps.toList, c ∈ x.cps.toList) : ascii y := fun c hc => h c (hs c hc)
theorem slice_mem (x : Str) (l u : Option Int) : ∀ c ∈ (Txt.slice x l u).cps.toList, c ∈ x.cps.toList := by
  intro c hc
  unfold Txt.slice at hc
  split at hc
  · exact hc
  · simp only [List.mem_filterMap] at hc
    obtain ⟨i, _, hi⟩ := hc
    obtain ⟨h1, h2⟩ := Array.getElem?_eq_some_iff.mp hi
    rw [← h2]
    simp
theorem app_ascii {x y : Str} (h : ascii x) (h' : ascii y) : ascii (x ++ y) := by
  intro c hc
  have e : (x ++ y).cps.toList = x.cps.toList ++ y.cps.toList := by show (x.cps ++ y.cps).toList = _; simp
  rw [e] at hc
  exact (List.mem_append.mp hc).elim (h c) (h' c)
theorem strOk_ascii {x : Str} (h : ascii x) : PyData.strOk x = true := by
  unfold PyData.strOk
  rw [← Array.all_toList, List.all_eq_true]
  intro c hc
  have := h c hc
  simp; omega
theorem canLay_pairs {ps : List (Str × Str)} (h : ∀ p ∈ ps, ascii p.1 ∧ ascii p.2) : PyData.canLay0 (.list (ps.map pairD)) = true := by
  show PyData.canLayAll0 _ = true
  induction ps with
  | nil => rfl
  | cons p r ih =>
    have h1 := h p (.head _)
    have := ih fun q hq => h q (.tail _ hq)
    simpa [PyData.canLayAll0, PyData.canLay0, pairD, strOk_ascii h1.1, strOk_ascii h1.2] using this
theorem depth_pairs (ps : List (Str × Str)) : PyData.depth (.list (ps.map pairD)) ≤ 3 := by
  simp only [PyData.depth]
  have : PyData.depthAll (ps.map pairD) ≤ 2 := by
    induction ps with
    | nil => simp [PyData.depthAll]
    | cons p r ih => simp only [List.map_cons, PyData.depthAll, pairD, PyData.depth]; omega
  omega

theorem rdPairs_of {h g' : Heap} (hs : ∀ b o, h.get? b = some o → o.cls = .type "tuple" → (∃ vs n, o.data = .seq vs n) → g'.get? b = some o) : ∀ {us : List Value} {ps : List (Str × Str)}, RdAll h us (ps.map pairD) → RdAll g' us (ps.map pairD)
  | [], [], _ => .nil
  | [], _ :: _, ⟨_, r⟩ => by cases r
  | _ :: _, [], ⟨_, r⟩ => by cases r
  | u :: us, p :: ps, ⟨_, r⟩ => by
    cases r with
    | cons a b =>
      refine .cons ?_ (rdPairs_of hs ⟨_, b⟩)
      have ra : Rd h u (.tuple [.str p.1, .str p.2]) := ⟨_, a⟩
      obtain ⟨ad, o, vs, n, rfl, ho, hc, hd, hr⟩ := ra.tup
      obtain ⟨t₁, t₂, e⟩ := hr.two
      have ho' := hs ad o ho hc ⟨vs, n, hd⟩
      obtain ⟨as', r'⟩ : RdAll g' vs.toList [.str p.1, .str p.2] := by rw [e]; exact RdAll.cons rd_str (.cons rd_str .nil)
      exact ⟨_, .tuple ho' hc hd r'⟩
/-- a list of pairs, and what it holds, is frozen -/
theorem Loc.freezePairs {g h : Heap} {L D : Addr} {cs : List (Str × Addr)} {m : Str → Option Value} {led : List (Addr × Obj)} {o : Obj} {us : List Value} {ps : List (Str × Str)} (F : Loc g L cs m led h)
    (hled : ∀ p ∈ led, p.2.cls ≠ .type "tuple" ∧ p.1 ≠ D) (hD : h.get? D = some o) (hL : IsL o us) (hr : RdAll h us (ps.map pairD)) : ∃ g', Loc g' L cs m led h ∧ Sub g g' ∧ g'.get? D = some o ∧ RdAll g' us (ps.map pairD) := by
  obtain ⟨g', F', s, fr⟩ := F.freeze
  obtain ⟨m₀, ⟨oL, es, ep, hLL, hLd, _⟩, _⟩ := F.ns
  have key : ∀ b o', h.get? b = some o' → (∃ vs n, o'.data = .seq vs n) → (∀ p ∈ led, p.1 ≠ b) → g'.get? b = some o' := by
    rintro b o' hb ⟨vs, n, hd⟩ hl
    refine fr b o' hb (fun e => ?_) hl (fun y hy => ?_)
    · rw [e, hLL] at hb; cases hb; rw [hLd] at hd; cases hd
    · obtain ⟨oc, hoc, hcd⟩ := F.cell y b hy
      rw [hoc] at hb; cases hb
      rw [hd] at hcd
      simp at hcd
  obtain ⟨hLc, n, hLs⟩ := hL
  refine ⟨g', F', s, key D o hD ⟨_, _, hLs⟩ (fun p hp => (hled p hp).2), rdPairs_of (fun b o' hb hc hd => key b o' hb hd fun p hp e => ?_) hr⟩
  have := (F.led p hp).1
  rw [e, hb] at this; cases this
  exact (hled p hp).1 hc

section
variable {w : World} {A : Around} {g h : Heap} {E : Value → Heap → Prop} {mg mb : Str → Option Value} {Q : Value → Heap → Prop} {x D : Addr} {t : Tok}
/-- the pairs of other names -/
def others (name : Str) (ps : List (Str × Str)) : List (Str × Str) := ps.filter fun p => !sameLow name p
theorem others_succ {name : Str} {ps : List (Str × Str)} {i : Nat} {q : Str × Str} (hq : ps[i]? = some q) : others name (ps.take (i + 1)) = others name (ps.take i) ++ (if sameLow name q then [] else [q]) := by
  unfold others
  rw [List.take_add_one, hq, List.filter_append]
  cases h : sameLow name q <;> simp [h]
set_option maxHeartbeats 4000000 in
theorem del_call {name : Str} {us : List Value} {n : Nat} {ps : List (Str × Str)} (R : Rm A 2) (X : Amb (K7 w) mg mb g) (hg : Sub g h) (hD0 : g.get? D = none) (H : HAt g x D) (hD : h.get? D = some (listO us n)) (hr : RdAll g us (ps.map pairD)) (hps : ∀ p ∈ ps, p.1.length ≤ 1000) (hpl : ps.length ≤ 1000)
    (hn : name.length ≤ 1000) (hl : (Txt.lower name).length ≤ 1000) (hc : clean (Txt.lower name))
    (k : ∀ us' n' h', Heap.ExtBut D h h' → h'.get? D = some (listO us' n') → RdAll g us' ((others name ps).map pairD) → Q .none h') : Ev (model p7 w) A (call (.ref 95) [.ref x, .str name t]) h Q E := by
  have hul : us.length = ps.length := by have := hr.length; simpa using this
  refine call_fnC (binds := [(Str.ofString "self", .ref x), (Str.ofString "name", .str name t)]) (cs := fun L => [(Str.ofString "name", L + 1)])
    (X.keep hg) (by rfl) (by rfl) rfl R (fun s hs => BindsTo.of_eq (by rfl)) (by rfl) (by decide +kernel) (by simp only [List.map]; decide +kernel) (fun L => by rfl) (fun A L h₁ R F => ?_)
  have sg : Sub g (hideAll h [D]) := sub_hide hg fun a ha => by rw [List.mem_singleton.mp ha]; exact hD0
  have F := F.unfreeze1 hD
  have X := X.keep sg
  have H := H.keep sg
  have hr' := hr.keep sg
  walk_at "w"
  refine conv_call R (Loc.amb (by assumption) X) hl hc fun h2 e2 => ?_
  have F := Loc.keep (by assumption) e2
  walk_at "w"
  refine ListComp_ (by rfl) (by rfl) (by rfl) ?_
  walk_at "w"
  rename_i h3 F3
  refine comp_list (fun i g₁ ys => g₁ = hideAll h [D] ∧ RdAll g ys ((others name (ps.take i)).map pairD)) R.hd (isL_listO us n) F3 (fun _ _ _ _ => .inr (.head _)) ⟨rfl, .nil⟩ ⟨?_⟩ ?_ ⟨rfl, trivial⟩ (by rfl) (by rfl) (by rw [sizeLine_eq]; omega)
  · rintro i v C mc led' g₁ ys h₆ hil hv ⟨rfl, hys⟩ hled F hca
    obtain ⟨d, hd, hv'⟩ := hr.get hv
    rw [List.getElem?_map] at hd
    obtain ⟨q, hq, rfl⟩ := Option.map_eq_some_iff.mp hd
    have hq' := hps q (List.mem_of_getElem? hq)
    have hv2 := hv'
    obtain ⟨r, ro, rvs, rn, rfl, hro, hrc, hrd, hrr⟩ := hv'.tup
    obtain ⟨t₁, t₂, e⟩ := hrr.two
    have hT : IsTup (hideAll h [D]) r #[.str q.1 t₁, .str q.2 t₂] := ⟨ro, sg _ _ hro, hrc, rn, by rw [hrd]; congr 1; apply Array.ext'; exact e⟩
    obtain ⟨tn, hm⟩ : ∃ tn, mc (Str.ofString "name") = some (.str (Txt.lower name) tn) := ⟨_, (hca _ (by rfl)).trans (by walk_at "lk")⟩
    walk_at "w"
    · refine comp_turn_end (by assumption) ⟨rfl, ?_⟩ (hca.set (by rfl))
      rw [others_succ hq, show sameLow name q = false from by unfold sameLow; simpa using by assumption]
      simp only [Bool.false_eq_true, if_false, List.map_append, List.map_cons, List.map_nil]
      exact hys.snoc hv2
    · refine comp_turn_end (by assumption) ⟨rfl, ?_⟩ (hca.set (by rfl))
      rw [others_succ hq, show sameLow name q = true from by unfold sameLow; simpa using Classical.not_not.mp (by assumption)]
      simpa using hys
  · rintro g₁ ys D2 kk h₆ ⟨rfl, hys⟩ F
    rw [List.take_of_length_le (by omega)] at hys
    walk_at "w"
    refine ⟨D, D2, us, ys, n, _, _, _, _, _, _, _, rfl, rfl, F, PutF.tail PutF.head, F.get (.head _), isL_listO _ _, ?_, ?_, fun n' h' F' => ?_⟩
    · have := F.nd
      simp only [List.map_cons, List.nodup_cons, List.mem_cons, List.map_nil, not_or] at this
      exact fun e => this.1.1 e.symm
    · have h1 := hys.length
      have h2 : (others name ps).length ≤ ps.length := List.length_filter_le _ _
      rw [List.length_map] at h1
      rw [sizeLine_eq]; omega
    · walk_at "w"
      exact k ys n' h' (extBut_hide F'.sub) (F'.get (.tail _ (.head _))) hys
end

theorem Loc.freezeRd {g h : Heap} {L : Addr} {cs : List (Str × Addr)} {m : Str → Option Value} {led : List (Addr × Obj)} {us : List Value} {ps : List (Str × Str)} (F : Loc g L cs m led h)
    (hled : ∀ p ∈ led, p.2.cls ≠ .type "tuple") (hr : RdAll h us (ps.map pairD)) : ∃ g', Loc g' L cs m led h ∧ Sub g g' ∧ RdAll g' us (ps.map pairD) := by
  obtain ⟨g', F', s, fr⟩ := F.freeze
  obtain ⟨m₀, ⟨oL, es, ep, hLL, hLd, _⟩, _⟩ := F.ns
  refine ⟨g', F', s, rdPairs_of (fun b o' hb hc ⟨vs, n, hd⟩ => fr b o' hb (fun e => ?_) (fun p hp e => ?_) (fun y hy => ?_)) hr⟩
  · rw [e, hLL] at hb; cases hb; rw [hLd] at hd; cases hd
  · have := (F.led p hp).1
    rw [e, hb] at this; cases this
    exact hled p hp hc
  · obtain ⟨oc, hoc, hcd⟩ := F.cell y b hy
    rw [hoc] at hb; cases hb
    rw [hd] at hcd
    simp at hcd
/-- what was not there before is frozen -/
theorem Loc.freezeAt {g h₀ h : Heap} {L T : Addr} {o : Obj} {cs : List (Str × Addr)} {m m' : Str → Option Value} {led led' : List (Addr × Obj)} (F0 : Loc g L cs m led h₀) (hT0 : h₀.get? T = none) (F : Loc g L cs m' led' h) (ha : led'.map (·.1) = led.map (·.1)) (hT : h.get? T = some o) :
    ∃ g', Loc g' L cs m' led' h ∧ Sub g g' ∧ g'.get? T = some o := by
  obtain ⟨g', F', s, fr⟩ := F.freeze
  refine ⟨g', F', s, fr T o hT (fun e => ?_) (fun p hp e => ?_) (fun y hy => ?_)⟩
  · obtain ⟨oL, hL⟩ := F0.lt; rw [e, hL] at hT0; cases hT0
  · have : p.1 ∈ led.map (·.1) := ha ▸ List.mem_map.mpr ⟨p, hp, rfl⟩
    obtain ⟨p', hp', e'⟩ := List.mem_map.mp this
    rw [← e, ← e', (F0.led p' hp').1] at hT0; cases hT0
  · obtain ⟨oc, hoc, _⟩ := F0.cell y T hy; rw [hoc] at hT0; cases hT0
section
variable {w : World} {A : Around} {g h : Heap} {E : Value → Heap → Prop} {mg mb : Str → Option Value} {Q : Value → Heap → Prop} {x D : Addr} {t t2 : Tok}
theorem del_h {v : Value} {Q : Unit → Heap → Prop} (X : Amb (K7 w) mg mb h) (H : HAt h x D) (k : Ev (model p7 w) A (call (.ref 95) [.ref x, v]) h (fun _ => Q ()) E) : Ev (model p7 w) A (delItem (.ref x) v) h Q E := by
  obtain ⟨dx, hash, t, p, q⟩ := H
  exact eDelI X.k p q (by rfl) (by rfl) (by rfl) k
theorem set_h {v i : Value} {Q : Unit → Heap → Prop} (X : Amb (K7 w) mg mb h) (H : HAt h x D) (k : Ev (model p7 w) A (call (.ref 90) [.ref x, i, v]) h (fun _ => Q ()) E) : Ev (model p7 w) A (setItem (.ref x) i v) h Q E := by
  obtain ⟨dx, hash, t, p, q⟩ := H
  exact eSetI X.k p q (by rfl) (by rfl) (by rfl) k
theorem in_h {v : Value} (X : Amb (K7 w) mg mb h) (H : HAt h x D) (k : Ev (model p7 w) A (call (.ref 109) [.ref x, v]) h (fun r h' => Ev (model p7 w) A (truthy r) h' (fun b => Q (.bool b)) E) E) : Ev (model p7 w) A (compareOp .In v (.ref x)) h Q E := by
  obtain ⟨dx, hash, t, p, q⟩ := H
  exact eIn X.k p q (by rfl) (by rfl) k
theorem notIn_h {v : Value} (X : Amb (K7 w) mg mb h) (H : HAt h x D) (k : Ev (model p7 w) A (call (.ref 109) [.ref x, v]) h (fun r h' => Ev (model p7 w) A (truthy r) h' (fun b => Q (.bool (!b))) E) E) : Ev (model p7 w) A (compareOp .NotIn v (.ref x)) h Q E := by
  obtain ⟨dx, hash, t, p, q⟩ := H
  exact eNotIn X.k p q (by rfl) (by rfl) k
theorem len_h {us : List Value} {n : Nat} (R : Rm A 2) (X : Amb (K7 w) mg mb h) (H : HAt h x D) (hD : h.get? D = some (listO us n)) (hu : us.length ≤ 100000) (k : ∀ t' h', Sub h h' → Q (.int us.length t') h') : Ev (model p7 w) A (call (.builtin "len") [.ref x]) h Q E := by
  have H' := H
  obtain ⟨dx, hash, t, p, q⟩ := H
  refine eLen_inst X.k p q (f := 83) (by rfl) (by rfl) ?_
  refine call_fn (binds := [(Str.ofString "self", .ref x)]) X (by rfl) (by rfl) rfl R.in1 (fun s hs => BindsTo.of_eq (by rfl)) (by rfl) (by rfl) (fun A L h₁ R F => ?_)
  walk_at "w"
  exact ⟨_, _, rfl, ⟨by omega, by omega⟩, fun t' => k t' _ (Loc.sub (by assumption))⟩
theorem keys_call {us : List Value} {o : Obj} {ps : List (Str × Str)} (R : Rm A 1) (X : Amb (K7 w) mg mb h) (H : HAt h x D) (hD : h.get? D = some o) (hL : IsL o us) (hr : RdAll h us (ps.map pairD)) (hu : ps.length ≤ 100000)
    (k : ∀ D' ys e h', Sub h h' → h.get? D' = none → h'.get? D' = some (listO ys e) → RdAll h' ys (ps.map fun p => .str p.1) → Q (.ref D') h') : Ev (model p7 w) A (call (.ref 127) [.ref x]) h Q E := by
  have hul : us.length = ps.length := by have := hr.length; simpa using this
  refine call_fn (binds := [(Str.ofString "self", .ref x)]) X (by rfl) (by rfl) rfl R (fun s hs => BindsTo.of_eq (by rfl)) (by rfl) (by rfl) (fun A L h₁ R F => ?_)
  walk_at "w"
  refine ListComp_ (by rfl) (by rfl) (by rfl) ?_
  walk_at "w"
  refine comp_list (fun i g₁ ys => g₁ = h ∧ RdAll h ys ((ps.take i).map fun p => .str p.1)) R.hd hL F (fun _ _ _ e => .inl (e.1 ▸ hD)) ⟨rfl, .nil⟩ ⟨?_⟩ ?_ trivial (by rfl) (by rfl) (by rw [sizeLine_eq]; omega)
  · rintro i v C mc led' g₁ ys h₆ hil hv ⟨rfl, hys⟩ hled F hca
    obtain ⟨d, hd, hv'⟩ := hr.get hv
    rw [List.getElem?_map] at hd
    obtain ⟨q, hq, rfl⟩ := Option.map_eq_some_iff.mp hd
    obtain ⟨r, ro, rvs, rn, rfl, hro, hrc, hrd, hrr⟩ := hv'.tup
    obtain ⟨t₁, t₂, e⟩ := hrr.two
    refine assign_two R.hd F (F.sub _ _ hro) ⟨.inr hrc, rn, by rw [hrd]; congr 1; apply Array.ext'; exact e⟩ fun h₇ F => ?_
    walk_at "w"
    refine comp_turn_end (by assumption) ⟨rfl, ?_⟩ ((hca.set (by rfl)).set (by rfl))
    rw [List.take_add_one, hq]
    simp only [Option.toList_some, List.map_append, List.map_cons, List.map_nil]
    exact hys.snoc rd_str
  · rintro g₁ ys D' kk h₆ ⟨rfl, hys⟩ F
    rw [List.take_of_length_le (by omega)] at hys
    walk_at "w"
    exact k D' ys kk h₆ F.sub (F.led _ (.head _)).2.2 (F.get (.head _)) (hys.keep F.sub)
set_option maxHeartbeats 4000000 in
theorem set_call {name val : Str} {us : List Value} {n : Nat} {ps : List (Str × Str)} (R : Rm A 3) (X : Amb (K7 w) mg mb g) (hg : Sub g h) (hD0 : g.get? D = none) (H : HAt g x D) (hD : h.get? D = some (listO us n)) (hr : RdAll g us (ps.map pairD)) (hps : ∀ p ∈ ps, p.1.length ≤ 1000) (hpl : ps.length ≤ 1000)
    (hn : name.length ≤ 1000) (hnc : clean name) (hl : (Txt.lower name).length ≤ 1000) (hc : clean (Txt.lower name)) (hv : val.length ≤ 1000) (hvc : clean val)
    (k : ∀ us' T n' h', Heap.ExtBut D h h' → h'.get? D = some (listO (us' ++ [.ref T]) n') → RdAll g us' ((others name ps).map pairD) → h.get? T = none → h'.get? T = some (tupO [.str name t, .str val t2] 0) → Q .none h') : Ev (model p7 w) A (call (.ref 90) [.ref x, .str name t, .str val t2]) h Q E := by
  refine call_fn (binds := [(Str.ofString "self", .ref x), (Str.ofString "name", .str name t), (Str.ofString "val", .str val t2)]) (X.keep hg) (by rfl) (by rfl) rfl R (fun s hs => BindsTo.of_eq (by rfl)) (by rfl) (by rfl) (fun A L h₁ R F => ?_)
  have sg : Sub g (hideAll h [D]) := sub_hide hg fun a ha => by rw [List.mem_singleton.mp ha]; exact hD0
  have F := F.unfreeze1 hD
  have X0 := X
  have H0 := H
  have X := X.keep sg
  have H := H.keep sg
  walk_at "w"
  refine del_h (F.amb X) (H.keep F.sub) (del_call R X0 (sg.tr F.sub) hD0 H0 (F.get (.head _)) hr hps hpl hn hl hc fun us' n' h2 e2 hD2 hr2 => ?_)
  have F := F.putE (.head) e2 hD2
  have hul2 : us'.length = (others name ps).length := by have := hr2.length; simpa using this
  have hol : (others name ps).length ≤ ps.length := List.length_filter_le _ _
  walk_at "w"
  refine conv_call (R.le (by omega)) (Loc.amb (by assumption) X) hn hnc fun h3 e3 => ?_
  have F := Loc.keep (by assumption) e3
  walk_at "w"
  refine conv_call (R.le (by omega)) (Loc.amb (by assumption) X) hv hvc fun h4 e4 => ?_
  have F := Loc.keep (by assumption) e4
  walk_at "w"
  rename_i T h5 a5 n9 h9 F9
  refine k _ T n9 h9 (extBut_hide F9.sub) (F9.get (.tail _ (.head _))) hr2 ?_ (F9.get (.head _))
  have hTD : T ≠ D := by
    have := F9.nd
    simp only [List.map_cons, List.nodup_cons, List.mem_cons, List.map_nil, not_or] at this
    exact this.1.1
  cases q : h.get? T with
  | none => rfl
  | some o =>
    have := (F9.led _ (.head _)).2.2
    rw [hideAll_get _ q (by simpa using hTD)] at this
    cases this
end

section
variable {w : World} {A : Around} {g h : Heap} {E : Value → Heap → Prop} {mg mb : Str → Option Value} {Q : Value → Heap → Prop} {x D : Addr} {t t2 : Tok}
theorem values_call {us : List Value} {o : Obj} {ps : List (Str × Str)} (R : Rm A 1) (X : Amb (K7 w) mg mb h) (H : HAt h x D) (hD : h.get? D = some o) (hL : IsL o us) (hr : RdAll h us (ps.map pairD)) (hu : ps.length ≤ 100000)
    (k : ∀ D' ys e h', Sub h h' → h.get? D' = none → h'.get? D' = some (listO ys e) → RdAll h' ys (ps.map fun p => .str p.2) → Q (.ref D') h') : Ev (model p7 w) A (call (.ref 132) [.ref x]) h Q E := by
  have hul : us.length = ps.length := by have := hr.length; simpa using this
  refine call_fn (binds := [(Str.ofString "self", .ref x)]) X (by rfl) (by rfl) rfl R (fun s hs => BindsTo.of_eq (by rfl)) (by rfl) (by rfl) (fun A L h₁ R F => ?_)
  walk_at "w"
  refine ListComp_ (by rfl) (by rfl) (by rfl) ?_
  walk_at "w"
  refine comp_list (fun i g₁ ys => g₁ = h ∧ RdAll h ys ((ps.take i).map fun p => .str p.2)) R.hd hL F (fun _ _ _ e => .inl (e.1 ▸ hD)) ⟨rfl, .nil⟩ ⟨?_⟩ ?_ trivial (by rfl) (by rfl) (by rw [sizeLine_eq]; omega)
  · rintro i v C mc led' g₁ ys h₆ hil hv ⟨rfl, hys⟩ hled F hca
    obtain ⟨d, hd, hv'⟩ := hr.get hv
    rw [List.getElem?_map] at hd
    obtain ⟨q, hq, rfl⟩ := Option.map_eq_some_iff.mp hd
    obtain ⟨r, ro, rvs, rn, rfl, hro, hrc, hrd, hrr⟩ := hv'.tup
    obtain ⟨t₁, t₂, e⟩ := hrr.two
    refine assign_two R.hd F (F.sub _ _ hro) ⟨.inr hrc, rn, by rw [hrd]; congr 1; apply Array.ext'; exact e⟩ fun h₇ F => ?_
    walk_at "w"
    refine comp_turn_end (by assumption) ⟨rfl, ?_⟩ ((hca.set (by rfl)).set (by rfl))
    rw [List.take_add_one, hq]
    simp only [Option.toList_some, List.map_append, List.map_cons, List.map_nil]
    exact hys.snoc rd_str
  · rintro g₁ ys D' kk h₆ ⟨rfl, hys⟩ F
    rw [List.take_of_length_le (by omega)] at hys
    walk_at "w"
    exact k D' ys kk h₆ F.sub (F.led _ (.head _)).2.2 (F.get (.head _)) (hys.keep F.sub)
set_option maxHeartbeats 4000000 in
theorem getall_call {name : Str} {us : List Value} {o : Obj} {ps : List (Str × Str)} (R : Rm A 2) (X : Amb (K7 w) mg mb h) (H : HAt h x D) (hD : h.get? D = some o) (hL : IsL o us) (hr : RdAll h us (ps.map pairD)) (hps : ∀ p ∈ ps, p.1.length ≤ 1000) (hpl : ps.length ≤ 1000)
    (hn : name.length ≤ 1000) (hl : (Txt.lower name).length ≤ 1000) (hc : clean (Txt.lower name))
    (k : ∀ D' ys e h', Sub h h' → h.get? D' = none → h'.get? D' = some (listO ys e) → RdAll h' ys ((ps.filter (sameLow name)).map fun p => .str p.2) → Q (.ref D') h') : Ev (model p7 w) A (call (.ref 114) [.ref x, .str name t]) h Q E := by
  have hul : us.length = ps.length := by have := hr.length; simpa using this
  refine call_fnC (binds := [(Str.ofString "self", .ref x), (Str.ofString "name", .str name t)]) (cs := fun L => [(Str.ofString "name", L + 1)])
    X (by rfl) (by rfl) rfl R (fun s hs => BindsTo.of_eq (by rfl)) (by rfl) (by decide +kernel) (by simp only [List.map]; decide +kernel) (fun L => by rfl) (fun A L h₁ R F => ?_)
  walk_at "w"
  refine conv_call R (Loc.amb (by assumption) X) hl hc fun h2 e2 => ?_
  have F := Loc.keep (by assumption) e2
  walk_at "w"
  refine ListComp_ (by rfl) (by rfl) (by rfl) ?_
  walk_at "w"
  rename_i h3 F3
  refine comp_list (fun i g₁ ys => g₁ = h ∧ RdAll h ys (((ps.take i).filter (sameLow name)).map fun p => .str p.2)) R.hd hL F3 (fun _ _ _ e => .inl (e.1 ▸ hD)) ⟨rfl, .nil⟩ ⟨?_⟩ ?_ ⟨rfl, trivial⟩ (by rfl) (by rfl) (by rw [sizeLine_eq]; omega)
  · rintro i v C mc led' g₁ ys h₆ hil hv ⟨rfl, hys⟩ hled F hca
    obtain ⟨d, hd, hv'⟩ := hr.get hv
    rw [List.getElem?_map] at hd
    obtain ⟨q, hq, rfl⟩ := Option.map_eq_some_iff.mp hd
    have hq' := hps q (List.mem_of_getElem? hq)
    obtain ⟨r, ro, rvs, rn, rfl, hro, hrc, hrd, hrr⟩ := hv'.tup
    obtain ⟨t₁, t₂, e⟩ := hrr.two
    have hT : IsTup g₁ r #[.str q.1 t₁, .str q.2 t₂] := ⟨ro, hro, hrc, rn, by rw [hrd]; congr 1; apply Array.ext'; exact e⟩
    obtain ⟨tn, hm⟩ : ∃ tn, mc (Str.ofString "name") = some (.str (Txt.lower name) tn) := ⟨_, (hca _ (by rfl)).trans (by walk_at "lk")⟩
    walk_at "w"
    · refine comp_turn_end (by assumption) ⟨rfl, ?_⟩ (hca.set (by rfl))
      rw [List.take_add_one, hq, List.filter_append]
      have : sameLow name q = true := by unfold sameLow; simpa using by assumption
      simp only [Option.toList_some, List.filter_cons, this, if_true, List.filter_nil, List.map_append, List.map_cons, List.map_nil]
      exact hys.snoc rd_str
    · refine comp_turn_end (by assumption) ⟨rfl, ?_⟩ (hca.set (by rfl))
      rw [List.take_add_one, hq, List.filter_append]
      have : sameLow name q = false := by unfold sameLow; simpa using by assumption
      simp only [Option.toList_some, List.filter_cons, this, Bool.false_eq_true, if_false, List.filter_nil, List.append_nil]
      exact hys
  · rintro g₁ ys D2 kk h₆ ⟨rfl, hys⟩ F
    rw [List.take_of_length_le (by omega)] at hys
    walk_at "w"
    exact k D2 ys kk h₆ F.sub (F.led _ (.head _)).2.2 (F.get (.head _)) (hys.keep F.sub)
theorem repr_h (R : Rm A 3) (X : Amb (K7 w) mg mb h) (H : HAt h x D) (k : Ev (model p7 w) A.in1 (call (.ref 146) [.ref x]) h (fun r h' => ∃ z t, r = .str z t ∧ Q (.str z t) h') E) : Ev (model p7 w) A (call (.builtin "repr") [.ref x]) h Q E := by
  obtain ⟨dx, hash, t, p, q⟩ := H
  exact eRepr_inst (by have := R.un; show A.units + 1 < _; omega) X.k p q (by rfl) (by rfl) k
theorem class_h {e : Bool} (X : Amb (K7 w) mg mb h) (H : HAt h x D) (k : Q (.ref 175) h) : Ev (model p7 w) A (getAttr (.ref x) (Str.ofString "__class__") e) h Q E := by
  obtain ⟨dx, hash, t, p, q⟩ := H
  exact eClass X.k p q (by rfl) (by rfl) (by rfl) (by rfl) (by rfl) (by rfl) k
theorem tyname_h {e : Bool} (X : Amb (K7 w) mg mb h) (k : ∀ t', Q (.str (Str.ofString "Headers") t') h) : Ev (model p7 w) A (getAttr (.ref 175) (Str.ofString "__name__") e) h Q E :=
  eTypeName X.k (by rfl) (by rfl) (by rfl) rfl rfl rfl (k _)
end
local macro_rules | `(tactic| walk_at "s") => `(tactic| first
  | ((with_reducible show Ev _ _ (getAttr (Value.ref _) (Str.ofString "__class__") _) _ _ _); refine' class_h (Loc.amb ?F ?X) (OneAt.keep ?H (Loc.sub ?F)) ?_; (case F => assumption); (case X => assumption); (case H => assumption))
  | ((with_reducible show Ev _ _ (getAttr (Value.ref 175) (Str.ofString "__name__") _) _ _ _); refine' tyname_h (Loc.amb ?F ?X) ?_; (case F => assumption); (case X => assumption); (intro _))
  | fail "no attribute")
section
variable {w : World} {A : Around} {g h : Heap} {E : Value → Heap → Prop} {mg mb : Str → Option Value} {Q : Value → Heap → Prop} {x D : Addr} {t t2 : Tok}
set_option maxHeartbeats 4000000 in
theorem repr_call {us : List Value} {o : Obj} {ps : List (Str × Str)} (R : Rm A 1) (X : Amb (K7 w) mg mb h) (H : HAt h x D) (hD : h.get? D = some o) (hL : IsL o us) (hr : RdAll h us (ps.map pairD)) (hz : (PyData.shown (.list (ps.map pairD))).length ≤ 1000000) (hs : PyData.showableAll (ps.map pairD) = true) (hnd : PyData.hasDictAll (ps.map pairD) = false)
    (k : ∀ t' h', Sub h h' → Q (.str (Str.ofString "Headers" ++ Str.ofString "(" ++ PyData.shown (.list (ps.map pairD)) ++ Str.ofString ")") t') h') : Ev (model p7 w) A (call (.ref 146) [.ref x]) h Q E := by
  refine call_fn (binds := [(Str.ofString "self", .ref x)]) X (by rfl) (by rfl) rfl R (fun s hs => BindsTo.of_eq (by rfl)) (by rfl) (by rfl) (fun A L h₁ R F => ?_)
  have hlH : (Str.ofString "Headers").length = 7 := by decide +kernel
  have hl1 : (Str.ofString "(").length = 1 := by decide +kernel
  have hl2 : (Str.ofString ")").length = 1 := by decide +kernel
  have hle : Str.empty.length = 0 := rfl
  have hz2 := hz
  have hun := R.un
  have hdp := depth_pairs ps
  walk_at "w"
  refine ⟨_, _, rfl, by rw [sizeLine_eq]; omega, fun t' => ⟨_, _, rfl, by rw [Str.length_append, sizeLine_eq]; omega, ?_⟩⟩
  rw [KPc.empty_app]
  walk_at "w"
  refine ⟨_, _, rfl, by rw [Str.length_append, sizeLine_eq]; omega, ?_⟩
  walk_at "w"
  refine eReprObj (rd_list (F.sub _ _ hD) hL (hr.keep F.sub)) hs hnd R.gd (by omega) (by rw [sizeLine_eq]; omega) fun t'' h2 s2 => ⟨_, _, rfl, by rw [sizeLine_eq]; omega, fun t3 => ⟨_, _, rfl, by rw [Str.length_append, Str.length_append, sizeLine_eq]; omega, ?_⟩⟩
  have F := F.keep s2
  walk_at "w"
  refine ⟨_, _, rfl, by rw [Str.length_append, Str.length_append, Str.length_append, sizeLine_eq]; omega, ?_⟩
  refine joinP_nil (by rw [Str.length_append, Str.length_append, Str.length_append, sizeLine_eq]; omega) fun t4 => ?_
  exact k _ _ F.sub
end

local macro_rules | `(tactic| walk_at "s") => `(tactic| first
  | ((with_reducible show Ev _ _ (getMethod (Value.ref _) (Str.ofString "items") _) _ _ _); refine' eMeth_items (by walk_at "get") ?_)
  | ((with_reducible show Ev _ _ (getMethod (Value.ref _) (Str.ofString "reverse") _) _ _ _); refine' eMeth_reverse (by walk_at "get") ?_)
  | fail "no method")
section
variable {w : World} {A : Around} {g h : Heap} {E : Value → Heap → Prop} {mg mb : Str → Option Value} {Q : Value → Heap → Prop} {x D : Addr} {t t2 : Tok}
set_option maxHeartbeats 4000000 in
theorem dflt_call {name val : Str} {us : List Value} {n : Nat} {ps : List (Str × Str)} (R : Rm A 3) (X : Amb (K7 w) mg mb g) (hg : Sub g h) (hD0 : g.get? D = none) (H : HAt g x D) (hD : h.get? D = some (listO us n)) (hr : RdAll g us (ps.map pairD)) (hps : ∀ p ∈ ps, p.1.length ≤ 1000) (hpl : ps.length ≤ 1000)
    (hn : name.length ≤ 1000) (hnc : clean name) (hl : (Txt.lower name).length ≤ 1000) (hc : clean (Txt.lower name)) (hv : val.length ≤ 1000) (hvc : clean val)
    (k1 : (ps.find? (sameLow name)).isSome = true → ∀ v h', (∃ z t, v = .str z t) → Heap.ExtBut D h h' → h'.get? D = some (listO us n) → Q v h')
    (k2 : ps.find? (sameLow name) = none → ∀ v T n' h', (∃ z t, v = .str z t) → Heap.ExtBut D h h' → h'.get? D = some (listO (us ++ [.ref T]) n') → h.get? T = none → h'.get? T = some (tupO [.str name t, .str val t2] 0) → Q v h') : Ev (model p7 w) A (call (.ref 165) [.ref x, .str name t, .str val t2]) h Q E := by
  have hul : us.length = ps.length := by have := hr.length; simpa using this
  refine call_fn (binds := [(Str.ofString "self", .ref x), (Str.ofString "name", .str name t), (Str.ofString "value", .str val t2)]) (X.keep hg) (by rfl) (by rfl) rfl R (fun s hs => BindsTo.of_eq (by rfl)) (by rfl) (by rfl) (fun A L h₁ R F => ?_)
  have sg : Sub g (hideAll h [D]) := sub_hide hg fun a ha => by rw [List.mem_singleton.mp ha]; exact hD0
  have F := F.unfreeze1 hD
  have X := X.keep sg
  have H := H.keep sg
  have hr' := hr.keep sg
  walk_at "w"
  refine get_call2 (R.le (by omega)) (F.amb X) (H.keep F.sub) ⟨⟨_, _, F.get (.head _), isL_listO _ _, hr'.keep F.sub⟩, hps⟩ hn hl hc (fun p t' h' e s => ?_) fun e h' s => ?_
  · have F := F.keep s
    walk_at "w"
    rename Loc _ _ _ _ _ _ => F9
    exact k1 (by rw [e]; rfl) _ _ ⟨_, _, rfl⟩ (extBut_hide F9.sub) (F9.get (.head _))
  · have F := F.keep s
    walk_at "w"
    refine conv_call (R.le (by omega)) (Loc.amb (by assumption) X) hn hnc fun h3 e3 => ?_
    have F := Loc.keep (by assumption) e3
    walk_at "w"
    refine conv_call (R.le (by omega)) (Loc.amb (by assumption) X) hv hvc fun h4 e4 => ?_
    have F := Loc.keep (by assumption) e4
    walk_at "w"
    rename_i T h5 a5 n9 h9 F9
    refine k2 e _ T n9 h9 ⟨_, _, rfl⟩ (extBut_hide F9.sub) (F9.get (.tail _ (.head _))) ?_ (F9.get (.head _))
    have hTD : T ≠ D := by
      have := F9.nd
      simp only [List.map_cons, List.nodup_cons, List.mem_cons, List.map_nil, not_or] at this
      exact this.1.1
    cases q : h.get? T with
    | none => rfl
    | some o =>
      have := (F9.led _ (.head _)).2.2
      rw [hideAll_get _ q (by simpa using hTD)] at this
      cases this
set_option maxHeartbeats 4000000 in
theorem add_call {name val : Str} {us : List Value} {n : Nat} (R : Rm A 2) (X : Amb (K7 w) mg mb g) (hg : Sub g h) (hD0 : g.get? D = none) (H : HAt g x D) (hD : h.get? D = some (listO us n)) (hul : us.length ≤ 1000)
    (hn : name.length ≤ 1000) (hnc : clean name) (hv : val.length ≤ 1000) (hvc : clean val)
    (k : ∀ t3 T n' h', Heap.ExtBut D h h' → h'.get? D = some (listO (us ++ [.ref T]) n') → h.get? T = none → h'.get? T = some (tupO [.str name t, .str val t3] 0) → Q .none h') : Ev (model p7 w) A (call (.ref 172) [.ref x, .str name t, .str val t2]) h Q E := by
  refine call_fnKw (front := [(Str.ofString "self", .ref x), (Str.ofString "_name", .str name t), (Str.ofString "_value", .str val t2)]) (nm := Str.ofString "_params") (X.keep hg) (by rfl) (by rfl) rfl R (by rfl) (fun D => by rfl) (by rfl) (by rfl) (fun A Dd L h₀ h₁ R nDd hsys hDd sh F => ?_)
  have hD' : h₀.get? D = some (listO us n) := sh _ _ hD
  have sg : Sub g (hideAll h₀ [D]) := sub_hide (hg.tr sh) fun a ha => by rw [List.mem_singleton.mp ha]; exact hD0
  have F := F.unfreeze1 hD'
  have X := X.keep sg
  have H := H.keep sg
  have hne : Dd ≠ D := fun e => by rw [e, hD] at nDd; cases nDd
  have hDd' : (hideAll h₀ [D]).get? Dd = some (dictOf [] 0) := hideAll_get _ hDd (by simpa using hne)
  walk_at "w"
  refine conv_call (R.le (by omega)) (Loc.amb (by assumption) X) hv hvc fun h3 e3 => ?_
  have F := Loc.keep (by assumption) e3
  walk_at "w"
  rename Loc _ _ _ _ _ _ => F4
  refine items_loop0 R.hd F4 (F4.sub _ _ hDd') hsys fun h5 F => ?_
  walk_at "w"
  refine conv_call (R.le (by omega)) (Loc.amb (by assumption) X) hn hnc fun h6 e6 => ?_
  have F := Loc.keep (by assumption) e6
  walk_at "w"
  refine eJoin1 (F.get (.head _)) (by have : (Str.ofString "; ").length = 2 := by decide +kernel
                                      omega) fun t3 => ?_
  walk_at "w"
  rename_i T h7 a7 n9 h9 F9
  refine k t3 T n9 h9 (fun b o hb e => extBut_hide F9.sub b o hb (sh _ _ e)) (F9.get (.tail _ (.tail _ (.head _)))) ?_ (F9.get (.head _))
  have hTD : T ≠ D := by
    have := F9.nd
    simp only [List.map_cons, List.nodup_cons, List.mem_cons, List.map_nil, not_or] at this
    exact this.1.2.1
  cases q : h.get? T with
  | none => rfl
  | some o =>
    have := (F9.led _ (.head _)).2.2
    rw [hideAll_get _ (sh _ _ q) (by simpa using hTD)] at this
    cases this
end

theorem mt_keys (w : World) : findIn (K7 w) (.ref 175) (Str.ofString "keys") = some (some (.ref 127)) := by rfl
theorem mt_values (w : World) : findIn (K7 w) (.ref 175) (Str.ofString "values") = some (some (.ref 132)) := by rfl
theorem mt_getall (w : World) : findIn (K7 w) (.ref 175) (Str.ofString "get_all") = some (some (.ref 114)) := by rfl
theorem mt_dflt (w : World) : findIn (K7 w) (.ref 175) (Str.ofString "setdefault") = some (some (.ref 165)) := by rfl
theorem mt_add (w : World) : findIn (K7 w) (.ref 175) (Str.ofString "add_header") = some (some (.ref 172)) := by rfl
local macro_rules | `(tactic| walk_at "mt") => `(tactic| with_reducible first | exact mt_conv _ | exact mt_get _ | exact mt_items _ | exact mt_keys _ | exact mt_values _ | exact mt_getall _ | exact mt_dflt _ | exact mt_add _)
section
variable {prog : Program} {w : World} {A : Around} {h : Heap} {E : Value → Heap → Prop} {Q : Value → Heap → Prop}
theorem eEq_bool {a b : Bool} (hu : A.units + 1 < cLine) (k : Q (.bool (a == b)) h) : Ev (model prog w) A (compareOp .Eq (.bool a) (.bool b)) h Q E := eEq rd_bool rd_bool rfl rfl (by simp only [PyData.depth]; omega) (by
  have : PyData.eqv (.bool a) (.bool b) = (a == b) := by cases a <;> cases b <;> rfl
  rw [this]; exact k)
theorem eNe_bool {a b : Bool} (hu : A.units + 1 < cLine) (k : Q (.bool (a != b)) h) : Ev (model prog w) A (compareOp .NotEq (.bool a) (.bool b)) h Q E := eNe rd_bool rd_bool rfl rfl (by simp only [PyData.depth]; omega) (by
  have : PyData.eqv (.bool a) (.bool b) = (a == b) := by cases a <;> cases b <;> rfl
  rw [this]; exact k)
end
local macro_rules | `(tactic| walk_at "s") => `(tactic| first
  | ((with_reducible show Ev _ _ (compareOp CmpOp.Eq (Value.bool _) (Value.bool _)) _ _ _); refine eEq_bool (by omega) ?_)
  | ((with_reducible show Ev _ _ (compareOp CmpOp.NotEq (Value.bool _) (Value.bool _)) _ _ _); refine eNe_bool (by omega) ?_)
  | fail "no bools")
theorem rdStrsP {h h' : Heap} {f : Str × Str → Str} : ∀ {us : List Value} {ps : List (Str × Str)}, RdAll h us (ps.map fun p => .str (f p)) → RdAll h' us (ps.map fun p => .str (f p))
  | [], [], _ => .nil
  | [], _ :: _, ⟨_, r⟩ => by cases r
  | _ :: _, [], ⟨_, r⟩ => by cases r
  | u :: us, p :: ps, ⟨_, r⟩ => by
    cases r with
    | cons a b =>
      obtain ⟨t, rfl⟩ := Rd.st ⟨_, a⟩
      exact .cons rd_str (rdStrsP ⟨_, b⟩)
theorem filter_succ {f : Str × Str → Bool} {ps : List (Str × Str)} {i : Nat} {q : Str × Str} (hq : ps[i]? = some q) : (ps.take (i + 1)).filter f = (ps.take i).filter f ++ (if f q then [q] else []) := by
  rw [List.take_add_one, hq, List.filter_append]
  cases h : f q <;> simp [h]
theorem apart3 {a b c : Addr × Obj} {l : List (Addr × Obj)} (nd : ((a :: b :: c :: l).map (·.1)).Nodup) : a.1 ≠ c.1 := by
  simp only [List.map_cons, List.nodup_cons, List.mem_cons, not_or] at nd
  exact nd.1.2.1
theorem Loc.freezeAt' {g₀ g h₀ h : Heap} {L T : Addr} {o : Obj} {cs : List (Str × Addr)} {m m' : Str → Option Value} {led led' : List (Addr × Obj)} (F0 : Loc g₀ L cs m led h₀) (hT0 : h₀.get? T = none) (F : Loc g L cs m' led' h) (ha : led'.map (·.1) = led.map (·.1)) (hT : h.get? T = some o) :
    ∃ g', Loc g' L cs m' led' h ∧ Sub g g' ∧ g'.get? T = some o := by
  obtain ⟨g', F', s, fr⟩ := F.freeze
  refine ⟨g', F', s, fr T o hT (fun e => ?_) (fun p hp e => ?_) (fun y hy => ?_)⟩
  · obtain ⟨oL, hL⟩ := F0.lt; rw [e, hL] at hT0; cases hT0
  · have : p.1 ∈ led.map (·.1) := ha ▸ List.mem_map.mpr ⟨p, hp, rfl⟩
    obtain ⟨p', hp', e'⟩ := List.mem_map.mp this
    rw [← e, ← e', (F0.led p' hp').1] at hT0; cases hT0
  · obtain ⟨oc, hoc, _⟩ := F0.cell y T hy; rw [hoc] at hT0; cases hT0
abbrev xX : Str := Str.ofString "xX"
def sameL (ps : List (Str × Str)) (nm : Str) : List (Str × Str) := ps.filter fun p => Txt.contains xX p.1 == Txt.contains xX nm
def othersL (ps : List (Str × Str)) (nm : Str) : List (Str × Str) := ps.filter fun p => Txt.contains xX p.1 != Txt.contains xX nm
def afterOf (ps : List (Str × Str)) (d : Int) (nm val : Str) : List (Str × Str) :=
  if d = 0 then othersL ps nm ++ [(nm, val)] else if d = 1 then othersL ps nm else if d = 2 ∧ sameL ps nm ≠ [] then ps else ps ++ [(nm, val)]
section
variable {w : World} {A : Around} {g h : Heap} {E : Value → Heap → Prop} {mg mb : Str → Option Value} {Q : Value → Heap → Prop} {x D O : Addr} {t t2 td : Tok}
set_option maxHeartbeats 4000000 in
theorem answers_call {us : List Value} {o : Obj} {ps : List (Str × Str)} (R : Rm A 4) (X : Amb (K7 w) mg mb h) (H : HAt h x D) (hD : h.get? D = some o) (hL : IsL o us) (hr : RdAll h us (ps.map pairD)) (hps : ∀ p ∈ ps, p.1.length ≤ 1000) (hpl : ps.length ≤ 1000)
    (k : ∀ DA D0 D1 D2 D3 D4 k1 k2 k3 k4 n0 n1 n2 n3 n4 h', Sub h h' → (∀ p ∈ [(DA, listO [.ref D0, .ref D1, .ref D2, .ref D3, .ref D4] 0), (D4, listO k4 n4), (D3, listO k3 n3), (D2, listO k2 n2), (D1, listO k1 n1), (D0, listO us n0)], h.get? p.1 = none ∧ h'.get? p.1 = some p.2) → [DA, D4, D3, D2, D1, D0].Nodup →
      RdAll h' k1 (ps.map fun p => .str p.1) → RdAll h' k2 (ps.map fun p => .str p.2) → RdAll h' k3 ((ps.filter (sameLow (Str.ofString "x"))).map fun p => .str p.2) → RdAll h' k4 ((ps.filter (sameLow (Str.ofString "Y"))).map fun p => .str p.2) → Q (.ref DA) h') : Ev (model p7 w) A (call (.ref 191) [.ref x]) h Q E := by
  have hul : us.length = ps.length := by have := hr.length; simpa using this
  refine call_fn (binds := [(Str.ofString "h", .ref x)]) X (by rfl) (by rfl) rfl R (fun s hs => BindsTo.of_eq (by rfl)) (by rfl) (by rfl) (fun A L h₁ R F => ?_)
  have hx1 : (Str.ofString "x").length ≤ 1000 := by decide +kernel
  have hY1 : (Str.ofString "Y").length ≤ 1000 := by decide +kernel
  have hxa : ascii (Str.ofString "x") := ascii_of_B (by decide +kernel)
  have hYa : ascii (Str.ofString "Y") := ascii_of_B (by decide +kernel)
  walk_at "w"
  refine items_call (R.le (by omega)) (F.amb X) (H.keep F.sub) (F.sub _ _ hD) hL (by omega) fun D0 n0 h2 s2 nD0 hD0 => ?_
  have F := F.take s2 nD0 hD0
  walk_at "w"
  refine keys_call (R.le (by omega)) (F.amb X) (H.keep F.sub) (F.sub _ _ hD) hL (hr.keep F.sub) (by omega) fun D1 k1 n1 h3 s3 nD1 hD1 hk1 => ?_
  have F := F.take s3 nD1 hD1
  walk_at "w"
  refine values_call (R.le (by omega)) (F.amb X) (H.keep F.sub) (F.sub _ _ hD) hL (hr.keep F.sub) (by omega) fun D2 k2 n2 h4 s4 nD2 hD2 hk2 => ?_
  have F := F.take s4 nD2 hD2
  walk_at "w"
  refine getall_call (R.le (by omega)) (F.amb X) (H.keep F.sub) (F.sub _ _ hD) hL (hr.keep F.sub) hps hpl hx1 (by rw [low_len hxa]; exact hx1) (low_clean hxa) fun D3 k3 n3 h5 s5 nD3 hD3 hk3 => ?_
  have F := F.take s5 nD3 hD3
  walk_at "w"
  refine getall_call (R.le (by omega)) (F.amb X) (H.keep F.sub) (F.sub _ _ hD) hL (hr.keep F.sub) hps hpl hY1 (by rw [low_len hYa]; exact hY1) (low_clean hYa) fun D4 k4 n4 h6 s6 nD4 hD4 hk4 => ?_
  have F := F.take s6 nD4 hD4
  walk_at "w"
  rename Loc _ _ _ _ _ _ => F9
  exact k _ D0 D1 D2 D3 D4 k1 k2 k3 k4 n0 n1 n2 n3 n4 _ F9.sub (fun p hp => ⟨(F9.led p hp).2.2, (F9.led p hp).1⟩) F9.nd (rdStrsP (f := fun p => p.1) hk1) (rdStrsP (f := fun p => p.2) hk2) (rdStrsP (f := fun p => p.2) hk3) (rdStrsP (f := fun p => p.2) hk4)
set_option maxHeartbeats 4000000 in
theorem after_call {us : List Value} {o : Obj} {ps : List (Str × Str)} {d : Int} {nm val : Str} (R : Rm A 1) (X : Amb (K7 w) mg mb h) (hO : h.get? O = some o) (hL : IsL o us) (hg : Sub g h) (hr : RdAll g us (ps.map pairD)) (hps : ∀ p ∈ ps, p.1.length ≤ 1000) (hpl : ps.length ≤ 1000) (hcl : ∀ l : List (Str × Str), (∀ p ∈ l, p ∈ ps) → PyData.canLay0 (.list (l.map pairD)) = true)
    (kO : afterOf ps d nm val = ps → ∀ h', Sub h h' → Q (.ref O) h')
    (kF : ∀ Do uo n' h', Sub h h' → h.get? Do = none → h'.get? Do = some (listO uo n') → RdAll g uo ((afterOf ps d nm val).map pairD) → Q (.ref Do) h')
    (kT : ∀ base Do T uo n' h', afterOf ps d nm val = base ++ [(nm, val)] → Sub h h' → h.get? Do = none → h'.get? Do = some (listO (uo ++ [.ref T]) n') → RdAll g uo (base.map pairD) → h.get? T = none → Do ≠ T → h'.get? T = some (tupO [.str nm t, .str val t2] 0) → Q (.ref Do) h') : Ev (model p7 w) A (call (.ref 184) [.ref O, .int d td, .str nm t, .str val t2]) h Q E := by
  have hul : us.length = ps.length := by have := hr.length; simpa using this
  refine call_fnC (binds := [(Str.ofString "own", .ref O), (Str.ofString "door", .int d td), (Str.ofString "name", .str nm t), (Str.ofString "value", .str val t2)]) (cs := fun L => [(Str.ofString "name", L + 1)])
    X (by rfl) (by rfl) rfl R (fun s hs => BindsTo.of_eq (by rfl)) (by rfl) (by decide +kernel) (by simp only [List.map]; decide +kernel) (fun L => by rfl) (fun A L h₁ R F => ?_)
  have hun := R.un
  walk_at "w"
  refine Assign_ListComp (by rfl) (by rfl) (by rfl) (by rfl) ?_
  walk_at "w"
  refine comp_listN (fun i g₁ ys => g₁ = h ∧ RdAll g ys ((sameL (ps.take i) nm).map pairD)) R.hd hL F (fun _ _ _ e => .inl (e.1 ▸ hO)) ⟨rfl, .nil⟩ ⟨?_⟩ ?_ ⟨rfl, trivial⟩ (by rfl) (by rfl) (by rw [sizeLine_eq]; omega)
  · rintro i v C mc led' g₁ ys h₆ hil hv ⟨rfl, hys⟩ hled F hca
    obtain ⟨d', hd, hv'⟩ := hr.get hv
    rw [List.getElem?_map] at hd
    obtain ⟨q, hq, rfl⟩ := Option.map_eq_some_iff.mp hd
    have hv2 := hv'
    obtain ⟨r, ro, rvs, rn, rfl, hro, hrc, hrd, hrr⟩ := hv'.tup
    obtain ⟨t₁, t₂, e⟩ := hrr.two
    have hT : IsTup g₁ r #[.str q.1 t₁, .str q.2 t₂] := ⟨ro, hg _ _ hro, hrc, rn, by rw [hrd]; congr 1; apply Array.ext'; exact e⟩
    have hm : mc (Str.ofString "name") = some (.str nm t) := (hca _ (by rfl)).trans (by walk_at "lk")
    walk_at "w"
    · refine comp_turn_end (by assumption) ⟨rfl, ?_⟩ (hca.set (by rfl))
      unfold sameL
      have hb : (Txt.contains xX q.1 == Txt.contains xX nm) = true := by simpa using by assumption
      rw [filter_succ hq, if_pos hb, List.map_append]
      exact hys.snoc hv2
    · refine comp_turn_end (by assumption) ⟨rfl, ?_⟩ (hca.set (by rfl))
      unfold sameL
      have hb : ¬ (Txt.contains xX q.1 == Txt.contains xX nm) = true := by simpa using by assumption
      rw [filter_succ hq, if_neg hb, List.append_nil]
      exact hys
  · rintro g₁ ys DS kk h₆ ⟨rfl, hys⟩ F
    rw [List.take_of_length_le (by omega)] at hys
    walk_at "w"
    refine Assign_ListComp (by rfl) (by rfl) (by rfl) (by rfl) ?_
    walk_at "w"
    refine comp_listN (fun i g₂ zs => g₂ = g₁ ∧ RdAll g zs ((othersL (ps.take i) nm).map pairD)) R.hd hL F (fun _ _ _ e => .inl (e.1 ▸ hO)) ⟨rfl, .nil⟩ ⟨?_⟩ ?_ ⟨rfl, trivial⟩ (by rfl) (by rfl) (by rw [sizeLine_eq]; omega)
    · rintro i v C mc led' g₂ zs h₆ hil hv ⟨rfl, hzs⟩ hled F hca
      obtain ⟨d', hd, hv'⟩ := hr.get hv
      rw [List.getElem?_map] at hd
      obtain ⟨q, hq, rfl⟩ := Option.map_eq_some_iff.mp hd
      have hv2 := hv'
      obtain ⟨r, ro, rvs, rn, rfl, hro, hrc, hrd, hrr⟩ := hv'.tup
      obtain ⟨t₁, t₂, e⟩ := hrr.two
      have hT : IsTup g₂ r #[.str q.1 t₁, .str q.2 t₂] := ⟨ro, hg _ _ hro, hrc, rn, by rw [hrd]; congr 1; apply Array.ext'; exact e⟩
      have hm : mc (Str.ofString "name") = some (.str nm t) := (hca _ (by rfl)).trans (by walk_at "lk")
      walk_at "w"
      · refine comp_turn_end (by assumption) ⟨rfl, ?_⟩ (hca.set (by rfl))
        unfold othersL
        have hb : (Txt.contains xX q.1 != Txt.contains xX nm) = true := by simpa using by assumption
        rw [filter_succ hq, if_pos hb, List.map_append]
        exact hzs.snoc hv2
      · refine comp_turn_end (by assumption) ⟨rfl, ?_⟩ (hca.set (by rfl))
        unfold othersL
        have hb : ¬ (Txt.contains xX q.1 != Txt.contains xX nm) = true := by simpa using Classical.not_not.mp (by assumption)
        rw [filter_succ hq, if_neg hb, List.append_nil]
        exact hzs
    · rintro g₂ zs DO kk2 h₆ ⟨rfl, hzs⟩ F
      rw [List.take_of_length_le (by omega)] at hzs
      have hzl : zs.length = (othersL ps nm).length := by have := hzs.length; simpa using this
      have hol : (othersL ps nm).length ≤ ps.length := List.length_filter_le _ _
      have hsub : ∀ p ∈ sameL ps nm, p ∈ ps := fun p hp => (List.mem_filter.mp hp).1
      have hsz := depth_pairs (sameL ps nm)
      walk_at "w"
      · rename Loc _ _ _ _ _ _ => F9
        have hd : d = 0 := by assumption
        refine kT (othersL ps nm) _ _ _ _ _ ?_ F9.sub (F9.led _ (.head _)).2.2 (F9.get (.head _)) hzs (F9.led _ (.tail _ (.tail _ (.head _)))).2.2 (apart3 F9.nd) (F9.get (.tail _ (.tail _ (.head _))))
        unfold afterOf
        rw [if_pos hd]
      · have h0 : ¬ d = 0 := by assumption
        have hd : d = 1 := by assumption
        refine kF _ _ _ _ F.sub (F.led _ (.head _)).2.2 (F.get (.head _)) ?_
        unfold afterOf
        rw [if_neg h0, if_pos hd]
        exact hzs
      · have h0 : ¬ d = 0 := by assumption
        have h1 : ¬ d = 1 := by assumption
        have hd : d = 2 := by assumption
        rename Loc _ _ _ _ _ _ => F9
        refine eNe (rd_list (F9.get (.tail _ (.tail _ (.head _)))) (isL_listO _ _) (hys.keep (hg.tr F9.sub))) (rd_list (F9.get (.head _)) (isL_listO _ _) .nil) (hcl _ hsub) rfl (by omega) ?_
        have eb : PyData.eqv (.list ((sameL ps nm).map pairD)) (.list []) = (sameL ps nm).isEmpty := by
          show PyData.eqvAll _ [] = _
          rw [eqvAll_nil, List.isEmpty_map]
        rw [eb]
        cases he : (sameL ps nm).isEmpty with
        | false =>
          rw [Bool.not_false]
          walk_at "w"
          refine kO ?_ _ F9.sub
          unfold afterOf
          rw [if_neg h0, if_neg h1, if_pos ⟨hd, fun q => by rw [q] at he; cases he⟩]
        | true =>
          rw [Bool.not_true]
          walk_at "w"
          rename Loc _ _ _ _ _ _ => F10
          refine kT ps _ _ _ _ _ ?_ F10.sub (F10.led _ (.head _)).2.2 (F10.get (.head _)) hr (F10.led _ (.tail _ (.tail _ (.head _)))).2.2 (apart3 F10.nd) (F10.get (.tail _ (.tail _ (.head _))))
          unfold afterOf
          rw [if_neg h0, if_neg h1, if_neg (fun q => q.2 (List.isEmpty_iff.mp he))]
      · have h0 : ¬ d = 0 := by assumption
        have h1 : ¬ d = 1 := by assumption
        have h2 : ¬ d = 2 := by assumption
        rename Loc _ _ _ _ _ _ => F10
        refine kT ps _ _ _ _ _ ?_ F10.sub (F10.led _ (.head _)).2.2 (F10.get (.head _)) hr (F10.led _ (.tail _ (.tail _ (.head _)))).2.2 (apart3 F10.nd) (F10.get (.tail _ (.tail _ (.head _))))
        unfold afterOf
        rw [if_neg h0, if_neg h1, if_neg (fun q => h2 q.1)]
/-- the same, with the caller's state: the list is frozen -/
theorem after_callL {L : Addr} {cs : List (Str × Addr)} {m : Str → Option Value} {led : List (Addr × Obj)} {us : List Value} {o : Obj} {ps : List (Str × Str)} {d : Int} {nm val : Str} (R : Rm A 1) (X : Amb (K7 w) mg mb g) (F : Loc g L cs m led h) (hO : g.get? O = some o) (hL : IsL o us) (hr : RdAll g us (ps.map pairD)) (hps : ∀ p ∈ ps, p.1.length ≤ 1000) (hpl : ps.length ≤ 1000) (hcl : ∀ l : List (Str × Str), (∀ p ∈ l, p ∈ ps) → PyData.canLay0 (.list (l.map pairD)) = true)
    (k : ∀ Do o' uo g' h', Loc g' L cs m led h' → Sub g g' → g'.get? Do = some o' → IsL o' uo → RdAll g' uo ((afterOf ps d nm val).map pairD) → Q (.ref Do) h') : Ev (model p7 w) A (call (.ref 184) [.ref O, .int d td, .str nm t, .str val t2]) h Q E := by
  refine after_call R (F.amb X) (F.sub _ _ hO) hL F.sub hr hps hpl hcl (fun e h' s => ?_) (fun Do uo n' h' s nD hD hrd => ?_) (fun base Do T uo n' h' e s nD hD hrd nT hne hT => ?_)
  · exact k O o us g h' (F.keep s) Sub.rfl' hO hL (by rw [e]; exact hr)
  · obtain ⟨g', F', s', hDo⟩ := F.freezeAt' nD (F.keep s) rfl hD
    exact k Do _ uo g' h' F' s' hDo (isL_listO _ _) (hrd.keep s')
  · obtain ⟨g1, F1, s1, hT1⟩ := F.freezeAt' nT (F.keep s) rfl hT
    obtain ⟨g2, F2, s2, hD2⟩ := F.freezeAt' nD F1 rfl hD
    refine k Do _ _ g2 h' F2 (s1.tr s2) hD2 (isL_listO _ _) ?_
    rw [e, List.map_append]
    exact (hrd.keep (s1.tr s2)).snoc (rd_tuple (s2 _ _ hT1) (.cons rd_str (.cons rd_str .nil)))
end

def four (x : Str) : Prop := x = Str.ofString "x" ∨ x = Str.ofString "X" ∨ x = Str.ofString "y" ∨ x = Str.ofString "Y"
theorem four_tab : ∀ a ∈ [Str.ofString "x", Str.ofString "X", Str.ofString "y", Str.ofString "Y"], ∀ b ∈ [Str.ofString "x", Str.ofString "X", Str.ofString "y", Str.ofString "Y"], (Txt.contains xX a == Txt.contains xX b) = (Txt.lower a == Txt.lower b) := by decide +kernel
theorem four_x : ∀ a ∈ [Str.ofString "x", Str.ofString "X", Str.ofString "y", Str.ofString "Y"], Txt.contains xX a = (Txt.lower a == Txt.lower (Str.ofString "x")) ∧ Txt.contains (Str.ofString "yY") a = (Txt.lower a == Txt.lower (Str.ofString "Y")) ∧ asciiB a = true ∧ a.length = 1 := by decide +kernel
theorem four_mem {x : Str} (h : four x) : x ∈ [Str.ofString "x", Str.ofString "X", Str.ofString "y", Str.ofString "Y"] := by
  rcases h with rfl | rfl | rfl | rfl <;> simp
theorem four_same {p : Str × Str} {nm : Str} (h : four p.1) (h' : four nm) : (Txt.contains xX p.1 == Txt.contains xX nm) = sameLow nm p := four_tab _ (four_mem h) _ (four_mem h')
structure OkP (p : Str × Str) : Prop where
  n : four p.1
  a : ascii p.2
  l : p.2.length ≤ 20
theorem OkP.a1 {p : Str × Str} (h : OkP p) : ascii p.1 := ascii_of_B (four_x _ (four_mem h.n)).2.2.1
theorem OkP.l1 {p : Str × Str} (h : OkP p) : p.1.length = 1 := (four_x _ (four_mem h.n)).2.2.2
theorem same_eq {ps : List (Str × Str)} {nm : Str} (h : ∀ p ∈ ps, OkP p) (h' : four nm) : sameL ps nm = ps.filter (sameLow nm) := List.filter_congr fun p hp => four_same (h p hp).n h'
theorem others_eq {ps : List (Str × Str)} {nm : Str} (h : ∀ p ∈ ps, OkP p) (h' : four nm) : othersL ps nm = others nm ps := List.filter_congr fun p hp => by
  rw [← four_same (h p hp).n h']; rfl
theorem after_dflt {ps : List (Str × Str)} {nm val : Str} (h : ∀ p ∈ ps, OkP p) (h' : four nm) : afterOf ps 2 nm val = if (ps.find? (sameLow nm)).isSome = true then ps else ps ++ [(nm, val)] := by
  unfold afterOf
  rw [if_neg (by decide), if_neg (by decide), same_eq h h']
  by_cases hf : (ps.find? (sameLow nm)).isSome = true
  · rw [if_pos hf, if_pos]
    refine ⟨rfl, fun e => ?_⟩
    obtain ⟨p, hp⟩ := Option.isSome_iff_exists.mp hf
    have : p ∈ ps.filter (sameLow nm) := List.mem_filter.mpr ⟨List.mem_of_find?_eq_some hp, List.find?_some hp⟩
    rw [e] at this; cases this
  · rw [if_neg hf, if_neg]
    rintro ⟨_, q⟩
    apply q
    rw [List.filter_eq_nil_iff]
    intro p hp hs
    exact hf (by rw [List.find?_isSome]; exact ⟨p, hp, hs⟩)
theorem after_ok {ps : List (Str × Str)} {d : Int} {nm val : Str} (h : ∀ p ∈ ps, OkP p) (h' : OkP (nm, val)) : ∀ p ∈ afterOf ps d nm val, OkP p := by
  intro p hp
  unfold afterOf at hp
  have ho : ∀ q ∈ othersL ps nm, OkP q := fun q hq => h q (List.mem_filter.mp hq).1
  split at hp
  · rcases List.mem_append.mp hp with q | q
    · exact ho p q
    · rw [List.mem_singleton.mp q]; exact h'
  · split at hp
    · exact ho p hp
    · split at hp
      · exact h p hp
      · rcases List.mem_append.mp hp with q | q
        · exact h p q
        · rw [List.mem_singleton.mp q]; exact h'
theorem after_len (ps : List (Str × Str)) (d : Int) (nm val : Str) : (afterOf ps d nm val).length ≤ ps.length + 1 := by
  have ho : (othersL ps nm).length ≤ ps.length := List.length_filter_le _ _
  unfold afterOf
  split
  · simp; omega
  · split
    · omega
    · split
      · omega
      · simp
abbrev nmD (p : Str × Str) : PyData := .str p.1
abbrev valD (p : Str × Str) : PyData := .str p.2
def recD (ps : List (Str × Str)) : PyData := .list [.list (ps.map pairD), .list (ps.map nmD), .list (ps.map valD), .list ((ps.filter (sameLow (Str.ofString "x"))).map valD), .list ((ps.filter (sameLow (Str.ofString "Y"))).map valD)]
theorem canLay_map {α : Type} {d : α → PyData} : ∀ {l : List α}, (∀ a ∈ l, PyData.canLay0 (d a) = true) → PyData.canLayAll0 (l.map d) = true
  | [], _ => rfl
  | a :: r, q => by
    have := canLay_map fun b hb => q b (.tail _ hb)
    simpa [PyData.canLayAll0, q a (.head _)] using this
theorem depth_map {α : Type} {d : α → PyData} {n : Nat} : ∀ {l : List α}, (∀ a ∈ l, PyData.depth (d a) ≤ n) → PyData.depthAll (l.map d) ≤ n
  | [], _ => Nat.zero_le _
  | a :: r, q => by
    have := depth_map fun b hb => q b (.tail _ hb)
    have := q a (.head _)
    simp only [List.map_cons, PyData.depthAll]
    omega
theorem canLay_ok {ps : List (Str × Str)} (h : ∀ p ∈ ps, OkP p) : PyData.canLay0 (.list (ps.map pairD)) = true := canLay_pairs fun p hp => ⟨(h p hp).a1, (h p hp).a⟩
theorem canLay_nm {ps : List (Str × Str)} (h : ∀ p ∈ ps, OkP p) : PyData.canLay0 (.list (ps.map nmD)) = true := canLay_map fun p hp => strOk_ascii (h p hp).a1
theorem canLay_val {ps : List (Str × Str)} (h : ∀ p ∈ ps, OkP p) : PyData.canLay0 (.list (ps.map valD)) = true := canLay_map fun p hp => strOk_ascii (h p hp).a
theorem canLay_rec {ps : List (Str × Str)} (h : ∀ p ∈ ps, OkP p) : PyData.canLay0 (recD ps) = true := by
  have h1 := canLay_ok h
  have h2 := canLay_nm h
  have h3 := canLay_val h
  have h4 := canLay_val (ps := ps.filter (sameLow (Str.ofString "x"))) fun p hp => h p (List.mem_filter.mp hp).1
  have h5 := canLay_val (ps := ps.filter (sameLow (Str.ofString "Y"))) fun p hp => h p (List.mem_filter.mp hp).1
  unfold recD
  show PyData.canLayAll0 _ = true
  simp only [PyData.canLayAll0, h1, h2, h3, h4, h5, Bool.and_true]
theorem depth_strs {f : Str × Str → Str} (ps : List (Str × Str)) : PyData.depth (.list (ps.map fun p => .str (f p))) ≤ 1 := by
  simp only [PyData.depth]
  have := depth_map (d := fun p => PyData.str (f p)) (n := 0) (l := ps) fun p _ => by simp [PyData.depth]
  omega
theorem depth_rec (ps : List (Str × Str)) : PyData.depth (recD ps) ≤ 4 := by
  have h1 := depth_pairs ps
  have h2 : PyData.depth (.list (ps.map nmD)) ≤ 1 := depth_strs (f := fun p => p.1) ps
  have h3 : PyData.depth (.list (ps.map valD)) ≤ 1 := depth_strs (f := fun p => p.2) ps
  have h4 : PyData.depth (.list ((ps.filter (sameLow (Str.ofString "x"))).map valD)) ≤ 1 := depth_strs (f := fun p => p.2) (ps.filter (sameLow (Str.ofString "x")))
  have h5 : PyData.depth (.list ((ps.filter (sameLow (Str.ofString "Y"))).map valD)) ≤ 1 := depth_strs (f := fun p => p.2) (ps.filter (sameLow (Str.ofString "Y")))
  unfold recD
  simp only [PyData.depth, PyData.depthAll] at *
  omega
theorem textFrom_le : ∀ (ts : List Str) (k : Nat) (acc : Str) (B : Nat), (∀ t ∈ ts, t.length ≤ B) → (textFrom k acc ts).length ≤ acc.length + ts.length * (B + 2)
  | [], k, acc, B, _ => by show acc.length ≤ _; omega
  | t :: r, k, acc, B, h => by
    have ih := textFrom_le r (k + 1) (acc ++ (if k > 0 then ", " else "" : String) ++ t) B fun u hu => h u (.tail _ hu)
    have ht := h t (.head _)
    have hs : (((if k > 0 then ", " else "" : String) : Str)).length ≤ 2 := by split <;> decide +kernel
    rw [Str.length_append, Str.length_append] at ih
    show (textFrom (k + 1) _ r).length ≤ _
    rw [List.length_cons, Nat.add_mul]
    omega
theorem shown_pairs {ps : List (Str × Str)} (h : ∀ p ∈ ps, OkP p) (hl : ps.length ≤ 100) : (PyData.shown (.list (ps.map pairD))).length ≤ 1000000 := by
  have hB : ∀ t ∈ PyData.shownAll (ps.map pairD), t.length ≤ 500 := by
    clear hl
    induction ps with
    | nil => intro t ht; cases ht
    | cons p r ih =>
      intro t ht
      rcases List.mem_cons.mp ht with rfl | ht
      · have hp := h p (.head _)
        have e1 := StrLaws.reprText_len p.1 fun c hc => by have := hp.a1 c hc; omega
        have e2 := StrLaws.reprText_len p.2 fun c hc => by have := hp.a c hc; omega
        have := hp.l1
        have := hp.l
        have ej := StrLaws.join_length_le (Str.ofString ", ") [reprText p.1, reprText p.2]
        show (Str.ofString "(" ++ Str.join (Str.ofString ", ") [reprText p.1, reprText p.2] ++ Str.ofString ")").length ≤ 500
        have h1 : (Str.ofString "(").length = 1 := by decide +kernel
        have h2 : (Str.ofString ")").length = 1 := by decide +kernel
        have h3 : (Str.ofString ", ").length = 2 := by decide +kernel
        rw [Str.length_append, Str.length_append, h1, h2]
        simp only [List.map_cons, List.map_nil, List.sum_cons, List.sum_nil, List.length_cons, List.length_nil, h3] at ej
        omega
      · exact ih (fun q hq => h q (.tail _ hq)) t ht
  have hlen : (PyData.shownAll (ps.map pairD)).length = ps.length := by
    clear hB hl h
    induction ps with
    | nil => rfl
    | cons p r ih => simp [PyData.shownAll, ih]
  have := textFrom_le (PyData.shownAll (ps.map pairD)) 0 "[" 500 hB
  show (textFrom 0 "[" (PyData.shownAll (ps.map pairD)) ++ "]").length ≤ _
  rw [Str.length_append]
  have h1 : (("[" : String) : Str).length = 1 := by decide +kernel
  have h2 : (("]" : String) : Str).length = 1 := by decide +kernel
  rw [hlen] at this
  have : ps.length * (500 + 2) ≤ 100 * 502 := Nat.mul_le_mul hl (Nat.le_refl _)
  omega
theorem showable_pairs (ps : List (Str × Str)) : PyData.showableAll (ps.map pairD) = true := by
  induction ps with
  | nil => rfl
  | cons p r ih => simp [PyData.showableAll, PyData.showable, pairD, ih]
theorem noDict_pairs (ps : List (Str × Str)) : PyData.hasDictAll (ps.map pairD) = false := by
  induction ps with
  | nil => rfl
  | cons p r ih => simp [PyData.hasDictAll, PyData.hasDict, pairD, ih]

theorem n_after (w : World) : nsIn (K7 w) mainGlobals (Str.ofString "_law_after") = some (some (.ref 184)) := by rfl
theorem n_answers (w : World) : nsIn (K7 w) mainGlobals (Str.ofString "_law_answers") = some (some (.ref 191)) := by rfl
theorem n_Headers (w : World) : nsIn (K7 w) mainGlobals (Str.ofString "Headers") = some (some (.ref 175)) := by rfl
local macro_rules | `(tactic| walk_at "nsG") => `(tactic| with_reducible first | exact n_nameRe _ | exact n_valueRe _ | exact n_after _ | exact n_answers _ | exact n_Headers _)
theorem s_xXyY : Str.ofString "xXyY" = ⟨#[120, 88, 121, 89]⟩ := by decide +kernel
theorem sign4 (a : Int) : ∃ c, (Str.ofString "xXyY").cps[(a.fmod 4).toNat]? = some c ∧ four ⟨#[c]⟩ := by
  have h := fmod_facts a 4 (by omega)
  rw [s_xXyY]
  have e1 : Str.ofString "x" = ⟨#[120]⟩ := by decide +kernel
  have e2 : Str.ofString "X" = ⟨#[88]⟩ := by decide +kernel
  have e3 : Str.ofString "y" = ⟨#[121]⟩ := by decide +kernel
  have e4 : Str.ofString "Y" = ⟨#[89]⟩ := by decide +kernel
  generalize a.fmod 4 = k at h
  have : k = 0 ∨ k = 1 ∨ k = 2 ∨ k = 3 := by omega
  unfold four
  rw [e1, e2, e3, e4]
  rcases this with rfl | rfl | rfl | rfl
  · exact ⟨120, rfl, .inl rfl⟩
  · exact ⟨88, rfl, .inr (.inl rfl)⟩
  · exact ⟨121, rfl, .inr (.inr (.inl rfl))⟩
  · exact ⟨89, rfl, .inr (.inr (.inr rfl))⟩
theorem len_xXyY : (Str.ofString "xXyY").length = 4 := by rw [s_xXyY]; rfl
def start : List (Str × Str) := [(Str.ofString "X", Str.ofString "first"), (Str.ofString "y", Str.ofString ""), (Str.ofString "x", Str.ofString "third"), (Str.ofString "x", Str.ofString "third")]
theorem start_ok : ∀ p ∈ start, OkP p := by
  intro p hp
  simp only [start, List.mem_cons, List.not_mem_nil, or_false] at hp
  rcases hp with rfl | rfl | rfl | rfl
  · exact ⟨.inr (.inl rfl), ascii_of_B (by decide +kernel), by decide +kernel⟩
  · exact ⟨.inr (.inr (.inl rfl)), ascii_of_B (by decide +kernel), by decide +kernel⟩
  · exact ⟨.inl rfl, ascii_of_B (by decide +kernel), by decide +kernel⟩
  · exact ⟨.inl rfl, ascii_of_B (by decide +kernel), by decide +kernel⟩
section
variable {w : World} {A : Around} {g h : Heap} {E : Value → Heap → Prop} {mg mb : Str → Option Value} {Q : Value → Heap → Prop}
set_option maxHeartbeats 4000000 in
theorem law_call {l : Addr} {ol : Obj} {vs : List Value} {ns : List Int} (R : Rm A 6) (X : Amb (K7 w) mg mb h) (hol : h.get? l = some ol) (hl : IsL ol vs) (hi : IntsAre vs ns) (hn : ns.length ≤ 63)
    (k : ∀ h', Sub h h' → Q (.bool true) h') : Ev (model p7 w) A (call (.ref 196) [.ref l]) h Q E := by
  have hvl : vs.length = ns.length := hi.length
  refine call_fnC (binds := [(Str.ofString "script", .ref l)]) (cs := fun L => [(Str.ofString "letters", L + 1)])
    X (by rfl) (by rfl) rfl R (fun s hs => BindsTo.of_eq (by rfl)) (by rfl) (by decide +kernel) (by simp only [List.map]; decide +kernel) (fun L => by rfl) (fun A L h₁ R F => ?_)
  have hun := R.un
  walk_at "w"
  rename Loc _ _ _ _ _ _ => F1
  obtain ⟨g1, F1, s1, hO1⟩ := F1.freeze1
  obtain ⟨g2, F1, s2, ht4⟩ := F1.freeze1
  obtain ⟨g3, F1, s3, ht3⟩ := F1.freeze1
  obtain ⟨g4, F1, s4, ht2⟩ := F1.freeze1
  obtain ⟨g5, F1, s5, ht1⟩ := F1.freeze1
  have s05 : Sub h g5 := s1.tr (s2.tr (s3.tr (s4.tr s5)))
  have X := X.keep s05
  obtain ⟨us, hO5, hr5⟩ : ∃ us, g5.get? _ = some (listO us 0) ∧ RdAll g5 us (start.map pairD) := ⟨_, s5 _ _ (s4 _ _ (s3 _ _ (s2 _ _ hO1))), .cons (rd_tuple ht1 (.cons rd_str (.cons rd_str .nil))) (.cons (rd_tuple (s5 _ _ ht2) (.cons rd_str (.cons rd_str .nil))) (.cons (rd_tuple (s5 _ _ (s4 _ _ ht3)) (.cons rd_str (.cons rd_str .nil))) (.cons (rd_tuple (s5 _ _ (s4 _ _ (s3 _ _ ht4))) (.cons rd_str (.cons rd_str .nil))) .nil)))⟩
  clear hO1 ht1 ht2 ht3 ht4
  have hul : us.length = 4 := by have := hr5.length; simpa [start] using this
  refine ⟨Slice_list ?_⟩
  walk_at "w"
  refine ⟨_, _, _, _, _, rfl, F1.sub _ _ hO5, isL_listO _ _, by rw [sizeLine_eq]; omega, .none, .none, _, _, _, _, _, F1, fun DH h4 F4 => ?_⟩
  rw [slicePick_all] at F4
  walk_at "w"
  refine new_call (R.le (by omega)) (F4.amb X) (F4.get (.head _)) (isL_listO _ _) (hr5.keep F4.sub) (fun p hp => ?_) fun x h6 s6 H6 => ?_
  · have := start_ok p hp
    exact ⟨ascii_clean this.a1, by have := this.l1; omega, ascii_clean this.a, by have := this.l; omega⟩
  obtain ⟨g6, F6, sg6, H⟩ := F4.freezeOne s6 H6
  have X := X.keep sg6
  have hr6 := hr5.keep sg6
  have hO6 := sg6 _ _ hO5
  have hol6 := sg6 _ _ (s05 _ _ hol)
  walk_at "w"
  rename_i F7
  refine loop_range (target := .Name (Str.ofString "i") ⟨0, 0, 0, 0⟩) (n := ns.length + 1) (fun i g m led => ∃ ps recs uO oO DO uH nH kp nk DK dd nd DD, led = [(DD, listO dd nd), (DK, listO kp nk), (DH, listO uH nH)] ∧ Sub g6 g ∧ (m (Str.ofString "h") = some (.ref x) ∧ m (Str.ofString "own") = some (.ref DO) ∧ m (Str.ofString "kept") = some (.ref DK) ∧ m (Str.ofString "due") = some (.ref DD) ∧ m (Str.ofString "script") = some (.ref l))
      ∧ g.get? DO = some oO ∧ IsL oO uO ∧ RdAll g uO (ps.map pairD) ∧ RdAll g uH (ps.map pairD) ∧ RdAll g kp (recs.map recD) ∧ RdAll g dd (recs.map recD) ∧ (∀ p ∈ ps, OkP p) ∧ (∀ r ∈ recs, ∀ p ∈ r, OkP p) ∧ ps.length ≤ 4 + i ∧ recs.length ≤ i)
    R.hd (by assumption) ?_ ?_ F7 ⟨start, [], us, _, _, _, _, _, _, _, _, _, _, rfl, Sub.rfl', ⟨by walk_at "lk", by walk_at "lk", by walk_at "lk", by walk_at "lk", by walk_at "lk"⟩, hO6, isL_listO _ _, hr6, hr6, .nil, .nil, start_ok, (fun _ h => by cases h), by simp [start], Nat.le_refl _⟩ ?_ ?_
  · exact small_one (by omega) (by omega) (by omega) (by omega)
  · rw [hvl]
    have : ((ns.length : Int) + 1) = ((ns.length + 1 : Nat) : Int) := by omega
    rw [this, rangeSize_nat]
    omega
  · rintro i u I o g m led h₅ hi' ⟨ps, recs, uO, oO, DO, uH, nH, kp, nk, DK, dd, nd, DD, rfl, sg, ⟨hm1, hm2, hm3, hm4, hm5⟩, hO, hOL, hrO, hrH, hrK, hrD, hok, hoks, hpl, hrl⟩ F
    have X := X.keep sg
    have H := H.keep sg
    have ei : (0 : Int) + (i : Int) * 1 = ((i : Nat) : Int) := by omega
    rw [ei]
    have hOl : uO.length = ps.length := by have := hrO.length; simpa using this
    have hHl : uH.length = ps.length := by have := hrH.length; simpa using this
    have hKl : kp.length = recs.length := by have := hrK.length; simpa using this
    have hDl : dd.length = recs.length := by have := hrD.length; simpa using this
    have hps : ∀ p ∈ ps, p.1.length ≤ 1000 := fun p hp => by have := (hok p hp).l1; omega
    walk_at "w"
    rename Loc _ _ _ _ _ _ => F8
    refine answers_call (R.le (by omega)) (F8.amb X) (H.keep F8.sub) (F8.get (.tail _ (.tail _ (.tail _ (.head _))))) (isL_listO _ _) (hrH.keep F8.sub) hps (by omega) fun DA D0 D1 D2 D3 D4 k1 k2 k3 k4 n0 n1 n2 n3 n4 h9 s9 hnew hnd hk1 hk2 hk3 hk4 => ?_
    have F9 := F8.takeAll s9 hnew hnd
    obtain ⟨q1, F9, r1, hDA⟩ := F9.freeze1
    obtain ⟨q2, F9, r2, hD4⟩ := F9.freeze1
    obtain ⟨q3, F9, r3, hD3⟩ := F9.freeze1
    obtain ⟨q4, F9, r4, hD2⟩ := F9.freeze1
    obtain ⟨q5, F9, r5, hD1⟩ := F9.freeze1
    obtain ⟨q6, F9, r6, hD0⟩ := F9.freeze1
    have r56 := r5.tr r6
    have r46 := r4.tr r56
    have r36 := r3.tr r46
    have r26 := r2.tr r36
    have r16 := r1.tr r26
    have hrec : Rd q6 (.ref DA) (recD ps) := rd_list (r26 _ _ hDA) (isL_listO _ _) (.cons (rd_list hD0 (isL_listO _ _) (hrH.keep r16)) (.cons (rd_list (r6 _ _ hD1) (isL_listO _ _) (rdStrsP (f := fun p => p.1) hk1)) (.cons (rd_list (r56 _ _ hD2) (isL_listO _ _) (rdStrsP (f := fun p => p.2) hk2)) (.cons (rd_list (r46 _ _ hD3) (isL_listO _ _) (rdStrsP (f := fun p => p.2) hk3)) (.cons (rd_list (r36 _ _ hD4) (isL_listO _ _) (rdStrsP (f := fun p => p.2) hk4)) .nil)))))
    have hsg : Sub g6 q6 := sg.tr r16
    have X := X.keep r16
    have H := H.keep r16
    have hO := r16 _ _ hO
    have hrO := hrO.keep r16
    have hrH := hrH.keep r16
    have hrK := (hrK.keep r16).snoc hrec
    have hrD := hrD.keep r16
    clear hDA hD4 hD3 hD2 hD1 hD0 hk1 hk2 hk3 hk4 hnew hnd
    walk_at "w"
    refine ListComp_ (by rfl) (by rfl) (by rfl) ?_
    walk_at "w"
    rename Loc _ _ _ _ _ _ => F10
    refine comp_list (fun j g₁ ys => g₁ = q6 ∧ RdAll q6 ys ((ps.take j).map nmD)) R.hd hOL F10 (fun _ _ _ e => .inl (e.1 ▸ hO)) ⟨rfl, .nil⟩ ⟨?_⟩ ?_ trivial (by rfl) (by rfl) (by rw [sizeLine_eq]; omega)
    · rintro j v C mc led' g₁ ys h₆ hil hv ⟨rfl, hys⟩ hled F hca
      obtain ⟨d', hd, hv'⟩ := hrO.get hv
      rw [List.getElem?_map] at hd
      obtain ⟨q, hq, rfl⟩ := Option.map_eq_some_iff.mp hd
      obtain ⟨r, ro, rvs, rn, rfl, hro, hrc, hrd, hrr⟩ := hv'.tup
      obtain ⟨t₁, t₂, e⟩ := hrr.two
      have hT : IsTup g₁ r #[.str q.1 t₁, .str q.2 t₂] := ⟨ro, hro, hrc, rn, by rw [hrd]; congr 1; apply Array.ext'; exact e⟩
      walk_at "w"
      refine comp_turn_end (by assumption) ⟨rfl, ?_⟩ (hca.set (by rfl))
      rw [List.take_add_one, hq]
      simp only [Option.toList_some, List.map_append, List.map_cons, List.map_nil]
      exact hys.snoc rd_str
    rintro g₁ kn DN kk1 h₆ ⟨rfl, hkn⟩ F
    rw [List.take_of_length_le (by omega)] at hkn
    walk_at "w"
    refine ListComp_ (by rfl) (by rfl) (by rfl) ?_
    walk_at "w"
    refine comp_list (fun j g₂ ys => g₂ = g₁ ∧ RdAll g₁ ys ((ps.take j).map valD)) R.hd hOL F (fun _ _ _ e => .inl (e.1 ▸ hO)) ⟨rfl, .nil⟩ ⟨?_⟩ ?_ trivial (by rfl) (by rfl) (by rw [sizeLine_eq]; omega)
    · rintro j v C mc led' g₂ ys h₆ hil hv ⟨rfl, hys⟩ hled F hca
      obtain ⟨d', hd, hv'⟩ := hrO.get hv
      rw [List.getElem?_map] at hd
      obtain ⟨q, hq, rfl⟩ := Option.map_eq_some_iff.mp hd
      obtain ⟨r, ro, rvs, rn, rfl, hro, hrc, hrd, hrr⟩ := hv'.tup
      obtain ⟨t₁, t₂, e⟩ := hrr.two
      have hT : IsTup g₂ r #[.str q.1 t₁, .str q.2 t₂] := ⟨ro, hro, hrc, rn, by rw [hrd]; congr 1; apply Array.ext'; exact e⟩
      walk_at "w"
      refine comp_turn_end (by assumption) ⟨rfl, ?_⟩ (hca.set (by rfl))
      rw [List.take_add_one, hq]
      simp only [Option.toList_some, List.map_append, List.map_cons, List.map_nil]
      exact hys.snoc rd_str
    rintro g₂ kv DV kk2 h₆ ⟨rfl, hkv⟩ F
    rw [List.take_of_length_le (by omega)] at hkv
    walk_at "w"
    rename_i Dr hr1 Fr1 n9 h9a F9a tk1 tk2 DL hL F11
    obtain ⟨z1, F11, y1, hDL⟩ := F11.freeze1
    obtain ⟨z2, F11, y2, hDV⟩ := F11.swap.freeze1
    obtain ⟨z3, F11, y3, hDN⟩ := F11.swap.freeze1
    have y03 := y1.tr (y2.tr y3)
    have hDL := y3 _ _ (y2 _ _ hDL)
    have hDV := y3 _ _ hDV
    have X := X.keep y03
    have H := H.keep y03
    have hO := y03 _ _ hO
    have hrO := hrO.keep y03
    have hrH := hrH.keep y03
    have hrK := hrK.keep y03
    have hrD := hrD.keep y03
    have hsg := hsg.tr y03
    have hkn : RdAll z3 kn (ps.map nmD) := rdStrsP (f := fun p => p.1) hkn
    have hkv : RdAll z3 kv (ps.map valD) := rdStrsP (f := fun p => p.2) hkv
    clear y03 y1 y2 y3 r16 r26 r36 r46 r56
    refine loop_list (fun j g m led => ∃ ex nr, led = [(Dr, listO ([.ref DO, .ref DN, .ref DV] ++ ex) nr), (I, o), (DD, listO (dd ++ [.ref Dr]) n9), (DK, listO (kp ++ [.ref DA]) _), (DH, listO uH nH)] ∧ Sub z3 g ∧ (m (Str.ofString "h") = some (.ref x) ∧ m (Str.ofString "own") = some (.ref DO) ∧ m (Str.ofString "kept") = some (.ref DK) ∧ m (Str.ofString "due") = some (.ref DD) ∧ m (Str.ofString "script") = some (.ref l) ∧ m (Str.ofString "i") = some (.int (i : Nat) u))
        ∧ RdAll g ex ([PyData.list ((ps.filter (sameLow (Str.ofString "x"))).map valD), PyData.list ((ps.filter (sameLow (Str.ofString "Y"))).map valD)].take j))
      R.hd (isL_listO _ _) F11 ⟨[], _, rfl, Sub.rfl', ⟨by walk_at "lk", by walk_at "lk", by walk_at "lk", by walk_at "lk", by walk_at "lk", by walk_at "lk"⟩, .nil⟩ (fun j g m led ⟨_, _, _, s, _⟩ => .inl (s _ _ hDL)) ?_ ?_
    · rintro j v I2 o2 g' m led h₅ hv ⟨ex, nr, rfl, sg', ⟨hm1, hm2, hm3, hm4, hm5, hm6⟩, hex⟩ F
      obtain ⟨lt, tl, rfl, hdl⟩ : ∃ lt tl, v = .str lt tl ∧ [PyData.list ((ps.filter (sameLow (Str.ofString "x"))).map valD), PyData.list ((ps.filter (sameLow (Str.ofString "Y"))).map valD)][j]? = some (.list ((ps.filter fun p => Txt.contains lt p.1).map valD)) := by
        match j, hv with
        | 0, hv =>
          cases hv
          exact ⟨_, _, rfl, by rw [show (ps.filter fun p => Txt.contains (Str.ofString "xX") p.1) = ps.filter (sameLow (Str.ofString "x")) from List.filter_congr fun p hp => (four_x _ (four_mem (hok p hp).n)).1]; rfl⟩
        | 1, hv =>
          cases hv
          exact ⟨_, _, rfl, by rw [show (ps.filter fun p => Txt.contains (Str.ofString "yY") p.1) = ps.filter (sameLow (Str.ofString "Y")) from List.filter_congr fun p hp => (four_x _ (four_mem (hok p hp).n)).2.1]; rfl⟩
        | j + 2, hv => simp at hv
      have hexl : ex.length ≤ 2 := by have := hex.length; rw [List.length_take] at this; simp at this; omega
      have X := X.keep sg'
      have hO := sg' _ _ hO
      have hrO := hrO.keep sg'
      walk_at "w"
      refine ListComp_ (by rfl) (by rfl) (by rfl) ?_
      walk_at "w"
      rename Loc _ _ _ _ _ _ => F12
      refine comp_list (fun j g₁ ys => g₁ = g' ∧ RdAll g' ys (((ps.take j).filter fun p => Txt.contains lt p.1).map valD)) R.hd hOL F12 (fun _ _ _ e => .inl (e.1 ▸ hO)) ⟨rfl, .nil⟩ ⟨?_⟩ ?_ ⟨rfl, trivial⟩ (by rfl) (by rfl) (by rw [sizeLine_eq]; omega)
      · rintro j v C mc led' g₁ ys h₆ hil hv ⟨rfl, hys⟩ hled F hca
        obtain ⟨d', hd, hv'⟩ := hrO.get hv
        rw [List.getElem?_map] at hd
        obtain ⟨q, hq, rfl⟩ := Option.map_eq_some_iff.mp hd
        obtain ⟨r, ro, rvs, rn, rfl, hro, hrc, hrd, hrr⟩ := hv'.tup
        obtain ⟨t₁, t₂, e⟩ := hrr.two
        have hT : IsTup g₁ r #[.str q.1 t₁, .str q.2 t₂] := ⟨ro, hro, hrc, rn, by rw [hrd]; congr 1; apply Array.ext'; exact e⟩
        have hmL : mc (Str.ofString "letters") = some (.str lt tl) := (hca _ (by rfl)).trans (by walk_at "lk")
        walk_at "w"
        · refine comp_turn_end (by assumption) ⟨rfl, ?_⟩ (hca.set (by rfl))
          have hb : Txt.contains lt q.1 = true := by assumption
          rw [filter_succ hq, if_pos hb, List.map_append]
          exact hys.snoc rd_str
        · refine comp_turn_end (by assumption) ⟨rfl, ?_⟩ (hca.set (by rfl))
          have hb : ¬ Txt.contains lt q.1 = true := by simpa using by assumption
          rw [filter_succ hq, if_neg hb, List.append_nil]
          exact hys
      · rintro g₁ ys Dv kk3 h₆ ⟨rfl, hys⟩ F
        rw [List.take_of_length_le (by omega)] at hys
        walk_at "w"
        rename Loc _ _ _ _ _ _ => F13
        obtain ⟨z4, F13, y4, hDv⟩ := F13.freeze1
        rw [List.append_assoc] at F13
        refine turn_end F13 ⟨ex ++ [.ref Dv], _, rfl, sg'.tr y4, ⟨by walk_at "lk", by walk_at "lk", by walk_at "lk", by walk_at "lk", by walk_at "lk", by walk_at "lk"⟩, ?_⟩
        rw [List.take_add_one, hdl]
        exact (hex.keep y4).snoc (rd_list hDv (isL_listO _ _) (hys.keep y4))
    · rintro g' m led h₅ ⟨ex, nr, rfl, sg', ⟨hm1, hm2, hm3, hm4, hm5, hm6⟩, hex⟩ F
      obtain ⟨z5, F, y5, hDr⟩ := F.freeze1
      have w5 := sg'.tr y5
      have hex : RdAll z5 ex [PyData.list ((ps.filter (sameLow (Str.ofString "x"))).map valD), PyData.list ((ps.filter (sameLow (Str.ofString "Y"))).map valD)] := hex.keep y5
      have hrec2 : Rd z5 (.ref Dr) (recD ps) := rd_list hDr (isL_listO _ _) (.cons (rd_list (w5 _ _ hO) hOL (hrO.keep w5)) (.cons (rd_list (w5 _ _ hDN) (isL_listO _ _) (hkn.keep w5)) (.cons (rd_list (w5 _ _ hDV) (isL_listO _ _) (hkv.keep w5)) hex)))
      have X := X.keep w5
      have H := H.keep w5
      have hO := w5 _ _ hO
      have hrO := hrO.keep w5
      have hrH := hrH.keep w5
      have hrK := hrK.keep w5
      have hrD := (hrD.keep w5).snoc hrec2
      have hsg := hsg.tr w5
      walk_at "w"
      refine answers_call (R.le (by omega)) (F.amb X) (H.keep F.sub) (F.get (.tail _ (.tail _ (.tail _ (.head _))))) (isL_listO _ _) (hrH.keep F.sub) hps (by omega) fun DA2 D0 D1 D2 D3 D4 k1 k2 k3 k4 n0 n1 n2 n3 n4 h9 s9 hnew hnd hk1 hk2 hk3 hk4 => ?_
      have F15 := F.takeAll s9 hnew hnd
      have hk1l : k1.length = ps.length := by have := hk1.length; simpa using this
      have hk2l : k2.length = ps.length := by have := hk2.length; simpa using this
      have hk3l : k3.length ≤ ps.length := by have h1 := hk3.length; have h2 := List.length_filter_le (sameLow (Str.ofString "x")) ps; rw [List.length_map] at h1; omega
      have hk4l : k4.length ≤ ps.length := by have h1 := hk4.length; have h2 := List.length_filter_le (sameLow (Str.ofString "Y")) ps; rw [List.length_map] at h1; omega
      obtain ⟨z6, F15, y6, hDA2⟩ := F15.freeze1
      have X := X.keep y6
      have H := H.keep y6
      have hO := y6 _ _ hO
      have hrO := hrO.keep y6
      have hrH := hrH.keep y6
      have hrK := hrK.keep y6
      have hrD := hrD.keep y6
      have hsg := hsg.tr y6
      clear hk1 hk2 hk3 hk4 hnew hnd
      refine loop_list (fun j g m led => ∃ c0 c1 c2 c3 c4 a0 a1 a2 a3 a4, led = [(D4, listO c4 a4), (D3, listO c3 a3), (D2, listO c2 a2), (D1, listO c1 a1), (D0, listO c0 a0), (I, o), (DD, listO (dd ++ [.ref Dr]) n9), (DK, listO (kp ++ [.ref DA]) _), (DH, listO uH nH)] ∧ g = z6 ∧ (m (Str.ofString "h") = some (.ref x) ∧ m (Str.ofString "own") = some (.ref DO) ∧ m (Str.ofString "kept") = some (.ref DK) ∧ m (Str.ofString "due") = some (.ref DD) ∧ m (Str.ofString "script") = some (.ref l) ∧ m (Str.ofString "i") = some (.int (i : Nat) u))
          ∧ (c0.length ≤ 100 + j ∧ c1.length ≤ 100 + j ∧ c2.length ≤ 100 + j ∧ c3.length ≤ 100 + j ∧ c4.length ≤ 100 + j))
        R.hd (isL_listO _ _) F15 ⟨_, _, _, _, _, _, _, _, _, _, rfl, rfl, ⟨by walk_at "lk", by walk_at "lk", by walk_at "lk", by walk_at "lk", by walk_at "lk", by walk_at "lk"⟩, by omega, by omega, by omega, by omega, by omega⟩ (fun j g m led ⟨_, _, _, _, _, _, _, _, _, _, _, e, _⟩ => .inl (e ▸ hDA2)) ?_ ?_
      · rintro j v I2 o2 g7 m led h₅ hv ⟨c0, c1, c2, c3, c4, a0, a1, a2, a3, a4, rfl, rfl, ⟨hm1, hm2, hm3, hm4, hm5, hm6⟩, hc0, hc1, hc2, hc3, hc4⟩ F
        have hj5 : j < 5 := by have := (List.getElem?_eq_some_iff.mp hv).1; simpa using this
        match j, hv, hj5 with
        | 0, hv, _ =>
          cases hv
          walk_at "w"
          rename Loc _ _ _ _ _ _ => F16
          refine turn_end (F16.drop) ⟨_, _, _, _, _, _, _, _, _, _, rfl, rfl, ⟨by walk_at "lk", by walk_at "lk", by walk_at "lk", by walk_at "lk", by walk_at "lk", by walk_at "lk"⟩, ?_, ?_, ?_, ?_, ?_⟩ <;> simp <;> omega
        | 1, hv, _ =>
          cases hv
          walk_at "w"
          rename Loc _ _ _ _ _ _ => F16
          refine turn_end (F16.drop) ⟨_, _, _, _, _, _, _, _, _, _, rfl, rfl, ⟨by walk_at "lk", by walk_at "lk", by walk_at "lk", by walk_at "lk", by walk_at "lk", by walk_at "lk"⟩, ?_, ?_, ?_, ?_, ?_⟩ <;> simp <;> omega
        | 2, hv, _ =>
          cases hv
          walk_at "w"
          rename Loc _ _ _ _ _ _ => F16
          refine turn_end (F16.drop) ⟨_, _, _, _, _, _, _, _, _, _, rfl, rfl, ⟨by walk_at "lk", by walk_at "lk", by walk_at "lk", by walk_at "lk", by walk_at "lk", by walk_at "lk"⟩, ?_, ?_, ?_, ?_, ?_⟩ <;> simp <;> omega
        | 3, hv, _ =>
          cases hv
          walk_at "w"
          rename Loc _ _ _ _ _ _ => F16
          refine turn_end (F16.drop) ⟨_, _, _, _, _, _, _, _, _, _, rfl, rfl, ⟨by walk_at "lk", by walk_at "lk", by walk_at "lk", by walk_at "lk", by walk_at "lk", by walk_at "lk"⟩, ?_, ?_, ?_, ?_, ?_⟩ <;> simp <;> omega
        | 4, hv, _ =>
          cases hv
          walk_at "w"
          rename Loc _ _ _ _ _ _ => F16
          refine turn_end (F16.drop) ⟨_, _, _, _, _, _, _, _, _, _, rfl, rfl, ⟨by walk_at "lk", by walk_at "lk", by walk_at "lk", by walk_at "lk", by walk_at "lk", by walk_at "lk"⟩, ?_, ?_, ?_, ?_, ?_⟩ <;> simp <;> omega
        | j + 5, _, hj => omega
      · rintro g7 m led h₅ ⟨c0, c1, c2, c3, c4, a0, a1, a2, a3, a4, rfl, rfl, ⟨hm1, hm2, hm3, hm4, hm5, hm6⟩, hc0, hc1, hc2, hc3, hc4⟩ F
        have F := F.drop.drop.drop.drop.drop
        have hlay := canLay_ok hok
        have hdep := depth_pairs ps
        have heql : (uH.length : Int) = uO.length := by omega
        walk_at "w"
        refine items_call (R.le (by omega)) (F.amb X) (H.keep F.sub) (F.get (.tail _ (.tail _ (.tail _ (.head _))))) (isL_listO _ _) (by omega) fun D' n' h' s' nD' hD' => ?_
        have F := F.keep s'
        walk_at "w"
        refine eNe (rd_list hD' (isL_listO _ _) (hrH.keep F.sub)) (rd_list (F.sub _ _ hO) hOL (hrO.keep F.sub)) hlay hlay (by omega) ?_
        rw [PySem.SeqAt.eqv_refl _ hlay, Bool.not_true]
        walk_at "w"
        refine len_h (R.le (by omega)) (F.amb X) (H.keep F.sub) (F.get (.tail _ (.tail _ (.tail _ (.head _))))) (by omega) fun t' h12 s12 => ?_
        have F := F.keep s12
        walk_at "w"
        have hsp := shown_pairs hok (by omega)
        refine repr_h (R.le (by omega)) (F.amb X) (H.keep F.sub) (repr_call (R.in1.le (by omega)) (F.amb X) (H.keep F.sub) (F.get (.tail _ (.tail _ (.tail _ (.head _))))) (isL_listO _ _) (hrH.keep F.sub) hsp (showable_pairs ps) (noDict_pairs ps) fun t2 h13 s13 => ⟨_, _, rfl, ?_⟩)
        have F := F.keep s13
        walk_at "w"
        refine eRepr_data (rd_list (F.sub _ _ hO) hOL (hrO.keep F.sub)) (showable_pairs ps) (noDict_pairs ps) R.gd (by omega) (by rw [sizeLine_eq]; omega) fun t3 h14 s14 => ?_
        have F := F.keep s14
        have hl9 : (Str.ofString "Headers(").length = 8 := by decide +kernel
        have hl8 : (Str.ofString ")").length = 1 := by decide +kernel
        have heqs : Str.ofString "Headers" ++ Str.ofString "(" ++ (PyData.list (List.map pairD ps)).shown ++ Str.ofString ")" = Str.ofString "Headers(" ++ (PyData.list (List.map pairD ps)).shown ++ Str.ofString ")" := by
          rw [show Str.ofString "Headers" ++ Str.ofString "(" = Str.ofString "Headers(" from by decide +kernel]
        have hol7 := hsg _ _ hol6
        by_cases hlt : i < ns.length
        · obtain ⟨nn, tn, hsi⟩ : ∃ nn tn, vs[((i : Nat) : Int).toNat]? = some (.int nn tn) := by
            have hiv : i < vs.length := by omega
            obtain ⟨nn, tn, e, _⟩ := intsAre_get hi (i := i) (v := vs[i]) (List.getElem?_eq_getElem hiv)
            exact ⟨nn, tn, by rw [Int.toNat_natCast, List.getElem?_eq_getElem hiv, e]⟩
          have hf4 := fmod_facts nn 4 (by omega)
          have hf5 := fmod_facts (nn.fdiv 4) 4 (by omega)
          obtain ⟨c4, hc4', h4⟩ := sign4 (nn.fdiv 4)
          have hl4 := len_xXyY
          have hdg := digits i (by omega)
          have hd2 := hdg.2
          walk_at "w"
          · exact absurd heqs (by assumption)
          rename Loc _ _ _ _ _ _ => F20
          refine after_callL (R.le (by omega)) X F20 hO hOL hrO hps (by omega) (fun l hl => canLay_ok fun p hp => hok p (hl p hp)) fun DO' oO' uO' g8 h16 F16 sg8 hO' hOL' hrO' => ?_
          have X := X.keep sg8
          have H := H.keep sg8
          have hrH := hrH.keep sg8
          have hrK := hrK.keep sg8
          have hrD := hrD.keep sg8
          have hsg := hsg.tr sg8
          have hol8 := hsg _ _ hol6
          obtain ⟨nm, hnm⟩ : ∃ nm : Str, nm = ⟨#[c4]⟩ := ⟨_, rfl⟩
          rw [← hnm] at h4
          simp only [← hnm] at hrO' F16
          have hokn : OkP (nm, Str.ofString (toString (i : Int))) := ⟨h4, hdg.1, hd2⟩
          have hna : ascii nm := hokn.a1
          have hnl : nm.length = 1 := hokn.l1
          have hnc := ascii_clean hna
          have hlc := low_clean hna
          have hll : (Txt.lower nm).length = nm.length := low_len hna
          have hvc := ascii_clean hdg.1
          have hok' := after_ok (d := nn.fmod 4) hok hokn
          have hln := after_len ps (nn.fmod 4) nm (Str.ofString (toString (i : Int)))
          have hoks' : ∀ r ∈ recs ++ [ps], ∀ p ∈ r, OkP p := by
            intro r hr
            rcases List.mem_append.mp hr with q | q
            · exact hoks r q
            · rw [List.mem_singleton.mp q]; exact hok
          have hrK' : RdAll g8 (kp ++ [.ref DA]) ((recs ++ [ps]).map recD) := by rw [List.map_append]; exact hrK
          have hrD' : RdAll g8 (dd ++ [.ref Dr]) ((recs ++ [ps]).map recD) := by rw [List.map_append]; exact hrD
          have hrl' : (recs ++ [ps]).length ≤ i + 1 := by simp; omega
          walk_at "w"
          · have hd : nn.fmod 4 = 0 := by assumption
            rename Loc _ _ _ _ _ _ => F17
            refine set_h (F17.amb X) (H.keep F17.sub) (set_call (R.le (by omega)) X F17.sub (F17.led _ (.tail _ (.tail _ (.tail _ (.head _))))).2.2 H (F17.get (.tail _ (.tail _ (.tail _ (.head _))))) hrH hps (by omega) (by omega) hnc (by omega) hlc (by omega) hvc fun us2 TT n2 h18 e18 hD18 hr18 hT0 hTT => ?_)
            obtain ⟨g9, F18, s9, hTT9⟩ := F17.freezeAt' hT0 (F17.putE (.tail (.tail (.tail .head))) e18 hD18) rfl hTT
            walk_at "w"
            rw [hd] at hrO' hok' hln
            have ea : afterOf ps 0 nm (Str.ofString (toString (i : Int))) = others nm ps ++ [(nm, Str.ofString (toString (i : Int)))] := by unfold afterOf; rw [if_pos rfl, others_eq hok h4]
            refine turn_end F18 ⟨afterOf ps 0 nm (Str.ofString (toString (i : Int))), recs ++ [ps], uO', oO', DO', _, _, _, _, DK, _, _, DD, rfl, hsg.tr s9, ⟨by walk_at "lk", by walk_at "lk", by walk_at "lk", by walk_at "lk", by walk_at "lk"⟩, s9 _ _ hO', hOL', hrO'.keep s9, ?_, hrK'.keep s9, hrD'.keep s9, hok', hoks', by omega, hrl'⟩
            rw [ea, List.map_append]
            exact (hr18.keep s9).snoc (rd_tuple hTT9 (.cons rd_str (.cons rd_str .nil)))
          · have hd : nn.fmod 4 = 1 := by assumption
            rename Loc _ _ _ _ _ _ => F17
            refine del_h (F17.amb X) (H.keep F17.sub) (del_call (R.le (by omega)) X F17.sub (F17.led _ (.tail _ (.tail _ (.tail _ (.head _))))).2.2 H (F17.get (.tail _ (.tail _ (.tail _ (.head _))))) hrH hps (by omega) (by omega) (by omega) hlc fun us2 n2 h18 e18 hD18 hr18 => ?_)
            have F18 := F17.putE (.tail (.tail (.tail .head))) e18 hD18
            walk_at "w"
            rw [hd] at hrO' hok' hln
            have ea : afterOf ps 1 nm (Str.ofString (toString (i : Int))) = others nm ps := by unfold afterOf; rw [if_neg (by decide), if_pos rfl, others_eq hok h4]
            refine turn_end F18 ⟨afterOf ps 1 nm (Str.ofString (toString (i : Int))), recs ++ [ps], uO', oO', DO', _, _, _, _, DK, _, _, DD, rfl, hsg, ⟨by walk_at "lk", by walk_at "lk", by walk_at "lk", by walk_at "lk", by walk_at "lk"⟩, hO', hOL', hrO', ?_, hrK', hrD', hok', hoks', by omega, hrl'⟩
            rw [ea]
            exact hr18
          · have hd : nn.fmod 4 = 2 := by assumption
            rename Loc _ _ _ _ _ _ => F17
            rw [hd] at hrO' hok' hln
            have ea := after_dflt (val := Str.ofString (toString (i : Int))) hok h4
            refine dflt_call (R.le (by omega)) X F17.sub (F17.led _ (.tail _ (.tail _ (.tail _ (.head _))))).2.2 H (F17.get (.tail _ (.tail _ (.tail _ (.head _))))) hrH hps (by omega) (by omega) hnc (by omega) hlc (by omega) hvc (fun hs v h18 hvz e18 hD18 => ?_) (fun hs v TT n2 h18 hvz e18 hD18 hT0 hTT => ?_)
            · obtain ⟨zz, tz, rfl⟩ := hvz
              have F18 := F17.putE (.tail (.tail (.tail .head))) e18 hD18
              walk_at "w"
              refine turn_end F18 ⟨afterOf ps 2 nm (Str.ofString (toString (i : Int))), recs ++ [ps], uO', oO', DO', _, _, _, _, DK, _, _, DD, rfl, hsg, ⟨by walk_at "lk", by walk_at "lk", by walk_at "lk", by walk_at "lk", by walk_at "lk"⟩, hO', hOL', hrO', ?_, hrK', hrD', hok', hoks', by omega, hrl'⟩
              rw [ea, if_pos hs]
              exact hrH
            · obtain ⟨zz, tz, rfl⟩ := hvz
              obtain ⟨g9, F18, s9, hTT9⟩ := F17.freezeAt' hT0 (F17.putE (.tail (.tail (.tail .head))) e18 hD18) rfl hTT
              walk_at "w"
              refine turn_end F18 ⟨afterOf ps 2 nm (Str.ofString (toString (i : Int))), recs ++ [ps], uO', oO', DO', _, _, _, _, DK, _, _, DD, rfl, hsg.tr s9, ⟨by walk_at "lk", by walk_at "lk", by walk_at "lk", by walk_at "lk", by walk_at "lk"⟩, s9 _ _ hO', hOL', hrO'.keep s9, ?_, hrK'.keep s9, hrD'.keep s9, hok', hoks', by omega, hrl'⟩
              rw [ea, if_neg (by rw [hs]; simp), List.map_append]
              exact (hrH.keep s9).snoc (rd_tuple hTT9 (.cons rd_str (.cons rd_str .nil)))
          · have h0 : ¬ nn.fmod 4 = 0 := by assumption
            have h1 : ¬ nn.fmod 4 = 1 := by assumption
            have h2 : ¬ nn.fmod 4 = 2 := by assumption
            rename Loc _ _ _ _ _ _ => F17
            have ea : afterOf ps (nn.fmod 4) nm (Str.ofString (toString (i : Int))) = ps ++ [(nm, Str.ofString (toString (i : Int)))] := by unfold afterOf; rw [if_neg h0, if_neg h1, if_neg (fun q => h2 q.1)]
            refine add_call (R.le (by omega)) X F17.sub (F17.led _ (.tail _ (.tail _ (.tail _ (.head _))))).2.2 H (F17.get (.tail _ (.tail _ (.tail _ (.head _))))) (by omega) (by omega) hnc (by omega) hvc fun t3 TT n2 h18 e18 hD18 hT0 hTT => ?_
            obtain ⟨g9, F18, s9, hTT9⟩ := F17.freezeAt' hT0 (F17.putE (.tail (.tail (.tail .head))) e18 hD18) rfl hTT
            walk_at "w"
            refine turn_end F18 ⟨afterOf ps (nn.fmod 4) nm (Str.ofString (toString (i : Int))), recs ++ [ps], uO', oO', DO', _, _, _, _, DK, _, _, DD, rfl, hsg.tr s9, ⟨by walk_at "lk", by walk_at "lk", by walk_at "lk", by walk_at "lk", by walk_at "lk"⟩, s9 _ _ hO', hOL', hrO'.keep s9, ?_, hrK'.keep s9, hrD'.keep s9, hok', hoks', by omega, hrl'⟩
            rw [ea, List.map_append]
            exact (hrH.keep s9).snoc (rd_tuple hTT9 (.cons rd_str (.cons rd_str .nil)))
        · walk_at "w"
          · exact absurd heqs (by assumption)
          refine turn_end F ⟨ps, recs ++ [ps], uO, oO, DO, uH, nH, _, _, DK, _, _, DD, rfl, hsg, ⟨by walk_at "lk", by walk_at "lk", by walk_at "lk", by walk_at "lk", by walk_at "lk"⟩, hO, hOL, hrO, hrH, ?_, ?_, hok, ?_, by omega, by simp; omega⟩
          · rw [List.map_append]; exact hrK
          · rw [List.map_append]; exact hrD
          · intro r hr
            rcases List.mem_append.mp hr with q | q
            · exact hoks r q
            · rw [List.mem_singleton.mp q]; exact hok
  · rintro g m led h₅ ⟨ps, recs, uO, oO, DO, uH, nH, kp, nk, DK, dd, nd, DD, rfl, sg, ⟨hm1, hm2, hm3, hm4, hm5⟩, hO, hOL, hrO, hrH, hrK, hrD, hok, hoks, hpl, hrl⟩ F
    have hlr : PyData.canLay0 (.list (recs.map recD)) = true := canLay_map fun r hr => canLay_rec (hoks r hr)
    have hdr := depth_map (d := recD) (n := 4) (l := recs) fun r _ => depth_rec r
    walk_at "w"
    refine eEq (rd_list (F.get (.tail _ (.head _))) (isL_listO _ _) (hrK.keep F.sub)) (rd_list (F.get (.head _)) (isL_listO _ _) (hrD.keep F.sub)) hlr hlr (by simp only [PyData.depth]; omega) ?_
    rw [PySem.SeqAt.eqv_refl _ hlr]
    exact k _ ((s05.tr sg6).tr (sg.tr F.sub))
end

set_option maxHeartbeats 8000000
theorem fin10 : PySem.Challenge.rw_dn0261_10.Holds := by
  refine Mine.hd ?_
  k_fill
  intro w s₀ s₁ mg mb G Y fa o pm cd doc dV kV ho hd hcd hD hmg hg args vals as hpre hlay hrd hwl hlo
  have KX := kIn_of Y
  wrow_args hpre hlay hrd hwl hlo
  clear ho hd
  rename IntsAre _ _ => hI
  rename Heap.IsList _ _ _ => hL
  rename (¬ (_ : Int) < _) => hlen
  have X : Amb (K7 w) mg mb s₁.heap := ⟨KX, G.T.g, G.T.b, G.T.builtins, G.T.nolimit⟩
  have hfa : fa = 196 := by
    have e := hmg.symm.trans (mg_of KX G.T.g (n := Str.ofString "law") (v := .ref 196) (by rfl))
    injection e with e
    injection e
  subst hfa
  obtain ⟨ol, hol, hlc, hld⟩ := hL
  refine wpAny_mono ((law_call (Q := fun v h' => v = .bool true ∧ Sub s₁.heap h') (E := fun _ _ => False) (A := callerA) ⟨rfl, by decide, by decide, rfl⟩ X hol ⟨hlc, hld⟩ hI (by omega) (fun h' s => ⟨rfl, s⟩)).run s₁ rfl) (fun v s' q => ?_) (fun e s' q => q.2.elim)
  obtain ⟨m, rfl, sub⟩ := q
  refine ⟨.inl ⟨.bool true, _, [], rfl, fun _ => rfl, .bool true, postW_of (by wrow_shape) (by wtm_val) (by str_meet; first | done | w_fin), fun _ => ⟨.nil, fun _ h => by cases h⟩⟩, .of_keep sub, ?_, .of_eq ?_⟩
  · rw [m]
  · rw [m]; exact hg
end Mine
theorem PySem.Challenge.cw_dn0261_10_holds : PySem.Challenge.rw_dn0261_10.Holds :=
  Mine.fin10
