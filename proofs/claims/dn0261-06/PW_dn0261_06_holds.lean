import PyProof.Rows.All
import Wide.All
import OpenK.AllK
import Wide.FinOn
import PySem.Challenge.RW_dn0261_06
set_option Elab.async false
set_option maxRecDepth 100000
set_option linter.unusedVariables false
open PySem PySem.W PyProof.Rows PySem.Calls
namespace Mine
abbrev Sub (g h : Heap) : Prop := ∀ b o, g.get? b = some o → h.get? b = some o
theorem Sub.rfl' {g : Heap} : Sub g g := fun _ _ e => e
theorem Sub.tr {a b c : Heap} (x : Sub a b) (y : Sub b c) : Sub a c := fun _ _ e => y _ _ (x _ _ e)

def Same (s s' : Shared) : Prop := s' = { s with heap := s'.heap, toks := s'.toks }
theorem Same.refl (s : Shared) : Same s s := rfl
theorem Same.mk' (s : Shared) (h : Heap) (tk : Nat) : Same s { s with heap := h, toks := tk } := rfl
theorem Same.trans {a b c : Shared} (x : Same a b) (y : Same b c) : Same a c := by
  unfold Same at *
  rw [x] at y
  exact y

/-- tree t, from heap h, ends in Q (value, heap) or raises into E -/
structure Ev {α : Type} (M : Model) (A : Around) (t : Sem α) (h : Heap) (Q : α → Heap → Prop) (E : Value → Heap → Prop) : Prop where
  run : ∀ s : Shared, s.heap = h → wpAny M A t (fun a s' => Same s s' ∧ Q a s'.heap) (fun e s' => Same s s' ∧ E e s'.heap) s

structure EvC (M : Model) (A : Around) (c : Code) (h : Heap) (R : Result → Heap → Prop) : Prop where
  run : ∀ s : Shared, s.heap = h → codeAny M A c (fun r s' => Same s s' ∧ R r s'.heap) s

section
variable {α β : Type} {M : Model} {A : Around} {h : Heap} {E : Value → Heap → Prop}

theorem Ev.use {t : Sem α} {Q : α → Heap → Prop} {s₀ s : Shared} {Q' : α → Shared → Prop} (k : Ev M A t h Q E) (hs : s.heap = h) (m : Same s₀ s)
    (f : ∀ a s', Same s₀ s' → Q a s'.heap → Q' a s') : wpAny M A t Q' (fun e s' => Same s₀ s' ∧ E e s'.heap) s :=
  wpAny_mono (k.run s hs) (fun a s' x => f a s' (m.trans x.1) x.2) fun _ _ x => ⟨m.trans x.1, x.2⟩

theorem Ev.mono {t : Sem α} {Q Q' : α → Heap → Prop} {E' : Value → Heap → Prop} (k : Ev M A t h Q E) (f : ∀ a h', Q a h' → Q' a h') (g : ∀ e h', E e h' → E' e h') : Ev M A t h Q' E' :=
  .mk fun s hs => wpAny_mono (k.run s hs) (fun a s' x => ⟨x.1, f _ _ x.2⟩) fun _ _ x => ⟨x.1, g _ _ x.2⟩
end

section
variable {M : Model} {A : Around} {h : Heap} {E : Value → Heap → Prop} {env : Env}

theorem execs_nil {Q : Flow → Heap → Prop} (k : Q .next h) : Ev M A (execs [] env) h Q E := .mk fun s hs => wpAny_execs_nil ⟨.refl s, hs ▸ k⟩
theorem execs_cons {st : Stmt} {rest : List Stmt} {Q : Flow → Heap → Prop}
    (k : Ev M A (exec st env) h (fun f h' => match f with | .next => Ev M A (execs rest env) h' Q E | f => Q f h') E) : Ev M A (execs (st :: rest) env) h Q E :=
  .mk fun s hs => wpAny_execs_cons (k.use hs (.refl s) fun f s' m k' => by cases f <;> first | exact Ev.use k' rfl m fun _ _ m₂ q => ⟨m₂, q⟩ | exact ⟨m, k'⟩)

theorem Const_int {i : Int} {n : Nat} {pos : Pos} {Q : Value → Heap → Prop} (k : ∀ tk, Q (.int i tk) h) : Ev M A (eval (.Constant (.int i) n pos) env) h Q E :=
  .mk fun s hs => wpAny_Constant_int ⟨rfl, hs ▸ k _⟩
theorem Const_str {x : Str} {n : Nat} {pos : Pos} {Q : Value → Heap → Prop} (k : ∀ tk, Q (.str x tk) h) : Ev M A (eval (.Constant (.str x) n pos) env) h Q E :=
  .mk fun s hs => wpAny_Constant_str ⟨rfl, hs ▸ k _⟩
theorem Const_none {n : Nat} {pos : Pos} {Q : Value → Heap → Prop} (k : Q .none h) : Ev M A (eval (.Constant .none n pos) env) h Q E :=
  .mk fun s hs => wpAny_Constant_none ⟨rfl, hs ▸ k⟩
theorem Const_bool {b : Bool} {n : Nat} {pos : Pos} {Q : Value → Heap → Prop} (k : Q (.bool b) h) : Ev M A (eval (.Constant (.bool b) n pos) env) h Q E :=
  .mk fun s hs => wpAny_Constant_bool ⟨rfl, hs ▸ k⟩

theorem Compare1 {l r : Expr} {op : CmpOp} {pos : Pos} {Q : Value → Heap → Prop}
    (k : Ev M A (eval l env) h (fun a h₁ => Ev M A (eval r env) h₁ (fun b h₂ => Ev M A (compareOp op a b) h₂ Q E) E) E)
    (hm : behindInMarks op r = false := by with_unfolding_all rfl) : Ev M A (eval (.Compare l [op] [r] pos) env) h Q E :=
  .mk fun s hs => wpAny_Compare1 (k.use hs (.refl s) fun _ _ m₁ k₁ => k₁.use rfl m₁ fun _ _ m₂ k₂ => k₂.use rfl m₂ fun _ _ m₃ q => ⟨m₃, q⟩) hm
theorem BinOp_ {l r : Expr} {op : Operator} {pos : Pos} {Q : Value → Heap → Prop}
    (k : Ev M A (eval l env) h (fun a h₁ => Ev M A (eval r env) h₁ (fun b h₂ => Ev M A (binaryOp op a b) h₂ Q E) E) E) : Ev M A (eval (.BinOp l op r pos) env) h Q E :=
  .mk fun s hs => wpAny_BinOp (k.use hs (.refl s) fun _ _ m₁ k₁ => k₁.use rfl m₁ fun _ _ m₂ k₂ => k₂.use rfl m₂ fun _ _ m₃ q => ⟨m₃, q⟩)
theorem UnaryOp_ {op : UnaryOp} {x : Expr} {pos : Pos} {Q : Value → Heap → Prop} (k : Ev M A (eval x env) h (fun v h₁ => Ev M A (unaryOp op v) h₁ Q E) E) : Ev M A (eval (.UnaryOp op x pos) env) h Q E :=
  .mk fun s hs => wpAny_UnaryOp (k.use hs (.refl s) fun _ _ m₁ k₁ => k₁.use rfl m₁ fun _ _ m₃ q => ⟨m₃, q⟩)
theorem IfExp_ {test body orelse : Expr} {pos : Pos} {Q : Value → Heap → Prop}
    (k : Ev M A (isTrue test env (eval test env)) h (fun b h₁ => if b then Ev M A (eval body env) h₁ Q E else Ev M A (eval orelse env) h₁ Q E) E) : Ev M A (eval (.IfExp test body orelse pos) env) h Q E :=
  .mk fun s hs => wpAny_IfExp (k.use hs (.refl s) fun b _ m₁ k₁ => by cases b <;> exact Ev.use k₁ rfl m₁ fun _ _ m₃ q => ⟨m₃, q⟩)
theorem If_ {test : Expr} {body orelse : List Stmt} {pos : Pos} {Q : Flow → Heap → Prop}
    (k : Ev M A (isTrue test env (eval test env)) h (fun b h₁ => if b then Ev M A (execs body env) h₁ Q E else Ev M A (execs orelse env) h₁ Q E) E) : Ev M A (exec (.If test body orelse pos) env) h Q E :=
  .mk fun s hs => wpAny_If (k.use hs (.refl s) fun b _ m₁ k₁ => by cases b <;> exact Ev.use k₁ rfl m₁ fun _ _ m₃ q => ⟨m₃, q⟩)
theorem isTrue_Compare1 {l r : Expr} {op : CmpOp} {pos : Pos} {whole : Sem Value} {Q : Bool → Heap → Prop}
    (k : Ev M A (eval l env) h (fun a h₁ => Ev M A (eval r env) h₁ (fun b h₂ => Ev M A (compareOp op a b) h₂ (fun c h₃ => Ev M A (truthy c) h₃ Q E) E) E) E)
    (hm : behindInMarks op r = false := by with_unfolding_all rfl) : Ev M A (isTrue (.Compare l [op] [r] pos) env whole) h Q E :=
  .mk fun s hs => wpAny_isTrue_Compare1 (k.use hs (.refl s) fun _ _ m₁ k₁ => k₁.use rfl m₁ fun _ _ m₂ k₂ => k₂.use rfl m₂ fun _ _ m₃ k₃ => k₃.use rfl m₃ fun _ _ m₄ q => ⟨m₄, q⟩) hm
theorem isTrue_Not {x : Expr} {pos : Pos} {whole : Sem Value} {Q : Bool → Heap → Prop} (k : Ev M A (isTrue x env (eval x env)) h (fun b h₁ => Q (!b) h₁) E) : Ev M A (isTrue (.UnaryOp .Not x pos) env whole) h Q E :=
  .mk fun s hs => wpAny_isTrue_Not (k.use hs (.refl s) fun _ _ m q => ⟨m, q⟩)
theorem isTrue_value {e : Expr} {whole : Sem Value} {Q : Bool → Heap → Prop} (k : Ev M A whole h (fun v h₁ => Ev M A (truthy v) h₁ Q E) E)
    (he : isTrue e env whole = (do let v ← whole; standAt e.pos; holding [v] (truthy v)) := by rfl) : Ev M A (isTrue e env whole) h Q E :=
  .mk fun s hs => wpAny_isTrue_value (k.use hs (.refl s) fun _ _ m₁ k₁ => k₁.use rfl m₁ fun _ _ m₂ q => ⟨m₂, q⟩) he
theorem isTrue_BoolOp {op : BoolOp} {values : List Expr} {pos : Pos} {whole : Sem Value} {Q : Bool → Heap → Prop} (k : Ev M A (allTrue op values env) h Q E) : Ev M A (isTrue (.BoolOp op values pos) env whole) h Q E :=
  .mk fun s hs => wpAny_isTrue_BoolOp (k.run s hs)
theorem allTrue_And_nil {Q : Bool → Heap → Prop} (k : Q true h) : Ev M A (allTrue .And [] env) h Q E := .mk fun s hs => wpAny_allTrue_And_nil ⟨.refl s, hs ▸ k⟩
theorem allTrue_Or_nil {Q : Bool → Heap → Prop} (k : Q false h) : Ev M A (allTrue .Or [] env) h Q E := .mk fun s hs => wpAny_allTrue_Or_nil ⟨.refl s, hs ▸ k⟩
theorem allTrue_And_cons {x : Expr} {rest : List Expr} {Q : Bool → Heap → Prop} (k : Ev M A (isTrue x env (eval x env)) h (fun b h₁ => if b then Ev M A (allTrue .And rest env) h₁ Q E else Q false h₁) E) :
    Ev M A (allTrue .And (x :: rest) env) h Q E :=
  .mk fun s hs => wpAny_allTrue_And_cons (k.use hs (.refl s) fun b _ m₁ k₁ => by cases b <;> first | exact ⟨m₁, k₁⟩ | exact Ev.use k₁ rfl m₁ fun _ _ m₃ q => ⟨m₃, q⟩)
theorem allTrue_Or_cons {x : Expr} {rest : List Expr} {Q : Bool → Heap → Prop} (k : Ev M A (isTrue x env (eval x env)) h (fun b h₁ => if b then Q true h₁ else Ev M A (allTrue .Or rest env) h₁ Q E) E) :
    Ev M A (allTrue .Or (x :: rest) env) h Q E :=
  .mk fun s hs => wpAny_allTrue_Or_cons (k.use hs (.refl s) fun b _ m₁ k₁ => by cases b <;> first | exact ⟨m₁, k₁⟩ | exact Ev.use k₁ rfl m₁ fun _ _ m₃ q => ⟨m₃, q⟩)
theorem truthy_bool {b : Bool} {Q : Bool → Heap → Prop} (k : Q b h) : Ev M A (truthy (.bool b)) h Q E := .mk fun s hs => wpAny_truthy_bool ⟨.refl s, hs ▸ k⟩
theorem Return_ {e : Expr} {pos : Pos} {Q : Flow → Heap → Prop} (k : Ev M A (eval e env) h (fun v => Q (.ret v)) E) : Ev M A (exec (.Return (some e) pos) env) h Q E :=
  .mk fun s hs => wpAny_Return_some (k.use hs (.refl s) fun _ _ m q => ⟨m, q⟩)
theorem Assign_Name {x : Str} {pos' pos : Pos} {value : Expr} {Q : Flow → Heap → Prop}
    (k : Ev M A (eval value env) h (fun v h₁ => Ev M A (storeName env x v) h₁ (fun _ => Q .next) E) E)
    (hsw : swapsWith value (some (.Name x pos')) pos.line env = pure false := by rfl) : Ev M A (exec (.Assign [.Name x pos'] value pos) env) h Q E :=
  .mk fun s hs => wpAny_Assign_Name (k.use hs (.refl s) fun _ _ m₁ k₁ => k₁.use rfl m₁ fun _ _ m₂ q => ⟨m₂, q⟩) hsw
theorem AugAssign_Name {x : Str} {pos' pos : Pos} {op : Operator} {value : Expr} {Q : Flow → Heap → Prop}
    (k : Ev M A (loadName env x) h (fun old h₁ => Ev M A (eval value env) h₁ (fun v h₂ => Ev M A (inplaceOp op old v) h₂ (fun r h₃ => Ev M A (storeName env x r) h₃ (fun _ => Q .next) E) E) E) E) :
    Ev M A (exec (.AugAssign (.Name x pos') op value pos) env) h Q E :=
  .mk fun s hs => wpAny_AugAssign_Name (k.use hs (.refl s) fun _ _ m₁ k₁ => k₁.use rfl m₁ fun _ _ m₂ k₂ => k₂.use rfl m₂ fun _ _ m₃ k₃ => k₃.use rfl m₃ fun _ _ m₄ q => ⟨m₄, q⟩)
theorem items_nil {pos : Pos} {Q : List Value → Heap → Prop} (k : Q [] h) : Ev M A (spliced (backTo pos (starEach [] env))) h Q E := .mk fun s hs => wpAny_items_nil ⟨.refl s, hs ▸ k⟩
theorem items_cons {pos : Pos} {e : Expr} {rest : List Expr} {Q : List Value → Heap → Prop}
    (k : Ev M A (eval e env) h (fun v h₁ => Ev M A (spliced (backTo pos (starEach rest env))) h₁ (fun vs h₂ => Q (v :: vs) h₂) E) E)
    (he : starEach (e :: rest) env = (false, eval e env) :: starEach rest env := by rfl) : Ev M A (spliced (backTo pos (starEach (e :: rest) env))) h Q E :=
  .mk fun s hs => wpAny_items_cons (k.use hs (.refl s) fun _ _ m₁ k₁ => k₁.use rfl m₁ fun _ _ m₂ q => ⟨m₂, q⟩) he
theorem isNot_none' {v : Value} {Q : Value → Heap → Prop} (k : Q (.bool (!(v == .none))) h) : Ev M A (compareOp .IsNot v .none) h Q E := .mk fun s hs => isNot_none ⟨.refl s, hs ▸ k⟩
end

/-- frozen heap g kept; frame L with names m; ledger led of the call's own mutable objects -/
structure Loc (g : Heap) (L : Addr) (cs : List (Str × Addr)) (m : Str → Option Value) (ld : List (Addr × Obj)) (h : Heap) : Prop where
  sub : Sub g h
  ns : ∃ m₀, h.Ns L m₀ ∧ ∀ x, cs.lookup x = none → m₀ x = m x
  gL : g.get? L = none
  led : ∀ p ∈ ld, h.get? p.1 = some p.2 ∧ p.1 ≠ L ∧ g.get? p.1 = none
  nd : (ld.map (·.1)).Nodup
  cell : ∀ x c, cs.lookup x = some c → h.IsCell c (m x)
  capart : ∀ x y c, cs.lookup x = some c → cs.lookup y = some c → x = y
  cnew : ∀ x c, cs.lookup x = some c → c ≠ L ∧ g.get? c = none ∧ ∀ p ∈ ld, p.1 ≠ c

inductive Put (a : Addr) (o o' : Obj) : List (Addr × Obj) → List (Addr × Obj) → Prop
  | head {l : List (Addr × Obj)} : Put a o o' ((a, o) :: l) ((a, o') :: l)
  | tail {p : Addr × Obj} {l l' : List (Addr × Obj)} : Put a o o' l l' → Put a o o' (p :: l) (p :: l')

theorem Put.mem {a : Addr} {o o' : Obj} {l l' : List (Addr × Obj)} (h : Put a o o' l l') : (a, o) ∈ l := by
  induction h with
  | head => exact .head _
  | tail _ ih => exact .tail _ ih
theorem Put.addrs {a : Addr} {o o' : Obj} {l l' : List (Addr × Obj)} (h : Put a o o' l l') : l'.map (·.1) = l.map (·.1) := by
  induction h with
  | head => rfl
  | tail _ ih => simp [ih]
theorem Put.cases' {a : Addr} {o o' : Obj} {l l' : List (Addr × Obj)} (h : Put a o o' l l') (nd : (l.map (·.1)).Nodup) : ∀ p ∈ l', p = (a, o') ∨ (p ∈ l ∧ p.1 ≠ a) := by
  induction h with
  | @head l =>
    intro p hp
    rcases List.mem_cons.mp hp with e | e
    · exact .inl e
    · refine .inr ⟨.tail _ e, fun q => ?_⟩
      simp only [List.map_cons, List.nodup_cons] at nd
      exact nd.1 (List.mem_map.mpr ⟨p, e, q⟩)
  | @tail q l l' hl ih =>
    intro p hp
    simp only [List.map_cons, List.nodup_cons] at nd
    rcases List.mem_cons.mp hp with e | e
    · subst e
      refine .inr ⟨.head _, fun q => nd.1 (List.mem_map.mpr ⟨(a, o), hl.mem, q.symm⟩)⟩
    · rcases ih nd.2 p e with h1 | h1
      · exact .inl h1
      · exact .inr ⟨.tail _ h1.1, h1.2⟩

section
variable {g h h' : Heap} {L a : Addr} {cs : List (Str × Addr)} {m m' : Str → Option Value} {led led' : List (Addr × Obj)} {o o' : Obj}

theorem isCell_keep {h h' : Heap} {c : Addr} {v : Option Value} (x : h.IsCell c v) (e : ∀ o, h.get? c = some o → h'.get? c = some o) : h'.IsCell c v := let ⟨o, ho, r⟩ := x; ⟨o, e o ho, r⟩
theorem Loc.lt (F : Loc g L cs m led h) : ∃ o, h.get? L = some o := let ⟨_, ⟨o, _, _, ho, _⟩, _⟩ := F.ns; ⟨o, ho⟩
/-- one address of the call's own changes; all else stands -/
theorem Loc.ext (F : Loc g L cs m led h) (ha : g.get? a = none) (haL : a ≠ L) (hled : ∀ p ∈ led, p.1 ≠ a) (hc : ∀ x c, cs.lookup x = some c → c ≠ a) (e : Heap.ExtBut a h h') : Loc g L cs m led h' := by
  refine ⟨fun b x q => e b x (fun z => by rw [z, ha] at q; cases q) (F.sub b x q), ?_, F.gL, fun p hp => ⟨e _ _ (hled p hp) (F.led p hp).1, (F.led p hp).2⟩, F.nd, fun x c q => isCell_keep (F.cell x c q) fun o z => e _ _ (hc x c q) z, F.capart, F.cnew⟩
  obtain ⟨m₀, n, r⟩ := F.ns
  exact ⟨m₀, n.extBut e (Ne.symm haL), r⟩
theorem Loc.keep (F : Loc g L cs m led h) (e : Sub h h') : Loc g L cs m led h' := by
  refine ⟨F.sub.tr e, ?_, F.gL, fun p hp => ⟨e _ _ (F.led p hp).1, (F.led p hp).2⟩, F.nd, fun x c q => isCell_keep (F.cell x c q) fun o z => e _ _ z, F.capart, F.cnew⟩
  obtain ⟨m₀, n, r⟩ := F.ns
  exact ⟨m₀, n.keeps e, r⟩
theorem Loc.get (F : Loc g L cs m led h) (hm : (a, o) ∈ led) : h.get? a = some o := (F.led _ hm).1
theorem Loc.set {x : Str} {v : Value} (F : Loc g L cs m led h) (hx : cs.lookup x = none) {m₀ : Str → Option Value} (hr : ∀ y, cs.lookup y = none → m₀ y = m y) (hn : h'.Ns L (fun y => if y = x then some v else m₀ y)) (hs : Heap.SameBut L h h') : Loc g L cs (fun y => if y = x then some v else m y) led h' := by
  refine ⟨fun b o e => (hs.2 b (fun q => by rw [q, F.gL] at e; cases e)).trans (F.sub b o e), ⟨_, hn, fun y hy => ?_⟩, F.gL, fun p hp => ⟨(hs.2 _ (F.led p hp).2.1).trans (F.led p hp).1, (F.led p hp).2⟩, F.nd, fun y c q => ?_, F.capart, F.cnew⟩
  · simp only [hr y hy]
  · have : y ≠ x := fun z => by rw [z, hx] at q; cases q
    simp only [this, if_false]
    exact isCell_keep (F.cell y c q) fun o z => (hs.2 _ (F.cnew y c q).1).trans z
theorem Loc.setC {x : Str} {v : Value} {c : Addr} (F : Loc g L cs m led h) (hx : cs.lookup x = some c) (hn : h'.IsCell c (some v)) (hs : Heap.SameBut c h h') : Loc g L cs (fun y => if y = x then some v else m y) led h' := by
  have D := F.cnew x c hx
  obtain ⟨m₀, n, r⟩ := F.ns
  refine ⟨fun b o e => (hs.2 b (fun q => by rw [q, D.2.1] at e; cases e)).trans (F.sub b o e), ⟨m₀, n.sameBut hs (Ne.symm D.1), fun y hy => ?_⟩, F.gL, fun p hp => ⟨(hs.2 _ (D.2.2 p hp)).trans (F.led p hp).1, (F.led p hp).2⟩, F.nd, fun y d q => ?_, F.capart, F.cnew⟩
  · have : y ≠ x := fun z => by rw [z, hx] at hy; cases hy
    simp only [this, if_false, r y hy]
  · by_cases hy : y = x
    · subst hy
      rw [hx] at q; cases q
      simpa using hn
    · simp only [hy, if_false]
      exact isCell_keep (F.cell y d q) fun o z => (hs.2 _ (fun e => hy (F.capart y x c (e ▸ q) hx))).trans z
theorem Loc.putE (F : Loc g L cs m led h) (P : Put a o o' led led') (hs : Heap.ExtBut a h h') (ho : h'.get? a = some o') : Loc g L cs m led' h' := by
  have D := F.led _ P.mem
  obtain ⟨m₀, n, r⟩ := F.ns
  refine ⟨fun b x e => hs b x (fun q => by rw [q, D.2.2] at e; cases e) (F.sub b x e), ⟨m₀, n.extBut hs (Ne.symm D.2.1), r⟩, F.gL, fun p hp => ?_, P.addrs ▸ F.nd,
    fun x c q => isCell_keep (F.cell x c q) fun o z => hs _ _ (Ne.symm ((F.cnew x c q).2.2 _ P.mem)) z, F.capart, fun x c q => ⟨(F.cnew x c q).1, (F.cnew x c q).2.1, fun p hp => ?_⟩⟩
  · rcases P.cases' F.nd p hp with rfl | ⟨h1, h2⟩
    · exact ⟨ho, D.2⟩
    · exact ⟨hs _ _ h2 (F.led p h1).1, (F.led p h1).2⟩
  · rcases P.cases' F.nd p hp with rfl | ⟨h1, h2⟩
    · have := (F.cnew x c q).2.2 (a, o) P.mem; exact this
    · exact (F.cnew x c q).2.2 p h1
theorem Loc.put (F : Loc g L cs m led h) (P : Put a o o' led led') (hs : Heap.SameBut a h h') (ho : h'.get? a = some o') : Loc g L cs m led' h' := F.putE P hs.extBut ho
theorem Loc.new (F : Loc g L cs m led h) (o : Obj) (hf : o.isFreed = false := by rfl) : Loc g L cs m ((h.objs.size, o) :: led) (h.push o) := by
  have lt : ∀ {b x}, h.get? b = some x → b ≠ h.objs.size := fun e => Nat.ne_of_lt (Heap.lt_size e)
  obtain ⟨oL, hL⟩ := F.lt
  have K := F.keep (h' := h.push o) fun b x e => Heap.get?_push_of_some _ e
  refine ⟨K.sub, K.ns, K.gL, fun p hp => ?_, ?_, K.cell, K.capart, fun x c q => ⟨(K.cnew x c q).1, (K.cnew x c q).2.1, fun p hp => ?_⟩⟩
  · rcases List.mem_cons.mp hp with rfl | hp
    · refine ⟨Heap.get?_push_size _ hf, (lt hL).symm, ?_⟩
      cases q : g.get? h.objs.size with
      | none => rfl
      | some x => exact absurd rfl (lt (F.sub _ _ q))
    · exact K.led p hp
  · simp only [List.map_cons, List.nodup_cons]
    refine ⟨fun q => ?_, F.nd⟩
    obtain ⟨p, hp, e⟩ := List.mem_map.mp q
    exact lt (F.led p hp).1 e
  · rcases List.mem_cons.mp hp with rfl | hp
    · obtain ⟨oc, hoc, _⟩ := F.cell x c q
      exact (lt hoc).symm
    · exact (F.cnew x c q).2.2 p hp
theorem Loc.drop {p : Addr × Obj} (F : Loc g L cs m (p :: led) h) : Loc g L cs m led h :=
  ⟨F.sub, F.ns, F.gL, fun q hq => F.led q (.tail _ hq), by have := F.nd; simp only [List.map_cons, List.nodup_cons] at this; exact this.2, F.cell, F.capart, fun x c q => ⟨(F.cnew x c q).1, (F.cnew x c q).2.1, fun p hp => (F.cnew x c q).2.2 p (.tail _ hp)⟩⟩
theorem Loc.only (F : Loc g L cs m led h) (hs : ∀ p ∈ led', p ∈ led) (nd : (led'.map (·.1)).Nodup) : Loc g L cs m led' h :=
  ⟨F.sub, F.ns, F.gL, fun q hq => F.led q (hs q hq), nd, F.cell, F.capart, fun x c q => ⟨(F.cnew x c q).1, (F.cnew x c q).2.1, fun p hp => (F.cnew x c q).2.2 p (hs p hp)⟩⟩
theorem Loc.extDrop (F : Loc g L cs m ((a, o) :: led) h) (hs : Heap.ExtBut a h h') : Loc g L cs m led h' := by
  have D := F.led _ (.head _)
  have nd := F.nd
  simp only [List.map_cons, List.nodup_cons] at nd
  exact F.drop.ext D.2.2 D.2.1 (fun p hp q => nd.1 (List.mem_map.mpr ⟨p, hp, q⟩)) (fun x c q => Ne.symm ((F.cnew x c q).2.2 _ (.head _))) hs
theorem none_sub {g g' : Heap} (e : Sub g' g) {b : Addr} (q : g.get? b = none) : g'.get? b = none := by
  cases z : g'.get? b with
  | none => rfl
  | some x => have := e _ _ z; rw [q] at this; cases this
theorem mem_of_look {x : Str} {c : Addr} : ∀ {cs : List (Str × Addr)}, cs.lookup x = some c → c ∈ cs.map (·.2)
  | (y, d) :: r, q => by
    rw [List.lookup_cons] at q
    cases hb : x == y with
    | true => rw [hb] at q; cases q; exact .head _
    | false => rw [hb] at q; exact .tail _ (mem_of_look q)
/-- what is in the heap, but neither frame nor ledger nor cell, may be frozen -/
theorem Loc.freeze (F : Loc g L cs m led h) : ∃ g', Loc g' L cs m led h ∧ Sub g g' ∧ ∀ b o, h.get? b = some o → b ≠ L → (∀ p ∈ led, p.1 ≠ b) → (∀ x, cs.lookup x ≠ some b) → g'.get? b = some o := by
  obtain ⟨keepB, hk⟩ : ∃ hid : List Addr, ∀ b, b ∈ hid ↔ (b = L ∨ (∃ p ∈ led, p.1 = b) ∨ ∃ x, cs.lookup x = some b) := by
    classical
    refine ⟨L :: (led.map (·.1) ++ (cs.map (·.2)).filter fun b => decide (∃ x, cs.lookup x = some b)), fun b => ?_⟩
    simp only [List.mem_cons, List.mem_append, List.mem_map, List.mem_filter, decide_eq_true_eq]
    constructor
    · rintro (q | ⟨p, hp, e⟩ | ⟨_, q⟩)
      · exact .inl q
      · exact .inr (.inl ⟨p, hp, e⟩)
      · exact .inr (.inr q)
    · rintro (q | ⟨p, hp, e⟩ | ⟨x, q⟩)
      · exact .inl q
      · exact .inr (.inl ⟨p, hp, e⟩)
      · refine .inr (.inr ⟨?_, x, q⟩)
        obtain ⟨p, hp, e⟩ := List.mem_map.mp (mem_of_look q)
        exact ⟨p, hp, e⟩
  refine ⟨hideAll h keepB, ⟨fun b o e => of_hideAll _ e, F.ns, hideAll_none _ ((hk L).mpr (.inl rfl)), fun p hp => ⟨(F.led p hp).1, (F.led p hp).2.1, hideAll_none _ ((hk _).mpr (.inr (.inl ⟨p, hp, rfl⟩)))⟩, F.nd, F.cell, F.capart,
    fun x c q => ⟨(F.cnew x c q).1, hideAll_none _ ((hk _).mpr (.inr (.inr ⟨x, q⟩))), (F.cnew x c q).2.2⟩⟩, fun b o e => ?_, fun b o e h1 h2 h3 => ?_⟩
  · refine hideAll_get _ (F.sub b o e) fun q => ?_
    rcases (hk b).mp q with rfl | ⟨p, hp, rfl⟩ | ⟨x, hx⟩
    · rw [F.gL] at e; cases e
    · rw [(F.led p hp).2.2] at e; cases e
    · rw [(F.cnew x b hx).2.1] at e; cases e
  · refine hideAll_get _ e fun q => ?_
    rcases (hk b).mp q with rfl | ⟨p, hp, rfl⟩ | ⟨x, hx⟩
    · exact h1 rfl
    · exact h2 p hp rfl
    · exact h3 x hx
end

section
variable {M : Model} {A : Around} {g h : Heap} {E : Value → Heap → Prop} {env : Env} {L : Addr} {cs : List (Str × Addr)} {m : Str → Option Value} {led : List (Addr × Obj)} {x : Str} {v : Value} {pos : Pos} {Q : Value → Heap → Prop}

theorem load_L (F : Loc g L cs m led h) (hv : m x = some v) (k : Q v h) (hL : env.locals = L := by rfl) (hk : env.scope.kind = .function := by rfl) (hl : env.kindOf x = some .local := by rfl) (hc : cs.lookup x = none := by rfl) :
    Ev M A (loadName env x) h Q E := .mk fun s hs => by
  subst hs hL
  obtain ⟨m₀, n, r⟩ := F.ns
  exact wpAny_loadName_local hk hl n ((r x hc).trans hv) ⟨.refl s, k⟩
theorem Name_L (F : Loc g L cs m led h) (hv : m x = some v) (k : Q v h) (hL : env.locals = L := by rfl) (hk : env.scope.kind = .function := by rfl) (hl : env.kindOf x = some .local := by rfl) (hc : cs.lookup x = none := by rfl)
    (hd : (x == ("__debug__" : Str)) = false := by decide) : Ev M A (eval (.Name x pos) env) h Q E := .mk fun s hs => wpAny_Name ((load_L F hv k hL hk hl hc).run s hs) hd
theorem store_L {Q : Unit → Heap → Prop} (F : Loc g L cs m led h) (k : ∀ h', Loc g L cs (fun y => if y = x then some v else m y) led h' → Q () h') (hL : env.locals = L := by rfl)
    (hk : env.scope.kind = .function := by rfl) (hl : env.kindOf x = some .local := by rfl) (hc : cs.lookup x = none := by rfl) : Ev M A (storeName env x v) h Q E := .mk fun s hs => by
  subst hL hs
  obtain ⟨m₀, n, r⟩ := F.ns
  exact wpAny_storeName_local hl n (fun h' hn hb => ⟨rfl, k h' (F.set hc r hn hb)⟩) (by rw [hk]; rfl)

theorem load_C {c : Addr} (F : Loc g L cs m led h) (hv : m x = some v) (k : Q v h) (hk : env.scope.kind = .function := by rfl) (hl : env.kindOf x = some .cell := by rfl) (hc : env.cells.lookup x = some c := by rfl) (hcs : cs.lookup x = some c := by rfl) :
    Ev M A (loadName env x) h Q E := .mk fun s hs => by
  subst hs
  exact wpAny_loadName_cell hk hl hc (hv ▸ F.cell x c hcs) ⟨.refl s, k⟩
theorem Name_C {c : Addr} (F : Loc g L cs m led h) (hv : m x = some v) (k : Q v h) (hk : env.scope.kind = .function := by rfl) (hl : env.kindOf x = some .cell := by rfl) (hc : env.cells.lookup x = some c := by rfl) (hcs : cs.lookup x = some c := by rfl)
    (hd : (x == ("__debug__" : Str)) = false := by decide) : Ev M A (eval (.Name x pos) env) h Q E := .mk fun s hs => wpAny_Name ((load_C F hv k hk hl hc hcs).run s hs) hd
theorem store_C {c : Addr} {Q : Unit → Heap → Prop} (F : Loc g L cs m led h) (k : ∀ h', Loc g L cs (fun y => if y = x then some v else m y) led h' → Q () h')
    (hk : env.scope.kind = .function := by rfl) (hl : env.kindOf x = some .cell := by rfl) (hc : env.cells.lookup x = some c := by rfl) (hcs : cs.lookup x = some c := by rfl) : Ev M A (storeName env x v) h Q E := .mk fun s hs => by
  subst hs
  exact wpAny_storeName_cell hk hl hc (F.cell x c hcs) fun h' hn hb => ⟨rfl, k h' (F.setC hcs hn hb)⟩
end

/-- what the text's top left: the written part, globals, builtins -/
structure Amb (K : Frag) (mg mb : Str → Option Value) (h : Heap) : Prop where
  k : K.In h
  g : h.Ns mainGlobals mg
  b : h.Ns builtinsNs mb
  bb : ∀ x : Str, x ≠ "__name__" → mb x = bootBuiltins x
  lim : h.NoLimit
theorem Amb.keep {K : Frag} {mg mb : Str → Option Value} {h h' : Heap} (X : Amb K mg mb h) (e : Sub h h') : Amb K mg mb h' :=
  ⟨X.k.keeps e, X.g.keeps e, X.b.keeps e, X.bb, X.lim.keeps e⟩

section
variable {M : Model} {A : Around} {g h : Heap} {E : Value → Heap → Prop} {env : Env} {K : Frag} {mg mb : Str → Option Value} {x : Str} {v : Value} {pos : Pos} {Q : Value → Heap → Prop}
theorem Name_G (X : Amb K mg mb h) (e : nsIn K mainGlobals x = some (some v)) (k : Q v h) (hg : env.globals = mainGlobals := by rfl) (hk : env.scope.kind = .function := by rfl) (hx : env.kindOf x = some .globalImplicit := by rfl)
    (hd : (x == ("__debug__" : Str)) = false := by decide) : Ev M A (eval (.Name x pos) env) h Q E := .mk fun s hs => by
  subst hs
  exact Name_function_global hk hx (loadGlobal_global (hg ▸ X.g) (mg_of X.k X.g e) ⟨.refl s, k⟩) hd
theorem Name_B (X : Amb K mg mb h) (e : nsIn K mainGlobals x = some none) (hv : bootBuiltins x = some v) (hn : x ≠ "__name__") (k : Q v h) (hg : env.globals = mainGlobals := by rfl) (hb : env.builtins = builtinsNs := by rfl)
    (hk : env.scope.kind = .function := by rfl) (hx : env.kindOf x = some .globalImplicit := by rfl) (hd : (x == ("__debug__" : Str)) = false := by decide) : Ev M A (eval (.Name x pos) env) h Q E := .mk fun s hs => by
  subst hs
  exact Name_function_global hk hx (loadGlobal_builtin (hg ▸ X.g) (mg_none_of X.k X.g e) (hb ▸ X.b) ((X.bb x hn).trans hv) ⟨.refl s, k⟩) hd
end

/-- room for n more frames -/
structure Rm (A : Around) (n : Nat) : Prop where
  hd : A.handled = none
  dp : A.depth + 2 * n < recursionLimit
  un : A.units + 8 * n + 100 < cLine
  gd : A.guards = some []

theorem Rm.deeper {A : Around} {n : Nat} {env : Env} (R : Rm A (n + 1)) : Rm (A.deeper env) n :=
  ⟨R.hd, by have := R.dp; show A.depth + 1 + 2 * n < _; omega, by have := R.un; show A.units + 3 + 8 * n + 100 < _; omega, R.gd⟩
theorem Rm.le {A : Around} {n k : Nat} (R : Rm A n) (hk : k ≤ n) : Rm A k := ⟨R.hd, by have := R.dp; omega, by have := R.un; omega, R.gd⟩

theorem get_size (h : Heap) : h.get? h.objs.size = none := by
  cases q : h.get? h.objs.size with
  | none => rfl
  | some x => exact absurd (Heap.lt_size q) (Nat.lt_irrefl _)

section
variable {prog : Program} {w : World} {A : Around} {h : Heap} {E : Value → Heap → Prop} {K : Frag} {mg mb : Str → Option Value} {Q : Value → Heap → Prop}
theorem cells_kind : ∀ (names : List (Str × NameKind)) (n : Nat) (acc : List (Str × Addr)), (names.map (·.1)).Nodup → ∀ (y : Str) (c : Addr), (∀ z d, (z, d) ∈ acc → z ≠ y) → (cellsFrom n names acc).lookup y = some c → names.lookup y = some .cell
  | [], _, acc, _, y, c, ha, q => absurd rfl (ha y c (mem_of_lookup q))
  | (x, k) :: r, n, acc, nd, y, c, ha, q => by
    simp only [List.map_cons, List.nodup_cons] at nd
    unfold cellsFrom at q
    by_cases hk : (k == NameKind.cell) = true
    · rw [if_pos hk] at q
      by_cases hy : y = x
      · subst hy
        rw [List.lookup_cons, beq_self_eq_true, beq_iff_eq.mp hk]
      · have : (y == x) = false := by simpa using hy
        rw [List.lookup_cons, this]
        refine cells_kind r (n + 1) ((x, n) :: acc) nd.2 y c (fun z d hm => ?_) q
        rcases List.mem_cons.mp hm with e | hm
        · cases e; exact fun e => hy e.symm
        · exact ha z d hm
    · rw [if_neg hk] at q
      have := cells_kind r n acc nd.2 y c ha q
      by_cases hy : y = x
      · subst hy
        exact absurd (List.mem_map.mpr ⟨_, mem_of_lookup this, rfl⟩) nd.1
      · have hb : (y == x) = false := by simpa using hy
        rw [List.lookup_cons, hb]; exact this
/-- a def of the text that has no cells is called, and raises nothing -/
theorem call_fn {f : Addr} {oc : Value} {od : Option Addr} {osl : Array (Option Value)} {fd : FuncData} {body : List Stmt} {pos : List Value} {kw : List (Str × Value)} {binds : List (Str × Value)}
    (X : Amb K mg mb h) (ho : K.lookup f = some ⟨oc, od, .func fd, osl⟩) (hcd : codeIn K fd.code fd.qualname = true) (hbody : fd.body = .stmts body) {n : Nat} (R : Rm A (n + 1))
    (hbind : ∀ s : Shared, s.heap = h → BindsTo s fd ⟨pos, kw⟩ binds) (hcell : (fd.scope.names.all fun x => x.2 != .cell) = true) (hloc : ((binds.map (·.1)).all fun y => fd.scope.names.lookup y == some .local) = true)
    (k : ∀ A' L h', Rm A' n → Loc h L [] (fun x => binds.reverse.lookup x) [] h' →
      Ev (model prog w) A' (execs body (callEnv fd L f)) h' (fun fl h'' => Q (match fl with | .ret v => v | _ => .none) h'') (fun _ _ => False))
    (hco : fd.scope.isCoroutine = false := by rfl) (hgen : fd.scope.isGenerator = false := by rfl) (hk : fd.scope.kind = .function := by rfl) :
    Ev (model prog w) A (call (.ref f) pos kw) h Q E := .mk fun s hs => by
  subst hs
  refine wpAny_call (codeAny_call_def (by have := R.dp; omega) (X.k _ _ ho) rfl X.lim (codeRec_of X.k hcd) hbody (hbind s rfl) (fun x hx => by have := List.all_eq_true.mp hcell x hx; simpa using this) (fun x hx => by have := List.all_eq_true.mp hloc x.1 (List.mem_map.mpr ⟨x, hx, rfl⟩); simpa using this) (fun h₀ hns hk₀ => ?_) hco hgen hk)
  have F : Loc s.heap s.heap.objs.size [] (fun x => binds.reverse.lookup x) [] h₀ := ⟨hk₀, ⟨_, hns, fun _ _ => rfl⟩, get_size _, fun _ hp => (by cases hp), List.nodup_nil, fun _ _ q => (by cases q), fun _ _ _ q => (by cases q), fun _ _ q => (by cases q)⟩
  exact wpAny_mono ((k _ _ _ R.deeper F).run _ rfl) (fun fl s' q => ⟨Same.trans (Same.mk' s _ _) q.1, q.2⟩) fun _ _ q => q.2.elim

/-- a def of the text whose names are in part kept in cells -/
theorem call_fnC {f : Addr} {oc : Value} {od : Option Addr} {osl : Array (Option Value)} {fd : FuncData} {body : List Stmt} {pos : List Value} {kw : List (Str × Value)} {binds : List (Str × Value)}
    (X : Amb K mg mb h) (ho : K.lookup f = some ⟨oc, od, .func fd, osl⟩) (hcd : codeIn K fd.code fd.qualname = true) (hbody : fd.body = .stmts body) {n : Nat} (R : Rm A (n + 1))
    (hbind : ∀ s : Shared, s.heap = h → BindsTo s fd ⟨pos, kw⟩ binds)
    (hkind : ((binds.map (·.1)).all fun y => fd.scope.names.lookup y == some .local || (fd.scope.names.lookup y == some .cell && ((cellsFrom 0 fd.scope.names []).map (·.1)).contains y)) = true)
    (hnn : (fd.scope.names.map (·.1)).Nodup) (hbn : (binds.map (·.1)).Nodup) {cs : Addr → List (Str × Addr)} (hcs : ∀ L, cellsFrom (L + 1) fd.scope.names [] = cs L)
    (k : ∀ A' L h', Rm A' n → Loc h L (cs L) (fun x => binds.reverse.lookup x) [] h' →
      Ev (model prog w) A' (execs body (callEnvC fd L f)) h' (fun fl h'' => Q (match fl with | .ret v => v | _ => .none) h'') (fun _ _ => False))
    (hclo : fd.closure = [] := by rfl) (hco : fd.scope.isCoroutine = false := by rfl) (hgen : fd.scope.isGenerator = false := by rfl) (hk : fd.scope.kind = .function := by rfl) :
    Ev (model prog w) A (call (.ref f) pos kw) h Q E := .mk fun s hs => by
  subst hs
  have hsub : ∀ (n : Nat) (y : Str), (cellsFrom n fd.scope.names []).lookup y = none ∨ fd.scope.names.lookup y = some .cell := fun n y => by
    cases q : (cellsFrom n fd.scope.names []).lookup y with
    | none => exact .inl rfl
    | some c => exact .inr (cells_kind fd.scope.names n [] hnn y c (fun _ _ hm => (by cases hm)) q)
  have hkd : ∀ x ∈ binds, fd.scope.names.lookup x.1 = some .local ∨ (fd.scope.names.lookup x.1 = some .cell ∧ ((cellsFrom (s.heap.objs.size + 1) fd.scope.names []).lookup x.1).isSome = true) := fun x hx => by
    have := List.all_eq_true.mp hkind x.1 (List.mem_map.mpr ⟨x, hx, rfl⟩)
    simp only [Bool.or_eq_true, Bool.and_eq_true, beq_iff_eq] at this
    refine this.imp id fun q => ⟨q.1, ?_⟩
    exact cellsFrom_some _ _ _ (.inl q.1)
  refine wpAny_call (codeAny_call_function (by have := R.dp; omega) (X.k _ _ ho) rfl hco hgen hbody (codeRec_of X.k hcd) ((hbind s rfl) _ _ _ _ ?_))
  rw [hclo]
  refine wpAny_newFunctionEnv_cells hk hkd fun env he s' x => ?_
  subst he
  refine ⟨X.lim.keeps x.toInCall.keep, codeAny_func ?_⟩
  obtain ⟨h₁, tk, rfl, hk₁⟩ := x.done
  have F : Loc s.heap s.heap.objs.size (cellsFrom (s.heap.objs.size + 1) fd.scope.names []) (fun x => binds.reverse.lookup x) [] h₁ := by
    have hbl : ∀ (kd : Str → Option NameKind) (bs : List (Str × Value)) (m : Str → Option Value), (bs.map (·.1)).Nodup → ∀ y, (kd y = some .local → bindL kd bs m y = (bs.reverse.lookup y).or (m y)) ∧ (kd y ≠ some .local → bindC kd bs m y = (bs.reverse.lookup y).or (m y)) := by
      intro kd bs
      induction bs with
      | nil => intro m _ y; exact ⟨fun _ => by simp [bindL], fun _ => by simp [bindC]⟩
      | cons b r ih =>
        obtain ⟨bn, bv⟩ := b
        intro m nd y
        simp only [List.map_cons, List.nodup_cons] at nd
        have e : ((bn, bv) :: r).reverse.lookup y = (r.reverse.lookup y).or (if y = bn then some bv else none) := by
          simp only [List.reverse_cons, List.lookup_append, List.lookup_cons, List.lookup_nil]
          by_cases hy : y = bn
          · subst hy; simp
          · have : (y == bn) = false := by simpa using hy
            simp [this, hy]
        constructor
        · intro hl
          unfold bindL
          rw [((ih _ nd.2 y).1 hl), e]
          by_cases hy : y = bn
          · subst hy; simp only [hl, if_true]; cases r.reverse.lookup y <;> simp
          · split <;> simp [hy]
        · intro hl
          unfold bindC
          rw [((ih _ nd.2 y).2 hl), e]
          by_cases hy : y = bn
          · subst hy; simp only [hl, if_false]; cases r.reverse.lookup y <;> simp
          · split <;> simp [hy]
    have kdE : ∀ y, (newEnv fd.scope s.heap.objs.size fd.globals (cellsFrom (s.heap.objs.size + 1) fd.scope.names []) (fd.qualname ++ ".<locals>.") (some f) fd.code none fd.builtins).kindOf y = fd.scope.names.lookup y := fun y => rfl
    refine ⟨hk₁, ⟨_, x.toInCall.ns, fun y hy => ?_⟩, get_size _, fun _ hp => (by cases hp), List.nodup_nil, fun y c hc => ?_, fun y z c h1 h2 => name_of_addr x.apart (mem_of_lookup h1) (mem_of_lookup h2), fun y c hc => ⟨Nat.ne_of_gt (x.above y c (mem_of_lookup hc)), ?_, fun _ hp => (by cases hp)⟩⟩
    · by_cases hl : fd.scope.names.lookup y = some .local
      · have := (hbl _ binds (fun _ => none) hbn y).1 ((kdE y).trans hl)
        simpa using this
      · have none1 : binds.reverse.lookup y = none := by
          cases q : binds.reverse.lookup y with
          | none => rfl
          | some v =>
            exfalso
            have hm := List.mem_reverse.mp (mem_of_lookup q)
            rcases hkd _ hm with h1 | ⟨_, h1⟩
            · exact hl h1
            · have hy' : (cellsFrom (s.heap.objs.size + 1) fd.scope.names []).lookup y = none := hy
              rw [hy'] at h1; cases h1
        have : ∀ (kd : Str → Option NameKind) (bs : List (Str × Value)) (m : Str → Option Value), kd y ≠ some .local → bindL kd bs m y = m y := by
          intro kd bs
          induction bs with
          | nil => intro m _; rfl
          | cons b r ih =>
            obtain ⟨bn, bv⟩ := b
            intro m hne
            unfold bindL
            rw [ih _ hne]
            split
            · rename_i h1
              have : y ≠ bn := fun z => hne (z ▸ h1)
              simp [this]
            · rfl
        show bindL _ binds (fun _ => none) y = _
        rw [this _ binds _ (by rw [kdE y]; exact hl), none1]
    · have hl : fd.scope.names.lookup y = some .cell := (hsub _ y).resolve_left (by rw [hc]; exact Option.some_ne_none c)
      have e := (hbl (newEnv fd.scope s.heap.objs.size fd.globals (cellsFrom (s.heap.objs.size + 1) fd.scope.names []) (fd.qualname ++ ".<locals>.") (some f) fd.code none fd.builtins).kindOf binds (fun _ => none) hbn y).2 (by rw [kdE y, hl]; decide)
      have := x.cell y c hc
      rw [e] at this
      simpa using this
    · cases q : s.heap.get? c with
      | none => rfl
      | some o =>
        have h1 := x.above y c (mem_of_lookup hc)
        exact absurd (Nat.lt_trans (Heap.lt_size q) h1) (Nat.lt_irrefl _)
  rw [hcs] at F
  exact wpAny_mono ((k _ _ _ R.deeper F).run _ rfl) (fun fl s' q => ⟨Same.trans (Same.mk' s _ _) q.1, q.2⟩) fun _ _ q => q.2.elim
end

abbrev No : Value → Heap → Prop := fun _ _ => False

theorem Ev.use0 {α : Type} {M : Model} {A : Around} {h : Heap} {t : Sem α} {Q : α → Heap → Prop} {s₀ s : Shared} {Q' : α → Shared → Prop} {E' : Value → Shared → Prop} (k : Ev M A t h Q No) (hs : s.heap = h) (m : Same s₀ s)
    (f : ∀ a s', Same s₀ s' → Q a s'.heap → Q' a s') : wpAny M A t Q' E' s :=
  wpAny_mono (k.run s hs) (fun a s' x => f a s' (m.trans x.1) x.2) fun _ _ x => x.2.elim

abbrev LoopP := Nat → Heap → (Str → Option Value) → List (Addr × Obj) → Prop

section
variable {prog : Program} {w : World} {A : Around} {env : Env} {target iter : Expr} {body : List Stmt} {pos : Pos} {h : Heap} {E : Value → Heap → Prop}

theorem For_ {orelse : List Stmt} {Q : Flow → Heap → Prop}
    (k : Ev (model prog w) A (eval iter env) h (fun xv h₁ => Ev (model prog w) A (pyIter xv) h₁ (fun it h₂ =>
      EvC (model prog w) A (.forLoop target it body orelse env) h₂ (fun r h' => match r with | .ok f => Q f h' | .error _ => False)) E) E)
    (hs : ∀ x, foldedSetIterable iter env x = pure x := by intro _; rfl) : Ev (model prog w) A (exec (.For target iter body orelse pos) env) h Q E :=
  .mk fun s hs' => wpAny_For (k.use hs' (.refl s) fun xv s₁ m₁ k₁ => k₁.use rfl m₁ fun it s₂ m₂ k₂ => codeAny_mono (k₂.run s₂ rfl) fun r s' q => by
    cases r with
    | ok f => exact ⟨m₂.trans q.1, q.2⟩
    | error e => exact q.2.elim) hs

/-- where the iterator's own objects stand -/
def Side (fp : List Addr) (I : Addr) (P : LoopP) : Prop := ∀ b ∈ fp, b = I ∨ ∃ o, ∀ i g m led, P i g m led → (g.get? b = some o ∨ (b, o) ∈ led)

theorem forLoop_walk {R : Result → Heap → Prop} {I L : Addr} {fp : List Addr} {n : Nat} {Pv : Nat → Value → Prop} {St : Nat → Heap → Prop} {g : Heap} {cs : List (Str × Addr)} {m : Str → Option Value} {led : List (Addr × Obj)} {o : Obj} (P : LoopP)
    (W : Walks prog w A I fp [I] n Pv St) (live : ∀ i h, St i h → ∃ o, h.get? I = some o) (side : Side fp I P)
    (go : ∀ i v s Q E, St i s.heap → Q () s → wpAny (model prog w) A (letOwnedTupleGo target (.ref I) v) Q E s)
    (F : Loc g L cs m ((I, o) :: led) h) (hst : St 0 h) (h0 : P 0 g m led)
    (turn : ∀ i v o g m led h, i < n → Pv i v → P i g m led → Loc g L cs m ((I, o) :: led) h →
      Ev (model prog w) A (assign target env v) h (fun _ h₁ => Ev (model prog w) A (execs body env) h₁ (fun fl h₂ => match fl with
        | .ret v => R (.ok (.ret v)) h₂
        | .brk => R (.ok .next) h₂
        | _ => ∃ g' m' led', P (i + 1) g' m' led' ∧ Loc g' L cs m' ((I, o) :: led') h₂) No) No)
    (done : ∀ g m led h, P n g m led → Loc g L cs m led h → R (.ok .next) h) :
    EvC (model prog w) A (.forLoop target (.ref I) body [] env) h R := .mk fun s hs => by
  refine codeAny_forLoop_any (fun k s' => ∃ i g m led o, Same s s' ∧ St i s'.heap ∧ P i g m led ∧ Loc g L cs m ((I, o) :: led) s'.heap ∧ i ≤ n ∧ k = n + 1 - i) ?_ (n + 1)
    ⟨0, g, m, led, o, .refl s, hs ▸ hst, h0, hs ▸ F, Nat.zero_le _, rfl⟩
  rintro k s' ⟨i, g, m, led, o, sm, sti, hP, F, hi, rfl⟩
  by_cases hlt : i < n
  · refine W.item i _ _ _ hlt sti fun v h₁ tk₁ hv st₁ hk₁ => ?_
    obtain ⟨o₁, ho₁⟩ := live _ _ st₁
    have F₁ : Loc g L cs m ((I, o₁) :: led) h₁ := F.putE .head (fun b x hb e => hk₁ b x (by simpa using hb) e) ho₁
    refine go (i + 1) v _ _ _ st₁ ?_
    refine (turn i v o₁ g m led h₁ hlt hv hP F₁).use0 rfl (sm.trans (Same.mk' s' h₁ tk₁)) fun _ s₂ m₂ k₂ => ?_
    refine k₂.use0 rfl m₂ fun fl s₃ m₃ q => ?_
    have fin : (∃ g' m' led', P (i + 1) g' m' led' ∧ Loc g' L cs m' ((I, o₁) :: led') s₃.heap) → ∃ k, k < n + 1 - i ∧ ∃ i g m led o, Same s s₃ ∧ St i s₃.heap ∧ P i g m led ∧ Loc g L cs m ((I, o) :: led) s₃.heap ∧ i ≤ n ∧ k = n + 1 - i := by
      rintro ⟨g', m', led', hP', F'⟩
      refine ⟨n + 1 - (i + 1), by omega, i + 1, g', m', led', o₁, m₃, W.frame _ _ _ st₁ (fun b hb x e => ?_), hP', F', hlt, rfl⟩
      rcases side b hb with rfl | ⟨ob, hob⟩
      · have := F'.get (.head _); rw [ho₁] at e; rw [← Option.some.inj e]; exact this
      · have old : h₁.get? b = some ob := (hob _ _ _ _ hP).elim (fun q => F₁.sub _ _ q) fun q => F₁.get (.tail _ q)
        rw [old] at e
        rw [← Option.some.inj e]
        exact (hob _ _ _ _ hP').elim (fun q => F'.sub _ _ q) fun q => F'.get (.tail _ q)
    cases fl with
    | ret v => exact ⟨m₃, q⟩
    | brk => exact ⟨m₃, q⟩
    | next => exact fin q
    | cont => exact fin q
  · have : i = n := by omega
    subst this
    refine W.done _ _ _ sti fun h₁ tk₁ hk₁ => wpAny_execs_nil ⟨sm.trans (Same.mk' s' h₁ tk₁), ?_⟩
    exact done g m led h₁ hP (F.extDrop fun b x hb e => hk₁ b x (by simpa using hb) e)

theorem go_name {x : Str} {px : Pos} {I : Addr} {v : Value} {s : Shared} {Q : Unit → Shared → Prop} {E : Value → Shared → Prop} (q : Q () s) : wpAny (model prog w) A (letOwnedTupleGo (.Name x px) (.ref I) v) Q E s := wpAny_pure q
theorem go_list {I l : Addr} {i : Nat} {v : Value} {s : Shared} {Q : Unit → Shared → Prop} {E : Value → Shared → Prop} (hit : s.heap.IsListIter I l i) (q : Q () s) : wpAny (model prog w) A (letOwnedTupleGo target (.ref I) v) Q E s := by
  cases target
  case Tuple elts k p =>
    cases v
    case ref T => exact wpAny_letOwnedTupleGo_listiter hit q
    all_goals exact wpAny_pure q
  case List elts p =>
    cases v
    case ref T => exact wpAny_letOwnedTupleGo_listiter (x1 := 0) (elts := elts) (pos := p) hit q
    all_goals exact wpAny_pure q
  all_goals exact wpAny_pure q

abbrev listO (vs : List Value) (n : Nat) : Obj := { cls := .type "list", data := .seq vs.toArray n }
/-- a list that stands, in the frozen heap or the ledger -/
def ListAt (a : Addr) (o : Obj) (g : Heap) (led : List (Addr × Obj)) : Prop := g.get? a = some o ∨ (a, o) ∈ led
def IsL (o : Obj) (vs : List Value) : Prop := o.cls = .type "list" ∧ ∃ n, o.data = .seq vs.toArray n
theorem isL_listO (vs : List Value) (n : Nat) : IsL (listO vs n) vs := ⟨rfl, n, rfl⟩
theorem IsL.isList {h : Heap} {a : Addr} {o : Obj} {vs : List Value} (x : IsL o vs) (ho : h.get? a = some o) : h.IsList a vs.toArray := ⟨o, ho, x.1, x.2⟩
theorem ListAt.get {a L : Addr} {o : Obj} {g h : Heap} {cs : List (Str × Addr)} {m : Str → Option Value} {led : List (Addr × Obj)} (x : ListAt a o g led) (F : Loc g L cs m led h) : h.get? a = some o := x.elim (fun q => F.sub _ _ q) fun q => F.get q

/-- a loop over a list that the turns leave alone -/
theorem loop_list {R : Result → Heap → Prop} {L ax : Addr} {oa : Obj} {vs : List Value} {g : Heap} {cs : List (Str × Addr)} {m : Str → Option Value} {led : List (Addr × Obj)} (P : LoopP) (hh : A.handled = none)
    (hl : IsL oa vs) (F : Loc g L cs m led h) (h0 : P 0 g m led) (side : ∀ i g m led, P i g m led → ListAt ax oa g led)
    (turn : ∀ i v I o g m led h, vs[i]? = some v → P i g m led → Loc g L cs m ((I, o) :: led) h →
      Ev (model prog w) A (assign target env v) h (fun _ h₁ => Ev (model prog w) A (execs body env) h₁ (fun fl h₂ => match fl with
        | .ret v => R (.ok (.ret v)) h₂
        | .brk => R (.ok .next) h₂
        | _ => ∃ g' m' led', P (i + 1) g' m' led' ∧ Loc g' L cs m' ((I, o) :: led') h₂) No) No)
    (done : ∀ g m led h, P vs.length g m led → Loc g L cs m led h → R (.ok .next) h) :
    Ev (model prog w) A (pyIter (.ref ax)) h (fun it h₂ => EvC (model prog w) A (.forLoop target it body [] env) h₂ R) E := .mk fun s hs => by
  subst hs
  have hax := (side _ _ _ _ h0).get F
  refine wpAny_pyIter_list (hl.isList hax) ⟨rfl, ?_⟩
  have hne : ax ≠ s.heap.objs.size := Nat.ne_of_lt (Heap.lt_size hax)
  refine forLoop_walk P (Walks.list hh s.heap.objs.size ax hne vs.toArray) (fun i h x => let ⟨o, ho, _⟩ := x.1; ⟨o, ho⟩) (fun b hb => ?_) (fun i v s Q E st q => go_list st.1 q) (F.new _)
    ⟨⟨_, Heap.get?_push_size _ rfl, rfl, rfl⟩, (hl.isList hax).push _⟩ h0 (fun i v o g m led h hi hv => turn i v _ o g m led h (by simpa using hv)) (by simpa using done)
  rcases List.mem_cons.mp hb with rfl | hb
  · exact .inl rfl
  · exact .inr ⟨oa, fun i g m led hP => by rw [List.mem_singleton.mp hb]; exact side i g m led hP⟩

/-- a loop over a text's signs -/
theorem loop_str {R : Result → Heap → Prop} {L : Addr} {x : Str} {t : Tok} {g : Heap} {cs : List (Str × Addr)} {m : Str → Option Value} {led : List (Addr × Obj)} {y : Str} {py : Pos} (P : LoopP) (hh : A.handled = none)
    (F : Loc g L cs m led h) (h0 : P 0 g m led)
    (turn : ∀ i c u I o g m led h, x.cps[i]? = some c → P i g m led → Loc g L cs m ((I, o) :: led) h →
      Ev (model prog w) A (assign (.Name y py) env (.str ⟨#[c]⟩ u)) h (fun _ h₁ => Ev (model prog w) A (execs body env) h₁ (fun fl h₂ => match fl with
        | .ret v => R (.ok (.ret v)) h₂
        | .brk => R (.ok .next) h₂
        | _ => ∃ g' m' led', P (i + 1) g' m' led' ∧ Loc g' L cs m' ((I, o) :: led') h₂) No) No)
    (done : ∀ g m led h, P x.cps.size g m led → Loc g L cs m led h → R (.ok .next) h) :
    Ev (model prog w) A (pyIter (.str x t)) h (fun it h₂ => EvC (model prog w) A (.forLoop (.Name y py) it body [] env) h₂ R) E := .mk fun s hs => by
  subst hs
  have key : ∀ ty : String, (∀ I, Walks prog w A I [I] [I] x.cps.size (SignAt x) (fun i h => h.IsStrIter I ty x t i)) →
      EvC (model prog w) A (.forLoop (.Name y py) (.ref s.heap.objs.size) body [] env) (s.heap.push { cls := .type ty, data := .fields #[.str x t, .int 0 0] }) R := fun ty W => by
    refine forLoop_walk P (W _) (fun i h x => let ⟨o, ho, _⟩ := x; ⟨o, ho⟩) (fun b hb => .inl (List.mem_singleton.mp hb)) (fun i v s Q E st q => go_name q) (F.new _)
      ⟨_, Heap.get?_push_size _ rfl, rfl, rfl⟩ h0 (fun i v o g m led h hi hv hP F => ?_) done
    obtain ⟨c, u, hc, rfl⟩ := hv
    exact turn i c u _ o g m led h hc hP F
  cases ha : x.cps.all (· < 128)
  · exact wpAny_pyIter_wide ha ⟨rfl, key _ fun I => Walks.strWide hh I x t⟩
  · exact wpAny_pyIter_ascii ha ⟨rfl, key _ fun I => Walks.strAscii hh I x t⟩

theorem assign_L {g : Heap} {L : Addr} {cs : List (Str × Addr)} {m : Str → Option Value} {led : List (Addr × Obj)} {x : Str} {v : Value} {px : Pos} {Q : Unit → Heap → Prop} (F : Loc g L cs m led h) (k : ∀ h', Loc g L cs (fun y => if y = x then some v else m y) led h' → Q () h') (hL : env.locals = L := by rfl)
    (hk : env.scope.kind = .function := by rfl) (hl : env.kindOf x = some .local := by rfl) (hc : cs.lookup x = none := by rfl) : Ev (model prog w) A (assign (.Name x px) env v) h Q E :=
  .mk fun s hs => wpAny_assign_Name ((store_L F k hL hk hl hc).run s hs)
theorem assign_C {g : Heap} {L c : Addr} {cs : List (Str × Addr)} {m : Str → Option Value} {led : List (Addr × Obj)} {x : Str} {v : Value} {px : Pos} {Q : Unit → Heap → Prop} (F : Loc g L cs m led h) (k : ∀ h', Loc g L cs (fun y => if y = x then some v else m y) led h' → Q () h') 
    (hk : env.scope.kind = .function := by rfl) (hl : env.kindOf x = some .cell := by rfl) (hc : env.cells.lookup x = some c := by rfl) (hcs : cs.lookup x = some c := by rfl) : Ev (model prog w) A (assign (.Name x px) env v) h Q E :=
  .mk fun s hs => wpAny_assign_Name ((store_C F k hk hl hc hcs).run s hs)
end

theorem fin0 {α : Type} {s : Shared} {h : Heap} {Q : α → Heap → Prop} {v : α} (hs : s.heap = h) (k : Q v h) : Same s s ∧ Q v s.heap := by subst hs; exact ⟨.refl s, k⟩
theorem fint {α : Type} {s : Shared} {h : Heap} {Q : α → Heap → Prop} {v : α} (hs : s.heap = h) (k : Q v h) (tk : Nat) : Same s { s with toks := tk } ∧ Q v ({ s with toks := tk } : Shared).heap := by subst hs; exact ⟨rfl, k⟩
section
variable {prog : Program} {w : World} {A : Around} {h : Heap} {E : Value → Heap → Prop} {env : Env} {Q : Value → Heap → Prop} {a b : Int} {t u : Tok} {x y : Str}
theorem eLtE_str (k : Q (.bool (!(decide (y.cps.toList < x.cps.toList)))) h) : Ev (model prog w) A (compareOp .LtE (.str x t) (.str y u)) h Q E := .mk fun s hs => PySem.P.le_str (fin0 (Q := Q) hs k)
theorem eLtE_1 {c d : Nat} (hx : x = ⟨#[c]⟩) (hy : y = ⟨#[d]⟩) (k : Q (.bool (decide (c ≤ d))) h) : Ev (model prog w) A (compareOp .LtE (.str x t) (.str y u)) h Q E := by
  subst hx hy
  refine eLtE_str ?_
  have e : (!(decide ((⟨#[d]⟩ : Str).cps.toList < (⟨#[c]⟩ : Str).cps.toList))) = decide (c ≤ d) := by
    show (!(decide ([d] < [c]))) = _
    have : ([d] < [c]) ↔ d < c := by simp [List.cons_lt_cons_iff]
    rw [show decide ([d] < [c]) = decide (d < c) from decide_eq_decide.mpr this]
    by_cases hd : d < c
    · have : ¬ c ≤ d := by omega
      simp [hd, this]
    · have : c ≤ d := by omega
      simp [hd, this]
  rw [e]; exact k
theorem eLt_1 {c d : Nat} (hx : x = ⟨#[c]⟩) (hy : y = ⟨#[d]⟩) (k : Q (.bool (decide (c < d))) h) : Ev (model prog w) A (compareOp .Lt (.str x t) (.str y u)) h Q E := by
  subst hx hy
  refine .mk fun s hs => PyProof.Rows.lt_str ⟨.refl s, ?_⟩
  subst hs
  have e : decide ((⟨#[c]⟩ : Str).cps.toList < (⟨#[d]⟩ : Str).cps.toList) = decide (c < d) := by
    show decide ([c] < [d]) = _
    exact decide_eq_decide.mpr (by simp [List.cons_lt_cons_iff])
  rw [e]; exact k
theorem eEq_str (k : Q (.bool (x == y)) h) : Ev (model prog w) A (compareOp .Eq (.str x t) (.str y u)) h Q E := .mk fun s hs => PyProof.Rows.eq_str (fin0 (Q := Q) hs k)
theorem eNe_str (k : Q (.bool (x != y)) h) : Ev (model prog w) A (compareOp .NotEq (.str x t) (.str y u)) h Q E := .mk fun s hs => PyProof.Rows.ne_str (fin0 (Q := Q) hs k)
theorem eAdd_str (k : ∀ t', Q (.str (x ++ y) t') h) (hsz : x.length + y.length ≤ sizeLine) : Ev (model prog w) A (binaryOp .Add (.str x t) (.str y u)) h Q E := .mk fun s hs => PyProof.Rows.add_str (fun _ _ => (fint (Q := Q) hs (k _) _)) hsz
theorem eIadd_str (k : ∀ t', Q (.str (x ++ y) t') h) (hsz : x.length + y.length ≤ sizeLine) : Ev (model prog w) A (inplaceOp .Add (.str x t) (.str y u)) h Q E := .mk fun s hs => PyProof.Rows.iadd_str (fun _ _ => (fint (Q := Q) hs (k _) _)) hsz
theorem eAdd_int (k : ∀ tk, Q (.int (a + b) tk) h) : Ev (model prog w) A (binaryOp .Add (.int a t) (.int b u)) h Q E := .mk fun s hs => PyProof.Rows.add_int (fint (Q := Q) hs (k _) _)
theorem eSub_int (k : ∀ tk, Q (.int (a - b) tk) h) : Ev (model prog w) A (binaryOp .Sub (.int a t) (.int b u)) h Q E := .mk fun s hs => PyProof.Rows.sub_int (fint (Q := Q) hs (k _) _)
theorem eMod_int (hb : b ≠ 0) (k : ∀ tk, Q (.int (a.fmod b) tk) h) : Ev (model prog w) A (binaryOp .Mod (.int a t) (.int b u)) h Q E := .mk fun s hs => PyProof.Rows.mod_int hb (fint (Q := Q) hs (k _) _)
theorem eDiv_int (hb : b ≠ 0) (hs : b.natAbs < 1073741824) (k : ∀ tk, Q (.int (a.fdiv b) tk) h) : Ev (model prog w) A (binaryOp .FloorDiv (.int a t) (.int b u)) h Q E := .mk fun s hs' => PyProof.Rows.floordiv_int hb (fint (Q := Q) hs' (k _) _) (.inl (PyProof.noPylong_small hs))
theorem eNeg_int (k : ∀ tk, Q (.int (-a) tk) h) : Ev (model prog w) A (unaryOp .USub (.int a t)) h Q E := .mk fun s hs => PyProof.Rows.neg_int (fint (Q := Q) hs (k _) _)
theorem eEq_int (k : Q (.bool (a == b)) h) : Ev (model prog w) A (compareOp .Eq (.int a t) (.int b u)) h Q E := .mk fun s hs => PyProof.Rows.eq_int (fin0 (Q := Q) hs k)
theorem eNe_int (k : Q (.bool (a != b)) h) : Ev (model prog w) A (compareOp .NotEq (.int a t) (.int b u)) h Q E := .mk fun s hs => PyProof.Rows.ne_int (fin0 (Q := Q) hs k)
theorem eOrd {c : Nat} (k : ∀ tk, Q (.int c tk) h) : Ev (model prog w) A (call (.builtin "ord") [.str ⟨#[c]⟩ t]) h Q E := .mk fun s hs => PySem.P.ord_of_char (fint (Q := Q) hs (k _) _)
theorem eChr (h0 : 0 ≤ a) (h1 : a ≤ 1114111) (k : ∀ tk, Q (.str ⟨#[a.toNat]⟩ tk) h) : Ev (model prog w) A (call (.builtin "chr") [.int a t]) h Q E := .mk fun s hs => chr_of_range h0 h1 (fint (Q := Q) hs (k _) _)
end

section
variable {M : Model} {A : Around} {h : Heap} {E : Value → Heap → Prop} {env : Env} {pos : Pos}
theorem isTrue_chain2 {l r₁ r₂ : Expr} {op₁ op₂ : CmpOp} {whole : Sem Value} {Q : Bool → Heap → Prop}
    (k : Ev M A (eval l env) h (fun a h₁ => Ev M A (eval r₁ env) h₁ (fun b h₂ => Ev M A (compareOp op₁ a b) h₂ (fun c h₃ => Ev M A (truthy c) h₃ (fun t h₄ =>
      if t then Ev M A (eval r₂ env) h₄ (fun d h₅ => Ev M A (compareOp op₂ b d) h₅ (fun e h₆ => Ev M A (truthy e) h₆ Q E) E) E else Q false h₄) E) E) E) E)
    (hm : lastMarks [op₁, op₂] [r₁, r₂] = false := by with_unfolding_all rfl) : Ev M A (isTrue (.Compare l [op₁, op₂] [r₁, r₂] pos) env whole) h Q E :=
  .mk fun s hs => isTrue_chain (k.use hs (.refl s) fun a s₁ m₁ k₁ => test_link (k₁.use rfl m₁ fun b s₂ m₂ k₂ => k₂.use rfl m₂ fun c s₃ m₃ k₃ => k₃.use rfl m₃ fun t s₄ m₄ k₄ => by
    cases t with
    | true =>
      have k₄ : Ev M A (eval r₂ env) s₄.heap (fun d h₅ => Ev M A (compareOp op₂ b d) h₅ (fun e h₆ => Ev M A (truthy e) h₆ Q E) E) E := k₄
      exact test_last (k₄.use rfl m₄ fun d s₅ m₅ k₅ => k₅.use rfl m₅ fun e s₆ m₆ k₆ => k₆.use rfl m₆ fun _ _ m₇ q => ⟨m₇, q⟩)
    | false => exact ⟨m₄, k₄⟩)) hm
theorem Call_e {func : Expr} {args : List Expr} {Q : Value → Heap → Prop} (k : Ev M A (eval func env) h (fun f h₁ => Ev M A (callWith pos f [] (backTo pos (starEach args env)) []) h₁ Q E) E)
    (he : eval (.Call func args [] pos) env = (do callWith pos (← eval func env) [] (backTo pos (starEach args env)) (backToKw pos (keywordEach [] env))) := by rfl) : Ev M A (eval (.Call func args [] pos) env) h Q E :=
  .mk fun s hs => Call_ (k.use hs (.refl s) fun _ _ m₁ k₁ => k₁.use rfl m₁ fun _ _ m₂ q => ⟨m₂, q⟩) he
theorem callWith_B {id : String} {e : Expr} {rest : List Expr} {Q : Value → Heap → Prop} (k : Ev M A (spliced (backTo pos (starEach (e :: rest) env))) h (fun vs h₁ => Ev M A (call (.builtin id) vs) h₁ Q E) E)
    (he : starEach (e :: rest) env = (false, eval e env) :: starEach rest env := by rfl) (hplain : (backTo pos (starEach rest env)).any (·.1) = false := by rfl) :
    Ev M A (callWith pos (.builtin id) [] (backTo pos (starEach (e :: rest) env)) []) h Q E :=
  .mk fun s hs => callWith_builtin1 (k.use hs (.refl s) fun _ _ m₁ k₁ => k₁.use rfl m₁ fun _ _ m₂ q => ⟨m₂, q⟩) he hplain
theorem callWith_T {T : String} {e : Expr} {rest : List Expr} {Q : Value → Heap → Prop} (k : Ev M A (spliced (backTo pos (starEach (e :: rest) env))) h (fun vs h₁ => Ev M A (call (.type T) vs) h₁ Q E) E)
    (he : starEach (e :: rest) env = (false, eval e env) :: starEach rest env := by rfl) (hplain : (backTo pos (starEach rest env)).any (·.1) = false := by rfl) :
    Ev M A (callWith pos (.type T) [] (backTo pos (starEach (e :: rest) env)) []) h Q E :=
  .mk fun s hs => PyProof.Rows.callWith_type1 (k.use hs (.refl s) fun _ _ m₁ k₁ => k₁.use rfl m₁ fun _ _ m₂ q => ⟨m₂, q⟩) he hplain
/-- what is called is of the written part -/
theorem callWith_F {K : Frag} {f : Value} {first : List Value} {e : Expr} {rest : List Expr} {Q : Value → Heap → Prop} (X : K.In h) (hk : keepIn K f = true)
    (k : Ev M A (spliced (backTo pos (starEach (e :: rest) env))) h (fun vs h₁ => K.In h₁ ∧ Ev M A (call f (first ++ vs)) h₁ Q E) E)
    (he : starEach (e :: rest) env = (false, eval e env) :: starEach rest env := by rfl) (hplain : (backTo pos (starEach rest env)).any (·.1) = false := by rfl) :
    Ev M A (callWith pos f first (backTo pos (starEach (e :: rest) env)) []) h Q E :=
  .mk fun s hs => callWith_K (hs ▸ X) hk (k.use hs (.refl s) fun _ _ m₁ k₁ => ⟨k₁.1, k₁.2.use rfl m₁ fun _ _ m₂ q => ⟨m₂, q⟩⟩) he hplain
theorem callWith_F0 {K : Frag} {f : Value} {first : List Value} {Q : Value → Heap → Prop} (X : K.In h) (hk : keepIn K f = true) (k : Ev M A (call f (first ++ [])) h Q E) :
    Ev M A (callWith pos f first (backTo pos (starEach [] env)) []) h Q E :=
  .mk fun s hs => callWith_K0 (hs ▸ X) hk (k.run s hs)
end

section
variable {M : Model} {A : Around} {g h : Heap} {E : Value → Heap → Prop} {env : Env} {K : Frag} {mg mb : Str → Option Value} {L : Addr} {cs : List (Str × Addr)} {m : Str → Option Value} {led : List (Addr × Obj)} {x : Str} {v : Value} {pos : Pos} {Q : Value → Heap → Prop}
theorem Loc.amb (F : Loc g L cs m led h) (X : Amb K mg mb g) : Amb K mg mb h := X.keep F.sub
end

theorem bb_chr : bootBuiltins "chr" = some (.builtin "chr") := PyProof.Rows.boot_chr
theorem bb_ord : bootBuiltins "ord" = some (.builtin "ord") := PyProof.Rows.boot_ord
theorem bb_len : bootBuiltins "len" = some (.builtin "len") := PySem.boot_len
theorem bb_str : bootBuiltins "str" = some (.type "str") := PyProof.Rows.boot_str
theorem bb_range : bootBuiltins "range" = some (.type "range") := PyProof.Rows.boot_range
theorem bb_type : bootBuiltins "type" = some (.type "type") := PyProof.Rows.boot_type
theorem bb_list : bootBuiltins "list" = some (.type "list") := PyProof.Rows.boot_list

section
variable {prog : Program} {w : World} {A : Around}

abbrev testsOf (ifs : List Expr) (env : Env) : Sem Bool := forIn ifs true fun c r => if r = true then do let ok ← isTrue c env (eval c env); pure (ForInStep.yield ok) else pure (ForInStep.yield r)

theorem compLoop_any {R : Result → Shared → Prop} {s : Shared} {elt target iter : Expr} {ifs : List Expr} {scope : Scope} {pos : Pos} {it acc : Value} {env : Env} (I : Nat → Shared → Prop)
    (turn : ∀ n s, I n s → wpAny (model prog w) A (pyNext it) (fun r s₁ => match r with
      | none => R (.ok .next) s₁
      | some v => wpAny (model prog w) A (letOwnedTupleGo target it v) (fun _ s₀ => wpAny (model prog w) A (assign target env v) (fun _ s₂ =>
          wpAny (model prog w) A (testsOf ifs env) (fun ok s₃ =>
            if ok = true then wpAny (model prog w) A (eval elt env) (fun x s₄ =>
              wpAny (model prog w) A (call (.builtin "list.append") [acc, x]) (fun _ s₅ => ∃ m, m < n ∧ I m s₅) (fun _ _ => False) s₄) (fun _ _ => False) s₃
            else ∃ m, m < n ∧ I m s₃) (fun _ _ => False) s₂) (fun _ _ => False) s₀) (fun _ _ => False) s₁) (fun _ _ => False) s)
    (n : Nat) (h : I n s) : codeAny (model prog w) A (.compLoop (.ListComp elt [⟨target, iter, ifs, 0⟩] scope pos) 0 it acc env) R s := by
  refine codeAny_loop rfl I (fun n s hI => ?_) n h
  show wpAny _ A ((compTurn (.ListComp elt [⟨target, iter, ifs, 0⟩] scope pos) 0 it acc env).onRaise (fun x => do noteFrame x env; theTreesLotGoes x)) _ _ s
  refine wpAny_noted ?_
  rw [compTurn_list]
  refine wpAny_bind (wpAny_standAt (wpAny_bind (wpAny_mono (turn n s hI) (fun r s₁ h₁ => ?_) fun _ _ h' => h'.elim)))
  cases r with
  | none => exact wpAny_pure h₁
  | some v =>
    refine wpAny_bind (wpAny_mono h₁ (fun _ s₀ h₀ => ?_) fun _ _ h' => h'.elim)
    refine wpAny_bind (wpAny_mono h₀ (fun _ s₂ h₂ => wpAny_bind (wpAny_mono h₂ (fun ok s₃ h₃ => ?_) fun _ _ h' => h'.elim)) fun _ _ h' => h'.elim)
    cases ok with
    | false => exact wpAny_pure ⟨rfl, h₃⟩
    | true =>
      exact wpAny_bind (wpAny_bind (wpAny_mono h₃ (fun x s₄ h₄ => wpAny_bind (wpAny_mono h₄ (fun _ s₅ h₅ => wpAny_pure (wpAny_pure ⟨rfl, h₅⟩)) fun _ _ h' => h'.elim)) fun _ _ h' => h'.elim))

/-- the cells that a block of its own does not see, as a ledger -/
theorem cells_rest {g h : Heap} {L : Addr} {cs cl : List (Str × Addr)} {m : Str → Option Value} {led : List (Addr × Obj)} (F : Loc g L cs m led h) :
    ∃ rest : List (Addr × Obj), (∀ p ∈ rest, h.get? p.1 = some p.2 ∧ ∃ x, cs.lookup x = some p.1 ∧ cl.lookup x = none) ∧ (∀ x c, cs.lookup x = some c → cl.lookup x = none → ∃ o, (c, o) ∈ rest) ∧ (rest.map (·.1)).Nodup := by
  have key : ∀ ns : List Str, ∃ rest : List (Addr × Obj), (∀ p ∈ rest, h.get? p.1 = some p.2 ∧ ∃ x, cs.lookup x = some p.1 ∧ cl.lookup x = none) ∧ (∀ x ∈ ns, ∀ c, cs.lookup x = some c → cl.lookup x = none → ∃ o, (c, o) ∈ rest) ∧ (rest.map (·.1)).Nodup := by
    intro ns
    induction ns with
    | nil => exact ⟨[], fun _ hp => (by cases hp), fun _ hx => (by cases hx), List.nodup_nil⟩
    | cons x r ih =>
      obtain ⟨rest, h1, h2, h3⟩ := ih
      cases hc : cs.lookup x with
      | none => exact ⟨rest, h1, fun y hy c q z => by
          rcases List.mem_cons.mp hy with rfl | hy
          · rw [hc] at q; cases q
          · exact h2 y hy c q z, h3⟩
      | some c =>
        cases hl : cl.lookup x with
        | some d => exact ⟨rest, h1, fun y hy c q z => by
            rcases List.mem_cons.mp hy with rfl | hy
            · rw [hl] at z; cases z
            · exact h2 y hy c q z, h3⟩
        | none =>
          by_cases hm : c ∈ rest.map (·.1)
          · obtain ⟨p, hp, e⟩ := List.mem_map.mp hm
            refine ⟨rest, h1, fun y hy d q z => ?_, h3⟩
            rcases List.mem_cons.mp hy with rfl | hy
            · rw [hc] at q; cases q
              exact ⟨p.2, by rw [← e]; exact hp⟩
            · exact h2 y hy d q z
          · obtain ⟨o, ho, _⟩ := F.cell x c hc
            refine ⟨(c, o) :: rest, fun p hp => ?_, fun y hy d q z => ?_, by simp only [List.map_cons, List.nodup_cons]; exact ⟨hm, h3⟩⟩
            · rcases List.mem_cons.mp hp with rfl | hp
              · exact ⟨ho, x, hc, hl⟩
              · exact h1 p hp
            · rcases List.mem_cons.mp hy with rfl | hy
              · rw [hc] at q; cases q
                exact ⟨o, .head _⟩
              · obtain ⟨o', h'⟩ := h2 y hy d q z
                exact ⟨o', .tail _ h'⟩
  obtain ⟨rest, h1, h2, h3⟩ := key (cs.map (·.1))
  refine ⟨rest, h1, fun x c q z => h2 x ?_ c q z, h3⟩
  have := mem_of_lookup q
  exact List.mem_map.mpr ⟨_, this, rfl⟩

def CellsIn : List (Str × Addr) → List (Str × Addr) → Prop
  | [], _ => True
  | (x, c) :: r, cs => cs.lookup x = some c ∧ CellsIn r cs
theorem CellsIn.look {x : Str} {c : Addr} {cs : List (Str × Addr)} : ∀ {cl : List (Str × Addr)}, CellsIn cl cs → cl.lookup x = some c → cs.lookup x = some c
  | (y, d) :: r, h, q => by
    rw [List.lookup_cons] at q
    cases hb : x == y with
    | true => rw [hb] at q; cases q; rw [beq_iff_eq.mp hb]; exact h.1
    | false => rw [hb] at q; exact CellsIn.look h.2 q
abbrev CompP := Nat → Heap → List Value → Prop
/-- the names that a comprehension sees through cells are as they were -/
def Caught (cl : List (Str × Addr)) (m mc : Str → Option Value) : Prop := ∀ x, (cl.lookup x).isSome = true → mc x = m x
theorem Caught.set {cl : List (Str × Addr)} {m mc : Str → Option Value} {k : Str} {v : Option Value} (x : Caught cl m mc) (hk : (cl.lookup k).isSome = false) : Caught cl m (fun y => if y = k then v else mc y) := fun y hy => by
  have : y ≠ k := fun e => by rw [e, hk] at hy; cases hy
  simp only [this, if_false]; exact x y hy

structure CompTurn (prog : Program) (w : World) (A : Around) (env : Env) (scope : Scope) (cl : List (Str × Addr)) (m : Str → Option Value) (led : List (Addr × Obj)) (target elt : Expr) (ifs : List Expr) (n : Nat) (Pv : Nat → Value → Prop) (P : CompP) : Prop where
  turn : ∀ i v C mc led' g ys h, i < n → Pv i v → P i g ys → (∀ p ∈ led, p ∈ led') → Loc g C cl mc led' h → Caught cl m mc →
    Ev (model prog w) A (assign target (compEnvC scope cl C env) v) h (fun _ h₁ => Ev (model prog w) A (testsOf ifs (compEnvC scope cl C env)) h₁ (fun ok h₂ =>
      if ok = true then Ev (model prog w) A (eval elt (compEnvC scope cl C env)) h₂ (fun y h₃ => ∃ g' mc', P (i + 1) g' (ys ++ [y]) ∧ Loc g' C cl mc' led' h₃ ∧ Caught cl m mc') No
      else ∃ g' mc', P (i + 1) g' ys ∧ Loc g' C cl mc' led' h₂ ∧ Caught cl m mc') No) No

theorem comp_turn_end {P : Heap → Prop} {g h : Heap} {C : Addr} {cl : List (Str × Addr)} {m mc : Str → Option Value} {led' : List (Addr × Obj)} (F : Loc g C cl mc led' h) (hP : P g) (hc : Caught cl m mc) : ∃ g' mc', P g' ∧ Loc g' C cl mc' led' h ∧ Caught cl m mc' := ⟨g, mc, hP, F, hc⟩

section
variable {env : Env} {scope : Scope} {cl cs : List (Str × Addr)} {elt target iter : Expr} {ifs : List Expr} {pos : Pos} {I L : Addr} {fp : List Addr} {n : Nat} {Pv : Nat → Value → Prop} {St : Nat → Heap → Prop} {g h : Heap} {m : Str → Option Value} {led : List (Addr × Obj)} {o : Obj} {E : Value → Heap → Prop}

/-- all that a comprehension does, from its iterator on; U: what comes of the list (and the block's own names, still there) -/
theorem comp_core {U : Addr → Addr → Obj → Heap → Prop} (P : CompP) (W : Walks prog w A I fp [I] n Pv St) (live : ∀ i h, St i h → ∃ o, h.get? I = some o)
    (side : ∀ b ∈ fp, b = I ∨ ∃ ob, ∀ i g ys, P i g ys → (g.get? b = some ob ∨ (b, ob) ∈ led))
    (go : ∀ i v s Q E, St i s.heap → Q () s → wpAny (model prog w) A (letOwnedTupleGo target (.ref I) v) Q E s)
    (hcl : ∀ x c, cl.lookup x = some c → cs.lookup x = some c) (hcell : (scope.names.all fun x => x.2 != .cell) = true) (hkind : scope.kind = .function)
    (F : Loc g L cs m ((I, o) :: led) h) (hst : St 0 h) (h0 : P 0 g []) (T : CompTurn prog w A env scope cl m led target elt ifs n Pv P) (hsz : n ≤ sizeLine)
    (done : ∀ g ys D C oC k h, P n g ys → Loc g L cs m ((D, listO ys k) :: (C, oC) :: led) h → (∃ mc, h.Ns C mc) → U D C oC h)
    (s : Shared) (hs : s.heap = h) {E' : Value → Shared → Prop} :
    wpAny (model prog w) A (newList []) (fun acc s₃ => wpAny (model prog w) A (newFunctionEnv scope env.globals cl [] env.qual none .none (some env)) (fun cenv s₄ =>
      codeAny (model prog w) A (.compStart (.ListComp elt [⟨target, iter, ifs, 0⟩] scope pos) 0 (.ref I) acc { cenv with scope := relabel scope env })
        (fun r s' => r = .ok .next ∧ Same s s' ∧ ∃ D oC, acc = .ref D ∧ U D cenv.locals oC s'.heap) s₄) E' s₃) E' s := by
  subst hs
  refine wpAny_newObj_type (wpAny_newFunctionEnv (fun x hx => by have := List.all_eq_true.mp hcell x hx; simpa using this) (by intro y hy; simp at hy) (fun h₁ hns₁ hsb₁ => ?_) hkind)
  dsimp only at hns₁ hsb₁ ⊢
  have F1 := F.new ({ cls := .type "list", dict := none, data := .seq ([] : List Value).toArray } : Obj)
  have F2 := F1.new ({ cls := .type "dict", data := .dict #[] } : Obj)
  generalize hH2 : s.heap.push ({ cls := .type "list", dict := none, data := .seq ([] : List Value).toArray } : Obj) = H2 at hns₁ hsb₁ F1 F2 ⊢
  have hD : s.heap.objs.size = H2.objs.size - 1 := by rw [← hH2, Heap.size_push]; rfl
  generalize hDD : s.heap.objs.size = D at F1 F2 ⊢
  generalize hCC : H2.objs.size = C at F2 hns₁ hsb₁ ⊢
  -- the frame of the block's own
  obtain ⟨oC, hoC⟩ : ∃ oC, h₁.get? C = some oC := let ⟨oC, _, _, q, _⟩ := hns₁; ⟨oC, q⟩
  have F3 : Loc g L cs m ((C, oC) :: (D, listO [] 0) :: (I, o) :: led) h₁ := F2.putE .head hsb₁.extBut hoC
  obtain ⟨rest, r1, r2, r3⟩ := cells_rest (cl := cl) F3
  obtain ⟨oL, hoL⟩ := F3.lt
  -- seen from within
  have In : Loc g C cl (fun y => if (cl.lookup y).isSome then m y else none) ((L, oL) :: (D, listO [] 0) :: (I, o) :: (led ++ rest)) h₁ := by
    have gC : g.get? C = none := (F3.led _ (.head _)).2.2
    have mem3 : ∀ p ∈ (D, listO [] 0) :: (I, o) :: led, h₁.get? p.1 = some p.2 ∧ p.1 ≠ L ∧ g.get? p.1 = none ∧ p.1 ≠ C := fun p hp => by
      have q := F3.led p (.tail _ hp)
      refine ⟨q.1, q.2.1, q.2.2, fun e => ?_⟩
      have nd := F3.nd
      simp only [List.map_cons (f := fun x : Addr × Obj => x.1) (a := (C, oC)), List.nodup_cons] at nd
      exact nd.1 (List.mem_map.mpr ⟨p, hp, e⟩)
    have memR : ∀ p ∈ rest, h₁.get? p.1 = some p.2 ∧ p.1 ≠ L ∧ g.get? p.1 = none ∧ p.1 ≠ C ∧ ∀ q ∈ (D, listO [] 0) :: (I, o) :: led, q.1 ≠ p.1 := fun p hp => by
      obtain ⟨h1, x, hx, _⟩ := r1 p hp
      have c := F3.cnew x p.1 hx
      exact ⟨h1, c.1, c.2.1, fun e => c.2.2 (C, oC) (.head _) e.symm, fun q hq => c.2.2 q (.tail _ hq)⟩
    refine ⟨F3.sub, ⟨_, hns₁, fun x q => by simp [q]⟩, gC, fun p hp => ?_, ?_, fun x c q => ?_, fun x y c h1 h2 => F3.capart x y c (hcl x c h1) (hcl y c h2), fun x c q => ?_⟩
    · rcases List.mem_cons.mp hp with rfl | hp
      · exact ⟨hoL, fun e => (F3.led _ (.head _)).2.1 e.symm, F3.gL⟩
      · rw [← List.cons_append, ← List.cons_append] at hp
        rcases List.mem_append.mp hp with hp | hp
        · exact ⟨(mem3 p hp).1, (mem3 p hp).2.2.2, (mem3 p hp).2.2.1⟩
        · exact ⟨(memR p hp).1, (memR p hp).2.2.2.1, (memR p hp).2.2.1⟩
    · rw [← List.cons_append, ← List.cons_append]
      simp only [List.map_cons (f := fun x : Addr × Obj => x.1) (a := (L, oL)), List.nodup_cons]
      refine ⟨fun q => ?_, ?_⟩
      · obtain ⟨p, hp, e⟩ := List.mem_map.mp q
        rcases List.mem_append.mp hp with hp | hp
        · exact (mem3 p hp).2.1 e
        · exact (memR p hp).2.1 e
      · rw [List.map_append]
        refine List.nodup_append.mpr ⟨?_, r3, fun a ha b hb e => ?_⟩
        · have nd := F3.nd
          simp only [List.map_cons (f := fun x : Addr × Obj => x.1) (a := (C, oC)), List.nodup_cons] at nd
          exact nd.2
        · obtain ⟨p, hp, rfl⟩ := List.mem_map.mp ha
          obtain ⟨q, hq, rfl⟩ := List.mem_map.mp hb
          exact (memR q hq).2.2.2.2 p hp e
    · have : (cl.lookup x).isSome = true := by rw [q]; rfl
      simp only [this, if_true]
      exact F3.cell x c (hcl x c q)
    · have c3 := F3.cnew x c (hcl x c q)
      refine ⟨fun e => c3.2.2 (C, oC) (.head _) e.symm, c3.2.1, fun p hp => ?_⟩
      rcases List.mem_cons.mp hp with rfl | hp
      · exact c3.1.symm
      · rw [← List.cons_append, ← List.cons_append] at hp
        rcases List.mem_append.mp hp with hp | hp
        · exact c3.2.2 p (.tail _ hp)
        · intro e
          obtain ⟨_, y, hy, hn⟩ := r1 p hp
          have := F3.capart x y c (hcl x c q) (e ▸ hy)
          rw [← this, q] at hn; cases hn
  have st₁ : St 0 h₁ := by
    refine W.frame _ _ _ hst fun b hb x e => ?_
    rcases side b hb with rfl | ⟨ob, hob⟩
    · have := F.get (.head _); rw [e] at this; rw [Option.some.inj this]; exact F3.get (.tail _ (.tail _ (.head _)))
    · have old : s.heap.get? b = some ob := (hob _ _ _ h0).elim (fun q => F.sub _ _ q) fun q => F.get (.tail _ q)
      rw [old] at e; rw [← Option.some.inj e]
      exact (hob _ _ _ h0).elim (fun q => F3.sub _ _ q) fun q => F3.get (.tail _ (.tail _ (.tail _ q)))
  have keyd : ∀ s₄ : Shared, s₄ = { s with heap := h₁, toks := s.toks + ([] : List (Str × Value)).length } →
      codeAny (model prog w) A (.compLoop (.ListComp elt [⟨target, iter, ifs, 0⟩] scope pos) 0 (.ref I) (.ref D) (compEnvC scope cl C env))
        (fun r s' => r = .ok .next ∧ Same s s' ∧ ∃ D' oC, Value.ref D = .ref D' ∧ U D' C oC s'.heap) s₄ := by
    rintro s₄ rfl
    refine compLoop_any (fun k s' => ∃ i g mc ys e oI, Same s s' ∧ St i s'.heap ∧ P i g ys ∧ Loc g C cl mc ((L, oL) :: (D, listO ys e) :: (I, oI) :: (led ++ rest)) s'.heap ∧ Caught cl m mc ∧ i ≤ n ∧ ys.length ≤ i ∧ k = n + 1 - i) ?_ (n + 1)
      ⟨0, g, _, [], 0, o, Same.mk' s _ _, st₁, h0, In, fun x hx => by simp only [hx, if_true], Nat.zero_le _, Nat.le_refl _, rfl⟩
    rintro k s' ⟨i, g, mc, ys, e, oI, sm, sti, hP, F, hca, hi, hys, rfl⟩
    by_cases hlt : i < n
    · refine W.item i _ _ _ hlt sti fun v h₂ tk₂ hv st₂ hk₂ => ?_
      obtain ⟨o₂, ho₂⟩ := live _ _ st₂
      have F₂ : Loc g C cl mc ((L, oL) :: (D, listO ys e) :: (I, o₂) :: (led ++ rest)) h₂ := F.putE (.tail (.tail .head)) (fun b x hb e => hk₂ b x (by simpa using hb) e) ho₂
      refine go (i + 1) v _ _ _ st₂ ?_
      refine (T.turn i v C mc _ g ys h₂ hlt hv hP (fun p hp => .tail _ (.tail _ (.tail _ (List.mem_append_left _ hp)))) F₂ hca).use0 rfl (sm.trans (Same.mk' s' h₂ tk₂)) fun _ s₃ m₃ k₃ => ?_
      refine k₃.use0 rfl m₃ fun ok s₅ m₅ q => ?_
      have stN : ∀ {g' mc' h' ys' e'}, P (i + 1) g' ys' → Loc g' C cl mc' ((L, oL) :: (D, listO ys' e') :: (I, o₂) :: (led ++ rest)) h' → St (i + 1) h' := fun {g' mc' h' ys' e'} hP' F' => by
        refine W.frame _ _ _ st₂ fun b hb x e => ?_
        rcases side b hb with rfl | ⟨ob, hob⟩
        · rw [ho₂] at e; rw [← Option.some.inj e]; exact F'.get (.tail _ (.tail _ (.head _)))
        · have old : h₂.get? b = some ob := (hob _ _ _ hP).elim (fun q => F₂.sub _ _ q) fun q => F₂.get (.tail _ (.tail _ (.tail _ (List.mem_append_left _ q))))
          rw [old] at e; rw [← Option.some.inj e]
          exact (hob _ _ _ hP').elim (fun q => F'.sub _ _ q) fun q => F'.get (.tail _ (.tail _ (.tail _ (List.mem_append_left _ q))))
      cases ok with
      | false =>
        obtain ⟨g', mc', hP', F', hca'⟩ := q
        exact ⟨n + 1 - (i + 1), by omega, i + 1, g', mc', ys, e, o₂, m₅, stN hP' F', hP', F', hca', hlt, Nat.le_succ_of_le hys, rfl⟩
      | true =>
        have q : Ev (model prog w) A (eval elt (compEnvC scope cl C env)) s₅.heap (fun y h₃ => ∃ g' mc', P (i + 1) g' (ys ++ [y]) ∧ Loc g' C cl mc' ((L, oL) :: (D, listO ys e) :: (I, o₂) :: (led ++ rest)) h₃ ∧ Caught cl m mc') No := q
        refine q.use0 rfl m₅ fun y s₆ m₆ q₆ => ?_
        obtain ⟨g', mc', hP', F', hca'⟩ := q₆
        refine wpAny_list_append_plain (hsz := by simp; omega) ⟨e, F'.get (.tail _ (.head _))⟩ fun h₇ hl₇ hs₇ => ?_
        obtain ⟨e₇, hl₇⟩ := hl₇
        have F₇ : Loc g' C cl mc' ((L, oL) :: (D, listO (ys ++ [y]) e₇) :: (I, o₂) :: (led ++ rest)) h₇ := F'.put (.tail .head) hs₇ (by rw [hl₇]; simp)
        refine ⟨n + 1 - (i + 1), by omega, i + 1, g', mc', ys ++ [y], e₇, o₂, m₆.trans (Same.mk' s₆ h₇ s₆.toks), stN hP' F₇, hP', F₇, hca', hlt, by simp; omega, rfl⟩
    · have : i = n := by omega
      subst this
      refine W.done _ _ _ sti fun h₂ tk₂ hk₂ => ⟨rfl, sm.trans (Same.mk' s' h₂ tk₂), ?_⟩
      have F₂ : ∃ _x : Obj, Loc g C cl mc ((L, oL) :: (D, listO ys e) :: (led ++ rest)) h₂ := by
        have Fd : Loc g C cl mc ((I, oI) :: (L, oL) :: (D, listO ys e) :: (led ++ rest)) s'.heap := F.only (fun p hp => by
          rcases List.mem_cons.mp hp with rfl | hp
          · exact .tail _ (.tail _ (.head _))
          · rcases List.mem_cons.mp hp with rfl | hp
            · exact .head _
            · rcases List.mem_cons.mp hp with rfl | hp
              · exact .tail _ (.head _)
              · exact .tail _ (.tail _ (.tail _ hp))) (by
          have nd := F.nd
          simp only [List.map_cons, List.nodup_cons, List.mem_cons, not_or] at nd ⊢
          obtain ⟨⟨a1, a2, a3⟩, ⟨b1, b2⟩, c1, d1⟩ := nd
          exact ⟨⟨fun e => a2 e.symm, fun e => b1 e.symm, c1⟩, ⟨a1, a3⟩, b2, d1⟩)
        exact ⟨oI, Fd.extDrop fun b x hb e => hk₂ b x (by simpa using hb) e⟩
      obtain ⟨_, F₂⟩ := F₂
      obtain ⟨oC₂, hoC₂⟩ := F₂.lt
      refine ⟨D, oC₂, rfl, done g ys D C oC₂ e h₂ hP ?_ (let ⟨m₀, q, _⟩ := F₂.ns; ⟨m₀, q⟩)⟩
      -- seen from without again
      have hLo := F₂.get (.head _)
      have gL := (F₂.led _ (.head _)).2.2
      have inl : ∀ p ∈ led, p ∈ (L, oL) :: (D, listO ys e) :: (led ++ rest) := fun p hp => .tail _ (.tail _ (List.mem_append_left _ hp))
      have inr : ∀ p ∈ rest, p ∈ (L, oL) :: (D, listO ys e) :: (led ++ rest) := fun p hp => .tail _ (.tail _ (List.mem_append_right _ hp))
      have nd := F₂.nd
      simp only [List.map_cons, List.map_append, List.nodup_cons, List.mem_cons, not_or, List.mem_append, List.nodup_append] at nd
      obtain ⟨⟨nLD, nLl, nLr⟩, ⟨nDl, nDr⟩, ndl, ndr, ndlr⟩ := nd
      have cellO : ∀ x c, cs.lookup x = some c → (∃ oc, h₂.get? c = some oc ∧ oc.data = .cell (m x)) ∧ c ≠ L ∧ g.get? c = none ∧ c ≠ D ∧ c ≠ C ∧ ∀ p ∈ led, p.1 ≠ c := fun x c hc => by
        cases hl : cl.lookup x with
        | some d =>
          have hd := hcl x d hl
          rw [hc] at hd; cases hd
          obtain ⟨oc, h1, h2⟩ := F₂.cell x c hl
          have n2 := F₂.cnew x c hl
          refine ⟨⟨oc, h1, by rw [h2, hca x (by rw [hl]; rfl)]⟩, Ne.symm (n2.2.2 _ (.head _)), n2.2.1, Ne.symm (n2.2.2 _ (.tail _ (.head _))), n2.1, fun p hp => n2.2.2 p (inl p hp)⟩
        | none =>
          obtain ⟨oc, hm⟩ := r2 x c hc hl
          have q := F₂.led _ (inr _ hm)
          obtain ⟨oc', h1', h2'⟩ := F3.cell x c hc
          have : oc' = oc := by have := (r1 _ hm).1; rw [h1'] at this; exact Option.some.inj this
          subst this
          refine ⟨⟨oc', q.1, h2'⟩, fun e => nLr (List.mem_map.mpr ⟨_, hm, e⟩), q.2.2, fun e => nDr (List.mem_map.mpr ⟨_, hm, e⟩), q.2.1, fun p hp e => ndlr _ (List.mem_map.mpr ⟨p, hp, rfl⟩) _ (List.mem_map.mpr ⟨_, hm, rfl⟩) e⟩
      have nsL : ∃ m₀, h₂.Ns L m₀ ∧ ∀ x, cs.lookup x = none → m₀ x = m x := by
        obtain ⟨m₀, ⟨ob, es, ep, q, r⟩, z⟩ := F3.ns
        rw [hoL] at q
        cases q
        exact ⟨m₀, ⟨_, es, ep, hLo, r⟩, z⟩
      have CL : C ≠ L := fun e => (F₂.led _ (.head _)).2.1 e.symm
      refine ⟨F₂.sub, nsL, gL, fun p hp => ?_, ?_, fun x c hc => let ⟨oc, h1, h2⟩ := (cellO x c hc).1; ⟨oc, h1, h2⟩, F3.capart, fun x c hc => ⟨(cellO x c hc).2.1, (cellO x c hc).2.2.1, fun p hp => ?_⟩⟩
      · rcases List.mem_cons.mp hp with rfl | hp
        · have q := F₂.led _ (.tail _ (.head _)); exact ⟨q.1, fun e => nLD e.symm, q.2.2⟩
        · rcases List.mem_cons.mp hp with rfl | hp
          · exact ⟨hoC₂, CL, F₂.gL⟩
          · have q := F₂.led _ (inl p hp); exact ⟨q.1, fun e => nLl (List.mem_map.mpr ⟨p, hp, e⟩), q.2.2⟩
      · simp only [List.map_cons, List.nodup_cons, List.mem_cons, not_or]
        refine ⟨⟨(F₂.led _ (.tail _ (.head _))).2.1, nDl⟩, fun q => ?_, ndl⟩
        obtain ⟨p, hp, e⟩ := List.mem_map.mp q
        exact (F₂.led _ (inl p hp)).2.1 e
      · rcases List.mem_cons.mp hp with rfl | hp
        · exact (cellO x c hc).2.2.2.1.symm
        · rcases List.mem_cons.mp hp with rfl | hp
          · exact (cellO x c hc).2.2.2.2.1.symm
          · exact (cellO x c hc).2.2.2.2.2 p hp
  refine codeAny_compStart_list (keyd _ rfl) (W.self 0 _ _ _ st₁ ?_)
  exact keyd _ rfl

/-- what a comprehension wants behind its iterator -/
structure CompAt (prog : Program) (w : World) (A : Around) (env : Env) (scope : Scope) (cl : List (Str × Addr)) (elt target iter : Expr) (ifs : List Expr) (pos : Pos) (it : Value) (h : Heap) (U : Addr → Addr → Obj → Heap → Prop) : Prop where
  run : ∀ (s : Shared) (E' : Value → Shared → Prop), s.heap = h → wpAny (model prog w) A (newList []) (fun acc s₃ => wpAny (model prog w) A (newFunctionEnv scope env.globals cl [] env.qual none .none (some env)) (fun cenv s₄ =>
      codeAny (model prog w) A (.compStart (.ListComp elt [⟨target, iter, ifs, 0⟩] scope pos) 0 it acc { cenv with scope := relabel scope env })
        (fun r s' => r = .ok .next ∧ Same s s' ∧ ∃ D oC, acc = .ref D ∧ U D cenv.locals oC s'.heap) s₄) E' s₃) E' s

def plainU (Q : Value → Heap → Prop) (D C : Addr) (oC : Obj) (h : Heap) : Prop := (∃ mc, h.Ns C mc) ∧ ∀ h', Heap.SameBut C h h' → Q (.ref D) h'

theorem ListComp_ {Q : Value → Heap → Prop} (hclos : closureFor scope env = pure cl) (hnames : (scope.names.all fun x => !(x.2 == .local) || scope.names.lookup x.1 == some .local) = true) (hkind : scope.kind = .function)
    (k : Ev (model prog w) A (eval iter env) h (fun xv h₁ => Ev (model prog w) A (pyIter xv) h₁ (fun it h₂ => CompAt prog w A env scope cl elt target iter ifs pos it h₂ (plainU Q)) E) E)
    (hs : ∀ x, foldedSetIterable iter env x = pure x := by intro _; rfl) : Ev (model prog w) A (eval (.ListComp elt [⟨target, iter, ifs, 0⟩] scope pos) env) h Q E := .mk fun s hs' => by
  rw [eval_ListComp]
  refine wpAny_comprehension_free (use := none) rfl hs hclos hkind (fun x hx hl => by have := List.all_eq_true.mp hnames x hx; simpa [hl] using this) (k.use hs' (.refl s) fun xv s₁ m₁ k₁ => k₁.use rfl m₁ fun it s₂ m₂ k₂ => ?_)
  refine wpAny_mono (k₂.run s₂ (fun e s' => Same s s' ∧ E e s'.heap) rfl) (fun acc s₃ h₃ => wpAny_mono h₃ (fun cenv s₄ h₄ => codeAny_mono h₄ fun r s' q => ?_) fun _ _ e => e) fun _ _ e => e
  obtain ⟨rfl, sm, D, oC, rfl, ⟨mc, hn⟩, q⟩ := q
  exact ⟨mc, hn, fun h' hs'' => ⟨(m₂.trans sm).trans (Same.mk' s' h' s'.toks), q h' hs''⟩⟩

theorem Assign_ListComp {y : Str} {py spos : Pos} {Q : Flow → Heap → Prop} (hsw : swapsWith (.ListComp elt [⟨target, iter, ifs, 0⟩] scope pos) (some (.Name y py)) spos.line env = pure true)
    (hclos : closureFor scope env = pure cl) (hnames : (scope.names.all fun x => !(x.2 == .local) || scope.names.lookup x.1 == some .local) = true) (hkind : scope.kind = .function)
    (k : Ev (model prog w) A (eval iter env) h (fun xv h₁ => Ev (model prog w) A (pyIter xv) h₁ (fun it h₂ => CompAt prog w A env scope cl elt target iter ifs pos it h₂ (fun D C oC h₃ =>
      Ev (model prog w) A (assign (.Name y py) env (.ref D)) h₃ (fun _ h₄ => (∃ mc, h₄.Ns C mc) ∧ ∀ h', Heap.SameBut C h₄ h' → Q .next h') No)) E) E)
    (hs : ∀ x, foldedSetIterable iter env x = pure x := by intro _; rfl) : Ev (model prog w) A (exec (.Assign [.Name y py] (.ListComp elt [⟨target, iter, ifs, 0⟩] scope pos) spos) env) h Q E := .mk fun s hs' => by
  rw [exec_Assign_Name_used _ _ _ _ hsw]
  refine wpAny_bind (wpAny_standAt (wpAny_bind ?_))
  show wpAny _ A (do let _ ← comprehension (.ListComp elt [⟨target, iter, ifs, 0⟩] scope pos) scope env _ (newList []) false (eval iter env) (some (assign (.Name y py) env))) _ _ s
  refine wpAny_bind (wpAny_mono (wpAny_comprehension_free (use := some (assign (.Name y py) env)) (Q := fun _ s' => Same s s' ∧ Q .next s'.heap) rfl hs hclos hkind (fun x hx hl => by have := List.all_eq_true.mp hnames x hx; simpa [hl] using this)
    (k.use hs' (.refl s) fun xv s₁ m₁ k₁ => k₁.use rfl m₁ fun it s₂ m₂ k₂ => ?_)) (fun _ s' hq => wpAny_pure (wpAny_pure hq)) fun _ _ e => e)
  refine wpAny_mono (k₂.run s₂ (fun e s' => Same s s' ∧ E e s'.heap) rfl) (fun acc s₃ h₃ => wpAny_mono h₃ (fun cenv s₄ h₄ => codeAny_mono h₄ fun r s' q => ?_) fun _ _ e => e) fun _ _ e => e
  obtain ⟨rfl, sm, D, oC, rfl, q⟩ := q
  refine q.use0 rfl (m₂.trans sm) fun _ s₅ m₅ q₅ => ?_
  obtain ⟨⟨mc, hn⟩, q₅⟩ := q₅
  exact ⟨mc, hn, fun h' hs'' => ⟨m₅.trans (Same.mk' s₅ h' s₅.toks), q₅ h' hs''⟩⟩

theorem Loc.dropC {C : Addr} {oC : Obj} {p : Addr × Obj} (F : Loc g L cs m (p :: (C, oC) :: led) h) {h' : Heap} (hs : Heap.SameBut C h h') : Loc g L cs m (p :: led) h' := by
  have Fd : Loc g L cs m ((C, oC) :: p :: led) h := F.only (fun q hq => by
    rcases List.mem_cons.mp hq with rfl | hq
    · exact .tail _ (.head _)
    · rcases List.mem_cons.mp hq with rfl | hq
      · exact .head _
      · exact .tail _ (.tail _ hq)) (by
    have nd := F.nd
    simp only [List.map_cons, List.nodup_cons, List.mem_cons, not_or] at nd ⊢
    exact ⟨⟨fun e => nd.1.1 e.symm, nd.2.1⟩, nd.1.2, nd.2.2⟩)
  exact Fd.extDrop hs.extBut

/-- a comprehension over a list that stands -/
theorem comp_list {Q : Value → Heap → Prop} {ax : Addr} {oa : Obj} {vs : List Value} (P : CompP) (hh : A.handled = none) (hl : IsL oa vs) (F : Loc g L cs m led h) (side : ∀ i g ys, P i g ys → ListAt ax oa g led) (h0 : P 0 g [])
    (T : CompTurn prog w A env scope cl m led target elt ifs vs.length (fun i v => vs[i]? = some v) P)
    (done : ∀ g ys D k h, P vs.length g ys → Loc g L cs m ((D, listO ys k) :: led) h → Q (.ref D) h)
    (hcl : CellsIn cl cs) (hcell : (scope.names.all fun x => x.2 != .cell) = true) (hkind : scope.kind = .function) (hsz : vs.length ≤ sizeLine) :
    Ev (model prog w) A (pyIter (.ref ax)) h (fun it h₂ => CompAt prog w A env scope cl elt target iter ifs pos it h₂ (plainU Q)) E := .mk fun s hs => by
  subst hs
  have hax := (side _ _ _ h0).get F
  have hne : ax ≠ s.heap.objs.size := Nat.ne_of_lt (Heap.lt_size hax)
  refine wpAny_pyIter_list (hl.isList hax) ⟨rfl, ⟨fun s' E' hs' => ?_⟩⟩
  refine comp_core P (Walks.list hh s.heap.objs.size ax hne vs.toArray) (fun i h x => let ⟨o, ho, _⟩ := x.1; ⟨o, ho⟩) (fun b hb => ?_) (fun i v s Q E st q => go_list st.1 q) (fun _ _ z => hcl.look z) hcell hkind (F.new _)
    ⟨⟨_, Heap.get?_push_size _ rfl, rfl, rfl⟩, (hl.isList hax).push _⟩ h0 ?_ (by simpa using hsz) (fun g ys D C oC k h hP F hn => ⟨hn, fun h' hs' => done g ys D k h' (by simpa using hP) (F.dropC hs')⟩) s' hs'
  · rcases List.mem_cons.mp hb with rfl | hb
    · exact .inl rfl
    · exact .inr ⟨oa, fun i g ys hP => by rw [List.mem_singleton.mp hb]; exact side i g ys hP⟩
  · refine ⟨fun i v C mc led' g ys h hi hv => T.turn i v C mc led' g ys h (by simpa using hi) (by simpa using hv)⟩

theorem comp_listA {Q : Flow → Heap → Prop} {y : Str} {py : Pos} {ax : Addr} {oa : Obj} {vs : List Value} (P : CompP) (hh : A.handled = none) (hl : IsL oa vs) (F : Loc g L cs m led h) (side : ∀ i g ys, P i g ys → ListAt ax oa g led) (h0 : P 0 g [])
    (T : CompTurn prog w A env scope cl m led target elt ifs vs.length (fun i v => vs[i]? = some v) P)
    (done : ∀ g ys D k h, P vs.length g ys → Loc g L cs (fun z => if z = y then some (.ref D) else m z) ((D, listO ys k) :: led) h → Q .next h)
    (hcl : CellsIn cl cs) (hcell : (scope.names.all fun x => x.2 != .cell) = true) (hkind : scope.kind = .function) (hsz : vs.length ≤ sizeLine)
    (hL : env.locals = L := by rfl) (hk : env.scope.kind = .function := by rfl) (hly : env.kindOf y = some .local := by rfl) (hc : cs.lookup y = none := by rfl) :
    Ev (model prog w) A (pyIter (.ref ax)) h (fun it h₂ => CompAt prog w A env scope cl elt target iter ifs pos it h₂ (fun D C oC h₃ =>
      Ev (model prog w) A (assign (.Name y py) env (.ref D)) h₃ (fun _ h₄ => (∃ mc, h₄.Ns C mc) ∧ ∀ h', Heap.SameBut C h₄ h' → Q .next h') No)) E := .mk fun s hs => by
  subst hs
  have hax := (side _ _ _ h0).get F
  have hne : ax ≠ s.heap.objs.size := Nat.ne_of_lt (Heap.lt_size hax)
  refine wpAny_pyIter_list (hl.isList hax) ⟨rfl, ⟨fun s' E' hs' => ?_⟩⟩
  refine comp_core (U := fun D C _ h₃ => Ev (model prog w) A (assign (.Name y py) env (.ref D)) h₃ (fun _ h₄ => (∃ mc, h₄.Ns C mc) ∧ ∀ h', Heap.SameBut C h₄ h' → Q .next h') No) P (Walks.list hh s.heap.objs.size ax hne vs.toArray) (fun i h x => let ⟨o, ho, _⟩ := x.1; ⟨o, ho⟩) (fun b hb => ?_) (fun i v s Q E st q => go_list st.1 q) (fun _ _ z => hcl.look z) hcell hkind (F.new _)
    ⟨⟨_, Heap.get?_push_size _ rfl, rfl, rfl⟩, (hl.isList hax).push _⟩ h0 ?_ (by simpa using hsz) (fun g ys D C oC k h hP F hn => ?_) s' hs'
  · rcases List.mem_cons.mp hb with rfl | hb
    · exact .inl rfl
    · exact .inr ⟨oa, fun i g ys hP => by rw [List.mem_singleton.mp hb]; exact side i g ys hP⟩
  · refine ⟨fun i v C mc led' g ys h hi hv => T.turn i v C mc led' g ys h (by simpa using hi) (by simpa using hv)⟩
  · refine assign_L F (fun h₄ F₄ => ⟨?_, fun h' hs' => done g ys D k h' (by simpa using hP) (F₄.dropC hs')⟩) hL hk hly hc
    obtain ⟨mc, ob, es, ep, q, r⟩ := hn
    have e1 := F.get (.tail _ (.head _))
    rw [q] at e1
    exact ⟨mc, ob, es, ep, by rw [Option.some.inj e1]; exact F₄.get (.tail _ (.head _)), r⟩

/-- a comprehension over a range by ones or more -/
theorem comp_range {Q : Value → Heap → Prop} {r : Addr} {a b c : Int} {t u v : Tok} {n : Nat} (P : CompP) (hh : A.handled = none) (hr : IsRange h r a b c t u v) (hsmall : Builtin.Range.small a b c = true) (hn : Builtin.Range.rangeSize a b c = (n : Int)) (F : Loc g L cs m led h) (h0 : P 0 g [])
    (T : CompTurn prog w A env scope cl m led target elt ifs n (fun i v => ∃ t, v = .int (a + i * c) t) P)
    (done : ∀ g ys D k h, P n g ys → Loc g L cs m ((D, listO ys k) :: led) h → Q (.ref D) h) (htn : ∃ x p, target = .Name x p)
    (hcl : CellsIn cl cs) (hcell : (scope.names.all fun x => x.2 != .cell) = true) (hkind : scope.kind = .function) (hsz : n ≤ sizeLine) :
    Ev (model prog w) A (pyIter (.ref r)) h (fun it h₂ => CompAt prog w A env scope cl elt target iter ifs pos it h₂ (plainU Q)) E := .mk fun s hs => by
  subst hs
  obtain ⟨x, p, rfl⟩ := htn
  refine wpAny_pyIter_range hr hsmall ⟨rfl, ⟨fun s' E' hs' => ?_⟩⟩
  refine comp_core P (Walks.range hh s.heap.objs.size a c n) (fun i h x => ⟨_, x⟩) (fun b hb => .inl (List.mem_singleton.mp hb)) (fun i v s Q E st q => go_name q) (fun _ _ z => hcl.look z) hcell hkind (F.new _)
    ?_ h0 T hsz (fun g ys D C oC k h hP F hn => ⟨hn, fun h' hs' => done g ys D k h' hP (F.dropC hs')⟩) s' hs'
  show (s.heap.push _).get? s.heap.objs.size = _
  rw [Heap.get?_push_size _ rfl, hn]
  simp
end
end

/-- heap h reads datum d at v -/
def Rd (h : Heap) (v : Value) (d : PyData) : Prop := ∃ as, Reads h v d as
def RdAll (h : Heap) (vs : List Value) (ds : List PyData) : Prop := ∃ as, ReadsAll h vs ds as
theorem Rd.keep {h h' : Heap} {v : Value} {d : PyData} (x : Rd h v d) (e : Sub h h') : Rd h' v d := let ⟨as, r⟩ := x; ⟨as, PyProof.Rows.Reads.keeps e r⟩
theorem RdAll.keep {h h' : Heap} {vs : List Value} {ds : List PyData} (x : RdAll h vs ds) (e : Sub h h') : RdAll h' vs ds := let ⟨as, r⟩ := x; ⟨as, PyProof.Rows.ReadsAll.keeps e r⟩
theorem rd_none {h : Heap} : Rd h .none .none := ⟨_, .none⟩
theorem rd_bool {h : Heap} {b : Bool} : Rd h (.bool b) (.bool b) := ⟨_, .bool b⟩
theorem rd_int {h : Heap} {i : Int} {t : Tok} : Rd h (.int i t) (.int i) := ⟨_, .int i t⟩
theorem rd_str {h : Heap} {x : Str} {t : Tok} : Rd h (.str x t) (.str x) := ⟨_, .str x t⟩
theorem RdAll.nil {h : Heap} : RdAll h [] [] := ⟨_, .nil⟩
theorem RdAll.cons {h : Heap} {v : Value} {d : PyData} {vs : List Value} {ds : List PyData} (x : Rd h v d) (y : RdAll h vs ds) : RdAll h (v :: vs) (d :: ds) := let ⟨_, a⟩ := x; let ⟨_, b⟩ := y; ⟨_, .cons a b⟩
theorem rd_list {h : Heap} {a : Addr} {o : Obj} {vs : List Value} {ds : List PyData} (ho : h.get? a = some o) (hl : IsL o vs) (r : RdAll h vs ds) : Rd h (.ref a) (.list ds) :=
  let ⟨as, r⟩ := r; let ⟨n, hd⟩ := hl.2; ⟨_, .list ho hl.1 hd (by simpa using r)⟩
abbrev tupO (vs : List Value) (n : Nat) : Obj := { cls := .type "tuple", data := .seq vs.toArray n }
theorem rd_tuple {h : Heap} {a : Addr} {n : Nat} {vs : List Value} {ds : List PyData} (ho : h.get? a = some (tupO vs n)) (r : RdAll h vs ds) : Rd h (.ref a) (.tuple ds) :=
  let ⟨as, r⟩ := r; ⟨_, .tuple ho rfl rfl (by simpa using r)⟩
theorem RdAll.snoc {h : Heap} {v : Value} {d : PyData} : ∀ {vs : List Value} {ds : List PyData}, RdAll h vs ds → Rd h v d → RdAll h (vs ++ [v]) (ds ++ [d])
  | [], [], _, y => .cons y .nil
  | [], _ :: _, ⟨_, r⟩, _ => by cases r
  | _ :: _, [], ⟨_, r⟩, _ => by cases r
  | u :: vs, e :: ds, ⟨_, r⟩, y => by
    cases r with
    | cons a b => exact .cons ⟨_, a⟩ (RdAll.snoc ⟨_, b⟩ y)
theorem RdAll.length {h : Heap} : ∀ {vs : List Value} {ds : List PyData}, RdAll h vs ds → vs.length = ds.length
  | [], [], _ => rfl
  | [], _ :: _, ⟨_, r⟩ => by cases r
  | _ :: _, [], ⟨_, r⟩ => by cases r
  | u :: vs, e :: ds, ⟨_, r⟩ => by
    cases r with
    | cons a b => simp [RdAll.length ⟨_, b⟩]
theorem RdAll.get {h : Heap} {v : Value} : ∀ {vs : List Value} {ds : List PyData} {i : Nat}, RdAll h vs ds → vs[i]? = some v → ∃ d, ds[i]? = some d ∧ Rd h v d
  | [], _, _, _, q => by simp at q
  | _ :: _, [], _, ⟨_, r⟩, _ => by cases r
  | u :: vs, e :: ds, i, ⟨_, r⟩, q => by
    cases r with
    | cons a b =>
      cases i with
      | zero => simp at q; subst q; exact ⟨e, rfl, ⟨_, a⟩⟩
      | succ i => simpa using RdAll.get (i := i) ⟨_, b⟩ (by simpa using q)
theorem RdAll.append {h : Heap} : ∀ {vs us : List Value} {ds es : List PyData}, RdAll h vs ds → RdAll h us es → RdAll h (vs ++ us) (ds ++ es)
  | [], _, [], _, _, y => y
  | [], _, _ :: _, _, ⟨_, r⟩, _ => by cases r
  | _ :: _, _, [], _, ⟨_, r⟩, _ => by cases r
  | u :: vs, us, e :: ds, es, ⟨_, r⟩, y => by
    cases r with
    | cons a b => exact .cons ⟨_, a⟩ (RdAll.append ⟨_, b⟩ y)
theorem Rd.tup {h : Heap} {v : Value} {ds : List PyData} (x : Rd h v (.tuple ds)) : ∃ a o vs n, v = .ref a ∧ h.get? a = some o ∧ o.cls = .type "tuple" ∧ o.data = .seq vs n ∧ RdAll h vs.toList ds := by
  obtain ⟨as, r⟩ := x
  cases r with
  | tuple h1 h2 h3 h4 => exact ⟨_, _, _, _, rfl, h1, h2, h3, _, h4⟩
theorem RdAll.two {h : Heap} {vs : List Value} {x y : Str} (r : RdAll h vs [.str x, .str y]) : ∃ t u, vs = [.str x t, .str y u] := by
  obtain ⟨_, r⟩ := r
  cases r with
  | cons a b => cases b with
    | cons b c => cases c; cases a; cases b; exact ⟨_, _, rfl⟩
theorem Rd.st {h : Heap} {v : Value} {x : Str} (r : Rd h v (.str x)) : ∃ t, v = .str x t := by
  obtain ⟨as, r⟩ := r
  cases r with
  | str x t => exact ⟨t, rfl⟩
section
variable {prog : Program} {w : World} {A : Around} {g h : Heap} {E : Value → Heap → Prop} {env : Env} {Q : Value → Heap → Prop} {L : Addr} {cs : List (Str × Addr)} {m : Str → Option Value} {led : List (Addr × Obj)} {t u : Tok} {x : Str}

theorem eEq {a b : Value} {da db : PyData} (ra : Rd h a da) (rb : Rd h b db) (ha : da.canLay0 = true) (hb : db.canLay0 = true) (hu : A.units + min da.depth db.depth < cLine) (k : Q (.bool (PyData.eqv da db)) h) : Ev (model prog w) A (compareOp .Eq a b) h Q E := .mk fun s hs => by
  subst hs; obtain ⟨_, ra⟩ := ra; obtain ⟨_, rb⟩ := rb
  exact PySem.SeqAt.compareEq_reads ra rb ha hb hu ⟨.refl s, k⟩
theorem eNe {a b : Value} {da db : PyData} (ra : Rd h a da) (rb : Rd h b db) (ha : da.canLay0 = true) (hb : db.canLay0 = true) (hu : A.units + min da.depth db.depth < cLine) (k : Q (.bool (!PyData.eqv da db)) h) : Ev (model prog w) A (compareOp .NotEq a b) h Q E := .mk fun s hs => by
  subst hs; obtain ⟨_, ra⟩ := ra; obtain ⟨_, rb⟩ := rb
  exact PySem.SeqAt.compareNe_reads ra rb ha hb hu ⟨.refl s, k⟩

theorem Sub_ {M : Model} {value slice : Expr} {pos : Pos} (k : Ev M A (eval value env) h (fun o h₁ => Ev M A (eval slice env) h₁ (fun i h₂ => Ev M A (subscriptTail value slice o i) h₂ Q E) E) E) : Ev M A (eval (.Subscript value slice pos) env) h Q E :=
  .mk fun s hs => Subscript_ (k.use hs (.refl s) fun _ _ m₁ k₁ => k₁.use rfl m₁ fun _ _ m₂ k₂ => k₂.use rfl m₂ fun _ _ m₃ q => ⟨m₃, q⟩)

theorem eItem_str {value slice : Expr} {i : Int} {c : Nat} (h0 : 0 ≤ i) (hc : x.cps[i.toNat]? = some c) (hl : x.length < 2 ^ 62) (k : ∀ tk, Q (.str ⟨#[c]⟩ tk) h)
    (hs : subscripted slice false (.str x t) (.int i u) = operate [.str x t, .int i u] (getItem (.str x t) (.int i u)) := by with_unfolding_all rfl) : Ev (model prog w) A (subscriptTail value slice (.str x t) (.int i u)) h Q E := .mk fun s hs' => by
  have hlt : i.toNat < x.cps.size := (Array.getElem?_eq_some_iff.mp hc).1
  have hl' : x.cps.size < 2 ^ 62 := hl
  refine tail_any (typeIs_str s x t) PySem.F.slot_str_getitem.lookup (PyProof.Rows.getItem_str (c := c) ?_ ?_ (fint (Q := Q) hs' (k _) _)) hs
  · have h1 : ¬ i < -(2 ^ 63 : Int) := by omega
    have h2 : ¬ i ≥ 2 ^ 63 := by omega
    rw [decide_eq_false h1, decide_eq_false h2]; rfl
  · have e : seqIndex? i x.length = some i.toNat := by
      unfold seqIndex?
      have h1 : ¬ i < 0 := by omega
      simp only [h1, if_false]
      have h2 : i < (x.length : Int) := by show i < (x.cps.size : Int); omega
      simp [h0, h2]
    rw [e]; exact hc
theorem eLen_str (hl : x.length < 2 ^ 62) (k : ∀ tk, Q (.int x.length tk) h) : Ev (model prog w) A (call (.builtin "len") [.str x t]) h Q E :=
  .mk fun s hs => PyProof.Rows.len_str (by omega) (fint (Q := Q) hs (k _) _)
theorem eLen_list {a : Addr} {o : Obj} {vs : List Value} (ho : h.get? a = some o) (hl : IsL o vs) (hn : vs.length < 2 ^ 62) (k : ∀ tk, Q (.int vs.length tk) h) : Ev (model prog w) A (call (.builtin "len") [.ref a]) h Q E :=
  .mk fun s hs => PyProof.Rows.len_list (hs ▸ hl.isList ho) (by simp; omega) (fint (Q := Q) hs (by simpa using k _) _)
/-- range(n) -/
theorem eRange1 {n : Int} (F : Loc g L cs m led h) (k : ∀ r h' t u v, IsRange h' r 0 n 1 t u v → Loc g L cs m led h' → Q (.ref r) h') : Ev (model prog w) A (call (.type "range") [.int n t]) h Q E :=
  .mk fun s hs => call_range_1 ⟨rfl, by subst hs; exact k _ _ _ _ _ (Heap.get?_push_size _ rfl) (F.new _).drop⟩
/-- a list display -/
theorem List_e {elts : List Expr} {pos : Pos} (k : Ev (model prog w) A (spliced (backTo pos (starEach elts env))) h (fun vs h₁ => vs.length ≤ sizeLine ∧ ∃ g L cs m led, Loc g L cs m led h₁ ∧ ∀ D h', Loc g L cs m ((D, listO vs 0) :: led) h' → Q (.ref D) h') E) :
    Ev (model prog w) A (eval (.List elts pos) env) h Q E :=
  .mk fun s hs => wpAny_List (k.use hs (.refl s) fun vs s₁ m₁ ⟨hsz, g, L, cs, m, led, F, k₁⟩ => ⟨hsz, m₁.trans rfl, k₁ _ _ (F.new _)⟩)
theorem Tuple_e {elts : List Expr} {n : Nat} {pos : Pos} (k : Ev (model prog w) A (spliced (backTo pos (starEach elts env))) h (fun vs h₁ => vs.length ≤ sizeLine ∧ ∃ g L cs m led, Loc g L cs m led h₁ ∧ ∀ D h', Loc g L cs m ((D, tupO vs 0) :: led) h' → Q (.ref D) h') E) :
    Ev (model prog w) A (eval (.Tuple elts n pos) env) h Q E :=
  .mk fun s hs => wpAny_Tuple (k.use hs (.refl s) fun vs s₁ m₁ ⟨hsz, g, L, cs, m, led, F, k₁⟩ => ⟨hsz, m₁.trans rfl, k₁ _ _ (F.new _)⟩)
theorem comp_range1 {scope : Scope} {cl : List (Str × Addr)} {elt target iter : Expr} {ifs : List Expr} {pos : Pos} {r : Addr} {t u v : Tok} {n : Nat} (P : CompP) (hh : A.handled = none) (hr : IsRange h r 0 (n : Int) 1 t u v) (F : Loc g L cs m led h) (h0 : P 0 g []) (hsz : n ≤ sizeLine)
    (T : CompTurn prog w A env scope cl m led target elt ifs n (fun i v => ∃ t, v = .int i t) P)
    (done : ∀ g ys D k h, P n g ys → Loc g L cs m ((D, listO ys k) :: led) h → Q (.ref D) h) (htn : ∃ x p, target = .Name x p)
    (hcl : CellsIn cl cs) (hcell : (scope.names.all fun x => x.2 != .cell) = true) (hkind : scope.kind = .function) :
    Ev (model prog w) A (pyIter (.ref r)) h (fun it h₂ => CompAt prog w A env scope cl elt target iter ifs pos it h₂ (plainU Q)) E := by
  have hn : n ≤ 2 ^ 24 := by rw [sizeLine_eq] at hsz; omega
  refine comp_range P hh hr (small_one (by omega) (by omega) (by omega) (by omega)) (by rw [rangeSize_nat]; simp) F h0 ?_ done htn hcl hcell hkind hsz
  refine ⟨fun i v C mc led' g ys h hi hv => T.turn i v C mc led' g ys h hi ?_⟩
  obtain ⟨t, rfl⟩ := hv
  exact ⟨t, by simp⟩
theorem tests_nil {Q : Bool → Heap → Prop} (k : Q true h) : Ev (model prog w) A (testsOf [] env) h Q E := .mk fun s hs => by
  show wpAny _ _ (forIn [] true _) _ _ _
  rw [List.forIn_nil]; exact wpAny_pure (fin0 (Q := Q) hs k)
theorem tests_one {c : Expr} {Q : Bool → Heap → Prop} (k : Ev (model prog w) A (isTrue c env (eval c env)) h Q E) : Ev (model prog w) A (testsOf [c] env) h Q E := .mk fun s hs => by
  show wpAny _ _ (forIn [c] true _) _ _ _
  rw [List.forIn_cons]
  refine wpAny_bind ?_
  show wpAny _ _ (do let ok ← isTrue c env (eval c env); pure (ForInStep.yield ok)) _ _ _
  refine wpAny_bind (k.use hs (.refl s) fun b s₁ m₁ q => wpAny_pure ?_)
  show wpAny _ _ (forIn [] b _) _ _ _
  rw [List.forIn_nil]; exact wpAny_pure ⟨m₁, q⟩
end

theorem Loc.freeze1 {g h : Heap} {L a : Addr} {cs : List (Str × Addr)} {m : Str → Option Value} {led : List (Addr × Obj)} {o : Obj} (F : Loc g L cs m ((a, o) :: led) h) : ∃ g', Loc g' L cs m led h ∧ Sub g g' ∧ g'.get? a = some o := by
  obtain ⟨g', F', s, q⟩ := F.drop.freeze
  have D := F.led _ (.head _)
  have nd := F.nd
  simp only [List.map_cons, List.nodup_cons] at nd
  refine ⟨g', F', s, q a o D.1 D.2.1 (fun p hp e => nd.1 (List.mem_map.mpr ⟨p, hp, e⟩)) (fun x hx => (F.cnew x a hx).2.2 _ (.head _) rfl)⟩

inductive PutF (a : Addr) (o : Obj) : List (Addr × Obj) → (Obj → List (Addr × Obj)) → Prop
  | head {l : List (Addr × Obj)} : PutF a o ((a, o) :: l) (fun o' => (a, o') :: l)
  | tail {p : Addr × Obj} {l : List (Addr × Obj)} {f : Obj → List (Addr × Obj)} : PutF a o l f → PutF a o (p :: l) (fun o' => p :: f o')
theorem PutF.put {a : Addr} {o : Obj} {l : List (Addr × Obj)} {f : Obj → List (Addr × Obj)} (h : PutF a o l f) (o' : Obj) : Put a o o' l (f o') := by
  induction h with
  | head => exact .head
  | tail _ ih => exact .tail ih
theorem intsAre_get {vs : List Value} {ns : List Int} (x : IntsAre vs ns) {i : Nat} {v : Value} (q : vs[i]? = some v) : ∃ n t, v = .int n t ∧ ns[i]? = some n := by
  induction x generalizing i with
  | nil => simp at q
  | cons n t _ ih =>
    cases i with
    | zero => simp at q; exact ⟨n, t, q.symm, rfl⟩
    | succ i => simpa using ih (by simpa using q)
section
variable {prog : Program} {w : World} {A : Around} {g h : Heap} {E : Value → Heap → Prop} {env : Env} {Q : Value → Heap → Prop} {L a : Addr} {cs : List (Str × Addr)} {m : Str → Option Value} {led : List (Addr × Obj)} {t u : Tok} {x : Str} {o : Obj} {vs : List Value}

theorem eGet_list {i : Int} {v : Value} (ho : h.get? a = some o) (hl : IsL o vs) (h0 : 0 ≤ i) (hi : i < 2 ^ 62) (hx : vs[i.toNat]? = some v) (k : Q v h) : Ev (model prog w) A (getItem (.ref a) (.int i u)) h Q E :=
  .mk fun s hs => wpAny_getItem_list (hs ▸ hl.isList ho) h0 (by omega) (by simpa using hx) (fin0 (Q := Q) hs k)
theorem tail_list {value slice : Expr} {i : Int} (ho : h.get? a = some o) (hl : IsL o vs) (k : Ev (model prog w) A (getItem (.ref a) (.int i u)) h Q E)
    (hs : subscripted slice false (.ref a) (.int i u) = operate [.ref a, .int i u] (getItem (.ref a) (.int i u)) := by with_unfolding_all rfl) : Ev (model prog w) A (subscriptTail value slice (.ref a) (.int i u)) h Q E :=
  .mk fun s hs' => tail_any (Heap.IsList.typeIs (hs' ▸ hl.isList ho)) slot_list_getitem.lookup (k.run s hs') hs
def NoRef : Value → Prop
  | .ref _ => False
  | _ => True
theorem Expr_ {M : Model} {e : Expr} {pos : Pos} {Q : Flow → Heap → Prop} (k : Ev M A (eval e env) h (fun v h' => NoRef v ∧ Q .next h') E) (hi : interactive env = false := by rfl) (hsw : swapsWith e none pos.line env = pure false := by rfl) :
    Ev M A (exec (.Expr e pos) env) h Q E :=
  .mk fun s hs => wpAny_Expr (k.use hs (.refl s) fun v s' m' q => by cases v <;> first | exact q.1.elim | exact ⟨m', q.2⟩) hi hsw
theorem eStr_int {n : Int} (hn : n.natAbs < 18446744073709551616) (k : ∀ tk, Q (.str (Str.ofString (toString n)) tk) h) : Ev (model prog w) A (call (.type "str") [.int n t]) h Q E :=
  .mk fun s hs => PySem.P.str_of_int (by
    by_cases h0 : n.natAbs = 0
    · rw [h0]; decide
    · exact Nat.lt_trans ((Nat.log2_lt h0).mpr (by show _ < 2 ^ 64; exact hn)) (by decide)) (fint (Q := Q) hs (k _) _)
/-- a, b = xs, for a list or a tuple of two -/
theorem assign_two {t₁ t₂ : Expr} {n : Nat} {pos : Pos} {v₁ v₂ : Value} {Q : Unit → Heap → Prop} (hh : A.handled = none) (F : Loc g L cs m led h) (ho : h.get? a = some o) (hd : (o.cls = .type "list" ∨ o.cls = .type "tuple") ∧ ∃ e, o.data = .seq #[v₁, v₂] e)
    (k : ∀ h', Loc g L cs m led h' → Ev (model prog w) A (assign t₁ env v₁) h' (fun _ h₁ => Ev (model prog w) A (assign t₂ env v₂) h₁ Q E) E)
    (he : assignEach [t₁, t₂] env = [(false, assign t₁ env), (false, assign t₂ env)] := by rfl) : Ev (model prog w) A (assign (.Tuple [t₁, t₂] n pos) env (.ref a)) h Q E := .mk fun s hs => by
  subst hs
  rw [arm_assign_Tuple]
  refine wpAny_bind (wpAny_standAt ?_)
  unfold unpack
  rw [he]
  have fin : ∀ h', Heap.ExtBut s.heap.objs.size s.heap h' → wpAny (model prog w) A (assignInOrder (([(false, assign t₁ env), (false, assign t₂ env)] : List (Bool × (Value → Sem Unit))).map (·.2)) [v₁, v₂]) (fun a s' => Same s s' ∧ Q a s'.heap) (fun e s' => Same s s' ∧ E e s'.heap) { s with heap := h' } := fun h' hb => by
    have F' : Loc g L cs m led h' := F.keep fun b x e => hb b x (Nat.ne_of_lt (Heap.lt_size e)) e
    show wpAny _ _ (do holding [v₂] (assign t₁ env v₁); (do holding [] (assign t₂ env v₂); pure ())) _ _ _
    refine wpAny_bind (wpAny_holding ((k h' F').use rfl (Same.mk' s h' s.toks) fun _ s₁ m₁ k₁ => ?_))
    exact wpAny_bind (wpAny_holding (k₁.use rfl m₁ fun _ s₂ m₂ q => wpAny_pure ⟨m₂, q⟩))
  refine wpAny_bind (wpAny_holding ?_)
  obtain ⟨hc, e, hd⟩ := hd
  rcases hc with hc | hc
  · exact kun_itemsOf (items := #[v₁, v₂]) hh ⟨o, ho, hc, e, hd⟩ fin
  · exact wpAny_unpackItems_tuple (items := #[v₁, v₂]) hh ⟨o, ho, hc, e, hd⟩ fin
end

theorem slot_search : Slot "re.Pattern" "search" "re.Pattern.search" :=
  .of (owner := "re.Pattern") (n := "search") (by rw [typeLookup_type, builtinLookup_eq_fast]; kernel_rfl) (by decide +kernel) (by decide +kernel) (by decide +kernel)
    (by first | exact .inl (by decide +kernel) | exact .inr (by decide +kernel)) (by rw [isSubtype_type]; kernel_rfl)
theorem type_search : typeOf (.builtin "re.Pattern.search") = pure (.type "method_descriptor") := by show builtinType _ = _; rw [builtinType_eq_fast]; kernel_rfl
theorem entry_search : entryFor table "re.Pattern.search" = some Builtin.«re.Pattern.search» := entryFor_of_tree (by kernel_rfl)
theorem args_search (a b : Value) : argsOk "re.Pattern.search" ⟨[a, b], []⟩ := by unfold argsOk; kernel_rfl
theorem attrs_pattern : PlainAttrs "re.Pattern" := ⟨⟨"object.__getattribute__", by rw [typeLookup_type, builtinLookup_eq_fast]; kernel_rfl, by decide +kernel⟩, by rw [typeLookup_type, builtinLookup_eq_fast]; kernel_rfl⟩

/-- the code never takes the sign c at its first-set -/
def NoIn (code : Array Nat) (c : Nat) : Prop := ∀ seen, ∃ seen', Sre.inSet code c code.size 5 true seen = .ok (false, seen')

theorem admitted_none {m : Sre.M} (hn : ∀ c ∈ m.text.toList, NoIn m.code c) (hl : m.lim = m.text.size) : ∀ (fuel s : Nat) (seen : Sre.Seen), ∃ seen', m.admitted fuel s seen = .ok (none, seen')
  | 0, s, seen => ⟨seen, rfl⟩
  | fuel + 1, s, seen => by
    unfold Sre.M.admitted
    by_cases h : s ≥ m.lim
    · rw [if_pos h]; exact ⟨seen, rfl⟩
    · rw [if_neg h]
      have hs : s < m.text.size := by omega
      have hm : m.text.getD s 0 ∈ m.text.toList := by
        rw [Array.getD_eq_getD_getElem?, Array.getElem?_eq_getElem hs]
        simp
      obtain ⟨seen', e⟩ := hn _ hm seen
      rw [e]
      exact admitted_none hn hl fuel (s + 1) seen'

def failM (m : Sre.M) : Prop := m.answer = some false ∧ m.frames = [] ∧ m.outcome = none

theorem attemptFrom_fail {m : Sre.M} {s : Nat} {first : Bool} (hs : m.hasFirstSet = true) (hn : ∀ c ∈ m.text.toList, NoIn m.code c) (hl : m.lim = m.text.size) (hfr : m.frames = []) (ho : m.outcome = none) : failM (m.attemptFrom s first) := by
  obtain ⟨seen', e⟩ := admitted_none hn hl (m.lim + 1 - s) s m.seen
  unfold Sre.M.attemptFrom
  rw [hs, e]
  exact ⟨rfl, hfr, ho⟩
theorem forSearch_fail {code text : Array Nat} (hn : ∀ c ∈ text.toList, NoIn code c) (hf : ∀ m : Sre.M, m.code = code → m.hasFirstSet = true) :
    failM (Sre.forSearch code text 0 0 text.size false) := by
  unfold Sre.forSearch
  dsimp only
  split
  · exact ⟨rfl, rfl, rfl⟩
  · exact attemptFrom_fail (hf _ rfl) hn rfl rfl rfl

theorem run_fail {m : Sre.M} (h : failM m) : ∃ m', m.runFor 4 = m' ∧ m'.outcome = some .failed := by
  obtain ⟨h1, h2, h3⟩ := h
  have e : m.step = { m with outcome := some .failed } := by
    unfold Sre.M.step
    rw [h3, h1, h2]
    rfl
  refine ⟨_, rfl, ?_⟩
  unfold Sre.M.runFor
  rw [h3, e]
  rfl

section
variable {prog : Program} {w : World} {A : Around} {E : Value → Shared → Prop} {s : Shared}
theorem rules_none {M : Model} {body : Nat → Sem (ForInStep PUnit)} (hb : ∀ i (Q' : ForInStep PUnit → Shared → Prop), Q' (.yield .unit) s → wpAny M A (body i) Q' E s) {Q : PUnit → Shared → Prop} (q : Q .unit s) : ∀ l : List Nat, wpAny M A (forIn l PUnit.unit fun i _ => body i) Q E s
  | [] => by rw [List.forIn_nil]; exact wpAny_pure q
  | i :: r => by
    rw [List.forIn_cons]
    exact wpAny_bind (hb i _ (rules_none hb q r))
theorem runToEnd_fail {M : Model} {m : Sre.M} {Q : Option Sre.M → Shared → Prop} (h : failM m) (q : Q none s) : wpAny M A (Builtin.Re.reRunToEnd m) Q E s := by
  obtain ⟨m', e1, e2⟩ := run_fail h
  unfold Builtin.Re.reRunToEnd
  rw [show (2 ^ 64 : Nat) = 18446744073709551615 + 1 from by decide]
  refine wpAny_bind ?_
  unfold Builtin.Re.reDrive
  dsimp only
  rw [show Builtin.Re.reTurnSteps = 4 from rfl, e1, e2]
  refine wpAny_pure (wpAny_bind (rules_none (fun i Q' q' => ?_) ?_ _))
  · split
    · exact wpAny_bind (wpAny_rule (wpAny_pure q'))
    · exact wpAny_bind (wpAny_pure (wpAny_pure q'))
  · rw [e2]
    exact wpAny_pure q

theorem named1 (v : Value) : Builtin.Re.reNamed "re.Pattern.search" "search" ["string", "pos", "endpos"] 1 [v] [] = pure [some v, none, none] := by kernel_rfl
def codeOf (its : Array Value) : Array Nat := (its.map Builtin.Re.reRawOf).map (·.toNat)
theorem target_str {M : Model} {a b : Addr} {oa ob : Obj} {fs its : Array Value} {n : Nat} {x : Str} {t : Tok} {Q : Builtin.Re.ReTarget → Shared → Prop} (ha : s.heap.get? a = some oa) (hd : oa.data = .fields fs) (h6 : fs.getD 6 .none = .int 0 0) (h2 : fs.getD 2 .none = .int 0 0) (h5 : fs.getD 5 .none = .ref b)
    (hb : s.heap.get? b = some ob) (hbd : ob.data = .seq its n) (hx : x.length ≤ 1000) (q : Q ⟨.ref a, .str x t, codeOf its, x.cps, 0, 0, 0, x.cps.size⟩ s) :
    wpAny M A (Builtin.Re.reTarget "re.Pattern.search" "search" ⟨[.ref a, .str x t], []⟩) Q E s := by
  unfold Builtin.Re.reTarget
  dsimp only
  rw [named1]
  refine wpAny_bind (wpAny_pure ?_)
  dsimp only
  refine wpAny_bind (wpAny_pure (wpAny_bind (wpAny_pure ?_)))
  refine wpAny_bind (wpAny_fieldsOf ha hd ?_)
  have et : Builtin.Re.reTextOf (.str x t) = pure (x.cps, 0) := by rfl
  rw [et]
  refine wpAny_bind (wpAny_pure ?_)
  dsimp only
  rw [h6, h2, h5]
  show wpAny _ _ (do Builtin.Re.reNoCollectionInside (.str x t) 0; _) _ _ _
  refine wpAny_bind (wpAny_pure ?_)
  unfold Builtin.Re.reRawItems
  refine wpAny_bind (wpAny_bind (wpAny_seqItems hb hbd (wpAny_pure ?_)))
  refine wpAny_pure ?_
  have hx' : x.cps.size ≤ 1000 := hx
  have e1 : min (0 : Int).toNat x.cps.size = 0 := by simp
  have e2 : min ((2 ^ 63 - 1 : Int)).toNat x.cps.size = x.cps.size := by
    have : ((2 ^ 63 - 1 : Int)).toNat = 9223372036854775807 := by decide
    rw [this]; omega
  rw [e1, e2]
  exact q

theorem search_none {a b : Addr} {oa ob : Obj} {fs its : Array Value} {n : Nat} {x : Str} {t : Tok} {Q : Value → Shared → Prop} (ha : s.heap.get? a = some oa) (hc : oa.cls = .type "re.Pattern") (hd : oa.data = .fields fs) (h6 : fs.getD 6 .none = .int 0 0) (h2 : fs.getD 2 .none = .int 0 0) (h5 : fs.getD 5 .none = .ref b)
    (hb : s.heap.get? b = some ob) (hbd : ob.data = .seq its n) (hx : x.length ≤ 1000) (hf : ∀ m : Sre.M, m.code = codeOf its → m.hasFirstSet = true) (hn : ∀ c ∈ x.cps.toList, NoIn (codeOf its) c) (q : Q .none s) :
    wpAny (model prog w) A (call (.builtin "re.Pattern.search") [.ref a, .str x t]) Q E s := by
  refine wpAny_call_entry slot_search ⟨oa, ha, hc⟩ entry_search ?_ (args_search _ _)
  unfold Builtin.«re.Pattern.search»
  refine wpAny_bind (target_str ha hd h6 h2 h5 hb hbd hx ?_)
  dsimp only
  unfold Builtin.Re.reAnswer
  exact wpAny_bind (runToEnd_fail (forSearch_fail hn hf) (wpAny_pure ⟨_, rfl, q⟩))
theorem method_search {M : Model} {a : Addr} {oa : Obj} {pl : Sem Bool} {Q : Value × List Value → Shared → Prop} (ha : s.heap.get? a = some oa) (hc : oa.cls = .type "re.Pattern") (hd : oa.dict = none) (q : Q (.builtin "re.Pattern.search", [.ref a]) s) :
    wpAny M A (getMethod (.ref a) "search" pl) Q E s := getMethod_builtin ⟨oa, ha, hc⟩ attrs_pattern slot_search type_search (fun _ e => by cases e; exact ⟨oa, ha, hd⟩) q
end
abbrev nameRe : Array Value := #[.int 14 0, .int 10 0, .int 4 0, .int 1 0, .int 1 0, .int 22 0, .int 0 0, .int 31 0, .int 16 0, .int 127 0, .int 0 0, .int 13 0, .int 7 0, .int 22 0, .int 0 0, .int 31 0, .int 16 0, .int 127 0, .int 0 0, .int 1 0]
abbrev valueRe : Array Value := #[.int 14 0, .int 14 0, .int 4 0, .int 1 0, .int 1 0, .int 9 0, .int 4294966783 0, .int 0 0, .int 0 0, .int 2147483648 0, .int 0 0, .int 0 0, .int 0 0, .int 0 0, .int 0 0, .int 13 0, .int 11 0, .int 9 0, .int 4294966783 0, .int 0 0, .int 0 0, .int 2147483648 0, .int 0 0, .int 0 0, .int 0 0, .int 0 0, .int 0 0, .int 1 0]
theorem code_name : codeOf nameRe = #[14, 10, 4, 1, 1, 22, 0, 31, 16, 127, 0, 13, 7, 22, 0, 31, 16, 127, 0, 1] := by decide +kernel
theorem code_value : codeOf valueRe = #[14, 14, 4, 1, 1, 9, 4294966783, 0, 0, 2147483648, 0, 0, 0, 0, 0, 13, 11, 9, 4294966783, 0, 0, 2147483648, 0, 0, 0, 0, 0, 1] := by decide +kernel
theorem first_name (m : Sre.M) (h : m.code = codeOf nameRe) : m.hasFirstSet = true := by unfold Sre.M.hasFirstSet; rw [h, code_name]; rfl
theorem first_value (m : Sre.M) (h : m.code = codeOf valueRe) : m.hasFirstSet = true := by unfold Sre.M.hasFirstSet; rw [h, code_value]; rfl
theorem noIn_name {c : Nat} (h1 : 32 ≤ c) (h2 : c ≠ 127) : NoIn (codeOf nameRe) c := fun seen => by
  rw [code_name]
  apply Exists.intro
  show (if (decide (0 ≤ c) && decide (c ≤ 31)) = true then _ else _) = _
  rw [if_neg (by simp; omega)]
  show (if (c == 127) = true then _ else _) = _
  rw [if_neg (by simpa using h2)]
  rfl
theorem noIn_value {c : Nat} (h1 : 32 ≤ c ∨ c = 9) (h2 : c ≠ 127) : NoIn (codeOf valueRe) c := fun seen => by
  rw [code_value]
  apply Exists.intro
  have key : (decide (c < 256) && (((#[14, 14, 4, 1, 1, 9, 4294966783, 0, 0, 2147483648, 0, 0, 0, 0, 0, 13, 11, 9, 4294966783, 0, 0, 2147483648, 0, 0, 0, 0, 0, 1] : Array Nat).getD (5 + (1 + c / 32)) 0).testBit (c % 32))) = false := by
    by_cases hc : c < 256
    · have : ∀ d : Fin 256, (32 ≤ d.val ∨ d.val = 9) → d.val ≠ 127 → (((#[14, 14, 4, 1, 1, 9, 4294966783, 0, 0, 2147483648, 0, 0, 0, 0, 0, 13, 11, 9, 4294966783, 0, 0, 2147483648, 0, 0, 0, 0, 0, 1] : Array Nat).getD (5 + (1 + d.val / 32)) 0).testBit (d.val % 32)) = false := by decide +kernel
      rw [this ⟨c, hc⟩ h1 h2, Bool.and_false]
    · simp [hc]
  show (if (decide (c < 256) && (((#[14, 14, 4, 1, 1, 9, 4294966783, 0, 0, 2147483648, 0, 0, 0, 0, 0, 13, 11, 9, 4294966783, 0, 0, 2147483648, 0, 0, 0, 0, 0, 1] : Array Nat).getD (5 + (1 + c / 32)) 0).testBit (c % 32))) = true then _ else _) = _
  rw [key, if_neg Bool.false_ne_true]
  rfl

theorem subHide {h : Heap} {as : List Addr} : Sub (hideAll h as) h := fun b o e => of_hideAll _ e
theorem extBut_hide {h h' : Heap} {D : Addr} (s : Sub (hideAll h [D]) h') : Heap.ExtBut D h h' := fun b o hb e => s b o (hideAll_get _ e (by simpa using hb))
theorem sub_hide {g h : Heap} {as : List Addr} (s : Sub g h) (n : ∀ a ∈ as, g.get? a = none) : Sub g (hideAll h as) := fun b o e => hideAll_get _ (s b o e) fun q => by rw [n b q] at e; cases e
theorem Rm.make {A : Around} {C : Addr} {vals : List Value} {n : Nat} (R : Rm A (n + 1)) : Rm (A.under (.builtin "type.__call__" ⟨.ref C :: vals, []⟩)) n :=
  ⟨R.hd, by have := R.dp; show A.depth + 1 + 2 * n < _; omega, by have := R.un; show A.units + 1 + 8 * n + 100 < _; omega, R.gd⟩
theorem Rm.in1 {A : Around} {n : Nat} (R : Rm A (n + 1)) : Rm A.in1 n := ⟨R.hd, by have := R.dp; show A.depth + 2 * n < _; omega, by have := R.un; show A.units + 1 + 8 * n + 100 < _; omega, R.gd⟩

section
variable {prog : Program} {w : World} {A : Around} {g h : Heap} {E : Value → Heap → Prop} {K : Frag} {mg mb : Str → Option Value} {Q : Value → Heap → Prop}
/-- a def of the text is called; the objects of led are its to change -/
theorem code_fnM {f : Addr} {oc : Value} {od : Option Addr} {osl : Array (Option Value)} {fd : FuncData} {body : List Stmt} {pos : List Value} {kw : List (Str × Value)} {binds : List (Str × Value)} {led : List (Addr × Obj)} {P : Result → Heap → Prop}
    (X : Amb K mg mb g) (hg : Sub g h) (hled : ∀ p ∈ led, h.get? p.1 = some p.2 ∧ g.get? p.1 = none) (nd : (led.map (·.1)).Nodup)
    (ho : K.lookup f = some ⟨oc, od, .func fd, osl⟩) (hcd : codeIn K fd.code fd.qualname = true) (hbody : fd.body = .stmts body) {n : Nat} (R : Rm A (n + 1))
    (hbind : ∀ s : Shared, s.heap = h → BindsTo s fd ⟨pos, kw⟩ binds) (hcell : (fd.scope.names.all fun x => x.2 != .cell) = true) (hloc : ((binds.map (·.1)).all fun y => fd.scope.names.lookup y == some .local) = true)
    (k : ∀ A' L g' h', Rm A' n → Sub g g' → g' = hideAll h (led.map (·.1)) → Loc g' L [] (fun x => binds.reverse.lookup x) led h' →
      Ev (model prog w) A' (execs body (callEnv fd L f)) h' (fun fl h'' => P (.ok (.ret (match fl with | .ret v => v | _ => .none))) h'') (fun _ _ => False))
    (hco : fd.scope.isCoroutine = false := by rfl) (hgen : fd.scope.isGenerator = false := by rfl) (hk : fd.scope.kind = .function := by rfl) :
    EvC (model prog w) A (.call (.ref f) ⟨pos, kw⟩) h P := .mk fun s hs => by
  subst hs
  have X' := X.keep hg
  refine codeAny_call_def (by have := R.dp; omega) (X'.k _ _ ho) rfl X'.lim (codeRec_of X'.k hcd) hbody (hbind s rfl) (fun x hx => by have := List.all_eq_true.mp hcell x hx; simpa using this) (fun x hx => by have := List.all_eq_true.mp hloc x.1 (List.mem_map.mpr ⟨x, hx, rfl⟩); simpa using this) (fun h₀ hns hk₀ => ?_) hco hgen hk
  have F : Loc (hideAll s.heap (led.map (·.1))) s.heap.objs.size [] (fun x => binds.reverse.lookup x) led h₀ :=
    ⟨subHide.tr hk₀, ⟨_, hns, fun _ _ => rfl⟩, none_sub subHide (get_size _), fun p hp => ⟨hk₀ _ _ (hled p hp).1, Nat.ne_of_lt (Heap.lt_size (hled p hp).1), hideAll_none _ (List.mem_map.mpr ⟨p, hp, rfl⟩)⟩, nd, fun _ _ q => (by cases q), fun _ _ _ q => (by cases q), fun _ _ q => (by cases q)⟩
  refine wpAny_mono ((k _ _ _ _ R.deeper (sub_hide hg fun a ha => ?_) rfl F).run _ rfl) (fun fl s' q => ⟨Same.trans (Same.mk' s _ _) q.1, q.2⟩) fun _ _ q => q.2.elim
  obtain ⟨p, hp, rfl⟩ := List.mem_map.mp ha
  exact (hled p hp).2

/-- a class of the text is called -/
theorem eMake {C fI : Addr} {rest : List Value} (X : Amb K mg mb h) (hm : makesIn K C = true) (hi : findIn K (.ref C) "__init__" = some (some (.ref fI))) (hf : typeIn K (.ref fI) = some (.type "function"))
    (k : ∀ x dx h', Sub h h' → h.get? x = none → h.get? dx = none → x ≠ dx → h'.get? x = some (instObj C dx) → h'.get? dx = some emptyDict →
      EvC (model prog w) (A.under (.builtin "type.__call__" ⟨.ref C :: rest, []⟩)) (.call (.ref fI) ⟨.ref x :: rest, []⟩) h' (fun r h'' => match r with | .ok (.ret v) => v = .none ∧ Q (.ref x) h'' | _ => False)) :
    Ev (model prog w) A (call (.ref C) rest) h Q E := .mk fun s hs => by
  subst hs
  obtain ⟨hh, gg, d, t, os⟩ := s
  have n1 : hh.get? (hh.objs.size + 1) = none := by
    cases q : hh.get? (hh.objs.size + 1) with
    | none => rfl
    | some o => exact absurd (Heap.lt_size q) (Nat.not_lt.mpr (Nat.le_succ _))
  have e2 : ((hh.push emptyDict).push (instObj C hh.objs.size)).get? (hh.objs.size + 1) = some (instObj C hh.objs.size) := by heap_get
  have e3 : ((hh.push emptyDict).push (instObj C hh.objs.size)).get? hh.objs.size = some emptyDict := Heap.get?_push_of_some _ (Heap.get?_push_size _ rfl)
  refine wpAny_call (make_core (makes_of X.k hm) (looks_findIn X.k hi) (fun self => bind_fn X.k self hf) (.inl rfl) ?_)
  refine codeAny_mono ((k _ _ _ (fun b o e => Heap.get?_push_of_some _ (Heap.get?_push_of_some _ e)) n1 (get_size _) (Nat.succ_ne_self _) e2 e3).run _ rfl) fun r s' z => ?_
  obtain ⟨m₁, z⟩ := z
  rcases r with e | (v | _ | _ | _) <;> first | exact z.elim | exact ⟨z.1, Same.trans (Same.mk' ⟨hh, gg, d, t, os⟩ _ t) m₁, z.2⟩
/-- an object of the class C that holds under the name a alone the value v -/
def OneAt (C : Addr) (a : Str) (h : Heap) (x : Addr) (v : Value) : Prop := ∃ dx hash t, h.get? x = some (instObj C dx) ∧ h.get? dx = some (dictOf [⟨hash, .str a t, v⟩] 1)
theorem OneAt.keep {C : Addr} {a : Str} {h h' : Heap} {x : Addr} {v : Value} (H : OneAt C a h x v) (e : Sub h h') : OneAt C a h' x v := let ⟨dx, hs, t, p, q⟩ := H; ⟨dx, hs, t, e _ _ p, e _ _ q⟩
def OneNew (C : Addr) (a : Str) (h₀ h : Heap) (x : Addr) (v : Value) : Prop := ∃ dx hash t, h₀.get? x = none ∧ h₀.get? dx = none ∧ h.get? x = some (instObj C dx) ∧ h.get? dx = some (dictOf [⟨hash, .str a t, v⟩] 1)
theorem Loc.freezeOne {C : Addr} {a : Str} {h₀ h : Heap} {x : Addr} {v : Value} {L : Addr} {cs : List (Str × Addr)} {m : Str → Option Value} {led : List (Addr × Obj)} (F : Loc g L cs m led h₀) (e : Sub h₀ h) (H : OneNew C a h₀ h x v) :
    ∃ g', Loc g' L cs m led h ∧ Sub g g' ∧ OneAt C a g' x v := by
  obtain ⟨dx, hs, t, nx, nd, p, q⟩ := H
  obtain ⟨g', F', s, fr⟩ := (F.keep e).freeze
  have ne : ∀ b, h₀.get? b = none → b ≠ L ∧ (∀ p ∈ led, p.1 ≠ b) ∧ (∀ y, cs.lookup y ≠ some b) := fun b hb => by
    refine ⟨fun z => ?_, fun p hp z => ?_, fun y z => ?_⟩
    · obtain ⟨o, ho⟩ := F.lt; rw [z, ho] at hb; cases hb
    · rw [← z, (F.led p hp).1] at hb; cases hb
    · obtain ⟨o, ho, _⟩ := F.cell y b z; rw [ho] at hb; cases hb
  exact ⟨g', F', s, dx, hs, t, fr _ _ p (ne x nx).1 (ne x nx).2.1 (ne x nx).2.2, fr _ _ q (ne dx nd).1 (ne dx nd).2.1 (ne dx nd).2.2⟩

theorem Attr_name {x attr : Str} {xp pos : Pos} {env : Env} {M : Model} (k : Ev M A (eval (.Name x xp) env) h (fun o h₁ => Ev M A (getAttr o attr true) h₁ Q E) E) : Ev M A (eval (.Attribute (.Name x xp) attr pos) env) h Q E :=
  .mk fun s hs => Attribute_name (k.use hs (.refl s) fun _ _ m₁ k₁ => k₁.use rfl m₁ fun _ _ m₂ q => ⟨m₂, q⟩)
theorem eGetAttr {x C dx : Addr} {es : List DictEntry} {n : Nat} {name : Str} {v : Value} {attr : Option Value} {expr : Bool} (X : K.In h) (hx : h.get? x = some (instObj C dx)) (hdx : h.get? dx = some (dictOf es n)) (hg : plainGet K C name = true) (hh : hasDictIn K C = true)
    (ha : findIn K (.ref C) name = some attr) (hn : noGet K attr = true) (hl : getL name es = some (some v)) (hv : handedIn v = true) (k : Q v h) : Ev (model prog w) A (getAttr (.ref x) name expr) h Q E :=
  .mk fun s hs => get_value (od := some (dictOf es n)) (hs ▸ X) ⟨hs ▸ hx, rfl, rfl, hs ▸ hdx⟩ (plainGet_of hg).1 (findObj_own hh ha hn hl) hv (fint (Q := Q) hs k _)
theorem eMethod {x C dx f : Addr} {es : List DictEntry} {n : Nat} {name : Str} {pl : Sem Bool} {Q : Value × List Value → Heap → Prop} (X : K.In h) (hx : h.get? x = some (instObj C dx)) (hdx : h.get? dx = some (dictOf es n)) (hg : plainGet K C name = true)
    (hf : findIn K (.ref C) name = some (some (.ref f))) (ht : isFn K (.ref f) = true) (hl : getL name es = some none) (k : Q (.ref f, [.ref x]) h) : Ev (model prog w) A (getMethod (.ref x) name pl) h Q E :=
  .mk fun s hs => method_fn (hs ▸ X) (od := some (dictOf es n)) ⟨hs ▸ hx, rfl, rfl, hs ▸ hdx⟩ (plainGet_of hg).1 (plainGet_of hg).2 hf (beq_iff_eq.mp ht) (by show (lookIn name (dictOf es n)).map _ = _; rw [lookIn_dict, hl]; rfl) (fin0 (Q := Q) hs k)
theorem Meth_ {M : Model} {env : Env} {o : Expr} {name : Str} {apos pos : Pos} {args : List Expr} {kws : List Keyword} {pl : Sem Bool}
    (k : Ev M A (eval o env) h (fun ov h₁ => Ev M A (getMethod ov name pl) h₁ (fun fx h₂ => Ev M A (callWith pos fx.1 fx.2 (backTo pos (starEach args env)) (backToKw pos (keywordEach kws env))) h₂ Q E) E) E)
    (he : eval (.Call (.Attribute o name apos) args kws pos) env = (do
      let ov ← eval o env
      standAt apos.atName
      let (f, first) ← holding [ov] (getMethod ov name pl)
      callWith pos f first (backTo pos (starEach args env)) (backToKw pos (keywordEach kws env))) := by rfl) :
    Ev M A (eval (.Call (.Attribute o name apos) args kws pos) env) h Q E :=
  .mk fun s hs => methodCall_KW (k.use hs (.refl s) fun _ _ m₁ k₁ => k₁.use rfl m₁ fun _ _ m₂ k₂ => k₂.use rfl m₂ fun _ _ m₃ q => ⟨m₃, q⟩) he
/-- keywords too; what is called is of the written part -/
theorem callWith_W {M : Model} {env : Env} {pos : Pos} {f : Value} {first : List Value} {e : Expr} {rest : List Expr} {kws : List Keyword} (X : K.In h) (hk : keepIn K f = true) (hall : (backToKw pos (keywordEach kws env)).all (·.1.isSome) = true)
    (k : Ev M A (spliced (backTo pos (starEach (e :: rest) env))) h (fun vs h₁ => Ev M A (evalAll ((backToKw pos (keywordEach kws env)).map (·.2))) h₁
      (fun ks h₂ => K.In h₂ ∧ Ev M A (call f (first ++ vs) (((backToKw pos (keywordEach kws env)).filterMap (·.1)).zip ks)) h₂ Q E) E) E)
    (hplain : ((backTo pos (starEach (e :: rest) env)).any (·.1) || (backToKw pos (keywordEach kws env)).any (·.1.isNone)) = false := by rfl) (he : starEach (e :: rest) env = (false, eval e env) :: starEach rest env := by rfl) :
    Ev M A (callWith pos f first (backTo pos (starEach (e :: rest) env)) (backToKw pos (keywordEach kws env))) h Q E :=
  .mk fun s hs => callWith_KW X hk hall (k.use hs (.refl s) fun _ _ m₁ k₁ => k₁.use rfl m₁ fun _ _ m₂ k₂ => ⟨k₂.1, k₂.2.use rfl m₂ fun _ _ m₃ q => ⟨m₃, q⟩⟩) hplain he
theorem kw_nil {M : Model} {env : Env} {pos : Pos} {Q : List Value → Heap → Prop} (k : Q [] h) : Ev M A (evalAll ((backToKw pos (keywordEach [] env)).map (·.2))) h Q E := .mk fun s hs => kwAll_nil (fin0 (Q := Q) hs k)
theorem kw_cons {M : Model} {env : Env} {pos p : Pos} {name : Str} {value : Expr} {rest : List Keyword} {Q : List Value → Heap → Prop}
    (k : Ev M A (eval value env) h (fun v h₁ => Ev M A (evalAll ((backToKw pos (keywordEach rest env)).map (·.2))) h₁ (fun vs h₂ => Q (v :: vs) h₂) E) E) :
    Ev M A (evalAll ((backToKw pos (keywordEach (⟨some name, value, p⟩ :: rest) env)).map (·.2))) h Q E :=
  .mk fun s hs => kwAll_cons (k.use hs (.refl s) fun _ _ m₁ k₁ => k₁.use rfl m₁ fun _ _ m₂ q => ⟨m₂, q⟩)
/-- a built-in method with its own value first -/
theorem callWith_M {M : Model} {env : Env} {pos : Pos} {id : String} {first : List Value} {e : Expr} {rest : List Expr} (k : Ev M A (spliced (backTo pos (starEach (e :: rest) env))) h (fun vs h₁ => Ev M A (call (.builtin id) (first ++ vs)) h₁ Q E) E)
    (he : starEach (e :: rest) env = (false, eval e env) :: starEach rest env := by rfl) (hplain : (backTo pos (starEach (e :: rest) env)).any (·.1) = false := by rfl) :
    Ev M A (callWith pos (.builtin id) first (backTo pos (starEach (e :: rest) env)) (backToKw pos (keywordEach [] env))) h Q E :=
  .mk fun s hs => callWith_builtin hplain (evalArgs_kw2 (kws := []) rfl (k.use hs (.refl s) fun _ _ m₁ k₁ => kwAll_nil (k₁.use rfl m₁ fun _ _ m₂ q => ⟨m₂, q⟩)) he)
theorem callWith_M0 {M : Model} {env : Env} {pos : Pos} {id : String} {first : List Value} (k : Ev M A (call (.builtin id) (first ++ [])) h Q E) :
    Ev M A (callWith pos (.builtin id) first (backTo pos (starEach [] env)) (backToKw pos (keywordEach [] env))) h Q E :=
  .mk fun s hs => callWith_builtin rfl (evalArgs_kw2_nil (kws := []) rfl (kwAll_nil (k.run s hs)))

theorem eIn {M : Model} {x C dx f : Addr} {od : Obj} {v : Value} (X : K.In h) (hx : h.get? x = some (instObj C dx)) (hdx : h.get? dx = some od) (hs : findIn K (.ref C) "__contains__" = some (some (.ref f))) (hf : isFn K (.ref f) = true)
    (k : Ev M A (call (.ref f) [.ref x, v]) h (fun r h' => Ev M A (truthy r) h' (fun b => Q (.bool b)) E) E) : Ev M A (compareOp .In v (.ref x)) h Q E := .mk fun s hs' => by
  subst hs'
  have I : InstAt s.heap x (instObj C dx) C (some od) := ⟨hx, rfl, rfl, hdx⟩
  refine wpAny_bind (m := contains (.ref x) v) ?_
  unfold contains
  refine wpAny_holding (wpAny_bind (wpAny_bind (I.type.here ((looks_findIn X hs).here ?_))))
  rw [if_neg (by simp)]
  exact wpAny_bind (unlessNone_K X I hs hf (k.use rfl (.refl s) fun r s₁ m₁ k₁ => k₁.use rfl m₁ fun b s₂ m₂ q => wpAny_pure ⟨m₂, q⟩))
theorem Assign_Attr {M : Model} {env : Env} {o value : Expr} {attr : Str} {pos' pos : Pos} {Q : Flow → Heap → Prop}
    (k : Ev M A (eval value env) h (fun v h₁ => Ev M A (eval o env) h₁ (fun ov h₂ => Ev M A (setAttr ov attr v) h₂ (fun _ => Q .next) E) E) E)
    (hs : swapsWith value (some (.Attribute o attr pos')) pos.line env = pure false := by rfl) : Ev M A (exec (.Assign [.Attribute o attr pos'] value pos) env) h Q E :=
  .mk fun s hs' => plainObj_wpAny_Assign_Attribute (k.use hs' (.refl s) fun _ _ m₁ k₁ => k₁.use rfl m₁ fun _ _ m₂ k₂ => k₂.use rfl m₂ fun _ _ m₃ q => ⟨m₃, q⟩) hs
/-- the first name of a new object -/
theorem eSetAttr {x C dx L : Addr} {cs : List (Str × Addr)} {m : Str → Option Value} {led : List (Addr × Obj)} {led' : Obj → List (Addr × Obj)} {name : Str} {v : Value} {Q : Unit → Heap → Prop} (X : K.In h) (F : Loc g L cs m led h) (hx : h.get? x = some (instObj C dx)) (hput : PutF dx emptyDict led led')
    (hs : findIn K (.ref C) "__setattr__" = some (some (.builtin "object.__setattr__"))) (hp : plainOver K C = true) (ht : takerIn K C name = some none) (hh : hasDictIn K C = true)
    (k : ∀ hash t h', Loc g L cs m (led' (dictOf [⟨hash, .str name t, v⟩] 1)) h' → Q () h') : Ev (model prog w) A (setAttr (.ref x) name v) h Q E := .mk fun s hs' => by
  subst hs'
  have D := F.get (hput.put emptyDict).mem
  have I : InstAt s.heap x (instObj C dx) C (some emptyDict) := ⟨hx, rfl, rfl, D⟩
  refine set_plain X I hs (osa_open (s := { s with toks := s.toks + 1 }) X I hp ht fun b => ?_)
  obtain ⟨cd, hc, hd'⟩ := any_some hh
  refine wpAny_bind (wpAny_pure (wpAny_bind (wpAny_bind (wpAny_loadPart (s := { s with toks := s.toks + 1 }) hx (wpAny_bind ((looks_clsIn X hc).here (s := { s with toks := s.toks + 1 }) ?_))))))
  rw [hd']
  refine wpAny_pure (a := some dx) (wpAny_bind (wpAny_pure (wpAny_bind ?_)))
  unfold nsSet
  refine wpAny_bind (wpAny_bind (wpAny_askSetting (wpAny_pure (wpAny_bind (wpAny_mkText (wpAny_bind (wpAny_loadPart D ?_)))))))
  dsimp only
  rw [aRefKeyMayBeTheName_at]
  rw [if_neg (by simp)]
  refine wpAny_updatePart (s := { s with toks := s.toks + 1 + 1 }) D ?_
  have e : Obj.putName name (PyData.keyHash w.params name) (.str name (s.toks + 1)) v (dictOf [] 0) = dictOf [⟨PyData.keyHash w.params name, .str name (s.toks + 1), v⟩] 1 := by rw [putName_dict]; rfl
  have D' : (s.heap.update dx (Obj.putName name (PyData.keyHash w.params name) (.str name (s.toks + 1)) v)).get? dx = some (dictOf [⟨PyData.keyHash w.params name, .str name (s.toks + 1), v⟩] 1) := by
    have := Heap.get?_update_self (Obj.putName name (PyData.keyHash w.params name) (.str name (s.toks + 1)) v) D (by rw [show (emptyDict : Obj) = dictOf [] 0 from rfl, e]; rfl)
    rw [this, show (emptyDict : Obj) = dictOf [] 0 from rfl, e]
  refine wpAny_bind (wpAny_lookBehind D' (pastItsLine_dict (by simp [sizeLine_eq])) ?_)
  exact wpAny_pure ⟨rfl, k _ _ _ (F.putE (hput.put _) (fun b o hb q => (Heap.get?_update_ne _ _ _ _ hb).trans q) D')⟩
end

section
variable {prog : Program} {w : World} {A : Around} {g h : Heap} {E : Value → Heap → Prop} {env : Env} {Q : Value → Heap → Prop} {L a : Addr} {cs : List (Str × Addr)} {m : Str → Option Value} {led : List (Addr × Obj)} {t u : Tok} {x : Str} {o : Obj} {vs : List Value}

theorem eType_str (k : Q (.type "str") h) : Ev (model prog w) A (call (.type "type") [.str x t]) h Q E := .mk fun s hs => call_type_of (typeIs_str s x t) (by decide +kernel) (fin0 (Q := Q) hs k)
theorem eType_list (ho : h.get? a = some o) (hc : o.cls = .type "list") (k : Q (.type "list") h) : Ev (model prog w) A (call (.type "type") [.ref a]) h Q E := .mk fun s hs => call_type_of ⟨o, hs ▸ ho, hc⟩ (by decide +kernel) (fin0 (Q := Q) hs k)
theorem eIs_type {M : Model} {X Y : String} (k : Q (.bool (Value.type X == Value.type Y)) h) : Ev M A (compareOp .Is (.type X) (.type Y)) h Q E := .mk fun s hs => wpAny_is_plain rfl (fin0 (Q := Q) hs k)
theorem eIsNot_type {M : Model} {X Y : String} (k : Q (.bool (!(Value.type X == Value.type Y))) h) : Ev M A (compareOp .IsNot (.type X) (.type Y)) h Q E := .mk fun s hs => wpAny_isNot_plain rfl (fin0 (Q := Q) hs k)
theorem eIs_same {M : Model} {X : String} (k : Q (.bool true) h) : Ev M A (compareOp .Is (.type X) (.type X)) h Q E := eIs_type (by rw [beq_self_eq_true]; exact k)
theorem eIsNot_same {M : Model} {X : String} (k : Q (.bool false) h) : Ev M A (compareOp .IsNot (.type X) (.type X)) h Q E := eIsNot_type (by rw [beq_self_eq_true]; exact k)
theorem isNot_none_ref {M : Model} {a : Addr} (k : Q (.bool true) h) : Ev M A (compareOp .IsNot (.ref a) .none) h Q E := isNot_none' k
theorem isNot_none_str {M : Model} {x : Str} {t : Tok} (k : Q (.bool true) h) : Ev M A (compareOp .IsNot (.str x t) .none) h Q E := isNot_none' k
theorem isNot_none_none {M : Model} (k : Q (.bool false) h) : Ev M A (compareOp .IsNot .none .none) h Q E := isNot_none' k
/-- the walk stops here -/
structure Hold (p : Prop) : Prop where
  out : p
theorem callWith_W0 {K : Frag} {M : Model} {pos : Pos} {f : Value} {first : List Value} (X : K.In h) (hk : keepIn K f = true) (k : Ev M A (call f (first ++ [])) h Q E) :
    Ev M A (callWith pos f first (backTo pos (starEach [] env)) (backToKw pos (keywordEach [] env))) h Q E := callWith_F0 X hk k
theorem callWith_W1 {K : Frag} {M : Model} {pos : Pos} {f : Value} {first : List Value} {e : Expr} {rest : List Expr} (X : K.In h) (hk : keepIn K f = true)
    (k : Ev M A (spliced (backTo pos (starEach (e :: rest) env))) h (fun vs h₁ => K.In h₁ ∧ Ev M A (call f (first ++ vs)) h₁ Q E) E)
    (he : starEach (e :: rest) env = (false, eval e env) :: starEach rest env := by rfl) (hplain : (backTo pos (starEach rest env)).any (·.1) = false := by rfl) :
    Ev M A (callWith pos f first (backTo pos (starEach (e :: rest) env)) (backToKw pos (keywordEach [] env))) h Q E := callWith_F X hk k he hplain
theorem callWith_m0 {M : Model} {pos : Pos} {id : String} {v : Value} (k : Ev M A (call (.builtin id) [v]) h Q E) : Ev M A (callWith pos (.builtin id) [v] (backTo pos (starEach [] env)) (backToKw pos (keywordEach [] env))) h Q E := callWith_M0 k
theorem callWith_m {M : Model} {pos : Pos} {id : String} {v : Value} {e : Expr} {rest : List Expr} (k : Ev M A (spliced (backTo pos (starEach (e :: rest) env))) h (fun vs h₁ => Ev M A (call (.builtin id) (v :: vs)) h₁ Q E) E)
    (he : starEach (e :: rest) env = (false, eval e env) :: starEach rest env := by rfl) (hplain : (backTo pos (starEach (e :: rest) env)).any (·.1) = false := by rfl) :
    Ev M A (callWith pos (.builtin id) [v] (backTo pos (starEach (e :: rest) env)) (backToKw pos (keywordEach [] env))) h Q E := callWith_M k he hplain
theorem truthy_none {M : Model} {Q : Bool → Heap → Prop} (k : Q false h) : Ev M A (truthy .none) h Q E := .mk fun s hs => wpAny_of_eq rfl (fin0 (Q := Q) hs k)
theorem eLower (hx : x.length ≤ 5592405) (k : ∀ t', Q (.str (Txt.lower x) t') h) : Ev (model prog w) A (call (.builtin "str.lower") [.str x t]) h Q E := .mk fun s hs => SC.lower (fit_lower hx) (fint (Q := Q) hs (k _) _)
theorem eMeth_lower {M : Model} {pl : Sem Bool} {Q : Value × List Value → Heap → Prop} (k : Q (.builtin "str.lower", [.str x t]) h) : Ev M A (getMethod (.str x t) "lower" pl) h Q E := .mk fun s hs => GM.lower (fin0 (Q := Q) hs k)

theorem part_none {M : Model} (k : Q .none h) : Ev M A (evalPart none env) h Q E := .mk fun s hs => wpAny_evalPart_none (fin0 (Q := Q) hs k)
theorem part_some {M : Model} {e : Expr} (k : Ev M A (eval e env) h Q E) : Ev M A (evalPart (some e) env) h Q E := .mk fun s hs => wpAny_evalPart_some (k.run s hs)
theorem Slice_any {value : Expr} {lower upper : Option Expr} {p pos : Pos}
    (k : Ev (model prog w) A (eval value env) h (fun ov h₁ => Ev (model prog w) A (evalPart lower env) h₁ (fun vl h₂ => Ev (model prog w) A (evalPart upper env) h₂ (fun vu h₃ =>
      ∀ s₃ : Shared, s₃.heap = h₃ → wpAny (model prog w) A (subscriptTail value (.Slice lower upper none p) ov (.ref s₃.heap.objs.size)) (fun v s' => Same s₃ s' ∧ Q v s'.heap) (fun e s' => Same s₃ s' ∧ E e s'.heap) { s₃ with heap := s₃.heap.push { cls := .type "slice", data := .fields #[vl, vu, .none] } }) E) E) E) :
    Ev (model prog w) A (eval (.Subscript value (.Slice lower upper none p) pos) env) h Q E := .mk fun s hs => by
  refine Subscript_ (k.use hs (.refl s) fun ov s₁ m₁ k₁ => wpAny_Slice (k₁.use rfl m₁ fun vl s₂ m₂ k₂ => k₂.use rfl m₂ fun vu s₃ m₃ k₃ => ?_))
  rw [evalPart_none]
  exact wpAny_pure (wpAny_mono (k₃ s₃ rfl) (fun _ _ q => ⟨m₃.trans q.1, q.2⟩) fun _ _ q => ⟨m₃.trans q.1, q.2⟩)
theorem Slice_str {value : Expr} {lower upper : Option Expr} {p pos : Pos}
    (k : Ev (model prog w) A (eval value env) h (fun ov h₁ => Ev (model prog w) A (evalPart lower env) h₁ (fun vl h₂ => Ev (model prog w) A (evalPart upper env) h₂ (fun vu h₃ =>
      ∃ x t l u, ov = .str x t ∧ vl = partValue l ∧ vu = partValue u ∧ x.length ≤ sizeLine ∧ ∃ g L cs m led, Loc g L cs m led h₃ ∧ ∀ t' h', Loc g L cs m led h' → Q (.str (Txt.slice x (l.map (·.1)) (u.map (·.1))) t') h') E) E) E) :
    Ev (model prog w) A (eval (.Subscript value (.Slice lower upper none p) pos) env) h Q E :=
  Slice_any (k.mono (fun ov h₁ k => k.mono (fun vl h₂ k => k.mono (fun vu h₃ k s₃ hs => by
    subst hs
    obtain ⟨x, t, l, u, rfl, rfl, rfl, hsz, g, L, cs, m, led, F, k₃⟩ := k
    refine tail_any (typeIs_str _ x t) PySem.F.slot_str_getitem.lookup (wpAny_getItem_str_slice (l := l) (u := u) (st := none) ⟨_, Heap.get?_push_size _ rfl, rfl, rfl⟩ rfl (post_val_or_str ⟨Nat.le_trans (Txt.slice_le x _ _) hsz, fun t' k => ?_⟩)) rfl
    exact ⟨Same.mk' _ _ _, k₃ _ _ (F.new _).drop⟩) fun _ _ e => e) fun _ _ e => e) fun _ _ e => e)
theorem Slice_list {value : Expr} {lower upper : Option Expr} {p pos : Pos}
    (k : Ev (model prog w) A (eval value env) h (fun ov h₁ => Ev (model prog w) A (evalPart lower env) h₁ (fun vl h₂ => Ev (model prog w) A (evalPart upper env) h₂ (fun vu h₃ =>
      ∃ l o vs lo hi, ov = .ref l ∧ h₃.get? l = some o ∧ IsL o vs ∧ vs.length ≤ sizeLine ∧ IsPart vl lo ∧ IsPart vu hi ∧ ∃ g L cs m led, Loc g L cs m led h₃ ∧ ∀ D h', Loc g L cs m ((D, listO (slicePick vs.toArray lo hi none).toList 0) :: led) h' → Q (.ref D) h') E) E) E) :
    Ev (model prog w) A (eval (.Subscript value (.Slice lower upper none p) pos) env) h Q E :=
  Slice_any (k.mono (fun ov h₁ k => k.mono (fun vl h₂ k => k.mono (fun vu h₃ k s₃ hs => by
    subst hs
    obtain ⟨l, o, vs, lo, hi, rfl, ho, hl, hsz, pl, pu, g, L, cs, m, led, F, k₃⟩ := k
    refine tail_any (Heap.IsList.typeIs (s := { s₃ with heap := s₃.heap.push { cls := .type "slice", data := .fields #[vl, vu, .none] } }) ((hl.isList ho).push _)) list_getitem_lookup
      (wpAny_getItem_list_slice ((hl.isList ho).push _) (Heap.IsSliceOf.new ..) pl pu .none (by simp) ⟨Same.mk' _ _ _, ?_⟩ (by simpa using hsz)) rfl
    have F' := (F.new { cls := .type "slice", data := .fields #[vl, vu, .none] }).drop.new { cls := .type "list", data := .seq (slicePick vs.toArray lo hi none) }
    exact k₃ _ _ (by simpa using F')) fun _ _ e => e) fun _ _ e => e) fun _ _ e => e)
theorem eTup0 {value slice : Expr} {v₀ v₁ : Value} (ht : IsTup h a #[v₀, v₁]) (k : Q v₀ h)
    (hs : subscripted slice false (.ref a) (.int 0 u) = operate [.ref a, .int 0 u] (getItem (.ref a) (.int 0 u)) := by with_unfolding_all rfl) : Ev (model prog w) A (subscriptTail value slice (.ref a) (.int 0 u)) h Q E :=
  .mk fun s hs' => tail_any (IsTup.typeIs (s := s) (hs' ▸ ht)) slot_tuple_getitem.lookup (getItem_tuple (hs' ▸ ht) (by decide) (by decide) (j := 0) rfl rfl (fin0 (Q := Q) hs' k)) hs
theorem eTup1 {value slice : Expr} {v₀ v₁ : Value} (ht : IsTup h a #[v₀, v₁]) (k : Q v₁ h)
    (hs : subscripted slice false (.ref a) (.int 1 u) = operate [.ref a, .int 1 u] (getItem (.ref a) (.int 1 u)) := by with_unfolding_all rfl) : Ev (model prog w) A (subscriptTail value slice (.ref a) (.int 1 u)) h Q E :=
  .mk fun s hs' => tail_any (IsTup.typeIs (s := s) (hs' ▸ ht)) slot_tuple_getitem.lookup (getItem_tuple (hs' ▸ ht) (by decide) (by decide) (j := 1) rfl rfl (fin0 (Q := Q) hs' k)) hs
end

/-- objects of the frozen heap that may change after all -/
theorem Loc.unfreeze {h h₁ : Heap} {L : Addr} {cs : List (Str × Addr)} {m : Str → Option Value} {led : List (Addr × Obj)} (F : Loc h L cs m [] h₁) (hled : ∀ p ∈ led, h.get? p.1 = some p.2) (nd : (led.map (·.1)).Nodup) : Loc (hideAll h (led.map (·.1))) L cs m led h₁ :=
  ⟨subHide.tr F.sub, F.ns, none_sub subHide F.gL, fun p hp => ⟨F.sub _ _ (hled p hp), (fun e => by have := hled p hp; rw [e, F.gL] at this; cases this), hideAll_none _ (List.mem_map.mpr ⟨p, hp, rfl⟩)⟩, nd, F.cell, F.capart,
    fun x c q => ⟨(F.cnew x c q).1, none_sub subHide (F.cnew x c q).2.1, fun p hp e => by have := hled p hp; rw [e, (F.cnew x c q).2.1] at this; cases this⟩⟩
theorem Loc.unfreeze1 {h h₁ : Heap} {L D : Addr} {o : Obj} {cs : List (Str × Addr)} {m : Str → Option Value} (F : Loc h L cs m [] h₁) (hD : h.get? D = some o) : Loc (hideAll h [D]) L cs m [(D, o)] h₁ :=
  F.unfreeze (led := [(D, o)]) (fun p hp => by rw [List.mem_singleton.mp hp]; exact hD) (by simp)
section
variable {prog : Program} {w : World} {A : Around} {s : Shared} {E : Value → Shared → Prop}
/-- xs[:] = ys -/
theorem setItem_all {D D2 sl : Addr} {vs ys : Array Value} {n : Nat} {o2 : Obj} {Q : Unit → Shared → Prop} (ho : s.heap.get? D = some ⟨.type "list", none, .seq vs n, #[]⟩) (h2 : s.heap.get? D2 = some o2) (hc2 : o2.cls = .type "list") {n2 : Nat} (hd2 : o2.data = .seq ys n2) (hne : D ≠ D2)
    (hs : s.heap.IsSliceOf sl .none .none .none) (hz : vs.size + ys.size ≤ sizeLine)
    (k : ∀ h' n', Heap.ExtBut D s.heap h' → h'.get? D = some ⟨.type "list", none, .seq ys n', #[]⟩ → Q () { s with heap := h' }) : wpAny (model prog w) A (setItem (.ref D) (.ref sl) (.ref D2)) Q E s := by
  obtain ⟨os, hos, hcs, hds⟩ := id hs
  have hTs : s.TypeIs (.ref sl) "slice" := ⟨os, hos, hcs⟩
  have hT : s.TypeIs (.ref D) "list" := ⟨_, ho, rfl⟩
  have hT2 : s.TypeIs (.ref D2) "list" := ⟨_, h2, hc2⟩
  unfold setItem
  refine wpAny_holding (wpAny_bind (wpAny_sequenceKey hT (by decide) ?_))
  refine wpAny_bind (wpAny_callSpecial?_slot (name := Str.ofString "__setitem__") hT F.slot_list_setitem (wpAny_call_entry F.slot_list_setitem hT F.entry_list_setitem ?_ (F.args_list_setitem_3 _ _ _)))
  unfold Builtin.«list.__setitem__»
  refine wpAny_bind (wpAny_pure ?_)
  dsimp only
  refine wpAny_bind (m := Builtin.List.listSubscript? (.ref sl)) ?_
  unfold Builtin.List.listSubscript?
  refine wpAny_bind (wpAny_specialOf hTs slice_no_index ?_)
  simp only [Option.isNone_none, if_true]
  refine wpAny_pure ?_
  refine wpAny_bind (wpAny_typeOf hTs ?_)
  rw [if_neg (by decide)]
  rw [listSliceParts_eq]
  refine wpAny_bind (wpAny_bind (wpAny_field hos hds (x := .none) rfl (wpAny_bind (wpAny_listPart .none ?_))))
  rw [if_neg (show ¬ ((rawPart none == rawInt 0) = true) from Bool.false_ne_true)]
  refine wpAny_bind (wpAny_field hos hds (x := .none) rfl (wpAny_bind (wpAny_listPart .none ?_)))
  refine wpAny_bind (wpAny_field hos hds (x := .none) rfl (wpAny_bind (wpAny_listPart .none (wpAny_pure ?_))))
  rw [if_neg (show ¬ (Builtin.List.listSameRef (.ref D) (.ref D2) = true) from by unfold Builtin.List.listSameRef; simpa using hne)]
  refine wpAny_bind (m := Builtin.List.listAllItems (.ref D2) _) ?_
  unfold Builtin.List.listAllItems
  refine wpAny_bind (wpAny_typeOf hT2 ?_)
  rw [if_pos (by decide)]
  refine listItems_at h2 hd2 ?_
  refine wpAny_bind (listItems_at ho rfl ?_)
  refine wpAny_bind (wpAny_of_eq (sliceIndices_raw none none none vs.size (by simp)) ?_)
  rw [if_pos (by rfl)]
  refine wpAny_bind (wpAny_rule ?_)
  rw [if_neg (show ¬ (Builtin.List.listTooLong (vs.size + ys.size) = true) from by unfold Builtin.List.listTooLong; simp; omega)]
  have key : ∀ (f : Array Value → Array Value) (l : List Value), f vs = ys → wpAny (model prog w) A.in1 (do Builtin.List.listUpdate (.ref D) f; letGo l; ret Value.none) (fun fin s' => ∃ v, fin = .done (.ret v) ∧ wpAny (model prog w) A (pure ()) Q E s') E s := by
    intro f l ef
    refine wpAny_bind (listUpdate_at ho rfl ?_ (by omega) (by rw [ef]; omega))
    refine wpAny_bind (wpAny_letGo (wpAny_pure ⟨_, rfl, wpAny_pure (k _ (if ys.size == vs.size then n else n + 1) (fun b o hb q => (Heap.get?_update_ne _ _ _ _ hb).trans q) ?_)⟩))
    rw [Heap.get?_update_self (Obj.mapSeq f) ho rfl]
    show some (⟨.type "list", none, .seq (f vs) (if (f vs).size == vs.size then n else n + 1), #[]⟩ : Obj) = _
    rw [ef]
  refine key _ _ ?_
  have b1 : (sliceBounds none none none vs.size).1 = 0 := rfl
  have b2 : (sliceBounds none none none vs.size).2.1 = vs.size := rfl
  rw [b1, b2]
  apply Array.ext'
  simp
end
section
variable {prog : Program} {w : World} {A : Around} {g h : Heap} {E : Value → Heap → Prop} {env : Env} {L : Addr} {cs : List (Str × Addr)} {m : Str → Option Value} {led : List (Addr × Obj)}
/-- the statement o[:] = value -/
theorem Assign_all {o value : Expr} {p pos' pos : Pos} {Q : Flow → Heap → Prop}
    (k : Ev (model prog w) A (eval value env) h (fun v h₁ => Ev (model prog w) A (eval o env) h₁ (fun ov h₂ =>
      ∃ D D2 vs ys n o2 g L cs m led led', ov = .ref D ∧ v = .ref D2 ∧ Loc g L cs m led h₂ ∧ PutF D (listO vs n) led led' ∧ h₂.get? D2 = some o2 ∧ IsL o2 ys ∧ D ≠ D2 ∧ vs.length + ys.length ≤ sizeLine ∧
        ∀ n' h', Loc g L cs m (led' (listO ys n')) h' → Q .next h') E) E)
    (hs : swapsWith value (some (.Subscript o (.Slice none none none p) pos')) pos.line env = pure false := by rfl) : Ev (model prog w) A (exec (.Assign [.Subscript o (.Slice none none none p) pos'] value pos) env) h Q E := .mk fun s hs' => by
  refine wpAny_Assign_Subscript (k.use hs' (.refl s) fun v s₁ m₁ k₁ => k₁.use rfl m₁ fun ov s₂ m₂ k₂ => ?_) hs
  obtain ⟨D, D2, vs, ys, n, o2, g, L, cs, m, led, led', rfl, rfl, F, hput, h2, hl2, hne, hz, k₂⟩ := k₂
  refine wpAny_Slice ?_
  rw [evalPart_none]
  refine wpAny_pure (wpAny_pure (wpAny_pure ?_))
  have F' : Loc g L cs m led (s₂.heap.push { cls := .type "slice", data := .fields #[.none, .none, .none] }) := (F.new _).drop
  obtain ⟨hc2, n2, hd2⟩ := hl2
  refine setItem_all (s := { s₂ with heap := s₂.heap.push { cls := .type "slice", data := .fields #[.none, .none, .none] } }) (F'.get (hput.put (listO vs n)).mem) (Heap.get?_push_of_some _ h2) hc2 hd2 hne (Heap.IsSliceOf.new ..) (by simpa using hz) fun h' n' he hd => ?_
  exact ⟨m₂.trans (Same.mk' _ _ _), k₂ n' h' (F'.putE (hput.put _) he hd)⟩
theorem Delete_ {M : Model} {t : Expr} {pos : Pos} {Q : Flow → Heap → Prop} (k : Ev M A (delete t env) h (fun _ => Q .next) E) : Ev M A (exec (.Delete [t] pos) env) h Q E :=
  .mk fun s hs => wpAny_Delete (wpAny_deleteEach_cons (k.use hs (.refl s) fun _ _ m₁ q => wpAny_deleteEach_nil ⟨m₁, q⟩))
theorem delete_Sub {M : Model} {o i : Expr} {pos : Pos} {Q : Unit → Heap → Prop} (k : Ev M A (eval o env) h (fun ov h₁ => Ev M A (eval i env) h₁ (fun iv h₂ => Ev M A (delItem ov iv) h₂ (fun _ => Q ()) E) E) E) :
    Ev M A (delete (.Subscript o i pos) env) h Q E := .mk fun s hs => by
  rw [arm_delete_Subscript]
  exact wpAny_bind (k.use hs (.refl s) fun _ _ m₁ k₁ => wpAny_bind (wpAny_holding (k₁.use rfl m₁ fun _ _ m₂ k₂ => wpAny_bind (wpAny_standAt (wpAny_bind (wpAny_holding (k₂.use rfl m₂ fun _ _ m₃ q => wpAny_release ⟨m₃, q⟩)))))))
theorem eDelI {K : Frag} {M : Model} {x C dx f : Addr} {od : Obj} {v : Value} {Q : Unit → Heap → Prop} (X : K.In h) (hx : h.get? x = some (instObj C dx)) (hdx : h.get? dx = some od) (hq : noSeq K C = true) (hs : findIn K (.ref C) "__delitem__" = some (some (.ref f))) (hf : isFn K (.ref f) = true)
    (k : Ev M A (call (.ref f) [.ref x, v]) h (fun _ => Q ()) E) : Ev M A (delItem (.ref x) v) h Q E := .mk fun s hs' => by
  subst hs'
  have I : InstAt s.heap x (instObj C dx) C (some od) := ⟨hx, rfl, rfl, hdx⟩
  unfold delItem sequenceKey
  refine wpAny_holding (wpAny_bind (wpAny_bind (I.type.here (wpAny_bind ((anyM_none X hq).here ?_)))))
  rw [if_pos (show (!false) = true from rfl)]
  exact wpAny_pure (wpAny_bind (special_fn X I hs (beq_iff_eq.mp hf) (k.use rfl (.refl s) fun _ _ m q => wpAny_pure ⟨m, q⟩)))
end

section
variable {prog : Program} {w : World} {A : Around} {g h : Heap} {E : Value → Heap → Prop} {env : Env} {Q : Value → Heap → Prop} {L a : Addr} {cs : List (Str × Addr)} {m : Str → Option Value} {led : List (Addr × Obj)} {t u : Tok} {x : Str} {o : Obj} {vs : List Value}
end

theorem isl_cls {o : Obj} {vs : List Value} (h : IsL o vs) : o.cls = .type "list" := h.1
theorem neStr {x y : Str} (h : (x == y) = false) : ¬ x = y := fun e => by rw [e] at h; simp at h
theorem s_a : Str.ofString "a" = ⟨#[97]⟩ := by decide +kernel
theorem s_z : Str.ofString "z" = ⟨#[122]⟩ := by decide +kernel
theorem s_A : Str.ofString "A" = ⟨#[65]⟩ := by decide +kernel
theorem s_Z : Str.ofString "Z" = ⟨#[90]⟩ := by decide +kernel
local macro_rules | `(tactic| walk_at "sg") => `(tactic| with_reducible first | exact rfl | exact s_a | exact s_z | exact s_A | exact s_Z)
local macro_rules | `(tactic| walk_at "lk") => `(tactic| first
  | assumption
  | (with_reducible exact if_pos rfl)
  | (refine (if_neg (neStr (by decide))).trans ?_; walk_at "lk")
  | (with_reducible exact rfl)
  | rfl)
local macro_rules | `(tactic| walk_at "name") => `(tactic| first
  | (refine' Name_L (by assumption) ?v ?_; (case v => walk_at "lk"))
  | (refine' Name_C (by assumption) ?v ?_; (case v => walk_at "lk"))
  | (refine' Name_G (Loc.amb ?F ?X) ?e ?_; (case F => assumption); (case X => assumption); (case e => walk_at "nsG"))
  | (refine' Name_B (Loc.amb ?F ?X) ?e ?b (by decide) ?_; (case F => assumption); (case X => assumption); (case e => walk_at "nsB"); (case b => walk_at "bb")))
local macro_rules | `(tactic| walk_at "bb") => `(tactic| with_reducible first | exact bb_chr | exact bb_ord | exact bb_len | exact bb_str | exact bb_range | exact bb_type | exact bb_list)
local macro_rules | `(tactic| walk_at "s") => `(tactic| first
  | ((with_reducible show Ev _ _ (execs (_ :: _) _) _ _ _); refine execs_cons ?_)
  | ((with_reducible show Ev _ _ (execs [] _) _ _ _); refine execs_nil ?_)
  | ((with_reducible show Ev _ _ (exec (Stmt.Return (some _) _) _) _ _ _); refine Return_ ?_)
  | ((with_reducible show Ev _ _ (exec (Stmt.Assign [Expr.Name _ _] _ _) _) _ _ _); refine Assign_Name ?_)
  | ((with_reducible show Ev _ _ (exec (Stmt.AugAssign (Expr.Name _ _) _ _ _) _) _ _ _); refine AugAssign_Name ?_)
  | ((with_reducible show Ev _ _ (exec (Stmt.If _ _ _ _) _) _ _ _); refine If_ ?_)
  | ((with_reducible show Ev _ _ (exec (Stmt.For _ _ _ _ _) _) _ _ _); refine For_ ?_)
  | ((with_reducible show Ev _ _ (eval (Expr.Constant (Const.int _) _ _) _) _ _ _); refine Const_int ?_; intro _)
  | ((with_reducible show Ev _ _ (eval (Expr.Constant (Const.str _) _ _) _) _ _ _); refine Const_str ?_; intro _)
  | ((with_reducible show Ev _ _ (eval (Expr.Constant Const.none _ _) _) _ _ _); refine Const_none ?_)
  | ((with_reducible show Ev _ _ (eval (Expr.Constant (Const.bool _) _ _) _) _ _ _); refine Const_bool ?_)
  | ((with_reducible show Ev _ _ (eval (Expr.Name (Str.ofString "__debug__") _) _) _ _ _); refine Name_debug ?_)
  | ((with_reducible show Ev _ _ (eval (Expr.Name _ _) _) _ _ _); walk_at "name")
  | ((with_reducible show Ev _ _ (loadName _ _) _ _ _); first | (refine' load_L (by assumption) ?v ?_; (case v => walk_at "lk")) | (refine' load_C (by assumption) ?v ?_; (case v => walk_at "lk")))
  | ((with_reducible show Ev _ _ (storeName _ _ _) _ _ _); first | (refine' store_L (by assumption) ?_; intro _ _) | (refine' store_C (by assumption) ?_; intro _ _))
  | ((with_reducible show Ev _ _ (assign (Expr.Name _ _) _ _) _ _ _); first | (refine' assign_L (by assumption) ?_; intro _ _) | (refine' assign_C (by assumption) ?_; intro _ _))
  | ((with_reducible show Ev _ _ (eval (Expr.Compare _ [_] [_] _) _) _ _ _); refine Compare1 ?_)
  | ((with_reducible show Ev _ _ (eval (Expr.BinOp _ _ _ _) _) _ _ _); refine BinOp_ ?_)
  | ((with_reducible show Ev _ _ (eval (Expr.UnaryOp _ _ _) _) _ _ _); refine UnaryOp_ ?_)
  | ((with_reducible show Ev _ _ (eval (Expr.IfExp _ _ _ _) _) _ _ _); refine IfExp_ ?_)
  | ((with_reducible show Ev _ _ (isTrue (Expr.Compare _ [_] [_] _) _ _) _ _ _); refine isTrue_Compare1 ?_)
  | ((with_reducible show Ev _ _ (isTrue (Expr.Compare _ [_, _] [_, _] _) _ _) _ _ _); refine isTrue_chain2 ?_)
  | ((with_reducible show Ev _ _ (isTrue (Expr.UnaryOp UnaryOp.Not _ _) _ _) _ _ _); refine isTrue_Not ?_)
  | ((with_reducible show Ev _ _ (isTrue (Expr.BoolOp _ _ _) _ _) _ _ _); refine isTrue_BoolOp ?_)
  | ((with_reducible show Ev _ _ (isTrue (Expr.Constant _ _ _) _ _) _ _ _); refine isTrue_value ?_)
  | ((with_reducible show Ev _ _ (isTrue (Expr.Name _ _) _ _) _ _ _); refine isTrue_value ?_)
  | ((with_reducible show Ev _ _ (isTrue (Expr.Call _ _ _ _) _ _) _ _ _); refine isTrue_value ?_)
  | ((with_reducible show Ev _ _ (allTrue BoolOp.And [] _) _ _ _); refine allTrue_And_nil ?_)
  | ((with_reducible show Ev _ _ (allTrue BoolOp.And (_ :: _) _) _ _ _); refine allTrue_And_cons ?_)
  | ((with_reducible show Ev _ _ (allTrue BoolOp.Or [] _) _ _ _); refine allTrue_Or_nil ?_)
  | ((with_reducible show Ev _ _ (allTrue BoolOp.Or (_ :: _) _) _ _ _); refine allTrue_Or_cons ?_)
  | ((with_reducible show Ev _ _ (truthy (Value.bool _)) _ _ _); refine truthy_bool ?_)
  | ((with_reducible show Ev _ _ (truthy (Value.int _ _)) _ _ _); refine truthy_int ?_)
  | ((with_reducible show Ev _ _ (spliced (backTo _ (starEach [] _))) _ _ _); refine items_nil ?_)
  | ((with_reducible show Ev _ _ (spliced (backTo _ (starEach (_ :: _) _))) _ _ _); refine items_cons ?_)
  | ((with_reducible show Ev _ _ (eval (Expr.Call (Expr.Name _ _) _ [] _) _) _ _ _); refine Call_e ?_)
  | ((with_reducible show Ev _ _ (callWith _ (Value.builtin _) [] (backTo _ (starEach (_ :: _) _)) []) _ _ _); refine callWith_B ?_)
  | ((with_reducible show Ev _ _ (callWith _ (Value.type _) [] (backTo _ (starEach (_ :: _) _)) []) _ _ _); refine callWith_T ?_)
  | ((with_reducible show Ev _ _ (callWith _ (Value.ref _) _ (backTo _ (starEach (_ :: _) _)) []) _ _ _); refine' callWith_F (Loc.amb ?F ?X).k ?e ?_; (case F => assumption); (case X => assumption); (case e => rfl))
  | ((with_reducible show Ev _ _ (callWith _ (Value.ref _) _ (backTo _ (starEach [] _)) []) _ _ _); refine' callWith_F0 (Loc.amb ?F ?X).k ?e ?_; (case F => assumption); (case X => assumption); (case e => rfl))
  | ((with_reducible show Ev _ _ (call (Value.builtin "ord") [Value.str ⟨#[_]⟩ _]) _ _ _); refine eOrd ?_; intro _)
  | ((with_reducible show Ev _ _ (compareOp CmpOp.LtE (Value.str _ _) (Value.str _ _)) _ _ _); first | refine eLtE_1 (by walk_at "sg") (by walk_at "sg") ?_ | refine eLtE_str ?_)
  | ((with_reducible show Ev _ _ (compareOp CmpOp.Lt (Value.str _ _) (Value.str _ _)) _ _ _); first | refine eLt_1 (by walk_at "sg") (by walk_at "sg") ?_ | refine eLt_str ?_)
  | ((with_reducible show Ev _ _ (compareOp CmpOp.Eq (Value.str _ _) (Value.str _ _)) _ _ _); refine eEq_str ?_)
  | ((with_reducible show Ev _ _ (compareOp CmpOp.NotEq (Value.str _ _) (Value.str _ _)) _ _ _); refine eNe_str ?_)
  | ((with_reducible show Ev _ _ (compareOp CmpOp.Lt (Value.int _ _) (Value.int _ _)) _ _ _); refine eLt_int ?_)
  | ((with_reducible show Ev _ _ (compareOp CmpOp.LtE (Value.int _ _) (Value.int _ _)) _ _ _); refine eLe_int ?_)
  | ((with_reducible show Ev _ _ (compareOp CmpOp.Gt (Value.int _ _) (Value.int _ _)) _ _ _); refine eGt_int ?_)
  | ((with_reducible show Ev _ _ (compareOp CmpOp.GtE (Value.int _ _) (Value.int _ _)) _ _ _); refine eGe_int ?_)
  | ((with_reducible show Ev _ _ (compareOp CmpOp.Eq (Value.int _ _) (Value.int _ _)) _ _ _); refine eEq_int ?_)
  | ((with_reducible show Ev _ _ (compareOp CmpOp.NotEq (Value.int _ _) (Value.int _ _)) _ _ _); refine eNe_int ?_)
  | ((with_reducible show Ev _ _ (compareOp CmpOp.Is _ Value.none) _ _ _); first | refine is_none_ref ?_ | refine is_none_str ?_ | refine is_none_none ?_ | refine is_none' ?_)
  | ((with_reducible show Ev _ _ (compareOp CmpOp.IsNot _ Value.none) _ _ _); first | refine isNot_none_ref ?_ | refine isNot_none_str ?_ | refine isNot_none_none ?_ | refine isNot_none' ?_)
  | ((with_reducible show Ev _ _ (binaryOp Operator.Add (Value.int _ _) (Value.int _ _)) _ _ _); refine eAdd_int ?_; intro _)
  | ((with_reducible show Ev _ _ (binaryOp Operator.Sub (Value.int _ _) (Value.int _ _)) _ _ _); refine eSub_int ?_; intro _)
  | ((with_reducible show Ev _ _ (binaryOp Operator.Mod (Value.int _ _) (Value.int _ _)) _ _ _); refine eMod_int (by decide) ?_; intro _)
  | ((with_reducible show Ev _ _ (binaryOp Operator.FloorDiv (Value.int _ _) (Value.int _ _)) _ _ _); refine eDiv_int (by decide) (by decide) ?_; intro _)
  | ((with_reducible show Ev _ _ (unaryOp UnaryOp.USub (Value.int _ _)) _ _ _); refine eNeg_int ?_; intro _)
  | ((with_reducible show Ev _ _ (inplaceOp Operator.Add (Value.int _ _) (Value.int _ _)) _ _ _); refine eIadd_int ?_; intro _)
  | ((with_reducible show Ev _ _ (inplaceOp Operator.Add (Value.str _ _) (Value.str _ _)) _ _ _); refine eIadd_str ?_ (by walk_at "size"); intro _)
  | ((with_reducible show Ev _ _ (binaryOp Operator.Add (Value.str _ _) (Value.str _ _)) _ _ _); refine eAdd_str ?_ (by walk_at "size"); intro _)
  | ((with_reducible show Ev _ _ (call (Value.builtin "chr") [Value.int _ _]) _ _ _); refine eChr (by walk_at "om") (by walk_at "om") ?_; intro _)
  | ((with_reducible show _ ∧ Ev _ _ _ _ _ _); refine ⟨(Loc.amb (by assumption) (by assumption)).k, ?_⟩)
  | ((with_reducible show ite _ _ _); walk_at "split")
  | ((with_reducible show Ev _ _ (exec (Stmt.Expr _ _) _) _ _ _); refine Expr_ ?_)
  | ((with_reducible show Ev _ _ (eval (Expr.Call (Expr.Attribute _ (Str.ofString "append") _) [_] [] _) _) _ _ _); refine Call_append ?_)
  | ((with_reducible show ∃ D vs n, Value.ref _ = Value.ref D ∧ Heap.get? _ D = some (listO vs n) ∧ _); refine ⟨_, _, _, rfl, by walk_at "get", ?_⟩)
  | ((with_reducible show Ev _ _ (call (Value.builtin "len") [Value.ref _]) _ _ _); refine' eLen_list (by walk_at "get") (by walk_at "isl") (by walk_at "len") ?_; intro _)
  | ((with_reducible show Ev _ _ (subscriptTail _ _ (Value.ref _) (Value.int 0 _)) _ _ _); refine' eTup0 (IsTup.keeps ?T (Loc.sub ?F)) ?_; (case T => assumption); (case F => assumption))
  | ((with_reducible show Ev _ _ (subscriptTail _ _ (Value.ref _) (Value.int 1 _)) _ _ _); refine' eTup1 (IsTup.keeps ?T (Loc.sub ?F)) ?_; (case T => assumption); (case F => assumption))
  | ((with_reducible show Ev _ _ (subscriptTail _ _ (Value.ref _) (Value.int _ _)) _ _ _); refine' tail_list (by walk_at "get") (by walk_at "isl") ?_)
  | ((with_reducible show Ev _ _ (getItem (Value.ref _) (Value.int (-1) _)) _ _ _); refine' eGet_last (by walk_at "get") (by walk_at "isl") ?_)
  | ((with_reducible show Ev _ _ (getItem (Value.ref _) (Value.int _ _)) _ _ _); refine' eGet_list (by walk_at "get") (by walk_at "isl") (by walk_at "om") (by walk_at "om") (by first | assumption | rfl) ?_)
  | ((with_reducible show Ev _ _ (setItem (Value.ref _) (Value.int _ _) _) _ _ _); refine' eSet_list (by assumption) (by walk_at "put") (by walk_at "isl") (by walk_at "om") (by walk_at "om") (by walk_at "len") ?_; intro o9 h9 l9 F9; (try dsimp only at F9))
  | ((with_reducible show Ev _ _ (call (Value.builtin "list.append") [Value.ref _, _]) _ _ _); refine' eAppend (by assumption) (by walk_at "put") (by walk_at "len") ?_; intro n9 h9 F9; (try dsimp only at F9))
  | ((with_reducible show NoRef _ ∧ _); refine ⟨trivial, ?_⟩)
  | ((with_reducible show Ev _ _ (exec (Stmt.AugAssign (Expr.Subscript _ _ _) _ _ _) _) _ _ _); refine AugSub ?_)
  | ((with_reducible show Ev _ _ (call (Value.type "str") [Value.int _ _]) _ _ _); refine eStr_int (by first | walk_at "om" | walk_at "len") ?_; intro _)
  | ((with_reducible show Ev _ _ (eval (Expr.Subscript _ (Expr.Slice _ _ _ _) _) _) _ _ _); refine Hold.out ?_)
  | ((with_reducible show Ev _ _ (exec (Stmt.While _ _ _ _) _) _ _ _); refine Hold.out ?_)
  | ((with_reducible show Ev _ _ (eval (Expr.Subscript _ _ _) _) _ _ _); refine Sub_ ?_)
  | ((with_reducible show Ev _ _ (exec (Stmt.Assign [Expr.Attribute _ _ _] _ _) _) _ _ _); refine Assign_Attr ?_)
  | ((with_reducible show Ev _ _ (exec (Stmt.Assign [Expr.Subscript _ (Expr.Slice none none none _) _] _ _) _) _ _ _); refine Assign_all ?_)
  | ((with_reducible show Ev _ _ (exec (Stmt.Assign [Expr.Subscript _ _ _] _ _) _) _ _ _); refine Assign_Sub ?_)
  | ((with_reducible show Ev _ _ (eval (Expr.BoolOp BoolOp.And (_ :: _ :: _) _) _) _ _ _); refine BoolOp_and' ?_)
  | ((with_reducible show Ev _ _ (eval (Expr.BoolOp BoolOp.Or (_ :: _ :: _) _) _) _ _ _); refine BoolOp_or' ?_)
  | ((with_reducible show Ev _ _ (eval (Expr.BoolOp _ [_] _) _) _ _ _); refine BoolOp_one' ?_)
  | ((with_reducible show Ev _ _ (exec (Stmt.Delete [_] _) _) _ _ _); refine Delete_ ?_)
  | ((with_reducible show Ev _ _ (delete (Expr.Subscript _ _ _) _) _ _ _); refine delete_Sub ?_)
  | ((with_reducible show Ev _ _ (eval (Expr.Call (Expr.Attribute _ _ _) _ _ _) _) _ _ _); refine Meth_ ?_)
  | ((with_reducible show Ev _ _ (eval (Expr.Attribute (Expr.Name _ _) _ _) _) _ _ _); refine Attr_name ?_)
  | ((with_reducible show Ev _ _ (getMethod (Value.str _ _) (Str.ofString "lower") _) _ _ _); refine eMeth_lower ?_)
  | ((with_reducible show Ev _ _ (callWith _ (Value.builtin _) _ (backTo _ (starEach [] _)) (backToKw _ (keywordEach [] _))) _ _ _); refine callWith_m0 ?_)
  | ((with_reducible show Ev _ _ (callWith _ (Value.builtin _) _ (backTo _ (starEach (_ :: _) _)) (backToKw _ (keywordEach [] _))) _ _ _); refine callWith_m ?_)
  | ((with_reducible show Ev _ _ (callWith _ (Value.ref _) _ (backTo _ (starEach [] _)) (backToKw _ (keywordEach [] _))) _ _ _); refine' callWith_W0 (Loc.amb ?F ?X).k ?e ?_; (case F => assumption); (case X => assumption); (case e => rfl))
  | ((with_reducible show Ev _ _ (callWith _ (Value.ref _) _ (backTo _ (starEach (_ :: _) _)) (backToKw _ (keywordEach [] _))) _ _ _); refine' callWith_W1 (Loc.amb ?F ?X).k ?e ?_; (case F => assumption); (case X => assumption); (case e => rfl))
  | ((with_reducible show Ev _ _ (callWith _ (Value.ref _) _ (backTo _ (starEach (_ :: _) _)) (backToKw _ (keywordEach (_ :: _) _))) _ _ _); refine' callWith_W (Loc.amb ?F ?X).k ?e (by rfl) ?_; (case F => assumption); (case X => assumption); (case e => rfl))
  | ((with_reducible show Ev _ _ (evalAll (List.map _ (backToKw _ (keywordEach [] _)))) _ _ _); refine kw_nil ?_)
  | ((with_reducible show Ev _ _ (evalAll (List.map _ (backToKw _ (keywordEach (_ :: _) _)))) _ _ _); refine kw_cons ?_)
  | ((with_reducible show Ev _ _ (call (Value.type "type") [Value.str _ _]) _ _ _); refine eType_str ?_)
  | ((with_reducible show Ev _ _ (call (Value.type "type") [Value.ref _]) _ _ _); refine' eType_list (by walk_at "get") (by walk_at "cls") ?_)
  | ((with_reducible show Ev _ _ (compareOp CmpOp.Is (Value.type _) (Value.type _)) _ _ _); refine eIs_same ?_)
  | ((with_reducible show Ev _ _ (compareOp CmpOp.IsNot (Value.type _) (Value.type _)) _ _ _); refine eIsNot_same ?_)
  | ((with_reducible show Ev _ _ (truthy Value.none) _ _ _); refine truthy_none ?_)
  | ((with_reducible show Ev _ _ (call (Value.builtin "str.lower") [Value.str _ _]) _ _ _); refine eLower (by omega) ?_; intro _)
  | ((with_reducible show Ev _ _ (evalPart none _) _ _ _); refine part_none ?_)
  | ((with_reducible show Ev _ _ (evalPart (some _) _) _ _ _); refine part_some ?_)
  | ((with_reducible show Ev _ _ (subscriptTail _ _ (Value.str _ _) (Value.int _ _)) _ _ _); refine eItem_str (by walk_at "om") (by assumption) (by walk_at "om") ?_; intro _)
  | ((with_reducible show Ev _ _ (call (Value.builtin "len") [Value.str _ _]) _ _ _); refine eLen_str (by walk_at "om") ?_; intro _)
  | ((with_reducible show Ev _ _ (call (Value.type "range") [Value.int _ _]) _ _ _); refine' eRange1 (by assumption) ?_; intro _ _ _ _ _ _ _)
  | ((with_reducible show Ev _ _ (eval (Expr.List _ _) _) _ _ _); refine List_e ?_)
  | ((with_reducible show Ev _ _ (eval (Expr.Tuple _ _ _) _) _ _ _); refine Tuple_e ?_)
  | ((with_reducible show List.length _ ≤ sizeLine ∧ _); refine ⟨by simp [sizeLine_eq], _, _, _, _, _, by assumption, ?_⟩; intro _ _ _)
  | ((with_reducible show Ev _ _ (testsOf [] _) _ _ _); refine tests_nil ?_)
  | ((with_reducible show Ev _ _ (testsOf [_] _) _ _ _); refine tests_one ?_)
  | ((with_reducible show Ev _ _ (inplaceOp Operator.Sub (Value.int _ _) (Value.int _ _)) _ _ _); refine eIsub_int ?_; intro _))
theorem turn_end {P : Heap → (Str → Option Value) → List (Addr × Obj) → Prop} {g h : Heap} {L : Addr} {cs : List (Str × Addr)} {m : Str → Option Value} {p : Addr × Obj} {led : List (Addr × Obj)} (F : Loc g L cs m (p :: led) h) (hP : P g m led) : ∃ g' m' led', P g' m' led' ∧ Loc g' L cs m' (p :: led') h := ⟨g, m, led, hP, F⟩
def IsS (v : Value) (x : Str) : Prop := ∃ t, v = .str x t
theorem isS {v : Value} {x y : Str} {t : Tok} (hv : v = .str x t) (e : x = y) : IsS v y := ⟨t, e ▸ hv⟩
theorem len1 (c : Nat) : (⟨#[c]⟩ : Str).length = 1 := rfl
theorem tt_t : ((true : Bool) = true) = True := by simp
theorem ff_t : ((false : Bool) = true) = False := by simp
theorem ite_both {c : Prop} [Decidable c] {a b : Prop} (h1 : c → a) (h2 : ¬ c → b) : if c then a else b := by
  by_cases h : c
  · rw [if_pos h]; exact h1 h
  · rw [if_neg h]; exact h2 h
local macro_rules | `(tactic| walk_at "len") => `(tactic| first | omega | (simp only [List.length_append, List.length_cons, List.length_nil, sizeLine_eq]; omega))
local macro_rules | `(tactic| walk_at "om") => `(tactic| omega)
local macro_rules | `(tactic| walk_at "size") => `(tactic| (simp only [len1, Str.length_append, sizeLine_eq]; omega))
local macro_rules | `(tactic| walk_at "split") => `(tactic| first
  | (with_reducible refine (if_pos rfl).mpr ?_)
  | (rw [if_pos rfl])
  | (rw [if_neg Bool.false_ne_true])
  | (with_reducible refine ite_both ?_ ?_ <;> intro hq9 <;> (try simp only [decide_eq_true_eq, Bool.not_eq_true, decide_eq_false_iff_not, Bool.not_eq_eq_eq_not, Bool.not_true, beq_iff_eq, bne_iff_ne, beq_eq_false_iff_ne] at hq9) <;> (try (exfalso; omega))))
local macro_rules | `(tactic| walk_at "mem") => `(tactic| first | (with_reducible exact List.Mem.head _) | (exact List.Mem.head _) | (refine List.Mem.tail _ ?_; walk_at "mem"))
local macro_rules | `(tactic| walk_at "get") => `(tactic| first | exact Loc.get (by assumption) (by walk_at "mem") | exact Loc.sub (by assumption) _ _ (by assumption))
local macro_rules | `(tactic| walk_at "cls") => `(tactic| first | exact isl_cls (by assumption) | exact rfl)
local macro_rules | `(tactic| walk_at "isl") => `(tactic| first | assumption | exact isL_listO _ _)
local macro_rules | `(tactic| walk_at "put") => `(tactic| first | (with_reducible exact PutF.head) | (apply PutF.tail; walk_at "put"))
local macro_rules | `(tactic| walk_at "w") => `(tactic| repeat' (walk_at "s"))

section
variable {prog : Program} {w : World} {A : Around} {g h : Heap} {E : Value → Heap → Prop} {env : Env} {Q : Value → Heap → Prop} {L a b : Addr} {cs : List (Str × Addr)} {m : Str → Option Value} {led : List (Addr × Obj)} {t u : Tok} {x : Str} {o o2 : Obj} {vs ws : List Value}
theorem eAdd_list (F : Loc g L cs m led h) (ha : h.get? a = some o) (hl : IsL o vs) (hb : h.get? b = some o2) (hl2 : IsL o2 ws) (hsz : vs.length + ws.length ≤ sizeLine)
    (k : ∀ D h', Loc g L cs m ((D, listO (vs ++ ws) 0) :: led) h' → Q (.ref D) h') : Ev (model prog w) A (binaryOp .Add (.ref a) (.ref b)) h Q E := .mk fun s hs => by
  subst hs
  obtain ⟨cls, dd, data, sl⟩ := o
  obtain ⟨cls2, dd2, data2, sl2⟩ := o2
  obtain ⟨hc, n, hd⟩ := hl
  obtain ⟨hc2, n2, hd2⟩ := hl2
  simp only at hc hd hc2 hd2
  subst hc hd hc2 hd2
  have e : vs.toArray ++ ws.toArray = (vs ++ ws).toArray := by simp
  refine concat_meets ⟨_, ha, rfl⟩ ⟨_, hb, rfl⟩ noFill_list_add seq_list_add PySem.F.slot_list_add PySem.F.entry_list_add (PySem.F.args_list_add_2 _ _) (list_addW a b vs.toArray ws.toArray n n2 dd dd2 sl sl2 (by simpa using hsz)) ⟨ha, hb, ?_⟩
  rw [e]
  exact ⟨rfl, k _ _ (F.new _)⟩
end
local macro_rules | `(tactic| walk_at "s") => `(tactic|
  ((with_reducible show Ev _ _ (binaryOp Operator.Add (Value.ref _) (Value.ref _)) _ _ _); refine' eAdd_list (by assumption) (by walk_at "get") (by walk_at "isl") (by walk_at "get") (by walk_at "isl") (by walk_at "len") ?_; intro _ _ _))

section
variable {prog : Program} {w : World} {A : Around} {g h h' : Heap} {E : Value → Heap → Prop} {env : Env} {Q : Value → Heap → Prop} {L a b : Addr} {cs : List (Str × Addr)} {m : Str → Option Value} {led : List (Addr × Obj)} {t u : Tok} {x : Str} {o o2 : Obj} {vs ws : List Value}
/-- an object that was not there before joins the ledger -/
theorem Loc.take {D : Addr} (F : Loc g L cs m led h) (e : Sub h h') (nD : h.get? D = none) (hD : h'.get? D = some o) : Loc g L cs m ((D, o) :: led) h' := by
  have K := F.keep e
  obtain ⟨oL, hL⟩ := F.lt
  refine ⟨K.sub, K.ns, K.gL, fun p hp => ?_, ?_, K.cell, K.capart, fun x c q => ⟨(K.cnew x c q).1, (K.cnew x c q).2.1, fun p hp => ?_⟩⟩
  · rcases List.mem_cons.mp hp with rfl | hp
    · exact ⟨hD, (fun z => by have z : D = L := z; rw [z, hL] at nD; cases nD), none_sub F.sub nD⟩
    · exact K.led p hp
  · rw [List.map_cons, List.nodup_cons]
    refine ⟨fun hm => ?_, F.nd⟩
    obtain ⟨p, hp, z⟩ := List.mem_map.mp hm
    have := (F.led p hp).1
    rw [z, nD] at this; cases this
  · rcases List.mem_cons.mp hp with rfl | hp
    · rintro rfl
      obtain ⟨oc, hoc, _⟩ := F.cell x _ q
      rw [hoc] at nD; cases nD
    · exact (K.cnew x c q).2.2 p hp
theorem comp_listN {Qn : Heap → Prop} {y : Str} {py pos : Pos} {ax : Addr} {oa : Obj} {scope : Scope} {cl : List (Str × Addr)} {elt target iter : Expr} {ifs : List Expr} (P : CompP) (hh : A.handled = none) (hl : IsL oa vs) (F : Loc g L cs m led h) (side : ∀ i g ys, P i g ys → ListAt ax oa g led) (h0 : P 0 g [])
    (T : CompTurn prog w A env scope cl m led target elt ifs vs.length (fun i v => vs[i]? = some v) P)
    (done : ∀ g ys D k h, P vs.length g ys → Loc g L cs (fun z => if z = y then some (.ref D) else m z) ((D, listO ys k) :: led) h → Qn h)
    (hcl : CellsIn cl cs) (hcell : (scope.names.all fun x => x.2 != .cell) = true) (hkind : scope.kind = .function) (hsz : vs.length ≤ sizeLine)
    (hL : env.locals = L := by rfl) (hk : env.scope.kind = .function := by rfl) (hly : env.kindOf y = some .local := by rfl) (hc : cs.lookup y = none := by rfl) :
    Ev (model prog w) A (pyIter (.ref ax)) h (fun it h₂ => CompAt prog w A env scope cl elt target iter ifs pos it h₂ (fun D C oC h₃ =>
      Ev (model prog w) A (assign (.Name y py) env (.ref D)) h₃ (fun _ h₄ => (∃ mc, h₄.Ns C mc) ∧ ∀ h', Heap.SameBut C h₄ h' → Qn h') No)) E :=
  comp_listA (Q := fun _ => Qn) P hh hl F side h0 T done hcl hcell hkind hsz hL hk hly hc
end
local macro_rules | `(tactic| walk_at "s") => `(tactic|
  ((with_reducible show Ev _ _ (getMethod (Value.ref _) (Str.ofString "pop") _) _ _ _); refine' eMeth_pop (by walk_at "get") ?_))

section
variable {prog : Program} {w : World} {A : Around} {E : Value → Shared → Prop} {s : Shared} {a b : Addr} {o : Obj} {vs : List Value} {ds : List PyData}
end
section
variable {prog : Program} {w : World} {A : Around} {g h : Heap} {E : Value → Heap → Prop} {env : Env} {Q : Value → Heap → Prop} {L a b : Addr} {cs : List (Str × Addr)} {m : Str → Option Value} {led : List (Addr × Obj)} {t u : Tok} {x y nm : Str} {o : Obj} {vs : List Value} {ds : List PyData}
theorem eMeth_join {M : Model} {pl : Sem Bool} {Q : Value × List Value → Heap → Prop} (k : Q (.builtin "str.join", [.str x t]) h) : Ev M A (getMethod (.str x t) "join" pl) h Q E := .mk fun s hs => GM.join (fin0 (Q := Q) hs k)
end

section
variable {prog : Program} {w : World} {A : Around} {g h : Heap} {E : Value → Heap → Prop} {env : Env} {Q : Value → Heap → Prop} {L a b : Addr} {cs : List (Str × Addr)} {m : Str → Option Value} {led : List (Addr × Obj)} {t u : Tok} {x y nm : Str} {o : Obj} {vs : List Value} {ds : List PyData} {K : Frag}
end

section
variable {prog : Program} {w : World} {A : Around} {g h : Heap} {E : Value → Heap → Prop} {env : Env} {Q : Value → Heap → Prop} {L a b : Addr} {cs : List (Str × Addr)} {m : Str → Option Value} {led : List (Addr × Obj)} {t u : Tok} {x y nm out : Str} {o : Obj} {vs : List Value} {ds : List PyData} {K : Frag} {M : Model}
end
local macro_rules | `(tactic| walk_at "s") => `(tactic| first
  | ((with_reducible show Ev _ _ (eval (Expr.Attribute (Expr.Attribute _ _ _) _ _) _) _ _ _); refine Attr_any ?_)
  | ((with_reducible show Ev _ _ (eval (Expr.JoinedStr (_ :: _ :: _) _) _) _ _ _); refine Joined_ ?_)
  | ((with_reducible show Ev _ _ (joinParts _ (evalEach (_ :: _) _)) _ _ _); refine joinP_cons ?_)
  | ((with_reducible show Ev _ _ (eval (Expr.FormattedValue _ 115 none _) _) _ _ _); refine FV_s ?_)
  | ((with_reducible show Ev _ _ (eval (Expr.FormattedValue _ 114 none _) _) _ _ _); refine FV_r ?_)
  | ((with_reducible show Ev _ _ (getMethod (Value.ref _) (Str.ofString "reverse") _) _ _ _); refine' eMeth_reverse (by walk_at "get") ?_)
  | ((with_reducible show Ev _ _ (getMethod (Value.str _ _) (Str.ofString "join") _) _ _ _); refine eMeth_join ?_)
  | ((with_reducible show Ev _ _ (getMethod (Value.ref _) (Str.ofString "items") _) _ _ _); refine' eMeth_items (by walk_at "get") ?_)
  | ((with_reducible show Ev _ _ (call (Value.builtin "list.reverse") [Value.ref _]) _ _ _); refine' eReverse (by assumption) (by walk_at "put") (by walk_at "len") ?_; intro n9 h9 F9; (try dsimp only at F9))
  | ((with_reducible show Ev _ _ (compareOp CmpOp.In (Value.str _ _) (Value.str _ _)) _ _ _); refine eIn_str ?_)
  | fail "no rule of the third text")

def FrL (fr : List Env) : List Addr := fr.filterMap (·.frame)
/-- the frames below stand -/
def FramesAt (fr : List Env) (h : Heap) : Prop := ∀ env ∈ fr, env.scope.kind ≠ .module ∧ ∃ L o, env.frame = some L ∧ h.get? L = some o ∧ ∀ vs, o.data ≠ .fields vs
theorem FramesAt.keep {fr : List Env} {h h' : Heap} (x : FramesAt fr h) (e : Sub h h') : FramesAt fr h' := fun env he => let ⟨a, L, o, b, c, d⟩ := x env he; ⟨a, L, o, b, e _ _ c, d⟩
theorem FramesAt.funs {h base : Heap} : ∀ {fr : List Env}, FramesAt fr h → (∀ a ∈ FrL fr, base.get? a = none) → h.FunFrames base fr
  | [], _, _ => trivial
  | env :: r, x, hb => by
    obtain ⟨hk, L, o, hf, ho, hd⟩ := x env (.head _)
    refine ⟨hk, ⟨L, o, hf, hb L ?_, ho, hd⟩, FramesAt.funs (fun e he => x e (.tail _ he)) fun a ha => hb a ?_⟩
    · unfold FrL; rw [List.filterMap_cons, hf]; exact .head _
    · unfold FrL at ha ⊢; rw [List.filterMap_cons, hf]; exact .tail _ ha
/-- an exception is under way, below the frames fr; all else stands -/
def Flown (fr : List Env) (h : Heap) (e : Addr) (cls : Value) (h' : Heap) : Prop := (∃ a0, Heap.FlyingW (hideAll h (FrL fr)) fr e cls a0 h') ∧ h.UpToSlots h'
section
variable {prog : Program} {w : World} {A : Around} {g h : Heap} {E : Value → Heap → Prop} {K : Frag} {mg mb : Str → Option Value} {Q : Value → Heap → Prop}
/-- over a raise that was caught: all but the frames stands, and these up to their slots -/
theorem Loc.slots {h' : Heap} {L : Addr} {cs : List (Str × Addr)} {m : Str → Option Value} {led : List (Addr × Obj)} {fs : List Addr} (F : Loc g L cs m led h) (sub : Sub (hideAll h fs) h') (up : h.UpToSlots h') (hg : ∀ a ∈ fs, g.get? a = none) (hl : ∀ p ∈ led, p.1 ∉ fs) (hc : ∀ x c, cs.lookup x = some c → c ∉ fs) : Loc g L cs m led h' := by
  refine ⟨fun b o q => sub _ _ (hideAll_get _ (F.sub _ _ q) fun hm => by rw [hg b hm] at q; cases q), ?_, F.gL, fun p hp => ⟨sub _ _ (hideAll_get _ (F.led p hp).1 (hl p hp)), (F.led p hp).2⟩, F.nd, fun x c q => ?_, F.capart, F.cnew⟩
  · obtain ⟨m₀, n, r⟩ := F.ns
    exact ⟨m₀, up.ns n, r⟩
  · obtain ⟨oc, hoc, hcd⟩ := F.cell x c q
    exact ⟨oc, sub _ _ (hideAll_get _ hoc (hc x c q)), hcd⟩
end

section
variable {prog : Program} {w : World} {A : Around} {g h : Heap} {E : Value → Heap → Prop} {env : Env} {Q : Value → Heap → Prop} {L a b : Addr} {cs : List (Str × Addr)} {m : Str → Option Value} {led : List (Addr × Obj)} {t u v : Tok} {x y nm val : Str} {o : Obj} {vs ws : List Value} {K : Frag} {M : Model}
end

open Builtin Builtin._codecs in
open Builtin Builtin._codecs in
section
variable {prog : Program} {w : World} {A : Around} {E : Value → Shared → Prop} {s : Shared} {x : Str} {self : Value}
open Builtin Builtin._codecs in
open Builtin Builtin._codecs in
end

section
variable {prog : Program} {w : World} {A : Around} {E : Value → Shared → Prop} {s : Shared} {x y z : Str} {t1 t2 t3 t4 t5 : Tok} {i j : Int}
abbrev uobj (vs : Array Value) : Obj := { cls := .type "UnicodeEncodeError", data := .fields vs }
abbrev F6 (a0 : Value) : Array Value := #[a0, .none, .none, .none, .bool false, .none]
open Builtin.UnicodeEncodeError in
abbrev F11 (a0 : Value) (m : Members) : Array Value := #[a0, .none, .none, .none, .bool false, .none, m.encoding, m.object, rawInt m.start, rawInt m.stop, m.reason]
open Builtin.UnicodeEncodeError in
open Builtin.UnicodeEncodeError in
open Builtin.UnicodeEncodeError in
open Builtin.UnicodeEncodeError in
open Builtin.UnicodeEncodeError in
end

section
variable {prog : Program} {w : World} {A : Around} {E : Value → Shared → Prop} {s : Shared} {x : Str} {t : Tok}
/-- a new exception object, all else stands -/
def NewExcAt (h h' : Heap) (e : Addr) : Prop := Sub h h' ∧ h.get? e = none ∧ ∃ vs a0, h'.get? e = some (uobj vs) ∧ vs[1]? = some .none ∧ vs[0]? = some a0
open Builtin Builtin._codecs in
open Builtin Builtin._codecs in
open Builtin Builtin._codecs in
end
section
variable {prog : Program} {w : World} {A : Around} {h : Heap} {E : Value → Heap → Prop} {Q : Value → Heap → Prop} {x y : Str} {t u : Tok}
end

section
variable {prog : Program} {w : World} {A : Around} {s : Shared} {E : Value → Shared → Prop}
end
section
variable {prog : Program} {w : World} {A : Around} {g h : Heap} {E : Value → Heap → Prop} {env : Env} {Q : Value → Heap → Prop} {L a : Addr} {cs : List (Str × Addr)} {m : Str → Option Value} {led : List (Addr × Obj)} {t u : Tok} {x : Str} {o : Obj} {us : List Value}
theorem comp_str {scope : Scope} {cl : List (Str × Addr)} {elt target iter : Expr} {ifs : List Expr} {pos : Pos} (P : CompP) (hh : A.handled = none) (F : Loc g L cs m led h) (h0 : P 0 g [])
    (T : CompTurn prog w A env scope cl m led target elt ifs x.cps.size (SignAt x) P)
    (done : ∀ g ys D k h, P x.cps.size g ys → Loc g L cs m ((D, listO ys k) :: led) h → Q (.ref D) h) (htn : ∃ y p, target = .Name y p)
    (hcl : CellsIn cl cs) (hcell : (scope.names.all fun x => x.2 != .cell) = true) (hkind : scope.kind = .function) (hsz : x.cps.size ≤ sizeLine) :
    Ev (model prog w) A (pyIter (.str x t)) h (fun it h₂ => CompAt prog w A env scope cl elt target iter ifs pos it h₂ (plainU Q)) E := .mk fun s hs => by
  subst hs
  obtain ⟨y, p, rfl⟩ := htn
  have key : ∀ ty : String, (∀ I, Walks prog w A I [I] [I] x.cps.size (SignAt x) (fun i h => h.IsStrIter I ty x t i)) →
      CompAt prog w A env scope cl elt (.Name y p) iter ifs pos (.ref s.heap.objs.size) (s.heap.push { cls := .type ty, data := .fields #[.str x t, .int 0 0] }) (plainU Q) := fun ty W => ⟨fun s' E' hs' => by
    refine comp_core P (W s.heap.objs.size) (fun i h x => let ⟨o, ho, _⟩ := x; ⟨o, ho⟩) (fun b hb => .inl (List.mem_singleton.mp hb)) (fun i v s Q E st q => go_name q) (fun _ _ z => hcl.look z) hcell hkind (F.new _)
      ⟨_, Heap.get?_push_size _ rfl, rfl, rfl⟩ h0 T hsz (fun g ys D C oC k h hP F hn => ⟨hn, fun h' hs' => done g ys D k h' hP (F.dropC hs')⟩) s' hs'⟩
  cases ha : x.cps.all (· < 128)
  · exact wpAny_pyIter_wide ha ⟨rfl, key _ fun I => Walks.strWide hh I x t⟩
  · exact wpAny_pyIter_ascii ha ⟨rfl, key _ fun I => Walks.strAscii hh I x t⟩
end
local macro_rules | `(tactic| walk_at "s") => `(tactic| first
  | ((with_reducible show Ev _ _ (setItem (Value.ref _) (Value.int (-1) _) _) _ _ _); refine' eSet_last (by assumption) (by walk_at "put") ?_; intro n9 h9 F9; (try dsimp only at F9))
  | fail "no last")

theorem Loc.perm2 {g h : Heap} {L : Addr} {cs : List (Str × Addr)} {m : Str → Option Value} {led led' : List (Addr × Obj)} (F : Loc g L cs m led h) (p : led.Perm led') : Loc g L cs m led' h :=
  F.only (fun q hq => p.symm.mem_iff.mp hq) ((p.map _).nodup_iff.mp F.nd)
theorem perm3 {α : Type} (b d i : α) (l : List α) : (d :: i :: b :: l).Perm (b :: d :: i :: l) := (List.Perm.cons d (.swap b i l)).trans (.swap b d (i :: l))
theorem perm4 {α : Type} (a b d i : α) (l : List α) : (a :: b :: d :: i :: l).Perm (i :: a :: d :: b :: l) :=
  ((((List.Perm.swap i d l).cons b).trans (.swap i b (d :: l))).cons a).trans ((List.Perm.swap i a (b :: d :: l)).trans (((List.Perm.swap d b l).cons a).cons i))
def SlotUp (o o' : Obj) : Prop := ∃ sl, o' = { o with slots := sl }
theorem SlotUp.trans {a b c : Obj} (x : SlotUp a b) (y : SlotUp b c) : SlotUp a c := by
  obtain ⟨s, rfl⟩ := x
  obtain ⟨s', rfl⟩ := y
  exact ⟨s', rfl⟩
abbrev CompPB := Nat → Heap → List Value → Obj → Prop
section
variable {prog : Program} {w : World} {A : Around}
/-- a turn that may change the object B, and the slots of the frame L -/
structure CompTurnB (prog : Program) (w : World) (A : Around) (env : Env) (scope : Scope) (cl : List (Str × Addr)) (m : Str → Option Value) (L B : Addr) (target elt : Expr) (n : Nat) (Pv : Nat → Value → Prop) (P : CompPB) : Prop where
  turn : ∀ i v C mc lr g ys oL oB h, i < n → Pv i v → P i g ys oB → (∃ es ep, oL.data = .dict es ep) → Loc g C cl mc ((L, oL) :: (B, oB) :: lr) h → Caught cl m mc →
    Ev (model prog w) A (assign target (compEnvC scope cl C env) v) h (fun _ h₁ => Ev (model prog w) A (eval elt (compEnvC scope cl C env)) h₁ (fun y h₂ => ∃ g' mc' oL' oB', P (i + 1) g' (ys ++ [y]) oB' ∧ SlotUp oL oL' ∧ Loc g' C cl mc' ((L, oL') :: (B, oB') :: lr) h₂ ∧ Caught cl m mc') No) No
section
variable {env : Env} {scope : Scope} {cl cs : List (Str × Addr)} {elt target iter : Expr} {pos : Pos} {I L : Addr} {fp : List Addr} {n : Nat} {Pv : Nat → Value → Prop} {St : Nat → Heap → Prop} {g h : Heap} {m : Str → Option Value} {led : List (Addr × Obj)} {o : Obj} {E : Value → Heap → Prop}
theorem comp_coreB {U : Addr → Addr → Obj → Heap → Prop} {B : Addr} {oB : Obj} {ledr : List (Addr × Obj)} (P : CompPB) (W : Walks prog w A I fp [I] n Pv St) (live : ∀ i h, St i h → ∃ o, h.get? I = some o)
    (side : ∀ b ∈ fp, b = I)
    (go : ∀ i v s Q E, St i s.heap → Q () s → wpAny (model prog w) A (letOwnedTupleGo target (.ref I) v) Q E s)
    (hcl : ∀ x c, cl.lookup x = some c → cs.lookup x = some c) (hcell : (scope.names.all fun x => x.2 != .cell) = true) (hkind : scope.kind = .function)
    (F : Loc g L cs m ((I, o) :: (B, oB) :: ledr) h) (hst : St 0 h) (h0 : P 0 g [] oB) (T : CompTurnB prog w A env scope cl m L B target elt n Pv P) (hsz : n ≤ sizeLine)
    (done : ∀ g ys D C oC oB k h, P n g ys oB → Loc g L cs m ((D, listO ys k) :: (C, oC) :: (B, oB) :: ledr) h → (∃ mc, h.Ns C mc) → U D C oC h)
    (s : Shared) (hs : s.heap = h) {E' : Value → Shared → Prop} :
    wpAny (model prog w) A (newList []) (fun acc s₃ => wpAny (model prog w) A (newFunctionEnv scope env.globals cl [] env.qual none .none (some env)) (fun cenv s₄ =>
      codeAny (model prog w) A (.compStart (.ListComp elt [⟨target, iter, [], 0⟩] scope pos) 0 (.ref I) acc { cenv with scope := relabel scope env })
        (fun r s' => r = .ok .next ∧ Same s s' ∧ ∃ D oC, acc = .ref D ∧ U D cenv.locals oC s'.heap) s₄) E' s₃) E' s := by
  subst hs
  refine wpAny_newObj_type (wpAny_newFunctionEnv (fun x hx => by have := List.all_eq_true.mp hcell x hx; simpa using this) (by intro y hy; simp at hy) (fun h₁ hns₁ hsb₁ => ?_) hkind)
  dsimp only at hns₁ hsb₁ ⊢
  have F1 := F.new ({ cls := .type "list", dict := none, data := .seq ([] : List Value).toArray } : Obj)
  have F2 := F1.new ({ cls := .type "dict", data := .dict #[] } : Obj)
  generalize hH2 : s.heap.push ({ cls := .type "list", dict := none, data := .seq ([] : List Value).toArray } : Obj) = H2 at hns₁ hsb₁ F1 F2 ⊢
  have hD : s.heap.objs.size = H2.objs.size - 1 := by rw [← hH2, Heap.size_push]; rfl
  generalize hDD : s.heap.objs.size = D at F1 F2 ⊢
  generalize hCC : H2.objs.size = C at F2 hns₁ hsb₁ ⊢
  -- the frame of the block's own
  obtain ⟨oC, hoC⟩ : ∃ oC, h₁.get? C = some oC := let ⟨oC, _, _, q, _⟩ := hns₁; ⟨oC, q⟩
  have F3 : Loc g L cs m ((C, oC) :: (D, listO [] 0) :: (I, o) :: ((B, oB) :: ledr)) h₁ := F2.putE .head hsb₁.extBut hoC
  obtain ⟨rest, r1, r2, r3⟩ := cells_rest (cl := cl) F3
  obtain ⟨oL, hoL⟩ := F3.lt
  -- seen from within
  have In : Loc g C cl (fun y => if (cl.lookup y).isSome then m y else none) ((L, oL) :: (D, listO [] 0) :: (I, o) :: (((B, oB) :: ledr) ++ rest)) h₁ := by
    have gC : g.get? C = none := (F3.led _ (.head _)).2.2
    have mem3 : ∀ p ∈ (D, listO [] 0) :: (I, o) :: ((B, oB) :: ledr), h₁.get? p.1 = some p.2 ∧ p.1 ≠ L ∧ g.get? p.1 = none ∧ p.1 ≠ C := fun p hp => by
      have q := F3.led p (.tail _ hp)
      refine ⟨q.1, q.2.1, q.2.2, fun e => ?_⟩
      have nd := F3.nd
      simp only [List.map_cons (f := fun x : Addr × Obj => x.1) (a := (C, oC)), List.nodup_cons] at nd
      exact nd.1 (List.mem_map.mpr ⟨p, hp, e⟩)
    have memR : ∀ p ∈ rest, h₁.get? p.1 = some p.2 ∧ p.1 ≠ L ∧ g.get? p.1 = none ∧ p.1 ≠ C ∧ ∀ q ∈ (D, listO [] 0) :: (I, o) :: ((B, oB) :: ledr), q.1 ≠ p.1 := fun p hp => by
      obtain ⟨h1, x, hx, _⟩ := r1 p hp
      have c := F3.cnew x p.1 hx
      exact ⟨h1, c.1, c.2.1, fun e => c.2.2 (C, oC) (.head _) e.symm, fun q hq => c.2.2 q (.tail _ hq)⟩
    refine ⟨F3.sub, ⟨_, hns₁, fun x q => by simp [q]⟩, gC, fun p hp => ?_, ?_, fun x c q => ?_, fun x y c h1 h2 => F3.capart x y c (hcl x c h1) (hcl y c h2), fun x c q => ?_⟩
    · rcases List.mem_cons.mp hp with rfl | hp
      · exact ⟨hoL, fun e => (F3.led _ (.head _)).2.1 e.symm, F3.gL⟩
      · rw [← List.cons_append, ← List.cons_append] at hp
        rcases List.mem_append.mp hp with hp | hp
        · exact ⟨(mem3 p hp).1, (mem3 p hp).2.2.2, (mem3 p hp).2.2.1⟩
        · exact ⟨(memR p hp).1, (memR p hp).2.2.2.1, (memR p hp).2.2.1⟩
    · rw [← List.cons_append, ← List.cons_append]
      simp only [List.map_cons (f := fun x : Addr × Obj => x.1) (a := (L, oL)), List.nodup_cons]
      refine ⟨fun q => ?_, ?_⟩
      · obtain ⟨p, hp, e⟩ := List.mem_map.mp q
        rcases List.mem_append.mp hp with hp | hp
        · exact (mem3 p hp).2.1 e
        · exact (memR p hp).2.1 e
      · rw [List.map_append]
        refine List.nodup_append.mpr ⟨?_, r3, fun a ha b hb e => ?_⟩
        · have nd := F3.nd
          simp only [List.map_cons (f := fun x : Addr × Obj => x.1) (a := (C, oC)), List.nodup_cons] at nd
          exact nd.2
        · obtain ⟨p, hp, rfl⟩ := List.mem_map.mp ha
          obtain ⟨q, hq, rfl⟩ := List.mem_map.mp hb
          exact (memR q hq).2.2.2.2 p hp e
    · have : (cl.lookup x).isSome = true := by rw [q]; rfl
      simp only [this, if_true]
      exact F3.cell x c (hcl x c q)
    · have c3 := F3.cnew x c (hcl x c q)
      refine ⟨fun e => c3.2.2 (C, oC) (.head _) e.symm, c3.2.1, fun p hp => ?_⟩
      rcases List.mem_cons.mp hp with rfl | hp
      · exact c3.1.symm
      · rw [← List.cons_append, ← List.cons_append] at hp
        rcases List.mem_append.mp hp with hp | hp
        · exact c3.2.2 p (.tail _ hp)
        · intro e
          obtain ⟨_, y, hy, hn⟩ := r1 p hp
          have := F3.capart x y c (hcl x c q) (e ▸ hy)
          rw [← this, q] at hn; cases hn
  have In2 : Loc g C cl (fun y => if (cl.lookup y).isSome then m y else none) ((L, oL) :: (B, oB) :: (D, listO [] 0) :: (I, o) :: (ledr ++ rest)) h₁ := In.perm2 (.cons _ (perm3 _ _ _ _))
  obtain ⟨esL, epL, hdL⟩ : ∃ es ep, oL.data = .dict es ep := by
    obtain ⟨m₀, ⟨ob, es, ep, q, hd, _⟩, _⟩ := F3.ns
    rw [hoL] at q; cases q
    exact ⟨es, ep, hd⟩
  have st₁ : St 0 h₁ := by
    refine W.frame _ _ _ hst fun b hb x e => ?_
    have := side b hb
    subst this
    have := F.get (.head _); rw [e] at this; rw [Option.some.inj this]; exact F3.get (.tail _ (.tail _ (.head _)))
  have keyd : ∀ s₄ : Shared, s₄ = { s with heap := h₁, toks := s.toks + ([] : List (Str × Value)).length } →
      codeAny (model prog w) A (.compLoop (.ListComp elt [⟨target, iter, [], 0⟩] scope pos) 0 (.ref I) (.ref D) (compEnvC scope cl C env))
        (fun r s' => r = .ok .next ∧ Same s s' ∧ ∃ D' oC, Value.ref D = .ref D' ∧ U D' C oC s'.heap) s₄ := by
    rintro s₄ rfl
    refine compLoop_any (fun k s' => ∃ i g mc ys e oI oL' oB, Same s s' ∧ St i s'.heap ∧ P i g ys oB ∧ SlotUp oL oL' ∧ Loc g C cl mc ((L, oL') :: (B, oB) :: (D, listO ys e) :: (I, oI) :: (ledr ++ rest)) s'.heap ∧ Caught cl m mc ∧ i ≤ n ∧ ys.length ≤ i ∧ k = n + 1 - i) ?_ (n + 1)
      ⟨0, g, _, [], 0, o, oL, oB, Same.mk' s _ _, st₁, h0, ⟨oL.slots, rfl⟩, In2, fun x hx => by simp only [hx, if_true], Nat.zero_le _, Nat.le_refl _, rfl⟩
    rintro k s' ⟨i, g, mc, ys, e, oI, oL', oB', sm, sti, hP, hsl, F, hca, hi, hys, rfl⟩
    by_cases hlt : i < n
    · refine W.item i _ _ _ hlt sti fun v h₂ tk₂ hv st₂ hk₂ => ?_
      obtain ⟨o₂, ho₂⟩ := live _ _ st₂
      have F₂ : Loc g C cl mc ((L, oL') :: (B, oB') :: (D, listO ys e) :: (I, o₂) :: (ledr ++ rest)) h₂ := F.putE (.tail (.tail (.tail .head))) (fun b x hb e => hk₂ b x (by simpa using hb) e) ho₂
      refine go (i + 1) v _ _ _ st₂ ?_
      have hdL' : ∃ es ep, oL'.data = .dict es ep := by obtain ⟨sl, rfl⟩ := hsl; exact ⟨esL, epL, hdL⟩
      refine (T.turn i v C mc _ g ys oL' oB' h₂ hlt hv hP hdL' F₂ hca).use0 rfl (sm.trans (Same.mk' s' h₂ tk₂)) fun _ s₃ m₃ k₃ => ?_
      refine (tests_nil (prog := prog) (w := w) (A := A) (env := compEnvC scope cl C env) (h := s₃.heap) (Q := fun b h => b = true ∧ h = s₃.heap) (E := No) ⟨rfl, rfl⟩).use0 rfl m₃ fun ok s₅ m₅ q => ?_
      obtain ⟨rfl, e5⟩ := q
      rw [if_pos rfl]
      rw [← e5] at k₃
      refine k₃.use0 rfl m₅ fun y s₆ m₆ q₆ => ?_
      obtain ⟨g', mc', oL2, oB2, hP', hsl', F', hca'⟩ := q₆
      refine wpAny_list_append_plain (hsz := by simp; omega) ⟨e, F'.get (.tail _ (.tail _ (.head _)))⟩ fun h₇ hl₇ hs₇ => ?_
      obtain ⟨e₇, hl₇⟩ := hl₇
      have F₇ : Loc g' C cl mc' ((L, oL2) :: (B, oB2) :: (D, listO (ys ++ [y]) e₇) :: (I, o₂) :: (ledr ++ rest)) h₇ := F'.put (.tail (.tail .head)) hs₇ (by rw [hl₇]; simp)
      have stN : St (i + 1) h₇ := by
        refine W.frame _ _ _ st₂ fun b hb x e => ?_
        have := side b hb
        subst this
        rw [ho₂] at e; rw [← Option.some.inj e]; exact F₇.get (.tail _ (.tail _ (.tail _ (.head _))))
      exact ⟨n + 1 - (i + 1), by omega, i + 1, g', mc', ys ++ [y], e₇, o₂, oL2, oB2, m₆.trans (Same.mk' s₆ h₇ s₆.toks), stN, hP', hsl.trans hsl', F₇, hca', hlt, by simp; omega, rfl⟩
    · have : i = n := by omega
      subst this
      refine W.done _ _ _ sti fun h₂ tk₂ hk₂ => ⟨rfl, sm.trans (Same.mk' s' h₂ tk₂), ?_⟩
      have F₂ : Loc g C cl mc ((L, oL') :: (D, listO ys e) :: (((B, oB') :: ledr) ++ rest)) h₂ := by
        have Fd : Loc g C cl mc ((I, oI) :: (L, oL') :: (D, listO ys e) :: (((B, oB') :: ledr) ++ rest)) s'.heap := F.perm2 (perm4 _ _ _ _ _)
        exact Fd.extDrop fun b x hb e => hk₂ b x (by simpa using hb) e
      obtain ⟨oC₂, hoC₂⟩ := F₂.lt
      refine ⟨D, oC₂, rfl, done g ys D C oC₂ oB' e h₂ hP ?_ (let ⟨m₀, q, _⟩ := F₂.ns; ⟨m₀, q⟩)⟩
      generalize (B, oB') :: ledr = led at F₂ ⊢
      -- seen from without again
      have hLo := F₂.get (.head _)
      have gL := (F₂.led _ (.head _)).2.2
      have inl : ∀ p ∈ led, p ∈ (L, oL') :: (D, listO ys e) :: (led ++ rest) := fun p hp => .tail _ (.tail _ (List.mem_append_left _ hp))
      have inr : ∀ p ∈ rest, p ∈ (L, oL') :: (D, listO ys e) :: (led ++ rest) := fun p hp => .tail _ (.tail _ (List.mem_append_right _ hp))
      have nd := F₂.nd
      simp only [List.map_cons, List.map_append, List.nodup_cons, List.mem_cons, not_or, List.mem_append, List.nodup_append] at nd
      obtain ⟨⟨nLD, nLl, nLr⟩, ⟨nDl, nDr⟩, ndl, ndr, ndlr⟩ := nd
      have cellO : ∀ x c, cs.lookup x = some c → (∃ oc, h₂.get? c = some oc ∧ oc.data = .cell (m x)) ∧ c ≠ L ∧ g.get? c = none ∧ c ≠ D ∧ c ≠ C ∧ ∀ p ∈ led, p.1 ≠ c := fun x c hc => by
        cases hl : cl.lookup x with
        | some d =>
          have hd := hcl x d hl
          rw [hc] at hd; cases hd
          obtain ⟨oc, h1, h2⟩ := F₂.cell x c hl
          have n2 := F₂.cnew x c hl
          refine ⟨⟨oc, h1, by rw [h2, hca x (by rw [hl]; rfl)]⟩, Ne.symm (n2.2.2 _ (.head _)), n2.2.1, Ne.symm (n2.2.2 _ (.tail _ (.head _))), n2.1, fun p hp => n2.2.2 p (inl p hp)⟩
        | none =>
          obtain ⟨oc, hm⟩ := r2 x c hc hl
          have q := F₂.led _ (inr _ hm)
          obtain ⟨oc', h1', h2'⟩ := F3.cell x c hc
          have : oc' = oc := by have := (r1 _ hm).1; rw [h1'] at this; exact Option.some.inj this
          subst this
          refine ⟨⟨oc', q.1, h2'⟩, fun e => nLr (List.mem_map.mpr ⟨_, hm, e⟩), q.2.2, fun e => nDr (List.mem_map.mpr ⟨_, hm, e⟩), q.2.1, fun p hp e => ndlr _ (List.mem_map.mpr ⟨p, hp, rfl⟩) _ (List.mem_map.mpr ⟨_, hm, rfl⟩) e⟩
      have nsL : ∃ m₀, h₂.Ns L m₀ ∧ ∀ x, cs.lookup x = none → m₀ x = m x := by
        obtain ⟨m₀, ⟨ob, es, ep, q, r⟩, z⟩ := F3.ns
        rw [hoL] at q
        cases q
        obtain ⟨sl, rfl⟩ := hsl
        exact ⟨m₀, ⟨_, es, ep, hLo, r⟩, z⟩
      have CL : C ≠ L := fun e => (F₂.led _ (.head _)).2.1 e.symm
      refine ⟨F₂.sub, nsL, gL, fun p hp => ?_, ?_, fun x c hc => let ⟨oc, h1, h2⟩ := (cellO x c hc).1; ⟨oc, h1, h2⟩, F3.capart, fun x c hc => ⟨(cellO x c hc).2.1, (cellO x c hc).2.2.1, fun p hp => ?_⟩⟩
      · rcases List.mem_cons.mp hp with rfl | hp
        · have q := F₂.led _ (.tail _ (.head _)); exact ⟨q.1, fun e => nLD e.symm, q.2.2⟩
        · rcases List.mem_cons.mp hp with rfl | hp
          · exact ⟨hoC₂, CL, F₂.gL⟩
          · have q := F₂.led _ (inl p hp); exact ⟨q.1, fun e => nLl (List.mem_map.mpr ⟨p, hp, e⟩), q.2.2⟩
      · simp only [List.map_cons, List.nodup_cons, List.mem_cons, not_or]
        refine ⟨⟨(F₂.led _ (.tail _ (.head _))).2.1, nDl⟩, fun q => ?_, ndl⟩
        obtain ⟨p, hp, e⟩ := List.mem_map.mp q
        exact (F₂.led _ (inl p hp)).2.1 e
      · rcases List.mem_cons.mp hp with rfl | hp
        · exact (cellO x c hc).2.2.2.1.symm
        · rcases List.mem_cons.mp hp with rfl | hp
          · exact (cellO x c hc).2.2.2.2.1.symm
          · exact (cellO x c hc).2.2.2.2.2 p hp
  refine codeAny_compStart_list (keyd _ rfl) (W.self 0 _ _ _ st₁ ?_)
  exact keyd _ rfl


/-- name = [.. for x in range(n)] -/
theorem comp_rangeB {Qn : Heap → Prop} {y : Str} {py : Pos} {r B : Addr} {oB : Obj} {ledr : List (Addr × Obj)} {t u v : Tok} (P : CompPB) (hh : A.handled = none) (hr : IsRange h r 0 (n : Int) 1 t u v) (F : Loc g L cs m ((B, oB) :: ledr) h) (h0 : P 0 g [] oB)
    (T : CompTurnB prog w A env scope cl m L B target elt n (fun i v => ∃ t, v = .int i t) P)
    (done : ∀ g ys D oB k h, P n g ys oB → Loc g L cs (fun z => if z = y then some (.ref D) else m z) ((D, listO ys k) :: (B, oB) :: ledr) h → Qn h) (htn : ∃ x p, target = .Name x p)
    (hcl : CellsIn cl cs) (hcell : (scope.names.all fun x => x.2 != .cell) = true) (hkind : scope.kind = .function) (hsz : n ≤ sizeLine)
    (hL : env.locals = L := by rfl) (hk : env.scope.kind = .function := by rfl) (hly : env.kindOf y = some .local := by rfl) (hc : cs.lookup y = none := by rfl) :
    Ev (model prog w) A (pyIter (.ref r)) h (fun it h₂ => CompAt prog w A env scope cl elt target iter [] pos it h₂ (fun D C oC h₃ =>
      Ev (model prog w) A (assign (.Name y py) env (.ref D)) h₃ (fun _ h₄ => (∃ mc, h₄.Ns C mc) ∧ ∀ h', Heap.SameBut C h₄ h' → Qn h') No)) E := .mk fun s hs => by
  subst hs
  obtain ⟨x, p, rfl⟩ := htn
  have hn : n ≤ 2 ^ 24 := by rw [sizeLine_eq] at hsz; omega
  refine wpAny_pyIter_range hr (small_one (by omega) (by omega) (by omega) (by omega)) ⟨rfl, ⟨fun s' E' hs' => ?_⟩⟩
  refine comp_coreB (U := fun D C _ h₃ => Ev (model prog w) A (assign (.Name y py) env (.ref D)) h₃ (fun _ h₄ => (∃ mc, h₄.Ns C mc) ∧ ∀ h', Heap.SameBut C h₄ h' → Qn h') No) P (Walks.range hh s.heap.objs.size 0 1 n) (fun i h x => ⟨_, x⟩) (fun b hb => List.mem_singleton.mp hb) (fun i v s Q E st q => go_name q) (fun _ _ z => hcl.look z) hcell hkind (F.new _)
    ?_ h0 ?_ hsz (fun g ys D C oC oB k h hP F hn => ?_) s' hs'
  · show (s.heap.push _).get? s.heap.objs.size = _
    rw [Heap.get?_push_size _ rfl, rangeSize_nat]
    simp
  · refine ⟨fun i v C mc lr g ys oL oB h hi hv => T.turn i v C mc lr g ys oL oB h hi ?_⟩
    obtain ⟨t, rfl⟩ := hv
    exact ⟨t, by simp⟩
  · refine assign_L F (fun h₄ F₄ => ⟨?_, fun h' hs' => done g ys D oB k h' hP (F₄.dropC hs')⟩) hL hk hly hc
    obtain ⟨mc, ob, es, ep, q, r⟩ := hn
    have e1 := F.get (.tail _ (.head _))
    rw [q] at e1
    exact ⟨mc, ob, es, ep, by rw [Option.some.inj e1]; exact F₄.get (.tail _ (.head _)), r⟩
end
end

theorem seq_list_iadd : seqSlot? (.type "list") (dunderI "add") = pure (some (.builtin "list.__iadd__")) := PySem.seqSlot_of PySem.F.slot_list_iadd.lookup (by decide +kernel)
theorem fills_list_iadd : fillsInplaceSlot (.type "list") "add" (Operator.Add == .Add) = pure false := by
  unfold fillsInplaceSlot
  show (typeLookup (.type "list") (dunderI "add") >>= fun fi => pure (fi.isSome && !isSeqSlot fi)) = pure false
  rw [PySem.F.slot_list_iadd.lookup]; rfl
section
variable {prog : Program} {w : World} {A : Around} {g h : Heap} {E : Value → Heap → Prop} {env : Env} {Q : Value → Heap → Prop} {L a b : Addr} {cs : List (Str × Addr)} {m : Str → Option Value} {led : List (Addr × Obj)} {t u v : Tok} {x : Str} {o o2 : Obj} {vs ws : List Value}
theorem eIadd_list {n n2 : Nat} {led' : Obj → List (Addr × Obj)} (F : Loc g L cs m led h) (hput : PutF a (listO vs n) led led') (hb : h.get? b = some (listO ws n2)) (hz : vs.length + ws.length ≤ 100000)
    (k : ∀ n' h', Loc g L cs m (led' (listO (vs ++ ws) n')) h' → Q (.ref a) h') : Ev (model prog w) A (inplaceOp .Add (.ref a) (.ref b)) h Q E := .mk fun s hs => by
  subst hs
  have ho := F.get (hput.put (listO vs 0)).mem
  have hT : s.TypeIs (.ref a) "list" := ⟨_, ho, rfl⟩
  unfold inplaceOp
  refine wpAny_holding ?_
  refine wpAny_bind (wpAny_typeOf hT (wpAny_bind (wpAny_of_eq fills_list_iadd ?_)))
  show wpAny _ A (if false = true then _ else _) _ _ s
  rw [if_neg Bool.false_ne_true]
  refine wpAny_bind (wpAny_binaryOp1_none (nm := "add") hT ⟨_, hb, rfl⟩ noFill_list_add ?_)
  refine wpAny_bind (wpAny_of_eq seq_list_iadd ?_)
  refine wpAny_bind (wpAny_rule ?_)
  refine call_meets PySem.F.slot_list_iadd hT PySem.F.entry_list_iadd (PySem.F.args_list_iadd_2 _ _) (AutoSeq1.list___iadd___list_list_0 a vs.toArray n b ws.toArray n2 ?_ ?_ ?_) ⟨ho, hb, ?_⟩
  · simp [Builtin.List.listTooLong, sizeLine_eq]
    intro _
    omega
  · simp [sizeLine_eq]; omega
  · simp [sizeLine_eq]; omega
  · have q := PySem.IsL.update ho fun xs => xs ++ ws.toArray
    rw [show vs.toArray ++ ws.toArray = (vs ++ ws).toArray from by simp] at q
    exact ⟨Same.mk' _ _ _, k _ _ (F.put (hput.put _) (Heap.SameBut.update ..) q)⟩
/-- [v] * 5 -/
theorem eMul_list {y : Value} {n : Nat} (F : Loc g L cs m led h) (ho : h.get? a = some (listO [y] n)) (k : ∀ D h', Loc g L cs m ((D, listO [y, y, y, y, y] 0) :: led) h' → Q (.ref D) h') :
    Ev (model prog w) A (binaryOp .Mult (.ref a) (.int 5 u)) h Q E := .mk fun s hs => by
  subst hs
  have m3 := AutoListH.list___mul___list_int_3 a #[y] n 5 u (by decide) (by show ¬ 1 * 5 > _; decide) (by show ¬ Builtin.List.listTooLong (1 * 5) = true; decide)
  refine wpAny_binaryOp_repeat_ref (T := "list") (U := "int") (by decide) ⟨_, ho, rfl⟩ (fun s' => typeIs_int s' 5 u) noFill_list_mul PySem.F.fills_int_mul PySem.F.slot_int_rmul repeat_list PySem.F.slot_int_index.lookup
    (call_meets PySem.F.slot_int_rmul (typeIs_int s 5 u) PySem.F.entry_int_rmul (PySem.F.args_int_rmul_2 _ _) (int___rmul___int_list 5 u a #[y] n)
      ⟨ho, rfl, ⟨_, ho, rfl⟩, call_meets PySem.F.slot_list_mul ⟨_, ho, rfl⟩ PySem.F.entry_list_mul (PySem.F.args_list_mul_2 _ _) m3 ⟨ho, ?_⟩⟩)
  exact ⟨rfl, k _ _ (F.new _)⟩
/-- list(range(n)) -/
theorem eList_range {r : Addr} {n : Nat} (hh : A.handled = none) (hr : IsRange h r 0 (n : Int) 1 t u v) (hn : n ≤ 1000) (F : Loc g L cs m led h)
    (k : ∀ D ys c h', ys.length = n → (∀ i (hi : i < n), ∃ t, ys[i]? = some (.int i t)) → Loc g L cs m ((D, listO ys c) :: led) h' → Q (.ref D) h') : Ev (model prog w) A (call (.type "list") [.ref r]) h Q E := .mk fun s hs => by
  subst hs
  refine call_list_range (n := n) hh hr (small_one (by omega) (by omega) (by omega) (by omega)) (by rw [rangeSize_nat]; simp) (by omega) fun h' tk acc c hk hS hacc => ⟨Same.mk' _ _ _, k _ acc.toList c h' (by simpa using hacc.1) (fun i hi => ?_) ?_⟩
  · have hlt : i < acc.size := by rw [hacc.1]; exact hi
    obtain ⟨t, e⟩ := hacc.2 i acc[i] (by simp [hlt])
    exact ⟨t, by simp [hlt, e]⟩
  · exact F.take hk (get_size _) (by simpa using hS)
/-- ''.join of texts -/
theorem eJoin_list {l : List (Str × Tok)} (ho : h.get? a = some o) (hl : IsL o (strValues l)) (hn : l.length ≤ 1000) (hb : ∀ p ∈ l, p.1.length ≤ 1000) (hx : x.length = 0) (k : ∀ t', Q (.str (Txt.join x (l.map (·.1))) t') h) :
    Ev (model prog w) A (call (.builtin "str.join") [.str x t, .ref a]) h Q E := .mk fun s hs => by
  subst hs
  refine SC.join (l := l) (hl.isList ho) rfl ?_ fun t' k' => ⟨Same.mk' _ _ _, k _⟩
  unfold JoinOk
  rw [Bool.not_eq_true']
  exact StrLaws.joinFits (B := 1000) (fun y hy => by obtain ⟨p, hp, rfl⟩ := List.mem_map.mp hy; exact hb p hp) (by
    rw [List.length_map, hx]
    have : l.length * 1000 ≤ 1000 * 1000 := Nat.mul_le_mul_right _ hn
    omega)
end

section
variable {prog : Program} {w : World} {A : Around} {g h h' : Heap} {E : Value → Heap → Prop} {env : Env} {Q : Value → Heap → Prop} {L a b : Addr} {cs : List (Str × Addr)} {m : Str → Option Value} {led : List (Addr × Obj)} {t u : Tok} {x : Str} {o o2 : Obj} {vs ws : List Value}
/-- name = [.. for x in range(n) if ..] -/
theorem comp_rangeN {Qn : Heap → Prop} {y : Str} {py pos : Pos} {r : Addr} {scope : Scope} {cl : List (Str × Addr)} {elt target iter : Expr} {ifs : List Expr} {n : Nat} {v : Tok} (P : CompP) (hh : A.handled = none) (hr : IsRange h r 0 (n : Int) 1 t u v) (F : Loc g L cs m led h) (h0 : P 0 g [])
    (T : CompTurn prog w A env scope cl m led target elt ifs n (fun i v => ∃ t, v = .int i t) P)
    (done : ∀ g ys D k h, P n g ys → Loc g L cs (fun z => if z = y then some (.ref D) else m z) ((D, listO ys k) :: led) h → Qn h) (htn : ∃ x p, target = .Name x p)
    (hcl : CellsIn cl cs) (hcell : (scope.names.all fun x => x.2 != .cell) = true) (hkind : scope.kind = .function) (hsz : n ≤ sizeLine)
    (hL : env.locals = L := by rfl) (hk : env.scope.kind = .function := by rfl) (hly : env.kindOf y = some .local := by rfl) (hc : cs.lookup y = none := by rfl) :
    Ev (model prog w) A (pyIter (.ref r)) h (fun it h₂ => CompAt prog w A env scope cl elt target iter ifs pos it h₂ (fun D C oC h₃ =>
      Ev (model prog w) A (assign (.Name y py) env (.ref D)) h₃ (fun _ h₄ => (∃ mc, h₄.Ns C mc) ∧ ∀ h', Heap.SameBut C h₄ h' → Qn h') No)) E := .mk fun s hs => by
  subst hs
  obtain ⟨x, p, rfl⟩ := htn
  have hn : n ≤ 2 ^ 24 := by rw [sizeLine_eq] at hsz; omega
  refine wpAny_pyIter_range hr (small_one (by omega) (by omega) (by omega) (by omega)) ⟨rfl, ⟨fun s' E' hs' => ?_⟩⟩
  refine comp_core (U := fun D C _ h₃ => Ev (model prog w) A (assign (.Name y py) env (.ref D)) h₃ (fun _ h₄ => (∃ mc, h₄.Ns C mc) ∧ ∀ h', Heap.SameBut C h₄ h' → Qn h') No) P (Walks.range hh s.heap.objs.size 0 1 n) (fun i h x => ⟨_, x⟩) (fun b hb => .inl (List.mem_singleton.mp hb)) (fun i v s Q E st q => go_name q) (fun _ _ z => hcl.look z) hcell hkind (F.new _)
    ?_ h0 ?_ hsz (fun g ys D C oC k h hP F hn => ?_) s' hs'
  · show (s.heap.push _).get? s.heap.objs.size = _
    rw [Heap.get?_push_size _ rfl, rangeSize_nat]
    simp
  · refine ⟨fun i v C mc led' g ys h hi hv => T.turn i v C mc led' g ys h hi ?_⟩
    obtain ⟨t, rfl⟩ := hv
    exact ⟨t, by simp⟩
  · refine assign_L F (fun h₄ F₄ => ⟨?_, fun h' hs' => done g ys D k h' hP (F₄.dropC hs')⟩) hL hk hly hc
    obtain ⟨mc, ob, es, ep, q, r⟩ := hn
    have e1 := F.get (.tail _ (.head _))
    rw [q] at e1
    exact ⟨mc, ob, es, ep, by rw [Option.some.inj e1]; exact F₄.get (.tail _ (.head _)), r⟩
/-- text[-1] -/
theorem eItem_end {value slice : Expr} {c : Nat} (hc : x.cps.back? = some c) (k : ∀ tk, Q (.str ⟨#[c]⟩ tk) h)
    (hs : subscripted slice false (.str x t) (.int (-1) u) = operate [.str x t, .int (-1) u] (getItem (.str x t) (.int (-1) u)) := by with_unfolding_all rfl) : Ev (model prog w) A (subscriptTail value slice (.str x t) (.int (-1) u)) h Q E := .mk fun s hs' => by
  have hlt : 0 < x.cps.size := by
    rcases Nat.eq_zero_or_pos x.cps.size with q | q
    · rw [Array.back?, Array.getElem?_eq_none (by omega)] at hc; cases hc
    · exact q
  refine tail_any (typeIs_str s x t) PySem.F.slot_str_getitem.lookup (PyProof.Rows.getItem_str (c := c) (by decide) ?_ (fint (Q := Q) hs' (k _) _)) hs
  have e : seqIndex? (-1) x.length = some (x.cps.size - 1) := by
    have hl : x.length = x.cps.size := rfl
    unfold seqIndex?
    rw [hl]
    simp
    omega
  rw [e]
  exact hc
/-- over a raise, the frame L in the ledger: its slots alone change -/
theorem Loc.slotUp {C : Addr} {oL : Obj} (F : Loc g C cs m ((L, oL) :: led) h) (sub : Sub (hideAll h [L]) h') (up : h.UpToSlots h') (hd : ∃ es ep, oL.data = .dict es ep) : ∃ oL', SlotUp oL oL' ∧ Loc g C cs m ((L, oL') :: led) h' := by
  obtain ⟨es, ep, hd⟩ := hd
  obtain ⟨sl, hsl⟩ := up L oL (F.get (.head _)) (fun vs q => by rw [hd] at q; cases q)
  refine ⟨_, ⟨sl, rfl⟩, F.putE .head (fun b o hb q => sub _ _ (hideAll_get _ q fun hm => hb (List.mem_singleton.mp hm))) hsl⟩
theorem Loc.framesIn {C : Addr} {oL : Obj} {fr : List Env} (F : Loc g C cs m ((L, oL) :: led) h) (hd : ∃ es ep, oL.data = .dict es ep) (hfr : ∀ e ∈ fr, e.scope.kind = .function ∧ e.frame = some L) : FramesAt fr h := by
  intro e he
  obtain ⟨es, ep, hd⟩ := hd
  exact ⟨by rw [(hfr e he).1]; decide, L, oL, (hfr e he).2, F.get (.head _), fun vs q => by rw [hd] at q; cases q⟩
end
theorem s_sp : Str.ofString " " = ⟨#[32]⟩ := by decide +kernel
theorem s_del : Str.ofString "\x7f" = ⟨#[127]⟩ := by decide +kernel

/-- an exception with its arguments is under way, below the frames fr -/
def Flown2 (fr : List Env) (h : Heap) (e : Addr) (cls : Value) (vs : List Value) (h' : Heap) : Prop := (∃ t, Heap.FlyingW (hideAll h (FrL fr)) fr e cls (.ref t) h' ∧ h'.TupAt t vs) ∧ h.UpToSlots h'
theorem Flown2.mono {fr : List Env} {h h₂ h' : Heap} {e : Addr} {cls : Value} {vs : List Value} (x : Flown2 fr h₂ e cls vs h') (s : Sub h h₂) : Flown2 fr h e cls vs h' := by
  obtain ⟨⟨t, x1, x2⟩, x3⟩ := x
  refine ⟨⟨t, flyingW_base (fun b o q => ?_) x1, x2⟩, (Heap.UpToSlots.of_keeps s).trans x3⟩
  exact hideAll_get _ (s _ _ (of_hideAll _ q)) fun hm => by rw [hideAll_none _ hm] at q; cases q
/-- raised in the body itself, or come from below; V: the arguments; h: as it was ahead of the call -/
def Raised (env : Env) (fr : List Env) (h : Heap) (cls : Value) (V : List Value → Prop) (v : Value) (h' : Heap) : Prop := ∃ e vs, v = .ref e ∧ V vs ∧ ((∃ hm, Sub h hm ∧ FramesAt (env :: fr) hm ∧ Heap.MadeExcOf hm h' e cls vs) ∨ Flown2 (env :: fr) h e cls vs h')
theorem Loc.frames {g h : Heap} {L : Addr} {cs : List (Str × Addr)} {m : Str → Option Value} {led : List (Addr × Obj)} {env : Env} {fr : List Env} (F : Loc g L cs m led h) (hfr : FramesAt fr g) (hk : env.scope.kind = .function) (hf : env.frame = some L) : FramesAt (env :: fr) h := by
  intro e he
  rcases List.mem_cons.mp he with rfl | he
  · obtain ⟨m₀, ⟨o, es, ep, hL, hd, _⟩, _⟩ := F.ns
    exact ⟨by rw [hk]; decide, L, o, hf, hL, fun vs q => by rw [hd] at q; cases q⟩
  · exact hfr.keep F.sub e he
theorem Raised.here {g h h' : Heap} {L : Addr} {cs : List (Str × Addr)} {m : Str → Option Value} {led : List (Addr × Obj)} {env : Env} {fr : List Env} {cls : Value} {vs : List Value} {V : List Value → Prop} {e : Addr} (F : Loc g L cs m led h) (hfr : FramesAt fr g) (hV : V vs) (made : Heap.MadeExcOf h h' e cls vs)
    (hk : env.scope.kind = .function := by rfl) (hf : env.frame = some L := by rfl) : Raised env fr g cls V (.ref e) h' := ⟨e, vs, rfl, hV, .inl ⟨h, F.sub, F.frames hfr hk hf, made⟩⟩
theorem Raised.of {env : Env} {fr : List Env} {h h₂ h' : Heap} {cls : Value} {vs : List Value} {V : List Value → Prop} {e : Addr} (s : Sub h h₂) (hV : V vs) (x : Flown2 (env :: fr) h₂ e cls vs h') : Raised env fr h cls V (.ref e) h' := ⟨e, vs, rfl, hV, .inr (x.mono s)⟩
theorem leave_end {M : Model} {A : Around} {env : Env} {fr : List Env} {L : Addr} {s s' : Shared} {cls v : Value} {V : List Value → Prop} {E : Value → Shared → Prop} {Q : Unit → Shared → Prop} (hA : A.frames = some (env :: fr)) (hf : env.frame = some L) (hL : s.heap.get? L = none)
    (q : Raised env fr s.heap cls V v s'.heap) (k : ∀ e vs h', v = .ref e → V vs → Flown2 fr s.heap e cls vs h' → Q () { s' with heap := h' }) : wpAny M A (leaving env v) Q E s' := by
  obtain ⟨e, vs, rfl, hV, q⟩ := q
  have hFL : FrL (env :: fr) = L :: FrL fr := by unfold FrL; rw [List.filterMap_cons, hf]
  have hbase : ∀ b o, (hideAll s.heap (FrL fr)).get? b = some o → s.heap.get? b = some o ∧ b ∉ FrL (env :: fr) := fun b o q => by
    refine ⟨of_hideAll _ q, fun hm => ?_⟩
    rw [hFL] at hm
    rcases List.mem_cons.mp hm with rfl | hm
    · have := of_hideAll _ q; rw [hL] at this; cases this
    · rw [hideAll_none _ hm] at q; cases q
  rcases q with ⟨hm, sub, hfr, made⟩ | ⟨⟨t, fl, tup⟩, up⟩
  · refine wpAny_leaves_madeW (base := hideAll s.heap (FrL fr)) (h := hm) hA hf (fun b o q => sub _ _ (hbase b o q).1) (hfr.funs fun a ha => ?_) made fun h' t x1 x2 x3 x4 => k e vs h' rfl hV ⟨⟨t, x1, x2⟩, ?_⟩
    · cases q : (hideAll s.heap (FrL fr)).get? a with
      | none => rfl
      | some o => exact absurd ha (hbase a o q).2
    · exact (Heap.UpToSlots.of_keeps sub).trans ((Heap.UpToSlots.of_keeps made.keeps).trans x4)
  · refine wpAny_leaves_onW hA hf (flyingW_base (base := hideAll s.heap (FrL fr)) (fun b o q => hideAll_get _ (hbase b o q).1 (hbase b o q).2) fl) fun h' x1 x2 => k e vs h' rfl hV ⟨⟨t, x1, tup.of_slots x2⟩, up.trans x2⟩
section
variable {prog : Program} {w : World} {A : Around} {g h : Heap} {E : Value → Heap → Prop} {K : Frag} {mg mb : Str → Option Value} {Q : Value → Heap → Prop}
/-- a def is called that may raise, or through which an exception passes -/
theorem call_fnG {f : Addr} {oc : Value} {od : Option Addr} {osl : Array (Option Value)} {fd : FuncData} {body : List Stmt} {pos : List Value} {kw : List (Str × Value)} {binds : List (Str × Value)} {fr : List Env} {cls : Value} {V : List Value → Prop}
    (X : Amb K mg mb h) (ho : K.lookup f = some ⟨oc, od, .func fd, osl⟩) (hcd : codeIn K fd.code fd.qualname = true) (hbody : fd.body = .stmts body) {n : Nat} (R : Rm A (n + 1)) (hA : A.frames = some fr) (hfr : FramesAt fr h)
    (hbind : ∀ s : Shared, s.heap = h → BindsTo s fd ⟨pos, kw⟩ binds) (hcell : (fd.scope.names.all fun x => x.2 != .cell) = true) (hloc : ((binds.map (·.1)).all fun y => fd.scope.names.lookup y == some .local) = true)
    (k : ∀ A' L h', Rm A' n → A'.frames = some (callEnv fd L f :: fr) → FramesAt (callEnv fd L f :: fr) h' → Loc h L [] (fun x => binds.reverse.lookup x) [] h' →
      Ev (model prog w) A' (execs body (callEnv fd L f)) h' (fun fl h'' => Q (match fl with | .ret v => v | _ => .none) h'') (Raised (callEnv fd L f) fr h cls V))
    (kE : ∀ e vs h', V vs → Flown2 fr h e cls vs h' → E (.ref e) h')
    (hco : fd.scope.isCoroutine = false := by rfl) (hgen : fd.scope.isGenerator = false := by rfl) (hk : fd.scope.kind = .function := by rfl) :
    Ev (model prog w) A (call (.ref f) pos kw) h Q E := .mk fun s hs => by
  subst hs
  refine wpAny_call (codeAny_call_def (by have := R.dp; omega) (X.k _ _ ho) rfl X.lim (codeRec_of X.k hcd) hbody (hbind s rfl) (fun x hx => by have := List.all_eq_true.mp hcell x hx; simpa using this) (fun x hx => by have := List.all_eq_true.mp hloc x.1 (List.mem_map.mpr ⟨x, hx, rfl⟩); simpa using this) (fun h₀ hns hk₀ => ?_) hco hgen hk)
  have F : Loc s.heap s.heap.objs.size [] (fun x => binds.reverse.lookup x) [] h₀ := ⟨hk₀, ⟨_, hns, fun _ _ => rfl⟩, get_size _, fun _ hp => (by cases hp), List.nodup_nil, fun _ _ q => (by cases q), fun _ _ _ q => (by cases q), fun _ _ q => (by cases q)⟩
  have hfr0 : FramesAt (callEnv fd s.heap.objs.size f :: fr) h₀ := by
    intro env he
    rcases List.mem_cons.mp he with rfl | he
    · obtain ⟨o, es, ep, hL, hd, _⟩ := hns
      exact ⟨by show fd.scope.kind ≠ _; rw [hk]; decide, _, o, rfl, hL, fun vs q => by rw [hd] at q; cases q⟩
    · exact hfr.keep hk₀ env he
  have hA' : (A.deeper (callEnv fd s.heap.objs.size f)).frames = some (callEnv fd s.heap.objs.size f :: fr) := by show A.frames.map _ = _; rw [hA]; rfl
  refine wpAny_mono ((k _ _ _ R.deeper hA' hfr0 F).run _ rfl) (fun fl s' q => ⟨Same.trans (Same.mk' s _ _) q.1, q.2⟩) fun v s' q => ?_
  refine leave_end (s := s) hA' rfl (get_size _) q.2 fun e vs h' he hV hfl => ?_
  subst he
  exact ⟨(Same.mk' s _ _).trans (q.1.trans (Same.mk' s' _ _)), kE e vs h' hV hfl⟩
/-- the same, names in part kept in cells -/
theorem call_fnGC {f : Addr} {oc : Value} {od : Option Addr} {osl : Array (Option Value)} {fd : FuncData} {body : List Stmt} {pos : List Value} {kw : List (Str × Value)} {binds : List (Str × Value)} {fr : List Env} {cls : Value} {V : List Value → Prop}
    (X : Amb K mg mb h) (ho : K.lookup f = some ⟨oc, od, .func fd, osl⟩) (hcd : codeIn K fd.code fd.qualname = true) (hbody : fd.body = .stmts body) {n : Nat} (R : Rm A (n + 1)) (hA : A.frames = some fr) (hfr : FramesAt fr h)
    (hbind : ∀ s : Shared, s.heap = h → BindsTo s fd ⟨pos, kw⟩ binds)
    (hkind : ((binds.map (·.1)).all fun y => fd.scope.names.lookup y == some .local || (fd.scope.names.lookup y == some .cell && ((cellsFrom 0 fd.scope.names []).map (·.1)).contains y)) = true)
    (hnn : (fd.scope.names.map (·.1)).Nodup) (hbn : (binds.map (·.1)).Nodup) {cs : Addr → List (Str × Addr)} (hcs : ∀ L, cellsFrom (L + 1) fd.scope.names [] = cs L)
    (k : ∀ A' L h', Rm A' n → A'.frames = some (callEnvC fd L f :: fr) → FramesAt (callEnvC fd L f :: fr) h' → Loc h L (cs L) (fun x => binds.reverse.lookup x) [] h' →
      Ev (model prog w) A' (execs body (callEnvC fd L f)) h' (fun fl h'' => Q (match fl with | .ret v => v | _ => .none) h'') (Raised (callEnvC fd L f) fr h cls V))
    (kE : ∀ e vs h', V vs → Flown2 fr h e cls vs h' → E (.ref e) h')
    (hclo : fd.closure = [] := by rfl) (hco : fd.scope.isCoroutine = false := by rfl) (hgen : fd.scope.isGenerator = false := by rfl) (hk : fd.scope.kind = .function := by rfl) :
    Ev (model prog w) A (call (.ref f) pos kw) h Q E := .mk fun s hs => by
  subst hs
  have hsub : ∀ (n : Nat) (y : Str), (cellsFrom n fd.scope.names []).lookup y = none ∨ fd.scope.names.lookup y = some .cell := fun n y => by
    cases q : (cellsFrom n fd.scope.names []).lookup y with
    | none => exact .inl rfl
    | some c => exact .inr (cells_kind fd.scope.names n [] hnn y c (fun _ _ hm => (by cases hm)) q)
  have hkd : ∀ x ∈ binds, fd.scope.names.lookup x.1 = some .local ∨ (fd.scope.names.lookup x.1 = some .cell ∧ ((cellsFrom (s.heap.objs.size + 1) fd.scope.names []).lookup x.1).isSome = true) := fun x hx => by
    have := List.all_eq_true.mp hkind x.1 (List.mem_map.mpr ⟨x, hx, rfl⟩)
    simp only [Bool.or_eq_true, Bool.and_eq_true, beq_iff_eq] at this
    refine this.imp id fun q => ⟨q.1, ?_⟩
    exact cellsFrom_some _ _ _ (.inl q.1)
  refine wpAny_call (codeAny_call_function (by have := R.dp; omega) (X.k _ _ ho) rfl hco hgen hbody (codeRec_of X.k hcd) ((hbind s rfl) _ _ _ _ ?_))
  rw [hclo]
  refine wpAny_newFunctionEnv_cells hk hkd fun env he s' x => ?_
  subst he
  refine ⟨X.lim.keeps x.toInCall.keep, codeAny_func ?_⟩
  obtain ⟨h₁, tk, rfl, hk₁⟩ := x.done
  have hns := x.toInCall.ns
  have F : Loc s.heap s.heap.objs.size (cellsFrom (s.heap.objs.size + 1) fd.scope.names []) (fun x => binds.reverse.lookup x) [] h₁ := by
    have hbl : ∀ (kd : Str → Option NameKind) (bs : List (Str × Value)) (m : Str → Option Value), (bs.map (·.1)).Nodup → ∀ y, (kd y = some .local → bindL kd bs m y = (bs.reverse.lookup y).or (m y)) ∧ (kd y ≠ some .local → bindC kd bs m y = (bs.reverse.lookup y).or (m y)) := by
      intro kd bs
      induction bs with
      | nil => intro m _ y; exact ⟨fun _ => by simp [bindL], fun _ => by simp [bindC]⟩
      | cons b r ih =>
        obtain ⟨bn, bv⟩ := b
        intro m nd y
        simp only [List.map_cons, List.nodup_cons] at nd
        have e : ((bn, bv) :: r).reverse.lookup y = (r.reverse.lookup y).or (if y = bn then some bv else none) := by
          simp only [List.reverse_cons, List.lookup_append, List.lookup_cons, List.lookup_nil]
          by_cases hy : y = bn
          · subst hy; simp
          · have : (y == bn) = false := by simpa using hy
            simp [this, hy]
        constructor
        · intro hl
          unfold bindL
          rw [((ih _ nd.2 y).1 hl), e]
          by_cases hy : y = bn
          · subst hy; simp only [hl, if_true]; cases r.reverse.lookup y <;> simp
          · split <;> simp [hy]
        · intro hl
          unfold bindC
          rw [((ih _ nd.2 y).2 hl), e]
          by_cases hy : y = bn
          · subst hy; simp only [hl, if_false]; cases r.reverse.lookup y <;> simp
          · split <;> simp [hy]
    have kdE : ∀ y, (newEnv fd.scope s.heap.objs.size fd.globals (cellsFrom (s.heap.objs.size + 1) fd.scope.names []) (fd.qualname ++ ".<locals>.") (some f) fd.code none fd.builtins).kindOf y = fd.scope.names.lookup y := fun y => rfl
    refine ⟨hk₁, ⟨_, x.toInCall.ns, fun y hy => ?_⟩, get_size _, fun _ hp => (by cases hp), List.nodup_nil, fun y c hc => ?_, fun y z c h1 h2 => name_of_addr x.apart (mem_of_lookup h1) (mem_of_lookup h2), fun y c hc => ⟨Nat.ne_of_gt (x.above y c (mem_of_lookup hc)), ?_, fun _ hp => (by cases hp)⟩⟩
    · by_cases hl : fd.scope.names.lookup y = some .local
      · have := (hbl _ binds (fun _ => none) hbn y).1 ((kdE y).trans hl)
        simpa using this
      · have none1 : binds.reverse.lookup y = none := by
          cases q : binds.reverse.lookup y with
          | none => rfl
          | some v =>
            exfalso
            have hm := List.mem_reverse.mp (mem_of_lookup q)
            rcases hkd _ hm with h1 | ⟨_, h1⟩
            · exact hl h1
            · have hy' : (cellsFrom (s.heap.objs.size + 1) fd.scope.names []).lookup y = none := hy
              rw [hy'] at h1; cases h1
        have : ∀ (kd : Str → Option NameKind) (bs : List (Str × Value)) (m : Str → Option Value), kd y ≠ some .local → bindL kd bs m y = m y := by
          intro kd bs
          induction bs with
          | nil => intro m _; rfl
          | cons b r ih =>
            obtain ⟨bn, bv⟩ := b
            intro m hne
            unfold bindL
            rw [ih _ hne]
            split
            · rename_i h1
              have : y ≠ bn := fun z => hne (z ▸ h1)
              simp [this]
            · rfl
        show bindL _ binds (fun _ => none) y = _
        rw [this _ binds _ (by rw [kdE y]; exact hl), none1]
    · have hl : fd.scope.names.lookup y = some .cell := (hsub _ y).resolve_left (by rw [hc]; exact Option.some_ne_none c)
      have e := (hbl (newEnv fd.scope s.heap.objs.size fd.globals (cellsFrom (s.heap.objs.size + 1) fd.scope.names []) (fd.qualname ++ ".<locals>.") (some f) fd.code none fd.builtins).kindOf binds (fun _ => none) hbn y).2 (by rw [kdE y, hl]; decide)
      have := x.cell y c hc
      rw [e] at this
      simpa using this
    · cases q : s.heap.get? c with
      | none => rfl
      | some o =>
        have h1 := x.above y c (mem_of_lookup hc)
        exact absurd (Nat.lt_trans (Heap.lt_size q) h1) (Nat.lt_irrefl _)
  rw [hcs] at F
  have hfr0 : FramesAt (callEnvC fd s.heap.objs.size f :: fr) h₁ := by
    intro env he
    rcases List.mem_cons.mp he with rfl | he
    · obtain ⟨o, es, ep, hL, hd, _⟩ := hns
      exact ⟨by show fd.scope.kind ≠ _; rw [hk]; decide, _, o, rfl, hL, fun vs q => by rw [hd] at q; cases q⟩
    · exact hfr.keep hk₁ env he
  have hA' : (A.deeper (callEnvC fd s.heap.objs.size f)).frames = some (callEnvC fd s.heap.objs.size f :: fr) := by show A.frames.map _ = _; rw [hA]; rfl
  refine wpAny_mono ((k _ _ _ R.deeper hA' hfr0 F).run _ rfl) (fun fl s' q => ⟨Same.trans (Same.mk' s _ _) q.1, q.2⟩) fun v s' q => ?_
  refine leave_end (s := s) hA' rfl (get_size _) q.2 fun e vs h' he hV hfl => ?_
  subst he
  exact ⟨(Same.mk' s _ _).trans (q.1.trans (Same.mk' s' _ _)), kE e vs h' hV hfl⟩
end

abbrev nameC : Array Nat := #[14, 10, 4, 1, 1, 22, 0, 31, 16, 127, 0, 13, 7, 22, 0, 31, 16, 127, 0, 1]
def ctl (c : Nat) : Prop := c ≤ 31 ∨ c = 127
theorem inSet5 {c : Nat} (h : ctl c) (seen : Sre.Seen) : ∃ seen', Sre.inSet nameC c 20 5 true seen = .ok (true, seen') := by
  rcases h with h | h
  · refine ⟨seen.add 22, ?_⟩
    show (if (decide (0 ≤ c) && decide (c ≤ 31)) = true then _ else _) = _
    rw [if_pos (by simp [h])]
    rfl
  · subst h
    exact ⟨(seen.add 22).add 16, rfl⟩
theorem inSet13 {c : Nat} (h : ctl c) (seen : Sre.Seen) : ∃ seen', Sre.inSet nameC c 20 13 true seen = .ok (true, seen') := by
  rcases h with h | h
  · refine ⟨seen.add 22, ?_⟩
    show (if (decide (0 ≤ c) && decide (c ≤ 31)) = true then _ else _) = _
    rw [if_pos (by simp [h])]
    rfl
  · subst h
    exact ⟨(seen.add 22).add 16, rfl⟩
theorem noIn5 {c : Nat} (h : ¬ ctl c) (seen : Sre.Seen) : ∃ seen', Sre.inSet nameC c 20 5 true seen = .ok (false, seen') := by
  unfold ctl at h
  have := noIn_name (c := c) (by omega) (by omega) seen
  rw [code_name] at this
  exact this
theorem admitted_some {m : Sre.M} (hc : m.code = nameC) : ∀ (fuel s : Nat) (seen : Sre.Seen), (∃ j, s ≤ j ∧ j < m.lim ∧ ctl (m.text.getD j 0) ∧ j < s + fuel) → ∃ s' seen', m.admitted fuel s seen = .ok (some s', seen') ∧ s' < m.lim ∧ ctl (m.text.getD s' 0)
  | 0, s, seen, ⟨j, h1, h2, h3, h4⟩ => by omega
  | fuel + 1, s, seen, ⟨j, h1, h2, h3, h4⟩ => by
    unfold Sre.M.admitted
    rw [if_neg (by omega), hc, show nameC.size = 20 from rfl]
    by_cases h : ctl (m.text.getD s 0)
    · obtain ⟨seen', e⟩ := inSet5 h seen
      rw [e]
      exact ⟨s, seen', rfl, by omega, h⟩
    · obtain ⟨seen', e⟩ := noIn5 h seen
      rw [e]
      refine admitted_some hc fuel (s + 1) seen' ⟨j, ?_, h2, h3, by omega⟩
      rcases Nat.lt_or_ge s j with q | q
      · exact q
      · have : j = s := by omega
        subst this; exact absurd h3 h
theorem step_in {m : Sre.M} (hc : m.code = nameC) (hpc : m.pc = 11) (ho : m.outcome = none) (ha : m.answer = none) (hp : m.pos < m.lim) (hin : ctl (m.text.getD m.pos 0)) : ∃ seen', m.step = { m with seen := seen', pc := 19, pos := m.pos + 1 } := by
  obtain ⟨seen', e⟩ := inSet13 hin (m.seen.add 13)
  refine ⟨seen', ?_⟩
  unfold Sre.M.step
  rw [ho, ha, hpc, hc]
  show (if 11 < 20 then m.exec else m.stick "code:ran-off") = _
  rw [if_pos (by decide)]
  unfold Sre.M.exec
  have w : m.word 0 = 13 := by unfold Sre.M.word; rw [hc, hpc]; rfl
  rw [w]
  simp only [show Sre.ops[13]? = some Sre.Op.IN from rfl]
  rw [if_neg (by omega), hc, hpc, show Sre.accepts nameC 11 (m.text.getD m.pos 0) (m.seen.add 13) = Sre.inSet nameC (m.text.getD m.pos 0) 20 13 true (m.seen.add 13) from rfl, e, ho, ha]
  rfl
theorem step_ok {m : Sre.M} (hc : m.code = nameC) (hpc : m.pc = 19) (ho : m.outcome = none) (ha : m.answer = none) (hw : m.wholeText = false) (hm : m.mustAdvance = false) : ∃ seen', m.step = { m with seen := seen', handed := m.pos, answer := some true } := by
  refine ⟨m.seen.add 1, ?_⟩
  unfold Sre.M.step
  rw [ho, ha, hpc, hc]
  show (if 19 < 20 then m.exec else m.stick "code:ran-off") = _
  rw [if_pos (by decide)]
  unfold Sre.M.exec
  have w : m.word 0 = 1 := by unfold Sre.M.word; rw [hc, hpc]; rfl
  rw [w]
  simp only [show Sre.ops[1]? = some Sre.Op.SUCCESS from rfl]
  rw [hw, hm, if_neg (by simp), hc, hpc, ho]
  rfl
theorem run_found {m : Sre.M} {s : Nat} {first : Bool} (hc : m.code = nameC) (hpc : m.pc = 11) (ho : m.outcome = none) (ha : m.answer = none) (hf : m.frames = []) (hwt : m.weight = 0) (hw : m.wholeText = false) (hm : m.mustAdvance = false) (hs : s < m.lim) (hin : ctl (m.text.getD s 0)) :
    ((m.attemptAt s first).runFor 4).outcome = some .matched := by
  have e0 : m.attemptAt s first = { m with start := s, pos := s, lastmark := -1, lastindex := -1, frames := [{ wait := .nextStart, pc := m.pc, pos := s, outermost := first }], weight := 1, handed := s, outermost := first } := by
    unfold Sre.M.attemptAt Sre.M.attempt
    show (if m.weight + 1 + 0 > 16777216 then _ else _) = _
    rw [hwt, if_neg (by decide), hf]
    rfl
  rw [e0]
  generalize hm1 : ({ m with start := s, pos := s, lastmark := -1, lastindex := -1, frames := [{ wait := .nextStart, pc := m.pc, pos := s, outermost := first }], weight := 1, handed := s, outermost := first } : Sre.M) = m1
  obtain ⟨s1, e1⟩ := step_in (m := m1) (by rw [← hm1]; exact hc) (by rw [← hm1]; exact hpc) (by rw [← hm1]; exact ho) (by rw [← hm1]; exact ha) (by rw [← hm1]; exact hs) (by rw [← hm1]; exact hin)
  obtain ⟨s2, e2⟩ := step_ok (m := m1.step) (by rw [e1, ← hm1]; exact hc) (by rw [e1]) (by rw [e1, ← hm1]; exact ho) (by rw [e1, ← hm1]; exact ha) (by rw [e1, ← hm1]; exact hw) (by rw [e1, ← hm1]; exact hm)
  have o1 : m1.outcome = none := by rw [← hm1]; exact ho
  have o2 : m1.step.outcome = none := by rw [e1]; exact o1
  have o3 : m1.step.step.outcome = none := by rw [e2]; exact o2
  have f3 : m1.step.step.frames = [{ wait := .nextStart, pc := m.pc, pos := s, outermost := first }] := by rw [e2, e1, ← hm1]
  have a3 : m1.step.step.answer = some true := by rw [e2]
  have o4 : m1.step.step.step.outcome = none ∧ m1.step.step.step.frames = [] ∧ m1.step.step.step.answer = some true := by
    generalize m1.step.step = m3 at *
    have e : m3.step = Sre.M.resume { m3 with answer := none, frames := [], weight := m3.weight - (1 + 0), pc := m.pc, pos := s, outermost := first } { wait := .nextStart, pc := m.pc, pos := s, outermost := first } true := by
      unfold Sre.M.step
      rw [o3, a3, f3]
      rfl
    rw [e]
    exact ⟨o3, rfl, rfl⟩
  have o5 : m1.step.step.step.step.outcome = some .matched := by
    generalize m1.step.step.step = m4 at *
    unfold Sre.M.step
    rw [o4.1, o4.2.1, o4.2.2]
    rfl
  unfold Sre.M.runFor
  rw [o1]
  show (Sre.M.runFor 3 m1.step).outcome = _
  unfold Sre.M.runFor
  rw [o2]
  show (Sre.M.runFor 2 m1.step.step).outcome = _
  unfold Sre.M.runFor
  rw [o3]
  show (Sre.M.runFor 1 m1.step.step.step).outcome = _
  unfold Sre.M.runFor
  rw [o4.1]
  exact o5
section
variable {prog : Program} {w : World} {A : Around} {E : Value → Shared → Prop} {s : Shared}
def foundM (m : Sre.M) : Prop := (m.runFor 4).outcome = some .matched
theorem attemptFrom_found {m : Sre.M} {first : Bool} {j : Nat} (hc : m.code = nameC) (hpc : m.pc = 11) (ho : m.outcome = none) (ha : m.answer = none) (hf : m.frames = []) (hwt : m.weight = 0) (hw : m.wholeText = false) (hj : j < m.lim) (hin : ctl (m.text.getD j 0)) : foundM (m.attemptFrom 0 first) := by
  obtain ⟨s', seen', e, h1, h2⟩ := admitted_some (m := m) hc (m.lim + 1 - 0) 0 m.seen ⟨j, Nat.zero_le _, hj, hin, by omega⟩
  unfold Sre.M.attemptFrom
  rw [first_name _ (hc.trans code_name.symm), e]
  exact run_found (m := { m with mustAdvance := false, seen := seen' }) hc hpc ho ha hf hwt hw rfl h1 h2
theorem forSearch_found {text : Array Nat} {j : Nat} (hj : j < text.size) (hin : ctl (text.getD j 0)) : foundM (Sre.forSearch nameC text 0 0 text.size false) := by
  unfold Sre.forSearch
  dsimp only
  rw [if_neg (by
    have h1 : ¬ (0 > text.size) := by omega
    have h2 : ¬ (text.size - 0 < (Sre.header nameC).1) := by
      have : (Sre.header nameC).1 = 1 := rfl
      omega
    simp only [h1, h2, decide_false, Bool.or_false]; decide)]
  exact attemptFrom_found rfl rfl rfl rfl rfl rfl rfl hj hin
theorem runToEnd_found {M : Model} {m : Sre.M} {Q : Option Sre.M → Shared → Prop} (h : foundM m) (q : ∀ m', Q (some m') s) : wpAny M A (Builtin.Re.reRunToEnd m) Q E s := by
  unfold Builtin.Re.reRunToEnd
  rw [show (2 ^ 64 : Nat) = 18446744073709551615 + 1 from by decide]
  refine wpAny_bind ?_
  unfold Builtin.Re.reDrive
  dsimp only
  rw [show Builtin.Re.reTurnSteps = 4 from rfl, h]
  refine wpAny_pure (wpAny_bind (rules_none (fun i Q' q' => ?_) ?_ _))
  · split
    · exact wpAny_bind (wpAny_rule (wpAny_pure q'))
    · exact wpAny_bind (wpAny_pure (wpAny_pure q'))
  · rw [h]
    exact wpAny_pure (q _)
theorem search_some {a b : Addr} {oa ob : Obj} {fs : Array Value} {n : Nat} {x : Str} {t : Tok} {Q : Value → Shared → Prop} (ha : s.heap.get? a = some oa) (hc : oa.cls = .type "re.Pattern") (hd : oa.data = .fields fs) (h6 : fs.getD 6 .none = .int 0 0) (h2 : fs.getD 2 .none = .int 0 0) (h5 : fs.getD 5 .none = .ref b)
    (hb : s.heap.get? b = some ob) (hbd : ob.data = .seq nameRe n) (hx : x.length ≤ 1000) {j : Nat} (hj : j < x.cps.size) (hin : ctl (x.cps.getD j 0)) (q : ∀ r h', Sub s.heap h' → (∃ o, h'.get? r = some o ∧ o.cls = .type "re.Match") → Q (.ref r) { s with heap := h' }) :
    wpAny (model prog w) A (call (.builtin "re.Pattern.search") [.ref a, .str x t]) Q E s := by
  refine wpAny_call_entry slot_search ⟨oa, ha, hc⟩ entry_search ?_ (args_search _ _)
  unfold Builtin.«re.Pattern.search»
  refine wpAny_bind (target_str ha hd h6 h2 h5 hb hbd hx ?_)
  dsimp only
  unfold Builtin.Re.reAnswer
  rw [code_name]
  refine wpAny_bind (runToEnd_found (forSearch_found hj hin) fun m' => ?_)
  dsimp only
  refine wpAny_bind ?_
  unfold Builtin.Re.reNewMatch
  refine wpAny_bind (wpAny_newTuple (hsz := by show 2 ≤ sizeLine; rw [sizeLine_eq]; omega) ?_)
  unfold newFields
  refine wpAny_newObj_type (wpAny_pure ⟨_, rfl, q _ _ (fun b o e => Heap.get?_push_of_some _ (Heap.get?_push_of_some _ e)) ⟨_, Heap.get?_push_size _ rfl, rfl⟩⟩)
theorem noBool_match : typeLookup (.type "re.Match") "__bool__" = pure none := by rw [typeLookup_type, builtinLookup_eq_fast]; kernel_rfl
theorem noLen_match : typeLookup (.type "re.Match") "__len__" = pure none := by rw [typeLookup_type, builtinLookup_eq_fast]; kernel_rfl
theorem truthy_match {M : Model} {r : Addr} {o : Obj} {Q : Bool → Shared → Prop} (hr : s.heap.get? r = some o) (hc : o.cls = .type "re.Match") (q : Q true s) : wpAny M A (truthy (.ref r)) Q E s := by
  have hT : s.TypeIs (.ref r) "re.Match" := ⟨o, hr, hc⟩
  unfold truthy
  refine wpAny_bind (wpAny_callSpecial?_none (name := Str.ofString "__bool__") hT noBool_match ?_)
  refine wpAny_bind (wpAny_specialOf (name := Str.ofString "__len__") hT noLen_match ?_)
  exact wpAny_pure q
end

abbrev bAB : Array UInt8 := #[97, 98]
theorem slot_bytes_lower : Slot "bytes" "lower" "bytes.lower" :=
  .of (owner := "bytes") (n := "lower") (by rw [typeLookup_type, builtinLookup_eq_fast]; kernel_rfl) (by decide +kernel) (by decide +kernel) (by decide +kernel)
    (by first | exact .inl (by decide +kernel) | exact .inr (by decide +kernel)) (by rw [isSubtype_type]; kernel_rfl)
theorem type_bytes_lower : typeOf (.builtin "bytes.lower") = pure (.type "method_descriptor") := by show builtinType _ = _; rw [builtinType_eq_fast]; kernel_rfl
theorem entry_bytes_lower : entryFor table "bytes.lower" = some Builtin.«bytes.lower» := entryFor_of_tree (by kernel_rfl)
theorem args_bytes_lower (a : Value) : argsOk "bytes.lower" ⟨[a], []⟩ := by unfold argsOk; kernel_rfl
theorem slot_bytes_repr : Slot "bytes" "__repr__" "bytes.__repr__" :=
  .of (owner := "bytes") (n := "__repr__") (by rw [typeLookup_type, builtinLookup_eq_fast]; kernel_rfl) (by decide +kernel) (by decide +kernel) (by decide +kernel)
    (by first | exact .inl (by decide +kernel) | exact .inr (by decide +kernel)) (by rw [isSubtype_type]; kernel_rfl)
theorem entry_bytes_repr : entryFor table "bytes.__repr__" = some Builtin.«bytes.__repr__» := entryFor_of_tree (by kernel_rfl)
theorem args_bytes_repr (a : Value) : argsOk "bytes.__repr__" ⟨[a], []⟩ := by unfold argsOk; kernel_rfl
theorem attrs_bytes : PlainAttrs "bytes" := ⟨⟨"bytes.__getattribute__", by rw [typeLookup_type, builtinLookup_eq_fast]; kernel_rfl, by decide +kernel⟩, by rw [typeLookup_type, builtinLookup_eq_fast]; kernel_rfl⟩
theorem gives_lower (t : Tok) : Gives (Builtin.«bytes.lower» ⟨[.bytes bAB t], []⟩) (.bytes bAB) := .of_eq (by with_unfolding_all rfl)
theorem gives_brepr (t : Tok) : Gives (Builtin.«bytes.__repr__» ⟨[.bytes bAB t], []⟩) (.str ⟨#[98, 39, 97, 98, 39]⟩) := .of_eq (by with_unfolding_all rfl)
theorem typeIs_bytes (s : Shared) (b : Array UInt8) (t : Tok) : s.TypeIs (.bytes b t) "bytes" := rfl
section
variable {prog : Program} {w : World} {A : Around} {g h : Heap} {E : Value → Heap → Prop} {env : Env} {Q : Value → Heap → Prop} {t u : Tok} {x : Str}
theorem Const_bytes {M : Model} {b : List UInt8} {n : Nat} {pos : Pos} (k : ∀ tk, Q (.bytes b.toArray tk) h) : Ev M A (eval (.Constant (.bytes b) n pos) env) h Q E := .mk fun s hs => fun _ _ _ => ⟨rfl, hs ▸ k _⟩
theorem eMeth_blower {M : Model} {b : Array UInt8} {pl : Sem Bool} {Q : Value × List Value → Heap → Prop} (k : Q (.builtin "bytes.lower", [.bytes b t]) h) : Ev M A (getMethod (.bytes b t) "lower" pl) h Q E :=
  .mk fun s hs => getMethod_builtin (typeIs_bytes s b t) attrs_bytes slot_bytes_lower type_bytes_lower (fun _ e => by cases e) (fin0 (Q := Q) hs k)
theorem eBlower (k : ∀ t', Q (.bytes bAB t') h) : Ev (model prog w) A (call (.builtin "bytes.lower") [.bytes bAB t]) h Q E :=
  .mk fun s hs => call_gives slot_bytes_lower (typeIs_bytes s _ t) entry_bytes_lower (args_bytes_lower _) (gives_lower t) ⟨by rw [sizeLine_eq]; decide, fint (Q := Q) hs (k _) _⟩
theorem eBrepr (k : ∀ t', Q (.str ⟨#[98, 39, 97, 98, 39]⟩ t') h) : Ev (model prog w) A (call (.builtin "repr") [.bytes bAB t]) h Q E :=
  .mk fun s hs => call_repr_gives (typeIs_bytes s _ t) slot_bytes_repr entry_bytes_repr (args_bytes_repr _) (gives_brepr t) (fint (Q := Q) hs (k _) _) (hx := by rw [sizeLine_eq]; decide)
theorem eType_bytes {b : Array UInt8} (k : Q (.type "bytes") h) : Ev (model prog w) A (call (.type "type") [.bytes b t]) h Q E := .mk fun s hs => call_type_of (typeIs_bytes s b t) (by decide +kernel) (fin0 (Q := Q) hs k)
theorem eIs_bs {M : Model} (k : Q (.bool false) h) : Ev M A (compareOp .Is (.type "bytes") (.type "str")) h Q E := eIs_type (by rw [show (Value.type "bytes" == Value.type "str") = false from by decide]; exact k)
theorem eIsinst_bb {b : Array UInt8} (k : Q (.bool true) h) : Ev (model prog w) A (call (.builtin "isinstance") [.bytes b t, .type "bytes"]) h Q E :=
  .mk fun s hs => call_isinstance (isinstance_true (Tx := "bytes") (T := "bytes") (by show typeOf _ = _; kernel_rfl) (by rw [isSubtype_type]; kernel_rfl)) ⟨typeIs_bytes s b t, fin0 (Q := Q) hs k⟩
theorem eIsinst_sb (k : Q (.bool false) h) : Ev (model prog w) A (call (.builtin "isinstance") [.str x t, .type "bytes"]) h Q E :=
  .mk fun s hs => call_isinstance (isinstance_false_str (T := "bytes") (by decide) (by show typeOf _ = _; kernel_rfl) (by rw [isSubtype_type]; kernel_rfl)) (fint (Q := Q) hs k _)
end

abbrev fmtS : Str := ⟨#[72, 101, 97, 100, 101, 114, 32, 110, 97, 109, 101, 115, 47, 118, 97, 108, 117, 101, 115, 32, 109, 117, 115, 116, 32, 98, 101, 32, 111, 102, 32, 116, 121, 112, 101, 32, 115, 116, 114, 32, 40, 103, 111, 116, 32, 123, 48, 125, 41]⟩
abbrev preS : Str := Str.ofString "Header names/values must be of type str (got "
theorem fmtS_eq : Str.ofString "Header names/values must be of type str (got {0})" = fmtS := by decide +kernel
theorem field_zero {prog : Program} {w : World} {A : Around} {E : Value → Shared → Prop} {s : Shared} {id : String} {a : Array Value} {byName : PySem.Str → Sem Value} {v : Value} {Q : Value × Builtin.Str.Numbering → Shared → Prop} (ha : a[0]? = some v)
    (h : Q (v, .manual) s) : wpAny (model prog w) A (Builtin.Str.fieldObject id (some a) byName [48] .unset) Q E s := by
  unfold Builtin.Str.fieldObject
  first
    | refine wpAny_bind (wpAny_pure ?_)
    | refine wpAny_bind (wpAny_of_eq (a := some 0) rfl ?_)
  first
    | refine wpAny_bind (wpAny_pure ?_)
    | refine wpAny_bind (wpAny_of_eq (a := (some 0, .manual)) rfl ?_)
  simp only [ha, pure_bind]
  rw [KPc.range_list]
  exact wpAny_bind (wpAny_pure (wpAny_pure h))
set_option maxHeartbeats 4000000 in
theorem meets_fmt {t u : Tok} : Meets (Builtin.«str.format» ⟨[.str fmtS t, .str ⟨#[98, 39, 97, 98, 39]⟩ u], []⟩) (fun _ R s => ∀ t' k, R (.ok (.ret (.str (Str.ofString "Header names/values must be of type str (got b'ab')") t'))) { s with toks := k }) := by
  apply KPc.meets_of
  intro _ _ _ _ _ _ _
  unfold Builtin.«str.format»
  refine wpAny_bind (wpAny_of_eq (a := (_, _, _)) rfl ?_)
  refine wpAny_bind ?_
  unfold Builtin.Str.buildString
  refine wpAny_bind ?_
  rw [KPc.range_list]
  refine KFm.start ?_
  intro _ _
  refine KPc.turn ?_
  kpc_if
  kpc_check
  refine wpAny_bind (field_zero rfl ?_)
  refine wpAny_bind (wpAny_holding (wpAny_of_eq (a := _) rfl ?_))
  kpc_if
  refine wpAny_bind (wpAny_pure ?_)
  kfm_val
  refine wpAny_bind (wpAny_of_eq (a := some _) rfl ?_)
  refine wpAny_pure ?_
  refine KFm.after_field (by kpc_g) (by kpc_text) (by kpc_obj) (K := 5) (by decide) (by kpc_obj) rfl (by kfm_rest) ?_
  intro _ _
  kfm_turns

theorem Loc.less {g g' h : Heap} {L : Addr} {cs : List (Str × Addr)} {m : Str → Option Value} {led : List (Addr × Obj)} (F : Loc g L cs m led h) (s : Sub g' g) : Loc g' L cs m led h :=
  ⟨s.tr F.sub, F.ns, none_sub s F.gL, fun p hp => ⟨(F.led p hp).1, (F.led p hp).2.1, none_sub s (F.led p hp).2.2⟩, F.nd, F.cell, F.capart, fun x c q => ⟨(F.cnew x c q).1, none_sub s (F.cnew x c q).2.1, (F.cnew x c q).2.2⟩⟩
section
variable {prog : Program} {w : World} {A : Around} {g h : Heap} {E : Value → Heap → Prop} {K : Frag} {mg mb : Str → Option Value} {Q : Value → Heap → Prop} {env : Env} {t u : Tok} {x : Str}
theorem eMeth_format {M : Model} {pl : Sem Bool} {Q : Value × List Value → Heap → Prop} (k : Q (.builtin "str.format", [.str x t]) h) : Ev M A (getMethod (.str x t) "format" pl) h Q E := .mk fun s hs => KFm.method (fin0 (Q := Q) hs k)
theorem eFormat (k : ∀ t', Q (.str (Str.ofString "Header names/values must be of type str (got b'ab')") t') h) : Ev (model prog w) A (call (.builtin "str.format") [.str (Str.ofString "Header names/values must be of type str (got {0})") t, .str ⟨#[98, 39, 97, 98, 39]⟩ u]) h Q E :=
  .mk fun s hs => KFm.call_k fmtS_eq (KFm.args_2 _ _) meets_fmt fun t' _ => fint (Q := Q) hs (k t') _
theorem eSubI {x C dx f : Addr} {od : Obj} {v : Value} {value slice : Expr} (X : K.In h) (hx : h.get? x = some (instObj C dx)) (hdx : h.get? dx = some od) (hs : findIn K (.ref C) "__getitem__" = some (some (.ref f))) (hfn : fnIn K f = true) (hf : isFn K (.ref f) = true)
    (k : Ev (model prog w) A.in1 (call (.ref f) [.ref x, v]) h Q E)
    (hsl : subscripted slice true (.ref x) v = runValue (.builtin "lifetime.subscript" ⟨[.ref x, v], []⟩) := by with_unfolding_all rfl) : Ev (model prog w) A (subscriptTail value slice (.ref x) v) h Q E := .mk fun s hs' => by
  subst hs'
  have I : InstAt s.heap x (instObj C dx) C (some od) := ⟨hx, rfl, rfl, hdx⟩
  unfold fnIn at hfn
  split at hfn
  · rename_i e
    unfold subscriptTail getitemInPython
    refine wpAny_bind (wpAny_bind (wpAny_bind (I.type.here ((looks_findIn X hs).here ?_))))
    dsimp only
    refine wpAny_bind (wpAny_load (X _ _ e) (wpAny_pure ?_))
    dsimp only
    rw [hsl]
    refine wpAny_bind (wpAny_runValue (codeAny_builtin entry_sub ?_))
    unfold Builtin.«lifetime.subscript»
    refine wpAny_bind (special_fn X I hs (beq_iff_eq.mp hf) (wpAny_mono (k.run s rfl) (fun v' s' z => ?_) fun _ _ z => z))
    refine wpAny_pure ?_
    show wpAny (model prog w) A (letTemporaryGo value (.ref x) v' >>= fun _ => pure v') _ _ s'
    exact wpAny_bind (wpAny_letTemporaryGo (wpAny_pure z))
  · cases hfn
theorem Raise_msg {cls newId initId : String} (F : ExcCallFacts cls newId initId) (G : ExcRaiseFacts cls) {x : Str} {np cpos pos : Pos} {e : Expr} {rest : List Expr} {Q : Flow → Heap → Prop} (hh : A.handled = none)
    (k : Ev (model prog w) A (eval (.Name x np) env) h (fun f h₁ => f = .type cls ∧ Ev (model prog w) A (spliced (backTo cpos (starEach (e :: rest) env))) h₁ (fun vs h₂ => vs.length ≤ sizeLine ∧ ∀ h' e, Heap.MadeExcOf h₂ h' e (.type cls) vs → E (.ref e) h') E) E)
    (he : starEach (e :: rest) env = (false, eval e env) :: starEach rest env := by rfl) (hplain : (backTo cpos (starEach (e :: rest) env)).any (·.1) = false := by rfl) :
    Ev (model prog w) A (exec (.Raise (some (.Call (.Name x np) (e :: rest) [] cpos)) none pos) env) h Q E := .mk fun s hs => by
  refine wpAny_Raise_call F G hh hplain (k.use hs (.refl s) fun f s₁ m₁ k₁ => ⟨k₁.1, ?_⟩)
  have k₂ := k₁.2
  obtain ⟨y, hb⟩ : ∃ y, backTo cpos (starEach (e :: rest) env) = (false, y) :: backTo cpos (starEach rest env) := ⟨_, by rw [he]; rfl⟩
  rw [hb] at k₂ ⊢
  refine evalArgs_plain (k₂.use rfl m₁ fun vs s₂ m₂ q => ⟨rfl, q.1, fun h' e made => ⟨m₂.trans (Same.mk' s₂ _ _), q.2 h' e made.of⟩⟩)
theorem eStr_exc {X n : String} (FX : ExcStrFacts X n) {e t0 : Addr} {m : Str} (hu : A.units + 2 < cLine) (hx : h.ExcAt e X (.ref t0)) (ht : h.TupAt t0 [.str m u]) (k : Q (.str m u) h) : Ev (model prog w) A (call (.type "str") [.ref e]) h Q E :=
  .mk fun s hs => P.str_of_exc_one FX hu (hs ▸ hx) (hs ▸ ht) (fin0 (Q := Q) hs k)
end

def UpBut (L : Addr) (h h' : Heap) : Prop := ∀ b o, b ≠ L → h.get? b = some o → (∀ vs, o.data ≠ .fields vs) → ∃ sl, h'.get? b = some { o with slots := sl }
theorem UpBut.of {L : Addr} {h h' : Heap} (x : h.UpToSlots h') : UpBut L h h' := fun b o _ e d => x b o e d
theorem UpBut.ext {L : Addr} {h h' h'' : Heap} (x : UpBut L h h') (e : Heap.ExtBut L h' h'') : UpBut L h h'' := fun b o hb q d => let ⟨sl, r⟩ := x b o hb q d; ⟨sl, e _ _ hb r⟩
section
variable {prog : Program} {w : World} {A : Around} {g h : Heap} {E : Value → Heap → Prop} {K : Frag} {mg mb : Str → Option Value} {env : Env}
/-- the rest of a try behind its body: `except T as n` that takes the exception -/
theorem as_go {L : Addr} {cs : List (Str × Addr)} {m : Str → Option Value} {led : List (Addr × Obj)} {fr : List Env} {X T : String} {n x : Str} {np pos : Pos} {b₀ : Stmt} {suite : List Stmt} {rest : List ExceptHandler} {e t : Addr} {vs : List Value} {s₀ s : Shared} {Q : Flow → Heap → Prop} {E : Value → Shared → Prop}
    (F : Loc g L cs m led h) (hf : env.frame = some L) (hL : env.locals = L) (hk : env.scope.kind = .function) (hn : env.kindOf n = some .local) (hcn : cs.lookup n = none)
    (hg : ∀ a ∈ FrL (env :: fr), g.get? a = none) (hl : ∀ p ∈ led, p.1 ∉ FrL (env :: fr)) (hc : ∀ x c, cs.lookup x = some c → c ∉ FrL (env :: fr))
    (hexc : isSubtype (.type T) (.type "BaseException") = pure true) (hnt : isSubtype (.type ((Manifest.find? T).elim "type" fun y => y.metatype)) (.type "tuple") = pure false) (hsub : isSubtype (.type X) (.type T) = pure true)
    (hx : ∀ h₅, Loc g L cs m led h₅ → ∀ Q' : Value → Heap → Prop, Q' (.type T) h₅ → ∀ e, Ev (model prog w) (A.mark (some (.ref e))) (eval (.Name x np) env) h₅ Q' (fun _ _ => False))
    (fl : Heap.FlyingW (hideAll h (FrL (env :: fr))) (env :: fr) e (.type X) (.ref t) s.heap) (tup : s.heap.TupAt t vs) (up : h.UpToSlots s.heap) (sm : Same s₀ s)
    (k : ∀ h₇, Loc g L cs (fun y => if y = n then some (.ref e) else m y) led h₇ → h₇.ExcAt e X (.ref t) → h₇.TupAt t vs → UpBut L h h₇ →
      Ev (model prog w) (A.mark (some (.ref e))) (execs (b₀ :: suite) env) h₇ (fun f h₈ => (∃ mc, h₈.Ns L mc) ∧ ∀ h₉, Heap.ExtBut L h₈ h₉ → Q f h₉) (fun _ _ => False)) :
    wpAny (model prog w) A (handleBy (.ref e) env (.ExceptHandler (some (.Name x np)) (some n) (b₀ :: suite) pos :: rest)) (fun f s' => Same s₀ s' ∧ Q f s'.heap) E s := by
  have F5 := F.slots fl.1 up hg hl hc
  obtain ⟨ob, hob, hobc⟩ := fl.there
  refine wpAny_handleBy_builtin_as (X := X) (T := T) (b := true) hexc hnt hsub (wpAny_mono ((hx s.heap F5 (fun c h' => c = .type T ∧ h' = s.heap) ⟨rfl, rfl⟩ e).run s rfl) (fun c s₂ q => ?_) fun _ _ q => q.2.elim)
  obtain ⟨sm2, rfl, e2⟩ := q
  rw [← e2] at hob fl tup up
  refine ⟨rfl, ⟨ob, hob, hobc⟩, ?_⟩
  rw [if_pos rfl]
  refine lands_againW fl fun h₆ hfl₆ hsm₆ => ?_
  have up6 := up.trans hsm₆
  have tup6 := tup.of_slots hsm₆
  have F6 := F.slots hfl₆.1 up6 hg hl hc
  obtain ⟨m₀, hns, hr⟩ := F6.ns
  obtain ⟨oe, ws, hoe, hoec, hoed, hoe0⟩ := hfl₆.first
  obtain ⟨ot, nt, hot, hotc, hotd⟩ := tup6
  have hLd := hns
  subst hL
  refine wpAny_storeName_local hn hns (fun h₇ hn₇ hb₇ => ?_) (by rw [hk]; rfl)
  have F7 := F6.set hcn hr hn₇ hb₇
  have neL : ∀ b o, h₆.get? b = some o → (∀ es ep, o.data ≠ .dict es ep) → b ≠ env.locals := fun b o hb hd q => by
    obtain ⟨oL, es, ep, hLL, hLd, _⟩ := hns
    rw [q] at hb
    rw [hb] at hLL; cases hLL
    exact hd _ _ hLd
  have ex7 : h₇.ExcAt e X (.ref t) := ⟨oe, ws, hb₇.extBut _ _ (neL e oe hoe fun es ep q => by rw [hoed] at q; cases q) hoe, hoec, hoed, hoe0⟩
  have tp7 : h₇.TupAt t vs := ⟨ot, nt, hb₇.extBut _ _ (neL t ot hot fun es ep q => by rw [hotd] at q; cases q) hot, hotc, hotd⟩
  refine wpAny_mono ((k h₇ F7 ex7 tp7 ((UpBut.of up6).ext hb₇.extBut)).run _ rfl) (fun f s₃ q => ?_) fun _ _ q => q.2.elim
  obtain ⟨sm3, ⟨mc, hmc⟩, q⟩ := q
  refine wpAny_nameGoes hn hmc (by rw [hk]; rfl) fun h₉ m₉ _ hs₉ => ⟨?_, q h₉ hs₉.extBut⟩
  exact ((sm.trans sm2).trans ((Same.mk' s₂ _ _).trans sm3)).trans (Same.mk' s₃ _ _)
/-- `except T as n` that does not -/
theorem as_skip {L : Addr} {cs : List (Str × Addr)} {m : Str → Option Value} {led : List (Addr × Obj)} {fr : List Env} {X T : String} {n x : Str} {np pos : Pos} {b₀ : Stmt} {suite : List Stmt} {rest : List ExceptHandler} {e t : Addr} {s : Shared} {Q : Flow → Shared → Prop} {E : Value → Shared → Prop}
    (F : Loc g L cs m led h) (hg : ∀ a ∈ FrL (env :: fr), g.get? a = none) (hl : ∀ p ∈ led, p.1 ∉ FrL (env :: fr)) (hc : ∀ x c, cs.lookup x = some c → c ∉ FrL (env :: fr))
    (hexc : isSubtype (.type T) (.type "BaseException") = pure true) (hnt : isSubtype (.type ((Manifest.find? T).elim "type" fun y => y.metatype)) (.type "tuple") = pure false) (hsub : isSubtype (.type X) (.type T) = pure false)
    (hx : ∀ h₅, Loc g L cs m led h₅ → ∀ Q' : Value → Heap → Prop, Q' (.type T) h₅ → ∀ e, Ev (model prog w) (A.mark (some (.ref e))) (eval (.Name x np) env) h₅ Q' (fun _ _ => False))
    (fl : Heap.FlyingW (hideAll h (FrL (env :: fr))) (env :: fr) e (.type X) (.ref t) s.heap) (up : h.UpToSlots s.heap)
    (k : ∀ s', s'.heap = s.heap → Same s s' → wpAny (model prog w) A (handleBy (.ref e) env rest) Q E s') :
    wpAny (model prog w) A (handleBy (.ref e) env (.ExceptHandler (some (.Name x np)) (some n) (b₀ :: suite) pos :: rest)) Q E s := by
  have F5 := F.slots fl.1 up hg hl hc
  obtain ⟨ob, hob, hobc⟩ := fl.there
  refine wpAny_handleBy_builtin_as (X := X) (T := T) (b := false) hexc hnt hsub (wpAny_mono ((hx s.heap F5 (fun c h' => c = .type T ∧ h' = s.heap) ⟨rfl, rfl⟩ e).run s rfl) (fun c s₂ q => ?_) fun _ _ q => q.2.elim)
  obtain ⟨sm2, rfl, e2⟩ := q
  rw [← e2] at hob
  refine ⟨rfl, ⟨ob, hob, hobc⟩, ?_⟩
  rw [if_neg (by decide)]
  exact k s₂ e2 sm2
theorem Try_two {L : Addr} {cs : List (Str × Addr)} {m : Str → Option Value} {led : List (Addr × Obj)} {fr : List Env} {n x₁ x₂ : Str} {np₁ np₂ p₁ p₂ pos : Pos} {body : List Stmt} {b₁ b₂ : Stmt} {suite₁ suite₂ : List Stmt} {C : String → List Value → Prop} {Q : Flow → Heap → Prop}
    (F : Loc g L cs m led h) (hA : A.frames = some (env :: fr)) (hf : env.frame = some L) (hL : env.locals = L) (hk : env.scope.kind = .function) (hn : env.kindOf n = some .local) (hcn : cs.lookup n = none)
    (hg : ∀ a ∈ FrL (env :: fr), g.get? a = none) (hl : ∀ p ∈ led, p.1 ∉ FrL (env :: fr)) (hc : ∀ x c, cs.lookup x = some c → c ∉ FrL (env :: fr))
    (hx₁ : ∀ h₅, Loc g L cs m led h₅ → ∀ Q' : Value → Heap → Prop, Q' (.type "ValueError") h₅ → ∀ e, Ev (model prog w) (A.mark (some (.ref e))) (eval (.Name x₁ np₁) env) h₅ Q' (fun _ _ => False))
    (hx₂ : ∀ h₅, Loc g L cs m led h₅ → ∀ Q' : Value → Heap → Prop, Q' (.type "AssertionError") h₅ → ∀ e, Ev (model prog w) (A.mark (some (.ref e))) (eval (.Name x₂ np₂) env) h₅ Q' (fun _ _ => False))
    (hC : ∀ T vs, C T vs → T = "ValueError" ∨ T = "AssertionError")
    (hbody : Ev (model prog w) A (execs body env) h (fun fl h₁ => Q fl h₁) (fun v h' => ∃ e T vs, v = .ref e ∧ C T vs ∧ Flown2 (env :: fr) h e (.type T) vs h'))
    (k₁ : ∀ vs e t h₇, C "ValueError" vs → Loc g L cs (fun y => if y = n then some (.ref e) else m y) led h₇ → h₇.ExcAt e "ValueError" (.ref t) → h₇.TupAt t vs → UpBut L h h₇ →
      Ev (model prog w) (A.mark (some (.ref e))) (execs (b₁ :: suite₁) env) h₇ (fun f h₈ => (∃ mc, h₈.Ns L mc) ∧ ∀ h₉, Heap.ExtBut L h₈ h₉ → Q f h₉) (fun _ _ => False))
    (k₂ : ∀ vs e t h₇, C "AssertionError" vs → Loc g L cs (fun y => if y = n then some (.ref e) else m y) led h₇ → h₇.ExcAt e "AssertionError" (.ref t) → h₇.TupAt t vs → UpBut L h h₇ →
      Ev (model prog w) (A.mark (some (.ref e))) (execs (b₂ :: suite₂) env) h₇ (fun f h₈ => (∃ mc, h₈.Ns L mc) ∧ ∀ h₉, Heap.ExtBut L h₈ h₉ → Q f h₉) (fun _ _ => False)) :
    Ev (model prog w) A (exec (.Try body [.ExceptHandler (some (.Name x₁ np₁)) (some n) (b₁ :: suite₁) p₁, .ExceptHandler (some (.Name x₂ np₂)) (some n) (b₂ :: suite₂) p₂] [] [] pos) env) h Q E := .mk fun s hs => by
  refine wpAny_Try_except (wpAny_mono (hbody.run s hs) (fun fl s₁ q => ?_) fun v s₁ q => ?_)
  · cases fl with
    | next => exact wpAny_execs_nil q
    | cont => exact q
    | brk => exact q
    | ret v => exact q
  · obtain ⟨sm, e, T, vs, rfl, hT, ⟨t, fl, tup⟩, up⟩ := q
    refine wpAny_looks_onW hA hf fl fun h₄ hheld₄ hsm₄ => ?_
    refine wpAny_landsW hheld₄ fun h₅ fl5 hsm₅ => ?_
    have up5 := up.trans (hsm₄.trans hsm₅)
    have tup5 := (tup.of_slots hsm₄).of_slots hsm₅
    rcases hC T vs hT with rfl | rfl
    · exact as_go F hf hL hk hn hcn hg hl hc PySem.F.isExc_ValueError PySem.F.notTuple_ValueError (by rw [isSubtype_type]; kernel_rfl) hx₁ fl5 tup5 up5 (sm.trans (Same.mk' s₁ _ _)) fun h₇ F7 a b c => k₁ vs e t h₇ hT F7 a b c
    · refine as_skip F hg hl hc PySem.F.isExc_ValueError PySem.F.notTuple_ValueError (by rw [isSubtype_type]; kernel_rfl) hx₁ fl5 up5 fun s' e' sm' => ?_
      have e' : s'.heap = h₅ := e'
      rw [← e'] at fl5 tup5 up5
      exact as_go F hf hL hk hn hcn hg hl hc PySem.F.isExc_AssertionError PySem.F.notTuple_AssertionError (by rw [isSubtype_type]; kernel_rfl) hx₂ fl5 tup5 up5 ((sm.trans (Same.mk' s₁ _ _)).trans sm') fun h₇ F7 a b c => k₂ vs e t h₇ hT F7 a b c
end

set_option maxHeartbeats 8000000
open_top hd for PySem.Challenge.rw_dn0261_06

def swapc (c : Nat) : Nat := if 97 ≤ c ∧ c ≤ 122 then c - 32 else if 65 ≤ c ∧ c ≤ 90 then c + 32 else c
def turned (x : Str) : Str := ⟨x.cps.map swapc⟩
def pre (f : Nat → Nat) (x : Str) (i : Nat) : Str := ⟨((x.cps.toList.take i).map f).toArray⟩
theorem pre_zero (f : Nat → Nat) (x : Str) : pre f x 0 = Str.empty := rfl
theorem pre_succ (f : Nat → Nat) (x : Str) (i c : Nat) (hc : x.cps[i]? = some c) : pre f x (i + 1) = pre f x i ++ ⟨#[f c]⟩ := by
  have : x.cps.toList[i]? = some c := by simpa using hc
  show (⟨_⟩ : Str) = ⟨_ ++ _⟩
  simp [pre, List.take_add_one, this]
theorem pre_all (f : Nat → Nat) (x : Str) : pre f x x.cps.size = ⟨x.cps.map f⟩ := by
  have : x.cps.toList.take x.cps.size = x.cps.toList := by rw [List.take_of_length_le]; simp
  unfold pre; rw [this]; apply congrArg; apply Array.ext'; simp
theorem pre_len (f : Nat → Nat) (x : Str) (i : Nat) : (pre f x i).length ≤ x.length := by
  show (pre f x i).cps.size ≤ x.cps.size
  simp [pre]; omega

noncomputable abbrev K7 (w : World) : Frag := hd.heap_39 w.params
noncomputable abbrev p7 : Program := PySem.Challenge.rw_dn0261_06.row.prog

theorem n_chr (w : World) : nsIn (K7 w) mainGlobals (Str.ofString "chr") = some none := by rfl
theorem n_ord (w : World) : nsIn (K7 w) mainGlobals (Str.ofString "ord") = some none := by rfl
local macro_rules | `(tactic| walk_at "nsG") => `(tactic| with_reducible first | fail "no global")
local macro_rules | `(tactic| walk_at "nsB") => `(tactic| with_reducible first | exact n_chr _ | exact n_ord _)

set_option maxHeartbeats 4000000 in
theorem turned_call {w : World} {A : Around} {h : Heap} {E : Value → Heap → Prop} {mg mb : Str → Option Value} {Q : Value → Heap → Prop} {x : Str} {t : Tok}
    (R : Rm A 1) (X : Amb (K7 w) mg mb h) (hx : x.length ≤ 1000) (k : ∀ t' h', Sub h h' → Q (.str (turned x) t') h') : Ev (model p7 w) A (call (.ref 187) [.str x t]) h Q E := by
  refine call_fn (binds := [(Str.ofString "text", .str x t)]) X (by rfl) (by rfl) rfl R (fun s hs => BindsTo.of_eq (by rfl)) (by rfl) (by rfl) (fun A L h₁ R F => ?_)
  walk_at "w"
  refine loop_str (fun i g' m led => g' = h ∧ led = [] ∧ m (Str.ofString "text") = some (.str x t) ∧ ∃ v, m (Str.ofString "turned") = some v ∧ IsS v (pre swapc x i)) R.hd (by assumption) ⟨rfl, rfl, by walk_at "lk", _, by walk_at "lk", _, rfl⟩ ?_ ?_
  · rintro i c u I o g' m led h₃ hc ⟨rfl, rfl, h1, _, h2, tk', rfl⟩ F
    have hl := pre_len swapc x i
    walk_at "w"
    all_goals
      refine turn_end (by assumption) ?_
      refine ⟨rfl, rfl, by walk_at "lk", _, if_pos rfl, isS rfl ?_⟩
      rw [pre_succ swapc x i c hc]
      refine congrArg (fun d => pre swapc x i ++ ⟨#[d]⟩) ?_
      unfold swapc
      split
      · omega
      · split <;> omega
  · rintro g' m led h₃ ⟨rfl, rfl, h1, _, h2, tk', rfl⟩ F
    walk_at "w"
    rw [pre_all]
    exact k _ _ F.sub

def okAt (f : Nat → Nat) (p : Nat × Nat) : Bool := p.2 == p.1 || p.2 == f p.1
def sameB (f : Nat → Nat) (x y : Str) : Bool := x.cps.size == y.cps.size && (x.cps.toList.zip y.cps.toList).all (okAt f)
theorem n_len (w : World) : nsIn (K7 w) mainGlobals (Str.ofString "len") = some none := by rfl
theorem n_range (w : World) : nsIn (K7 w) mainGlobals (Str.ofString "range") = some none := by rfl
theorem n_turned (w : World) : nsIn (K7 w) mainGlobals (Str.ofString "_law_turned") = some (some (.ref 187)) := by rfl
local macro_rules | `(tactic| walk_at "nsG") => `(tactic| with_reducible first | exact n_turned _)
local macro_rules | `(tactic| walk_at "nsB") => `(tactic| with_reducible first | exact n_chr _ | exact n_ord _ | exact n_len _ | exact n_range _)

theorem eqvAll_nil (ds : List PyData) : PyData.eqvAll ds [] = ds.isEmpty := by cases ds <;> rfl
theorem canLay_ints (ns : List Int) : PyData.canLay0 (.list (ns.map .int)) = true := by
  show PyData.canLayAll0 _ = true
  induction ns with
  | nil => rfl
  | cons n r ih => simpa [PyData.canLayAll0, PyData.canLay0] using ih
theorem rdAll_ints {h : Heap} {vs : List Value} {ns : List Int} (x : IntsAre vs ns) : RdAll h vs (ns.map .int) := by
  induction x with
  | nil => exact .nil
  | cons => exact .cons rd_int (by assumption)
theorem intsAre_snoc {vs : List Value} {ns : List Int} {n : Int} {t : Tok} (x : IntsAre vs ns) : IntsAre (vs ++ [.int n t]) (ns ++ [n]) := by
  induction x with
  | nil => exact .cons _ _ .nil
  | cons => exact .cons _ _ (by assumption)
theorem str1_ne {a b : Nat} : (⟨#[b]⟩ : Str) ≠ ⟨#[a]⟩ ↔ b ≠ a := by
  constructor
  · intro q e; exact q (by rw [e])
  · intro q e; exact q (by injection e with e; injection e with e; injection e)

set_option maxHeartbeats 4000000 in
theorem same_call {w : World} {A : Around} {h : Heap} {E : Value → Heap → Prop} {mg mb : Str → Option Value} {Q : Value → Heap → Prop} {x y : Str} {t u : Tok}
    (R : Rm A 2) (X : Amb (K7 w) mg mb h) (hx : x.length ≤ 1000) (hy : y.length ≤ 1000) (k : ∀ h', Sub h h' → Q (.bool (sameB swapc x y)) h') : Ev (model p7 w) A (call (.ref 192) [.str x t, .str y u]) h Q E := by
  refine call_fnC (binds := [(Str.ofString "one", .str x t), (Str.ofString "two", .str y u)]) (cs := fun L => [(Str.ofString "turned", L + 1 + 1 + 1), (Str.ofString "two", L + 1 + 1), (Str.ofString "one", L + 1)])
    X (by rfl) (by rfl) rfl R (fun s hs => BindsTo.of_eq (by rfl)) (by rfl) (by decide +kernel) (by simp only [List.map]; decide +kernel) (fun L => by rfl) (fun A L h₁ R F => ?_)
  walk_at "w"
  · have e : sameB swapc x y = false := by
      unfold sameB
      have : ¬ x.cps.size = y.cps.size := fun e => (by assumption : (x.length : Int) ≠ y.length) (by show ((x.cps.size : Nat) : Int) = _; rw [e]; rfl)
      simp [this]
    rw [e] at k
    exact k _ F.sub
  · refine turned_call R (F.amb X) hx fun t' h₂ e => ?_
    have F := F.keep e
    walk_at "w"
    have hsz : x.cps.size = y.cps.size := by
      have hq : ¬ (x.length : Int) ≠ y.length := by assumption
      have : (x.length : Int) = y.length := Classical.not_not.mp hq
      exact Int.ofNat.inj this
    refine ListComp_ (by rfl) (by rfl) (by rfl) ?_
    walk_at "w"
    refine comp_range1 (fun i g ys => g = h ∧ (∃ ks, IntsAre ys ks) ∧ (ys = [] ↔ ((x.cps.toList.zip y.cps.toList).take i).all (okAt swapc) = true)) R.hd (by assumption) (by assumption) ⟨rfl, ⟨[], .nil⟩, by simp⟩ (by rw [sizeLine_eq]; omega) ⟨?_⟩ ?_ ⟨_, _, rfl⟩ (by exact ⟨rfl, rfl, rfl, trivial⟩) (by rfl) (by rfl)
    · rintro i v C mc led' g' ys h₃ hi ⟨tk, rfl⟩ ⟨rfl, ⟨ks, hks⟩, hys⟩ hled F hca
      have hi : i < x.cps.size := hi
      have e1 : mc (Str.ofString "one") = some (.str x t) := (hca _ (by rfl)).trans (by walk_at "lk")
      have e2 : mc (Str.ofString "two") = some (.str y u) := (hca _ (by rfl)).trans (by walk_at "lk")
      have e3 : mc (Str.ofString "turned") = some (.str (turned x) t') := (hca _ (by rfl)).trans (by walk_at "lk")
      obtain ⟨a, ha⟩ : ∃ a, x.cps[((i : Nat) : Int).toNat]? = some a := ⟨x.cps[i], by simp [hi]⟩
      obtain ⟨b, hb⟩ : ∃ b, y.cps[((i : Nat) : Int).toNat]? = some b := ⟨y.cps[i]'(hsz ▸ hi), by simp [hsz ▸ hi]⟩
      have hc : (turned x).cps[((i : Nat) : Int).toNat]? = some (swapc a) := by
        show (x.cps.map swapc)[((i : Nat) : Int).toNat]? = _
        rw [Array.getElem?_map, ha]; rfl
      have hz : (x.cps.toList.zip y.cps.toList)[i]? = some (a, b) := by
        have ha' : x.cps.toList[i]? = some a := by simpa using ha
        have hb' : y.cps.toList[i]? = some b := by simpa using hb
        rw [List.getElem?_zip_eq_some]; exact ⟨ha', hb'⟩
      have htl : (turned x).length = x.length := by show (x.cps.map swapc).size = x.cps.size; simp
      have hstep : ((x.cps.toList.zip y.cps.toList).take (i + 1)).all (okAt swapc) = (((x.cps.toList.zip y.cps.toList).take i).all (okAt swapc) && okAt swapc (a, b)) := by
        rw [List.take_add_one, hz]; simp
      walk_at "w"
      · refine comp_turn_end (by assumption) ⟨rfl, ⟨_, intsAre_snoc hks⟩, ?_⟩ (hca.set (by rfl))
        have h1 := str1_ne.mp (by assumption : (⟨#[b]⟩ : Str) ≠ ⟨#[a]⟩)
        have h2 := str1_ne.mp (by assumption : (⟨#[b]⟩ : Str) ≠ ⟨#[swapc a]⟩)
        rw [hstep]
        simp [okAt, h1, h2]
      · refine comp_turn_end (by assumption) ⟨rfl, ⟨_, hks⟩, ?_⟩ (hca.set (by rfl))
        have h2 : b = swapc a := Classical.byContradiction fun q => (by assumption : ¬ (⟨#[b]⟩ : Str) ≠ ⟨#[swapc a]⟩) (str1_ne.mpr q)
        rw [hstep, hys]
        simp [okAt, h2]
      · refine comp_turn_end (by assumption) ⟨rfl, ⟨_, hks⟩, ?_⟩ (hca.set (by rfl))
        have h2 : b = a := Classical.byContradiction fun q => (by assumption : ¬ (⟨#[b]⟩ : Str) ≠ ⟨#[a]⟩) (str1_ne.mpr q)
        rw [hstep, hys]
        simp [okAt, h2]
    · rintro g' ys D kk h₃ ⟨rfl, ⟨ks, hks⟩, hys⟩ F
      walk_at "w"
      rename_i D' h₄ F'
      refine eEq (rd_list (F'.get (.tail _ (.head _))) (isL_listO _ _) (rdAll_ints hks)) (rd_list (F'.get (.head _)) (isL_listO _ _) .nil) (canLay_ints ks) rfl (by have := R.un; show _ + min _ 1 < _; omega) ?_
      have e : PyData.eqv (.list (ks.map .int)) (.list []) = sameB swapc x y := by
        show PyData.eqvAll _ [] = _
        rw [eqvAll_nil]
        have hl := hks.length
        have ht : (x.cps.toList.zip y.cps.toList).take x.length = x.cps.toList.zip y.cps.toList := by
          rw [List.take_of_length_le]; show _ ≤ x.cps.size; simp; omega
        rw [ht] at hys
        unfold sameB
        rw [hsz, beq_self_eq_true, Bool.true_and, Bool.eq_iff_iff, ← hys]
        cases ys with
        | nil => cases ks with
          | nil => simp
          | cons => simp at hl
        | cons => cases ks with
          | nil => simp at hl
          | cons => simp
      rw [e]
      exact k _ F'.sub

def ascii (x : Str) : Prop := ∀ c ∈ x.cps.toList, 32 ≤ c ∧ c ≤ 126
structure GoodP (p : Str × Str) : Prop where
  a1 : ascii p.1
  l1 : p.1.length ≤ 63
  a2 : ascii p.2
  l2 : p.2.length ≤ 63
theorem goodP {x y : Str} (h1 : ascii x) (h2 : x.length ≤ 63) (h3 : ascii y) (h4 : y.length ≤ 63) : GoodP (x, y) := ⟨h1, h2, h3, h4⟩
def rowD (p : Str × Str) : PyData := .list [.str p.1, .str p.2]
def pairD (p : Str × Str) : PyData := .tuple [.str p.1, .str p.2]
theorem n_str (w : World) : nsIn (K7 w) mainGlobals (Str.ofString "str") = some none := by rfl
local macro_rules | `(tactic| walk_at "nsB") => `(tactic| with_reducible first | exact n_chr _ | exact n_ord _ | exact n_len _ | exact n_range _ | exact n_str _)
theorem fmod_facts (a : Int) (b : Int) (hb : 0 < b) : 0 ≤ a.fmod b ∧ a.fmod b < b := ⟨Int.fmod_nonneg_of_pos a hb, Int.fmod_lt_of_pos a hb⟩
theorem s_e : Str.ofString "" = ⟨#[]⟩ := by decide +kernel

def asciiB (x : Str) : Bool := x.cps.toList.all fun c => decide (32 ≤ c) && decide (c ≤ 126)
theorem ascii_of_B {x : Str} (h : asciiB x = true) : ascii x := fun c hc => by
  have := List.all_eq_true.mp h c hc
  simpa using this
theorem digits (k : Nat) (hk : k < 70) : ascii (Str.ofString (toString (k : Int))) ∧ (Str.ofString (toString (k : Int))).length ≤ 20 := by
  have h : ∀ j : Fin 70, asciiB (Str.ofString (toString ((j.val : Nat) : Int))) = true ∧ (Str.ofString (toString ((j.val : Nat) : Int))).length ≤ 20 := by decide +kernel
  have := h ⟨k, hk⟩
  exact ⟨ascii_of_B this.1, this.2⟩
theorem ascii_nil : ascii (Str.ofString "") := ascii_of_B (by decide +kernel)
theorem len_nil : (Str.ofString "").length = 0 := by decide +kernel

/-- no sign that the tables refuse -/
def clean (x : Str) : Prop := ∀ c ∈ x.cps.toList, 32 ≤ c ∧ c ≠ 127
theorem n_type (w : World) : nsIn (K7 w) mainGlobals (Str.ofString "type") = some none := by rfl
theorem n_nameRe (w : World) : nsIn (K7 w) mainGlobals (Str.ofString "_name_disallowed_re") = some (some (.ref 43)) := by rfl
theorem n_valueRe (w : World) : nsIn (K7 w) mainGlobals (Str.ofString "_value_disallowed_re") = some (some (.ref 48)) := by rfl
theorem n_list (w : World) : nsIn (K7 w) mainGlobals (Str.ofString "list") = some none := by rfl
local macro_rules | `(tactic| walk_at "nsG") => `(tactic| with_reducible first | exact n_turned _ | exact n_nameRe _ | exact n_valueRe _)
local macro_rules | `(tactic| walk_at "nsB") => `(tactic| with_reducible first | exact n_chr _ | exact n_ord _ | exact n_len _ | exact n_range _ | exact n_str _ | exact n_type _ | exact n_list _)
section
variable {w : World} {A : Around} {g h : Heap} {E : Value → Heap → Prop} {mg mb : Str → Option Value} {Q : Value → Heap → Prop} {x : Str} {t : Tok}
theorem search43 (X : Amb (K7 w) mg mb h) (hx : x.length ≤ 1000) (hc : clean x) (k : Q .none h) : Ev (model p7 w) A (call (.builtin "re.Pattern.search") [.ref 43, .str x t]) h Q E := .mk fun s hs =>
  search_none (hs ▸ X.k 43 _ (by rfl)) rfl rfl rfl rfl rfl (hs ▸ X.k 42 _ (by rfl)) rfl hx first_name (fun c hm => noIn_name (hc c hm).1 (hc c hm).2) (fin0 (Q := Q) hs k)
theorem search48 (X : Amb (K7 w) mg mb h) (hx : x.length ≤ 1000) (hc : clean x) (k : Q .none h) : Ev (model p7 w) A (call (.builtin "re.Pattern.search") [.ref 48, .str x t]) h Q E := .mk fun s hs =>
  search_none (hs ▸ X.k 48 _ (by rfl)) rfl rfl rfl rfl rfl (hs ▸ X.k 47 _ (by rfl)) rfl hx first_value (fun c hm => noIn_value (.inl (hc c hm).1) (hc c hm).2) (fin0 (Q := Q) hs k)
theorem meth43 {pl : Sem Bool} {Q : Value × List Value → Heap → Prop} (X : Amb (K7 w) mg mb h) (k : Q (.builtin "re.Pattern.search", [.ref 43]) h) : Ev (model p7 w) A (getMethod (.ref 43) "search" pl) h Q E := .mk fun s hs => method_search (hs ▸ X.k 43 _ (by rfl)) rfl rfl (fin0 (Q := Q) hs k)
theorem meth48 {pl : Sem Bool} {Q : Value × List Value → Heap → Prop} (X : Amb (K7 w) mg mb h) (k : Q (.builtin "re.Pattern.search", [.ref 48]) h) : Ev (model p7 w) A (getMethod (.ref 48) "search" pl) h Q E := .mk fun s hs => method_search (hs ▸ X.k 48 _ (by rfl)) rfl rfl (fin0 (Q := Q) hs k)
set_option maxHeartbeats 4000000 in
theorem conv_call {b : Bool} {self : Addr} (R : Rm A 1) (X : Amb (K7 w) mg mb h) (hx : x.length ≤ 1000) (hc : clean x) (k : ∀ h', Sub h h' → Q (.str x t) h') :
    Ev (model p7 w) A (call (.ref 70) [.ref self, .str x t] [(Str.ofString "name", .bool b)]) h Q E := by
  refine call_fn (binds := [(Str.ofString "self", .ref self), (Str.ofString "value", .str x t), (Str.ofString "name", .bool b)]) X (by rfl) (by rfl) rfl R (fun s hs => BindsTo.of_eq (by rfl)) (by rfl) (by rfl) (fun A L h₁ R F => ?_)
  walk_at "w"
  · refine meth43 (Loc.amb (by assumption) X) ?_
    walk_at "w"
    refine search43 (Loc.amb (by assumption) X) hx hc ?_
    walk_at "w"
    exact k _ (Loc.sub (by assumption))
  · refine meth48 (Loc.amb (by assumption) X) ?_
    walk_at "w"
    refine search48 (Loc.amb (by assumption) X) hx hc ?_
    walk_at "w"
    exact k _ (Loc.sub (by assumption))
end

def msgIs (x : Str) (vs : List Value) : Prop := ∃ t, vs = [.str x t]
abbrev ctlMsg : Str := Str.ofString "Control characters not allowed in headers"
abbrev noTxt : Str := Str.ofString "Header names/values must be of type str (got b'ab')"
theorem n_ValueError (w : World) : nsIn (K7 w) mainGlobals (Str.ofString "ValueError") = some none := by rfl
theorem n_AssertionError (w : World) : nsIn (K7 w) mainGlobals (Str.ofString "AssertionError") = some none := by rfl
theorem n_repr (w : World) : nsIn (K7 w) mainGlobals (Str.ofString "repr") = some none := by rfl
theorem bb_ValueError : bootBuiltins (Str.ofString "ValueError") = some (.type "ValueError") := PyProof.Rows.Boot.«ValueError»
theorem bb_AssertionError : bootBuiltins (Str.ofString "AssertionError") = some (.type "AssertionError") := PyProof.Rows.Boot.«AssertionError»
theorem bb_repr : bootBuiltins (Str.ofString "repr") = some (.builtin "repr") := PyProof.Rows.Boot.«repr»
local macro_rules | `(tactic| walk_at "nsB") => `(tactic| with_reducible first | exact n_chr _ | exact n_ord _ | exact n_len _ | exact n_range _ | exact n_str _ | exact n_type _ | exact n_list _ | exact n_ValueError _ | exact n_AssertionError _ | exact n_repr _)
local macro_rules | `(tactic| walk_at "bb") => `(tactic| with_reducible first | exact bb_chr | exact bb_ord | exact bb_len | exact bb_str | exact bb_range | exact bb_type | exact bb_list | exact bb_ValueError | exact bb_AssertionError | exact bb_repr)
local macro_rules | `(tactic| walk_at "s") => `(tactic| first
  | ((with_reducible show Ev _ _ (eval (Expr.Constant (Const.bytes _) _ _) _) _ _ _); refine Const_bytes ?_; intro _)
  | ((with_reducible show Ev _ _ (getMethod (Value.bytes _ _) (Str.ofString "lower") _) _ _ _); refine eMeth_blower ?_)
  | ((with_reducible show Ev _ _ (call (Value.builtin "bytes.lower") [Value.bytes _ _]) _ _ _); refine eBlower ?_; intro _)
  | ((with_reducible show Ev _ _ (call (Value.builtin "repr") [Value.bytes _ _]) _ _ _); refine eBrepr ?_; intro _)
  | ((with_reducible show Ev _ _ (call (Value.type "type") [Value.bytes _ _]) _ _ _); refine eType_bytes ?_)
  | ((with_reducible show Ev _ _ (compareOp CmpOp.Is (Value.type "bytes") (Value.type "str")) _ _ _); refine eIs_bs ?_)
  | ((with_reducible show Ev _ _ (getMethod (Value.str _ _) (Str.ofString "format") _) _ _ _); refine eMeth_format ?_)
  | ((with_reducible show Ev _ _ (call (Value.builtin "str.format") [Value.str _ _, Value.str _ _]) _ _ _); refine eFormat ?_; intro _))
section
variable {w : World} {A : Around} {g h : Heap} {E : Value → Heap → Prop} {mg mb : Str → Option Value} {Q : Value → Heap → Prop} {x : Str} {t : Tok} {fr : List Env}
theorem search43x {j : Nat} (X : Amb (K7 w) mg mb h) (hx : x.length ≤ 1000) (hj : j < x.cps.size) (hin : ctl (x.cps.getD j 0)) (k : ∀ r h', Sub h h' → (∃ o, h'.get? r = some o ∧ o.cls = .type "re.Match") → Q (.ref r) h') :
    Ev (model p7 w) A (call (.builtin "re.Pattern.search") [.ref 43, .str x t]) h Q E := .mk fun s hs =>
  search_some (hs ▸ X.k 43 _ (by rfl)) rfl rfl rfl rfl rfl (hs ▸ X.k 42 _ (by rfl)) rfl hx hj hin fun r h' e he => ⟨Same.mk' _ _ _, k r h' (hs ▸ e) he⟩
theorem truthy_m {M : Model} {r : Addr} {o : Obj} {Q : Bool → Heap → Prop} (hr : h.get? r = some o) (hc : o.cls = .type "re.Match") (q : Q true h) : Ev M A (truthy (.ref r)) h Q E := .mk fun s hs => truthy_match (hs ▸ hr) hc (fin0 (Q := Q) hs q)
set_option maxHeartbeats 4000000 in
theorem conv_val {self : Addr} {j : Nat} (R : Rm A 1) (X : Amb (K7 w) mg mb h) (hA : A.frames = some fr) (hfr : FramesAt fr h) (hx : x.length ≤ 1000) (hj : j < x.cps.size) (hin : ctl (x.cps.getD j 0))
    (kE : ∀ e vs h', msgIs ctlMsg vs → Flown2 fr h e (.type "ValueError") vs h' → E (.ref e) h') :
    Ev (model p7 w) A (call (.ref 70) [.ref self, .str x t] [(Str.ofString "name", .bool true)]) h Q E := by
  refine call_fnG (cls := .type "ValueError") (V := msgIs ctlMsg) (binds := [(Str.ofString "self", .ref self), (Str.ofString "value", .str x t), (Str.ofString "name", .bool true)]) X (by rfl) (by rfl) rfl R hA hfr (fun s hs => BindsTo.of_eq (by rfl)) (by rfl) (by rfl) (fun A L h₁ R hA' hfr' F => ?_) kE
  walk_at "w"
  refine meth43 (Loc.amb (by assumption) X) ?_
  walk_at "w"
  refine search43x (Loc.amb (by assumption) X) hx hj hin fun r h2 e2 ⟨o, ho, hc⟩ => ?_
  have F := Loc.keep (by assumption) e2
  refine truthy_m ho hc ?_
  walk_at "w"
  refine Raise_msg PySem.F.excCall_ValueError PySem.F.excRaise_ValueError R.hd ?_
  walk_at "w"
  refine ⟨rfl, ?_⟩
  walk_at "w"
  exact ⟨by simp [sizeLine_eq], fun h' e made => Raised.here (by assumption) hfr ⟨_, rfl⟩ made⟩
set_option maxHeartbeats 4000000 in
theorem conv_asr {self : Addr} (R : Rm A 1) (X : Amb (K7 w) mg mb h) (hA : A.frames = some fr) (hfr : FramesAt fr h)
    (kE : ∀ e vs h', msgIs noTxt vs → Flown2 fr h e (.type "AssertionError") vs h' → E (.ref e) h') :
    Ev (model p7 w) A (call (.ref 70) [.ref self, .bytes bAB t] [(Str.ofString "name", .bool true)]) h Q E := by
  refine call_fnG (cls := .type "AssertionError") (V := msgIs noTxt) (binds := [(Str.ofString "self", .ref self), (Str.ofString "value", .bytes bAB t), (Str.ofString "name", .bool true)]) X (by rfl) (by rfl) rfl R hA hfr (fun s hs => BindsTo.of_eq (by rfl)) (by rfl) (by rfl) (fun A L h₁ R hA' hfr' F => ?_) kE
  walk_at "w"
  refine Raise_msg PySem.F.excCall_AssertionError PySem.F.excRaise_AssertionError R.hd ?_
  walk_at "w"
  refine ⟨rfl, ?_⟩
  walk_at "w"
  exact ⟨by simp [sizeLine_eq], fun h' e made => Raised.here (by assumption) hfr ⟨_, rfl⟩ made⟩
end

abbrev HAt (h : Heap) (x D : Addr) : Prop := OneAt 169 (Str.ofString "_headers") h x (.ref D)
theorem mt_conv (w : World) : findIn (K7 w) (.ref 169) (Str.ofString "_convert_string_type") = some (some (.ref 70)) := by rfl
theorem mt_get (w : World) : findIn (K7 w) (.ref 169) (Str.ofString "get") = some (some (.ref 116)) := by rfl
theorem mt_items (w : World) : findIn (K7 w) (.ref 169) (Str.ofString "items") = some (some (.ref 133)) := by rfl
local macro_rules | `(tactic| walk_at "mt") => `(tactic| with_reducible first | exact mt_conv _ | exact mt_get _ | exact mt_items _)
section
variable {w : World} {A : Around} {g h : Heap} {E : Value → Heap → Prop} {mg mb : Str → Option Value} {Q : Value → Heap → Prop} {x D : Addr} {t : Tok}
theorem attr_h {e : Bool} (X : Amb (K7 w) mg mb h) (H : HAt h x D) (k : Q (.ref D) h) : Ev (model p7 w) A (getAttr (.ref x) (Str.ofString "_headers") e) h Q E := by
  obtain ⟨dx, hash, t, p, q⟩ := H
  exact eGetAttr X.k p q (by rfl) (by rfl) (attr := none) (by rfl) (by rfl) (by rfl) rfl k
theorem meth_h {name : Str} {f : Addr} {pl : Sem Bool} {Q : Value × List Value → Heap → Prop} (X : Amb (K7 w) mg mb h) (H : HAt h x D) (hf : findIn (K7 w) (.ref 169) name = some (some (.ref f))) (ht : isFn (K7 w) (.ref f) = true)
    (hl : ∀ hash t v, getL name [⟨hash, .str (Str.ofString "_headers") t, v⟩] = some none) (k : Q (.ref f, [.ref x]) h) : Ev (model p7 w) A (getMethod (.ref x) name pl) h Q E := by
  obtain ⟨dx, hash, t, p, q⟩ := H
  exact eMethod X.k p q (by rfl) hf ht (hl _ _ _) k
end
local macro_rules | `(tactic| walk_at "s") => `(tactic| first
  | ((with_reducible show Ev _ _ (getAttr (Value.ref _) (Str.ofString "_headers") _) _ _ _); refine' attr_h (Loc.amb ?F ?X) (OneAt.keep ?H (Loc.sub ?F)) ?_; (case F => assumption); (case X => assumption); (case H => assumption))
  | ((with_reducible show Ev _ _ (getMethod (Value.ref _) (Str.ofString _) _) _ _ _); refine' meth_h (Loc.amb ?F ?X) (OneAt.keep ?H (Loc.sub ?F)) ?mt ?ft ?l ?_; (case F => assumption); (case X => assumption); (case H => assumption); (case mt => walk_at "mt"); (case ft => rfl); (case l => (intro _ _ _; rfl))))
section
variable {w : World} {A : Around} {g h : Heap} {E : Value → Heap → Prop} {mg mb : Str → Option Value} {Q : Value → Heap → Prop} {x D : Addr} {t : Tok}
structure Neat (p : Str × Str) : Prop where
  c1 : clean p.1
  l1 : p.1.length ≤ 1000
  c2 : clean p.2
  l2 : p.2.length ≤ 1000
set_option maxHeartbeats 4000000 in
theorem new_call {us : List Value} {oD : Obj} {ps : List (Str × Str)} (R : Rm A 3) (X : Amb (K7 w) mg mb h) (hD : h.get? D = some oD) (hl : IsL oD us) (hr : RdAll h us (ps.map pairD)) (hp : ∀ p ∈ ps, Neat p)
    (k : ∀ x h', Sub h h' → OneNew 169 (Str.ofString "_headers") h h' x (.ref D) → Q (.ref x) h') : Ev (model p7 w) A (call (.ref 169) [.ref D]) h Q E := by
  refine eMake X (by rfl) (by rfl) (by rfl) fun x dx h' e1 nx nd hne hx hdx => ?_
  refine code_fnM (g := h) (led := [(dx, emptyDict)]) (binds := [(Str.ofString "self", .ref x), (Str.ofString "headers", .ref D)]) X e1 (fun p hp => by rw [List.mem_singleton.mp hp]; exact ⟨hdx, nd⟩) (by simp) (by rfl) (by rfl) rfl (Rm.make R) (fun s hs => binds_K (hs ▸ (X.keep e1).k) rfl (by rfl) rfl (by rfl) (by rfl)) (by rfl) (by rfl) (fun A L g' h₁ R sg eg F => ?_)
  have hx' : g'.get? x = some (instObj 169 dx) := eg ▸ hideAll_get _ hx (by simpa using hne)
  have X := X.keep sg
  have hD' := sg _ _ hD
  have hr' := hr.keep sg
  walk_at "w"
  rename_i h2 F2
  refine eSetAttr (name := Str.ofString "_headers") (F2.amb X).k F2 (F2.sub _ _ hx') PutF.head (by rfl) (by rfl) (by rfl) (by rfl) fun hash t h3 F3 => ?_
  obtain ⟨g2, F4, s2, hd2⟩ := F3.freeze1
  have H : HAt g2 x D := ⟨dx, hash, t, s2 _ _ hx', hd2⟩
  have X := X.keep s2
  walk_at "w"
  refine loop_list (fun i g m led => g = g2 ∧ led = [] ∧ m (Str.ofString "self") = some (.ref x)) R.hd hl F4 ⟨rfl, rfl, by walk_at "lk"⟩ (fun i g m led ⟨e, _⟩ => .inl (e ▸ s2 _ _ hD')) ?_ ?_
  · rintro i v I o g m led h₅ hv ⟨rfl, rfl, hm⟩ F
    obtain ⟨d, hd, hv'⟩ := hr'.get hv
    rw [List.getElem?_map] at hd
    obtain ⟨q, hq, rfl⟩ := Option.map_eq_some_iff.mp hd
    have hq' := hp q (List.mem_of_getElem? hq)
    obtain ⟨r, ro, rvs, n, rfl, hro, hrc, hrd, hrr⟩ := (hv'.keep s2).tup
    obtain ⟨t₁, t₂, e⟩ := hrr.two
    refine assign_two R.hd F (F.sub _ _ hro) ⟨.inr hrc, n, by rw [hrd]; congr 1; apply Array.ext'; exact e⟩ fun h₇ F => ?_
    walk_at "w"
    refine conv_call R (Loc.amb (by assumption) X) hq'.l1 hq'.c1 fun h8 e8 => ?_
    have F := Loc.keep (by assumption) e8
    walk_at "w"
    refine conv_call R (Loc.amb (by assumption) X) hq'.l2 hq'.c2 fun h9 e9 => ?_
    have F := Loc.keep (by assumption) e9
    walk_at "w"
    refine turn_end F ⟨rfl, rfl, by walk_at "lk"⟩
  · rintro g m led h₅ ⟨rfl, rfl, hm⟩ F
    walk_at "w"
    refine ⟨rfl, k x _ (sg.tr (s2.tr F.sub)) ?_⟩
    exact ⟨dx, hash, t, nx, nd, F.sub _ _ (s2 _ _ hx'), F.sub _ _ hd2⟩
end

def sameLow (name : Str) (p : Str × Str) : Bool := Txt.lower p.1 == Txt.lower name
section
variable {w : World} {A : Around} {g h : Heap} {E : Value → Heap → Prop} {mg mb : Str → Option Value} {Q : Value → Heap → Prop} {x D : Addr} {t : Tok}
/-- D is a list of the pairs ps -/
structure Pairs (h : Heap) (D : Addr) (ps : List (Str × Str)) : Prop where
  ex : ∃ o us, h.get? D = some o ∧ IsL o us ∧ RdAll h us (ps.map pairD)
  len : ∀ p ∈ ps, p.1.length ≤ 1000
theorem find_take {p : Str × Str → Bool} {ps : List (Str × Str)} {i : Nat} {q : Str × Str} (h : (ps.take i).find? p = none) (hq : ps[i]? = some q) (hp : p q = true) : ps.find? p = some q := by
  have e : ps = ps.take i ++ q :: ps.drop (i + 1) := by
    have hi : i < ps.length := (List.getElem?_eq_some_iff.mp hq).1
    have : q = ps[i] := by rw [List.getElem?_eq_getElem hi] at hq; exact (Option.some.inj hq).symm
    rw [this, List.getElem_cons_drop hi, List.take_append_drop]
  rw [e, List.find?_append, h, List.find?_cons, hp]; rfl
theorem find_take_succ {p : Str × Str → Bool} {ps : List (Str × Str)} {i : Nat} {q : Str × Str} (h : (ps.take i).find? p = none) (hq : ps[i]? = some q) (hp : p q = false) : (ps.take (i + 1)).find? p = none := by
  rw [List.take_add_one, hq, List.find?_append, h]
  simp [hp]
set_option maxHeartbeats 4000000 in
theorem get_body {L : Addr} {name : Str} {dv : Value} {ps : List (Str × Str)} {h₁ : Heap} {fd : FuncData} (R : Rm A 1) (X : Amb (K7 w) mg mb h) (H : HAt h x D) (hP : Pairs h D ps) (hn : name.length ≤ 1000) (hl : (Txt.lower name).length ≤ 1000) (hc : clean (Txt.lower name))
    (k1 : ∀ p t' h', ps.find? (sameLow name) = some p → Sub h h' → Q (.str p.2 t') h') (k2 : ps.find? (sameLow name) = none → ∀ h', Sub h h' → Q dv h')
    {oc : Value} {od : Option Addr} {osl : Array (Option Value)} (hf : (K7 w).lookup 116 = some ⟨oc, od, .func fd, osl⟩) {body : List Stmt} (hb : fd.body = .stmts body)
    (F : Loc h L [] (fun y => [(Str.ofString "self", .ref x), (Str.ofString "name", .str name t), (Str.ofString "default", dv)].reverse.lookup y) [] h₁) :
    Ev (model p7 w) A (execs body (callEnv fd L 116)) h₁ (fun fl h'' => Q (match fl with | .ret v => v | _ => .none) h'') (fun _ _ => False) := by
  cases hf
  cases hb
  obtain ⟨o, us, hD, hL, hr⟩ := hP.ex
  walk_at "w"
  refine conv_call R (Loc.amb (by assumption) X) hl hc fun h2 e2 => ?_
  have F := Loc.keep (by assumption) e2
  walk_at "w"
  rename_i h3 F3
  refine loop_list (fun i g m led => g = h ∧ led = [] ∧ (∃ v, m (Str.ofString "name") = some v ∧ IsS v (Txt.lower name)) ∧ m (Str.ofString "default") = some dv ∧ (ps.take i).find? (sameLow name) = none) R.hd hL F3 ⟨rfl, rfl, ⟨_, by walk_at "lk", _, rfl⟩, by walk_at "lk", by simp⟩ (fun i g m led ⟨e, _⟩ => .inl (e ▸ hD)) ?_ ?_
  · rintro i v I o g m led h₅ hv ⟨rfl, rfl, ⟨_, hm1, tn, rfl⟩, hm2, hfd⟩ F
    obtain ⟨d, hd, hv'⟩ := hr.get hv
    rw [List.getElem?_map] at hd
    obtain ⟨q, hq, rfl⟩ := Option.map_eq_some_iff.mp hd
    have hq' := hP.len q (List.mem_of_getElem? hq)
    obtain ⟨r, ro, rvs, n, rfl, hro, hrc, hrd, hrr⟩ := hv'.tup
    obtain ⟨t₁, t₂, e⟩ := hrr.two
    refine assign_two R.hd F (F.sub _ _ hro) ⟨.inr hrc, n, by rw [hrd]; congr 1; apply Array.ext'; exact e⟩ fun h₇ F => ?_
    walk_at "w"
    · exact k1 q _ _ (find_take hfd hq (by unfold sameLow; simpa using by assumption)) (Loc.sub (by assumption))
    · refine turn_end (by assumption) ⟨rfl, rfl, ⟨_, by walk_at "lk", _, rfl⟩, by walk_at "lk", find_take_succ hfd hq (by unfold sameLow; simpa using by assumption)⟩
  · rintro g m led h₅ ⟨rfl, rfl, ⟨_, hm1, tn, rfl⟩, hm2, hfd⟩ F
    walk_at "w"
    refine k2 ?_ _ (Loc.sub (by assumption))
    rwa [List.take_of_length_le (by rw [hr.length]; simp)] at hfd

theorem get_call3 {name : Str} {dv : Value} {ps : List (Str × Str)} (R : Rm A 2) (X : Amb (K7 w) mg mb h) (H : HAt h x D) (hP : Pairs h D ps) (hn : name.length ≤ 1000) (hl : (Txt.lower name).length ≤ 1000) (hc : clean (Txt.lower name))
    (k1 : ∀ p t' h', ps.find? (sameLow name) = some p → Sub h h' → Q (.str p.2 t') h') (k2 : ps.find? (sameLow name) = none → ∀ h', Sub h h' → Q dv h') : Ev (model p7 w) A (call (.ref 116) [.ref x, .str name t, dv]) h Q E := by
  refine call_fn (binds := [(Str.ofString "self", .ref x), (Str.ofString "name", .str name t), (Str.ofString "default", dv)]) X (by rfl) (by rfl) rfl R (fun s hs => binds_K (hs ▸ X.k) rfl (by rfl) rfl (by rfl) (by rfl)) (by rfl) (by rfl) (fun A L h₁ R F => ?_)
  exact get_body R X H hP hn hl hc k1 k2 (by rfl) rfl F
theorem get_call2 {name : Str} {ps : List (Str × Str)} (R : Rm A 2) (X : Amb (K7 w) mg mb h) (H : HAt h x D) (hP : Pairs h D ps) (hn : name.length ≤ 1000) (hl : (Txt.lower name).length ≤ 1000) (hc : clean (Txt.lower name))
    (k1 : ∀ p t' h', ps.find? (sameLow name) = some p → Sub h h' → Q (.str p.2 t') h') (k2 : ps.find? (sameLow name) = none → ∀ h', Sub h h' → Q .none h') : Ev (model p7 w) A (call (.ref 116) [.ref x, .str name t]) h Q E := by
  refine call_fn (binds := [(Str.ofString "self", .ref x), (Str.ofString "name", .str name t), (Str.ofString "default", .none)]) X (by rfl) (by rfl) rfl R (fun s hs => binds_K (hs ▸ X.k) rfl (by rfl) rfl (by rfl) (by rfl)) (by rfl) (by rfl) (fun A L h₁ R F => ?_)
  exact get_body R X H hP hn hl hc k1 k2 (by rfl) rfl F
theorem has_call {name : Str} {ps : List (Str × Str)} (R : Rm A 3) (X : Amb (K7 w) mg mb h) (H : HAt h x D) (hP : Pairs h D ps) (hn : name.length ≤ 1000) (hl : (Txt.lower name).length ≤ 1000) (hc : clean (Txt.lower name))
    (k : ∀ h', Sub h h' → Q (.bool (ps.find? (sameLow name)).isSome) h') : Ev (model p7 w) A (call (.ref 103) [.ref x, .str name t]) h Q E := by
  refine call_fn (binds := [(Str.ofString "self", .ref x), (Str.ofString "name", .str name t)]) X (by rfl) (by rfl) rfl R (fun s hs => BindsTo.of_eq (by rfl)) (by rfl) (by rfl) (fun A L h₁ R F => ?_)
  walk_at "w"
  have hP' : Pairs h₁ D ps := let ⟨o, us, hD, hL, hr⟩ := hP.ex; ⟨⟨o, us, F.sub _ _ hD, hL, hr.keep F.sub⟩, hP.len⟩
  refine get_call2 R (F.amb X) (H.keep F.sub) hP' hn hl hc (fun p t' h' e s => ?_) fun e h' s => ?_
  · walk_at "w"
    rw [e] at k
    exact k _ (F.sub.tr s)
  · walk_at "w"
    rw [e] at k
    exact k _ (F.sub.tr s)
theorem items_call {o : Obj} {us : List Value} (R : Rm A 1) (X : Amb (K7 w) mg mb h) (H : HAt h x D) (hD : h.get? D = some o) (hL : IsL o us) (hu : us.length ≤ 100000)
    (k : ∀ D' n h', Sub h h' → h.get? D' = none → h'.get? D' = some (listO us n) → Q (.ref D') h') : Ev (model p7 w) A (call (.ref 133) [.ref x]) h Q E := by
  refine call_fn (binds := [(Str.ofString "self", .ref x)]) X (by rfl) (by rfl) rfl R (fun s hs => BindsTo.of_eq (by rfl)) (by rfl) (by rfl) (fun A L h₁ R F => ?_)
  walk_at "w"
  refine ⟨Slice_list ?_⟩
  walk_at "w"
  refine ⟨_, _, _, _, _, rfl, F.sub _ _ hD, hL, by rw [sizeLine_eq]; omega, .none, .none, _, _, _, _, _, F, fun D' h' F' => ?_⟩
  refine k D' 0 h' F'.sub (F'.led _ (.head _)).2.2 ?_
  have := F'.get (.head _)
  rwa [slicePick_all] at this
end

theorem ok_lo {a b : Nat} (ha : a < 128) (hb : b < 128) : (okAt swapc (a, b) = true) ↔ lo1 a = lo1 b := by
  simp only [okAt, swapc, lo1, Bool.or_eq_true, beq_iff_eq]
  split <;> split <;> split <;> (try split) <;> omega
theorem zip_lo : ∀ (l l' : List Nat), (∀ c ∈ l, c < 128) → (∀ c ∈ l', c < 128) → ((l.length = l'.length ∧ (l.zip l').all (okAt swapc) = true) ↔ l.map lo1 = l'.map lo1)
  | [], [], _, _ => by simp
  | [], b :: r, _, _ => by simp
  | a :: r, [], _, _ => by simp
  | a :: l, b :: l', h, h' => by
    have ih := zip_lo l l' (fun c hc => h c (.tail _ hc)) (fun c hc => h' c (.tail _ hc))
    have e := ok_lo (h a (.head _)) (h' b (.head _))
    simp only [List.zip_cons_cons, List.all_cons, Bool.and_eq_true, List.length_cons, Nat.add_right_cancel_iff, List.map_cons, List.cons.injEq, e, ← ih]
    constructor
    · rintro ⟨p, q, r⟩; exact ⟨q, p, r⟩
    · rintro ⟨q, p, r⟩; exact ⟨p, q, r⟩
theorem ascii_lt {x : Str} (h : ascii x) : ∀ c ∈ x.cps.toList, c < 128 := fun c hc => by have := h c hc; omega
theorem same_low {x y : Str} (hx : ascii x) (hy : ascii y) : sameB swapc x y = (Txt.lower x == Txt.lower y) := by
  rw [lower_ascii (ascii_lt hx), lower_ascii (ascii_lt hy), Bool.eq_iff_iff, beq_iff_eq]
  have z := zip_lo x.cps.toList y.cps.toList (ascii_lt hx) (ascii_lt hy)
  unfold sameB
  rw [Bool.and_eq_true, beq_iff_eq]
  constructor
  · intro q
    have := z.mp ⟨by simpa using q.1, q.2⟩
    apply congrArg
    apply Array.ext'
    simpa using this
  · intro q
    injection q with q
    have := congrArg Array.toList q
    have := z.mpr (by simpa using this)
    exact ⟨by simpa using this.1, this.2⟩
theorem low_clean {x : Str} (h : ascii x) : clean (Txt.lower x) := by
  rw [lower_ascii (ascii_lt h)]
  intro c hc
  have hc : c ∈ (x.cps.map lo1).toList := hc
  rw [Array.toList_map] at hc
  obtain ⟨d, hd, rfl⟩ := List.mem_map.mp hc
  have := h d hd
  unfold lo1
  split <;> omega
theorem low_len {x : Str} (h : ascii x) : (Txt.lower x).length = x.length := by
  rw [lower_ascii (ascii_lt h)]
  show (x.cps.map lo1).size = x.cps.size
  simp
theorem ascii_clean {x : Str} (h : ascii x) : clean x := fun c hc => by have := h c hc; omega
theorem slice_mem (x : Str) (l u : Option Int) : ∀ c ∈ (Txt.slice x l u).cps.toList, c ∈ x.cps.toList := by
  intro c hc
  unfold Txt.slice at hc
  split at hc
  · exact hc
  · simp only [List.mem_filterMap] at hc
    obtain ⟨i, _, hi⟩ := hc
    obtain ⟨h1, h2⟩ := Array.getElem?_eq_some_iff.mp hi
    rw [← h2]
    simp
theorem turned_ascii {x : Str} (h : ascii x) : ascii (turned x) := by
  intro c hc
  have hc : c ∈ (x.cps.map swapc).toList := hc
  rw [Array.toList_map] at hc
  obtain ⟨d, hd, rfl⟩ := List.mem_map.mp hc
  have := h d hd
  unfold swapc
  split
  · omega
  · split <;> omega
theorem turned_len (x : Str) : (turned x).length = x.length := by show (x.cps.map swapc).size = x.cps.size; simp
theorem app_ascii {x y : Str} (h : ascii x) (h' : ascii y) : ascii (x ++ y) := by
  intro c hc
  have e : (x ++ y).cps.toList = x.cps.toList ++ y.cps.toList := by show (x.cps ++ y.cps).toList = _; simp
  rw [e] at hc
  exact (List.mem_append.mp hc).elim (h c) (h' c)
theorem strOk_ascii {x : Str} (h : ascii x) : PyData.strOk x = true := by
  unfold PyData.strOk
  rw [← Array.all_toList, List.all_eq_true]
  intro c hc
  have := h c hc
  simp; omega
theorem canLay_pairs {ps : List (Str × Str)} (h : ∀ p ∈ ps, ascii p.1 ∧ ascii p.2) : PyData.canLay0 (.list (ps.map pairD)) = true := by
  show PyData.canLayAll0 _ = true
  induction ps with
  | nil => rfl
  | cons p r ih =>
    have h1 := h p (.head _)
    have := ih fun q hq => h q (.tail _ hq)
    simpa [PyData.canLayAll0, PyData.canLay0, pairD, strOk_ascii h1.1, strOk_ascii h1.2] using this
theorem depth_pairs (ps : List (Str × Str)) : PyData.depth (.list (ps.map pairD)) ≤ 3 := by
  simp only [PyData.depth]
  have : PyData.depthAll (ps.map pairD) ≤ 2 := by
    induction ps with
    | nil => simp [PyData.depthAll]
    | cons p r ih => simp only [List.map_cons, PyData.depthAll, pairD, PyData.depth]; omega
  omega

section
variable {w : World} {A : Around} {g h : Heap} {E : Value → Heap → Prop} {mg mb : Str → Option Value} {Q : Value → Heap → Prop} {x D : Addr} {t : Tok}
/-- the pairs of other names -/
def others (name : Str) (ps : List (Str × Str)) : List (Str × Str) := ps.filter fun p => !sameLow name p
theorem others_succ {name : Str} {ps : List (Str × Str)} {i : Nat} {q : Str × Str} (hq : ps[i]? = some q) : others name (ps.take (i + 1)) = others name (ps.take i) ++ (if sameLow name q then [] else [q]) := by
  unfold others
  rw [List.take_add_one, hq, List.filter_append]
  cases h : sameLow name q <;> simp [h]
set_option maxHeartbeats 4000000 in
theorem del_call {name : Str} {us : List Value} {n : Nat} {ps : List (Str × Str)} (R : Rm A 2) (X : Amb (K7 w) mg mb g) (hg : Sub g h) (hD0 : g.get? D = none) (H : HAt g x D) (hD : h.get? D = some (listO us n)) (hr : RdAll g us (ps.map pairD)) (hps : ∀ p ∈ ps, p.1.length ≤ 1000) (hpl : ps.length ≤ 1000)
    (hn : name.length ≤ 1000) (hl : (Txt.lower name).length ≤ 1000) (hc : clean (Txt.lower name))
    (k : ∀ us' n' h', Heap.ExtBut D h h' → h'.get? D = some (listO us' n') → RdAll g us' ((others name ps).map pairD) → Q .none h') : Ev (model p7 w) A (call (.ref 89) [.ref x, .str name t]) h Q E := by
  have hul : us.length = ps.length := by have := hr.length; simpa using this
  refine call_fnC (binds := [(Str.ofString "self", .ref x), (Str.ofString "name", .str name t)]) (cs := fun L => [(Str.ofString "name", L + 1)])
    (X.keep hg) (by rfl) (by rfl) rfl R (fun s hs => BindsTo.of_eq (by rfl)) (by rfl) (by decide +kernel) (by simp only [List.map]; decide +kernel) (fun L => by rfl) (fun A L h₁ R F => ?_)
  have sg : Sub g (hideAll h [D]) := sub_hide hg fun a ha => by rw [List.mem_singleton.mp ha]; exact hD0
  have F := F.unfreeze1 hD
  have X := X.keep sg
  have H := H.keep sg
  have hr' := hr.keep sg
  walk_at "w"
  refine conv_call R (Loc.amb (by assumption) X) hl hc fun h2 e2 => ?_
  have F := Loc.keep (by assumption) e2
  walk_at "w"
  refine ListComp_ (by rfl) (by rfl) (by rfl) ?_
  walk_at "w"
  rename_i h3 F3
  refine comp_list (fun i g₁ ys => g₁ = hideAll h [D] ∧ RdAll g ys ((others name (ps.take i)).map pairD)) R.hd (isL_listO us n) F3 (fun _ _ _ _ => .inr (.head _)) ⟨rfl, .nil⟩ ⟨?_⟩ ?_ ⟨rfl, trivial⟩ (by rfl) (by rfl) (by rw [sizeLine_eq]; omega)
  · rintro i v C mc led' g₁ ys h₆ hil hv ⟨rfl, hys⟩ hled F hca
    obtain ⟨d, hd, hv'⟩ := hr.get hv
    rw [List.getElem?_map] at hd
    obtain ⟨q, hq, rfl⟩ := Option.map_eq_some_iff.mp hd
    have hq' := hps q (List.mem_of_getElem? hq)
    have hv2 := hv'
    obtain ⟨r, ro, rvs, rn, rfl, hro, hrc, hrd, hrr⟩ := hv'.tup
    obtain ⟨t₁, t₂, e⟩ := hrr.two
    have hT : IsTup (hideAll h [D]) r #[.str q.1 t₁, .str q.2 t₂] := ⟨ro, sg _ _ hro, hrc, rn, by rw [hrd]; congr 1; apply Array.ext'; exact e⟩
    obtain ⟨tn, hm⟩ : ∃ tn, mc (Str.ofString "name") = some (.str (Txt.lower name) tn) := ⟨_, (hca _ (by rfl)).trans (by walk_at "lk")⟩
    walk_at "w"
    · refine comp_turn_end (by assumption) ⟨rfl, ?_⟩ (hca.set (by rfl))
      rw [others_succ hq, show sameLow name q = false from by unfold sameLow; simpa using by assumption]
      simp only [Bool.false_eq_true, if_false, List.map_append, List.map_cons, List.map_nil]
      exact hys.snoc hv2
    · refine comp_turn_end (by assumption) ⟨rfl, ?_⟩ (hca.set (by rfl))
      rw [others_succ hq, show sameLow name q = true from by unfold sameLow; simpa using Classical.not_not.mp (by assumption)]
      simpa using hys
  · rintro g₁ ys D2 kk h₆ ⟨rfl, hys⟩ F
    rw [List.take_of_length_le (by omega)] at hys
    walk_at "w"
    refine ⟨D, D2, us, ys, n, _, _, _, _, _, _, _, rfl, rfl, F, PutF.tail PutF.head, F.get (.head _), isL_listO _ _, ?_, ?_, fun n' h' F' => ?_⟩
    · have := F.nd
      simp only [List.map_cons, List.nodup_cons, List.mem_cons, List.map_nil, not_or] at this
      exact fun e => this.1.1 e.symm
    · have h1 := hys.length
      have h2 : (others name ps).length ≤ ps.length := List.length_filter_le _ _
      rw [List.length_map] at h1
      rw [sizeLine_eq]; omega
    · walk_at "w"
      exact k ys n' h' (extBut_hide F'.sub) (F'.get (.tail _ (.head _))) hys
end

/-- what was not there before is frozen -/
theorem Loc.freezeAt {g h₀ h : Heap} {L T : Addr} {o : Obj} {cs : List (Str × Addr)} {m m' : Str → Option Value} {led led' : List (Addr × Obj)} (F0 : Loc g L cs m led h₀) (hT0 : h₀.get? T = none) (F : Loc g L cs m' led' h) (ha : led'.map (·.1) = led.map (·.1)) (hT : h.get? T = some o) :
    ∃ g', Loc g' L cs m' led' h ∧ Sub g g' ∧ g'.get? T = some o := by
  obtain ⟨g', F', s, fr⟩ := F.freeze
  refine ⟨g', F', s, fr T o hT (fun e => ?_) (fun p hp e => ?_) (fun y hy => ?_)⟩
  · obtain ⟨oL, hL⟩ := F0.lt; rw [e, hL] at hT0; cases hT0
  · have : p.1 ∈ led.map (·.1) := ha ▸ List.mem_map.mpr ⟨p, hp, rfl⟩
    obtain ⟨p', hp', e'⟩ := List.mem_map.mp this
    rw [← e, ← e', (F0.led p' hp').1] at hT0; cases hT0
  · obtain ⟨oc, hoc, _⟩ := F0.cell y T hy; rw [hoc] at hT0; cases hT0
section
variable {w : World} {A : Around} {g h : Heap} {E : Value → Heap → Prop} {mg mb : Str → Option Value} {Q : Value → Heap → Prop} {x D : Addr} {t t2 : Tok}
set_option maxHeartbeats 4000000 in
theorem getall_call {name : Str} {us : List Value} {o : Obj} {ps : List (Str × Str)} (R : Rm A 2) (X : Amb (K7 w) mg mb h) (H : HAt h x D) (hD : h.get? D = some o) (hL : IsL o us) (hr : RdAll h us (ps.map pairD)) (hps : ∀ p ∈ ps, p.1.length ≤ 1000) (hpl : ps.length ≤ 1000)
    (hn : name.length ≤ 1000) (hl : (Txt.lower name).length ≤ 1000) (hc : clean (Txt.lower name))
    (k : ∀ D' ys e h', Sub h h' → h.get? D' = none → h'.get? D' = some (listO ys e) → RdAll h' ys ((ps.filter (sameLow name)).map fun p => .str p.2) → Q (.ref D') h') : Ev (model p7 w) A (call (.ref 108) [.ref x, .str name t]) h Q E := by
  have hul : us.length = ps.length := by have := hr.length; simpa using this
  refine call_fnC (binds := [(Str.ofString "self", .ref x), (Str.ofString "name", .str name t)]) (cs := fun L => [(Str.ofString "name", L + 1)])
    X (by rfl) (by rfl) rfl R (fun s hs => BindsTo.of_eq (by rfl)) (by rfl) (by decide +kernel) (by simp only [List.map]; decide +kernel) (fun L => by rfl) (fun A L h₁ R F => ?_)
  walk_at "w"
  refine conv_call R (Loc.amb (by assumption) X) hl hc fun h2 e2 => ?_
  have F := Loc.keep (by assumption) e2
  walk_at "w"
  refine ListComp_ (by rfl) (by rfl) (by rfl) ?_
  walk_at "w"
  rename_i h3 F3
  refine comp_list (fun i g₁ ys => g₁ = h ∧ RdAll h ys (((ps.take i).filter (sameLow name)).map fun p => .str p.2)) R.hd hL F3 (fun _ _ _ e => .inl (e.1 ▸ hD)) ⟨rfl, .nil⟩ ⟨?_⟩ ?_ ⟨rfl, trivial⟩ (by rfl) (by rfl) (by rw [sizeLine_eq]; omega)
  · rintro i v C mc led' g₁ ys h₆ hil hv ⟨rfl, hys⟩ hled F hca
    obtain ⟨d, hd, hv'⟩ := hr.get hv
    rw [List.getElem?_map] at hd
    obtain ⟨q, hq, rfl⟩ := Option.map_eq_some_iff.mp hd
    have hq' := hps q (List.mem_of_getElem? hq)
    obtain ⟨r, ro, rvs, rn, rfl, hro, hrc, hrd, hrr⟩ := hv'.tup
    obtain ⟨t₁, t₂, e⟩ := hrr.two
    have hT : IsTup g₁ r #[.str q.1 t₁, .str q.2 t₂] := ⟨ro, hro, hrc, rn, by rw [hrd]; congr 1; apply Array.ext'; exact e⟩
    obtain ⟨tn, hm⟩ : ∃ tn, mc (Str.ofString "name") = some (.str (Txt.lower name) tn) := ⟨_, (hca _ (by rfl)).trans (by walk_at "lk")⟩
    walk_at "w"
    · refine comp_turn_end (by assumption) ⟨rfl, ?_⟩ (hca.set (by rfl))
      rw [List.take_add_one, hq, List.filter_append]
      have : sameLow name q = true := by unfold sameLow; simpa using by assumption
      simp only [Option.toList_some, List.filter_cons, this, if_true, List.filter_nil, List.map_append, List.map_cons, List.map_nil]
      exact hys.snoc rd_str
    · refine comp_turn_end (by assumption) ⟨rfl, ?_⟩ (hca.set (by rfl))
      rw [List.take_add_one, hq, List.filter_append]
      have : sameLow name q = false := by unfold sameLow; simpa using by assumption
      simp only [Option.toList_some, List.filter_cons, this, Bool.false_eq_true, if_false, List.filter_nil, List.append_nil]
      exact hys
  · rintro g₁ ys D2 kk h₆ ⟨rfl, hys⟩ F
    rw [List.take_of_length_le (by omega)] at hys
    walk_at "w"
    exact k D2 ys kk h₆ F.sub (F.led _ (.head _)).2.2 (F.get (.head _)) (hys.keep F.sub)
end

section
variable {w : World} {A : Around} {g h : Heap} {E : Value → Heap → Prop} {mg mb : Str → Option Value} {Q : Value → Heap → Prop} {x D : Addr} {t : Tok} {fr : List Env} {name : Str} {j : Nat}
theorem get3S {dv : Value} (R : Rm A 2) (X : Amb (K7 w) mg mb h) (H : HAt h x D) (hA : A.frames = some fr) (hfr : FramesAt fr h) (hn : name.length ≤ 1000) (hl : (Txt.lower name).length ≤ 1000) (hj : j < (Txt.lower name).cps.size) (hin : ctl ((Txt.lower name).cps.getD j 0)) (kE : ∀ e vs h', msgIs ctlMsg vs → Flown2 fr h e (.type "ValueError") vs h' → E (.ref e) h') : Ev (model p7 w) A (call (.ref 116) [.ref x, .str name t, dv]) h Q E := by
  refine call_fnG (cls := .type "ValueError") (V := msgIs ctlMsg) (binds := [(Str.ofString "self", .ref x), (Str.ofString "name", .str name t), (Str.ofString "default", dv)]) X (by rfl) (by rfl) rfl R hA hfr (fun s hs => binds_K (hs ▸ X.k) rfl (by rfl) rfl (by rfl) (by rfl)) (by rfl) (by rfl) (fun A L h₁ R hA' hfr' F => ?_) kE
  walk_at "w"
  refine conv_val R (Loc.amb (by assumption) X) hA' (Loc.frames (by assumption) hfr rfl rfl) hl hj hin fun e vs h' hV fl => Raised.of (Loc.sub (by assumption)) hV fl
theorem get2S (R : Rm A 2) (X : Amb (K7 w) mg mb h) (H : HAt h x D) (hA : A.frames = some fr) (hfr : FramesAt fr h) (hn : name.length ≤ 1000) (hl : (Txt.lower name).length ≤ 1000) (hj : j < (Txt.lower name).cps.size) (hin : ctl ((Txt.lower name).cps.getD j 0)) (kE : ∀ e vs h', msgIs ctlMsg vs → Flown2 fr h e (.type "ValueError") vs h' → E (.ref e) h') : Ev (model p7 w) A (call (.ref 116) [.ref x, .str name t]) h Q E := by
  refine call_fnG (cls := .type "ValueError") (V := msgIs ctlMsg) (binds := [(Str.ofString "self", .ref x), (Str.ofString "name", .str name t), (Str.ofString "default", .none)]) X (by rfl) (by rfl) rfl R hA hfr (fun s hs => binds_K (hs ▸ X.k) rfl (by rfl) rfl (by rfl) (by rfl)) (by rfl) (by rfl) (fun A L h₁ R hA' hfr' F => ?_) kE
  walk_at "w"
  refine conv_val R (Loc.amb (by assumption) X) hA' (Loc.frames (by assumption) hfr rfl rfl) hl hj hin fun e vs h' hV fl => Raised.of (Loc.sub (by assumption)) hV fl
theorem itemS (R : Rm A 3) (X : Amb (K7 w) mg mb h) (H : HAt h x D) (hA : A.frames = some fr) (hfr : FramesAt fr h) (hn : name.length ≤ 1000) (hl : (Txt.lower name).length ≤ 1000) (hj : j < (Txt.lower name).cps.size) (hin : ctl ((Txt.lower name).cps.getD j 0)) (kE : ∀ e vs h', msgIs ctlMsg vs → Flown2 fr h e (.type "ValueError") vs h' → E (.ref e) h') : Ev (model p7 w) A (call (.ref 96) [.ref x, .str name t]) h Q E := by
  refine call_fnG (cls := .type "ValueError") (V := msgIs ctlMsg) (binds := [(Str.ofString "self", .ref x), (Str.ofString "name", .str name t)]) X (by rfl) (by rfl) rfl R hA hfr (fun s hs => BindsTo.of_eq (by rfl)) (by rfl) (by rfl) (fun A L h₁ R hA' hfr' F => ?_) kE
  walk_at "w"
  exact get2S R (Loc.amb F X) (H.keep F.sub) hA' hfr' hn hl hj hin fun e vs h' hV fl => Raised.of F.sub hV fl
theorem hasS (R : Rm A 3) (X : Amb (K7 w) mg mb h) (H : HAt h x D) (hA : A.frames = some fr) (hfr : FramesAt fr h) (hn : name.length ≤ 1000) (hl : (Txt.lower name).length ≤ 1000) (hj : j < (Txt.lower name).cps.size) (hin : ctl ((Txt.lower name).cps.getD j 0)) (kE : ∀ e vs h', msgIs ctlMsg vs → Flown2 fr h e (.type "ValueError") vs h' → E (.ref e) h') : Ev (model p7 w) A (call (.ref 103) [.ref x, .str name t]) h Q E := by
  refine call_fnG (cls := .type "ValueError") (V := msgIs ctlMsg) (binds := [(Str.ofString "self", .ref x), (Str.ofString "name", .str name t)]) X (by rfl) (by rfl) rfl R hA hfr (fun s hs => BindsTo.of_eq (by rfl)) (by rfl) (by rfl) (fun A L h₁ R hA' hfr' F => ?_) kE
  walk_at "w"
  exact get2S R (Loc.amb F X) (H.keep F.sub) hA' hfr' hn hl hj hin fun e vs h' hV fl => Raised.of F.sub hV fl
theorem allS (R : Rm A 2) (X : Amb (K7 w) mg mb h) (H : HAt h x D) (hA : A.frames = some fr) (hfr : FramesAt fr h) (hn : name.length ≤ 1000) (hl : (Txt.lower name).length ≤ 1000) (hj : j < (Txt.lower name).cps.size) (hin : ctl ((Txt.lower name).cps.getD j 0)) (kE : ∀ e vs h', msgIs ctlMsg vs → Flown2 fr h e (.type "ValueError") vs h' → E (.ref e) h') : Ev (model p7 w) A (call (.ref 108) [.ref x, .str name t]) h Q E := by
  refine call_fnGC (cls := .type "ValueError") (V := msgIs ctlMsg) (binds := [(Str.ofString "self", .ref x), (Str.ofString "name", .str name t)]) (cs := fun L => [(Str.ofString "name", L + 1)])
    X (by rfl) (by rfl) rfl R hA hfr (fun s hs => BindsTo.of_eq (by rfl)) (by rfl) (by decide +kernel) (by simp only [List.map]; decide +kernel) (fun L => by rfl) (fun A L h₁ R hA' hfr' F => ?_) kE
  walk_at "w"
  refine conv_val R (Loc.amb (by assumption) X) hA' (Loc.frames (by assumption) hfr rfl rfl) hl hj hin fun e vs h' hV fl => Raised.of (Loc.sub (by assumption)) hV fl
theorem delS (R : Rm A 2) (X : Amb (K7 w) mg mb h) (H : HAt h x D) (hA : A.frames = some fr) (hfr : FramesAt fr h) (hn : name.length ≤ 1000) (hl : (Txt.lower name).length ≤ 1000) (hj : j < (Txt.lower name).cps.size) (hin : ctl ((Txt.lower name).cps.getD j 0)) (kE : ∀ e vs h', msgIs ctlMsg vs → Flown2 fr h e (.type "ValueError") vs h' → E (.ref e) h') : Ev (model p7 w) A (call (.ref 89) [.ref x, .str name t]) h Q E := by
  refine call_fnGC (cls := .type "ValueError") (V := msgIs ctlMsg) (binds := [(Str.ofString "self", .ref x), (Str.ofString "name", .str name t)]) (cs := fun L => [(Str.ofString "name", L + 1)])
    X (by rfl) (by rfl) rfl R hA hfr (fun s hs => BindsTo.of_eq (by rfl)) (by rfl) (by decide +kernel) (by simp only [List.map]; decide +kernel) (fun L => by rfl) (fun A L h₁ R hA' hfr' F => ?_) kE
  walk_at "w"
  refine conv_val R (Loc.amb (by assumption) X) hA' (Loc.frames (by assumption) hfr rfl rfl) hl hj hin fun e vs h' hV fl => Raised.of (Loc.sub (by assumption)) hV fl
theorem get3B {dv : Value} (R : Rm A 2) (X : Amb (K7 w) mg mb h) (H : HAt h x D) (hA : A.frames = some fr) (hfr : FramesAt fr h) (kE : ∀ e vs h', msgIs noTxt vs → Flown2 fr h e (.type "AssertionError") vs h' → E (.ref e) h') : Ev (model p7 w) A (call (.ref 116) [.ref x, .bytes bAB t, dv]) h Q E := by
  refine call_fnG (cls := .type "AssertionError") (V := msgIs noTxt) (binds := [(Str.ofString "self", .ref x), (Str.ofString "name", .bytes bAB t), (Str.ofString "default", dv)]) X (by rfl) (by rfl) rfl R hA hfr (fun s hs => binds_K (hs ▸ X.k) rfl (by rfl) rfl (by rfl) (by rfl)) (by rfl) (by rfl) (fun A L h₁ R hA' hfr' F => ?_) kE
  walk_at "w"
  refine conv_asr R (Loc.amb (by assumption) X) hA' (Loc.frames (by assumption) hfr rfl rfl) fun e vs h' hV fl => Raised.of (Loc.sub (by assumption)) hV fl
theorem get2B (R : Rm A 2) (X : Amb (K7 w) mg mb h) (H : HAt h x D) (hA : A.frames = some fr) (hfr : FramesAt fr h) (kE : ∀ e vs h', msgIs noTxt vs → Flown2 fr h e (.type "AssertionError") vs h' → E (.ref e) h') : Ev (model p7 w) A (call (.ref 116) [.ref x, .bytes bAB t]) h Q E := by
  refine call_fnG (cls := .type "AssertionError") (V := msgIs noTxt) (binds := [(Str.ofString "self", .ref x), (Str.ofString "name", .bytes bAB t), (Str.ofString "default", .none)]) X (by rfl) (by rfl) rfl R hA hfr (fun s hs => binds_K (hs ▸ X.k) rfl (by rfl) rfl (by rfl) (by rfl)) (by rfl) (by rfl) (fun A L h₁ R hA' hfr' F => ?_) kE
  walk_at "w"
  refine conv_asr R (Loc.amb (by assumption) X) hA' (Loc.frames (by assumption) hfr rfl rfl) fun e vs h' hV fl => Raised.of (Loc.sub (by assumption)) hV fl
theorem itemB (R : Rm A 3) (X : Amb (K7 w) mg mb h) (H : HAt h x D) (hA : A.frames = some fr) (hfr : FramesAt fr h) (kE : ∀ e vs h', msgIs noTxt vs → Flown2 fr h e (.type "AssertionError") vs h' → E (.ref e) h') : Ev (model p7 w) A (call (.ref 96) [.ref x, .bytes bAB t]) h Q E := by
  refine call_fnG (cls := .type "AssertionError") (V := msgIs noTxt) (binds := [(Str.ofString "self", .ref x), (Str.ofString "name", .bytes bAB t)]) X (by rfl) (by rfl) rfl R hA hfr (fun s hs => BindsTo.of_eq (by rfl)) (by rfl) (by rfl) (fun A L h₁ R hA' hfr' F => ?_) kE
  walk_at "w"
  exact get2B R (Loc.amb F X) (H.keep F.sub) hA' hfr' fun e vs h' hV fl => Raised.of F.sub hV fl
theorem hasB (R : Rm A 3) (X : Amb (K7 w) mg mb h) (H : HAt h x D) (hA : A.frames = some fr) (hfr : FramesAt fr h) (kE : ∀ e vs h', msgIs noTxt vs → Flown2 fr h e (.type "AssertionError") vs h' → E (.ref e) h') : Ev (model p7 w) A (call (.ref 103) [.ref x, .bytes bAB t]) h Q E := by
  refine call_fnG (cls := .type "AssertionError") (V := msgIs noTxt) (binds := [(Str.ofString "self", .ref x), (Str.ofString "name", .bytes bAB t)]) X (by rfl) (by rfl) rfl R hA hfr (fun s hs => BindsTo.of_eq (by rfl)) (by rfl) (by rfl) (fun A L h₁ R hA' hfr' F => ?_) kE
  walk_at "w"
  exact get2B R (Loc.amb F X) (H.keep F.sub) hA' hfr' fun e vs h' hV fl => Raised.of F.sub hV fl
theorem allB (R : Rm A 2) (X : Amb (K7 w) mg mb h) (H : HAt h x D) (hA : A.frames = some fr) (hfr : FramesAt fr h) (kE : ∀ e vs h', msgIs noTxt vs → Flown2 fr h e (.type "AssertionError") vs h' → E (.ref e) h') : Ev (model p7 w) A (call (.ref 108) [.ref x, .bytes bAB t]) h Q E := by
  refine call_fnGC (cls := .type "AssertionError") (V := msgIs noTxt) (binds := [(Str.ofString "self", .ref x), (Str.ofString "name", .bytes bAB t)]) (cs := fun L => [(Str.ofString "name", L + 1)])
    X (by rfl) (by rfl) rfl R hA hfr (fun s hs => BindsTo.of_eq (by rfl)) (by rfl) (by decide +kernel) (by simp only [List.map]; decide +kernel) (fun L => by rfl) (fun A L h₁ R hA' hfr' F => ?_) kE
  walk_at "w"
  refine conv_asr R (Loc.amb (by assumption) X) hA' (Loc.frames (by assumption) hfr rfl rfl) fun e vs h' hV fl => Raised.of (Loc.sub (by assumption)) hV fl
theorem delB (R : Rm A 2) (X : Amb (K7 w) mg mb h) (H : HAt h x D) (hA : A.frames = some fr) (hfr : FramesAt fr h) (kE : ∀ e vs h', msgIs noTxt vs → Flown2 fr h e (.type "AssertionError") vs h' → E (.ref e) h') : Ev (model p7 w) A (call (.ref 89) [.ref x, .bytes bAB t]) h Q E := by
  refine call_fnGC (cls := .type "AssertionError") (V := msgIs noTxt) (binds := [(Str.ofString "self", .ref x), (Str.ofString "name", .bytes bAB t)]) (cs := fun L => [(Str.ofString "name", L + 1)])
    X (by rfl) (by rfl) rfl R hA hfr (fun s hs => BindsTo.of_eq (by rfl)) (by rfl) (by decide +kernel) (by simp only [List.map]; decide +kernel) (fun L => by rfl) (fun A L h₁ R hA' hfr' F => ?_) kE
  walk_at "w"
  refine conv_asr R (Loc.amb (by assumption) X) hA' (Loc.frames (by assumption) hfr rfl rfl) fun e vs h' hV fl => Raised.of (Loc.sub (by assumption)) hV fl
end

theorem mt_getall (w : World) : findIn (K7 w) (.ref 169) (Str.ofString "get_all") = some (some (.ref 108)) := by rfl
local macro_rules | `(tactic| walk_at "mt") => `(tactic| with_reducible first | exact mt_conv _ | exact mt_get _ | exact mt_items _ | exact mt_getall _)
section
variable {w : World} {A : Around} {g h : Heap} {E : Value → Heap → Prop} {mg mb : Str → Option Value} {Q : Value → Heap → Prop} {x D : Addr} {t td : Tok} {fr : List Env} {name : Str} {j : Nat} {door : Int}
theorem sub_h {v : Value} {value : Expr} {y : Str} {yp : Pos} (X : Amb (K7 w) mg mb h) (H : HAt h x D) (k : Ev (model p7 w) A.in1 (call (.ref 96) [.ref x, v]) h Q E) : Ev (model p7 w) A (subscriptTail value (.Name y yp) (.ref x) v) h Q E := by
  obtain ⟨dx, hash, t, p, q⟩ := H
  exact eSubI X.k p q (by rfl) (by rfl) (by rfl) k
theorem in_h {v : Value} (X : Amb (K7 w) mg mb h) (H : HAt h x D) (k : Ev (model p7 w) A (call (.ref 103) [.ref x, v]) h (fun r h' => Ev (model p7 w) A (truthy r) h' (fun b => Q (.bool b)) E) E) : Ev (model p7 w) A (compareOp .In v (.ref x)) h Q E := by
  obtain ⟨dx, hash, t, p, q⟩ := H
  exact eIn X.k p q (by rfl) (by rfl) k
theorem del_h {v : Value} {Q : Unit → Heap → Prop} (X : Amb (K7 w) mg mb h) (H : HAt h x D) (k : Ev (model p7 w) A (call (.ref 89) [.ref x, v]) h (fun _ => Q ()) E) : Ev (model p7 w) A (delItem (.ref x) v) h Q E := by
  obtain ⟨dx, hash, t, p, q⟩ := H
  exact eDelI X.k p q (by rfl) (by rfl) (by rfl) k
theorem Rm.to {A : Around} {n : Nat} (R : Rm A n) (k : Nat) (hk : k ≤ n := by omega) : Rm A k := R.le hk
/-- the end of a suite of told: a new list, then the name goes -/
theorem told_end {L : Addr} {h₁ h₇ : Heap} {m : Str → Option Value} (F0 : Loc h L [] m [] h₁) {m' : Str → Option Value} (F7 : Loc (hideAll h (FrL fr)) L [] m' [] h₇) (hfr : FramesAt fr h) (up : UpBut L h₁ h₇) :
    ∃ g', Loc g' L [] m' [] h₇ ∧ Sub (hideAll h (FrL fr)) g' ∧ ∀ D' vs h₈, Loc g' L [] m' [(D', listO vs 0)] h₈ → (∃ mc, h₈.Ns L mc) ∧ ∀ h₉, Heap.ExtBut L h₈ h₉ → Sub (hideAll h (FrL fr)) h₉ ∧ h.UpToSlots h₉ ∧ h.get? D' = none ∧ h₉.get? D' = some (listO vs 0) := by
  obtain ⟨g', F', s, hfz⟩ := F7.freeze
  refine ⟨g', F', s, fun D' vs h₈ F8 => ⟨let ⟨m₀, n, _⟩ := F8.ns; ⟨m₀, n⟩, fun h₉ e => ?_⟩⟩
  have up' : ∀ b o, h.get? b = some o → (∀ vs, o.data ≠ .fields vs) → ∃ sl, g'.get? b = some { o with slots := sl } := fun b o q d => by
    have hb : b ≠ L := fun e => by rw [e, F0.gL] at q; cases q
    obtain ⟨sl, r⟩ := up b o hb (F0.sub _ _ q) d
    exact ⟨sl, hfz b _ r hb (fun p hp => by cases hp) (fun y hy => by cases hy)⟩
  have ne : ∀ b o, g'.get? b = some o → h₉.get? b = some o := fun b o q => e _ _ (fun z => by rw [z, F8.gL] at q; cases q) (F8.sub _ _ q)
  refine ⟨s.tr ne, fun b o q d => let ⟨sl, r⟩ := up' b o q d; ⟨sl, ne _ _ r⟩, ?_, e _ _ (F8.led _ (.head _)).2.1 (F8.get (.head _))⟩
  have hn := (F8.led _ (.head _)).2.2
  cases q : h.get? D' with
  | none => rfl
  | some o =>
    by_cases hm : D' ∈ FrL fr
    · obtain ⟨env, he, hf⟩ := List.mem_filterMap.mp hm
      obtain ⟨_, L', o', hf', ho', hd'⟩ := hfr env he
      rw [hf] at hf'; cases hf'
      rw [q] at ho'; cases ho'
      obtain ⟨sl, r⟩ := up' _ _ q hd'
      rw [hn] at r; cases r
    · have := s _ _ (hideAll_get _ q hm)
      rw [hn] at this; cases this
set_option maxHeartbeats 4000000 in
theorem toldS (R : Rm A 6) (X : Amb (K7 w) mg mb g) (hg : Sub g h) (hgf : ∀ a ∈ FrL fr, g.get? a = none) (H : HAt g x D) (hA : A.frames = some fr) (hfr : FramesAt fr h) (hn : name.length ≤ 1000) (hl : (Txt.lower name).length ≤ 1000) (hj : j < (Txt.lower name).cps.size) (hin : ctl ((Txt.lower name).cps.getD j 0)) 
    (k : ∀ D' n t1 t2 h', Sub (hideAll h (FrL fr)) h' → h.UpToSlots h' → h.get? D' = none → h'.get? D' = some (listO [.str (Str.ofString "refused") t1, .str ctlMsg t2] n) → Q (.ref D') h') :
    Ev (model p7 w) A (call (.ref 199) [.ref x, .int door td, .str name t]) h Q E := by
  refine call_fnG (cls := .none) (V := fun _ => False) (binds := [(Str.ofString "h", .ref x), (Str.ofString "door", .int door td), (Str.ofString "name", .str name t)]) (X.keep hg) (by rfl) (by rfl) rfl R hA hfr (fun s hs => BindsTo.of_eq (by rfl)) (by rfl) (by rfl) (fun A L h₁ R hA' hfr' F0 => ?_) (fun _ _ _ hV => hV.elim)
  have sg : Sub g (hideAll h (FrL fr)) := sub_hide hg hgf
  have F := F0.less (g' := hideAll h (FrL fr)) subHide
  have X := X.keep sg
  have H := H.keep sg
  refine execs_cons ?_
  refine Try_two (C := fun T vs => T = "ValueError" ∧ msgIs ctlMsg vs) F hA' rfl rfl rfl rfl rfl (fun a ha => ?_) (fun p hp => by cases hp) (fun y c hc => by cases hc) (fun h₅ F5 Q' q e => Name_B (F5.amb X) (n_ValueError _) bb_ValueError (by decide) q) (fun h₅ F5 Q' q e => Name_B (F5.amb X) (n_AssertionError _) bb_AssertionError (by decide) q) (fun T vs hT => by rw [hT.1]; simp) ?_ (fun vs e t h₇ hT F7 ex tp up => ?_) (fun vs e t h₇ hT F7 ex tp up => ?_)
  · rcases List.mem_cons.mp (show a ∈ L :: FrL fr from ha) with rfl | ha
    · exact none_sub subHide F0.gL
    · exact hideAll_none _ ha
  · have hH : HAt h₁ x D := H.keep F.sub
    have hX : Amb (K7 w) mg mb h₁ := F.amb X
    walk_at "w"
    · refine sub_h hX hH (itemS (Rm.to R.in1 3) hX hH hA' hfr' hn hl hj hin fun e vs h' hV fl => ⟨e, _, vs, rfl, ⟨rfl, hV⟩, fl⟩)
    · refine get3S (R.to 2) hX hH hA' hfr' hn hl hj hin fun e vs h' hV fl => ⟨e, _, vs, rfl, ⟨rfl, hV⟩, fl⟩
    · refine allS (R.to 2) hX hH hA' hfr' hn hl hj hin fun e vs h' hV fl => ⟨e, _, vs, rfl, ⟨rfl, hV⟩, fl⟩
    · refine in_h hX hH (hasS (R.to 3) hX hH hA' hfr' hn hl hj hin fun e vs h' hV fl => ⟨e, _, vs, rfl, ⟨rfl, hV⟩, fl⟩)
    · refine del_h hX hH (delS (R.to 2) hX hH hA' hfr' hn hl hj hin fun e vs h' hV fl => ⟨e, _, vs, rfl, ⟨rfl, hV⟩, fl⟩)
  · obtain ⟨tm, rfl⟩ := hT.2
    obtain ⟨g', F', sg', kk⟩ := told_end F0 F7 hfr up
    clear F F7
    have X := X.keep sg'
    walk_at "w"
    refine eStr_exc PySem.F.excStr_ValueError (by show A.units + 2 < cLine; have := R.un; omega) ex tp ?_
    walk_at "w"
    rename_i D' h₈ F8
    exact ⟨(kk D' _ h₈ F8).1, fun h₉ ee => let ⟨a, b, c, d⟩ := (kk D' _ h₈ F8).2 h₉ ee; k D' 0 _ _ h₉ a b c d⟩
  · exact absurd hT.1 (by decide)
set_option maxHeartbeats 4000000 in
theorem toldB (R : Rm A 6) (X : Amb (K7 w) mg mb g) (hg : Sub g h) (hgf : ∀ a ∈ FrL fr, g.get? a = none) (H : HAt g x D) (hA : A.frames = some fr) (hfr : FramesAt fr h) 
    (k : ∀ D' n t1 t2 h', Sub (hideAll h (FrL fr)) h' → h.UpToSlots h' → h.get? D' = none → h'.get? D' = some (listO [.str (Str.ofString "no text") t1, .str noTxt t2] n) → Q (.ref D') h') :
    Ev (model p7 w) A (call (.ref 199) [.ref x, .int door td, .bytes bAB t]) h Q E := by
  refine call_fnG (cls := .none) (V := fun _ => False) (binds := [(Str.ofString "h", .ref x), (Str.ofString "door", .int door td), (Str.ofString "name", .bytes bAB t)]) (X.keep hg) (by rfl) (by rfl) rfl R hA hfr (fun s hs => BindsTo.of_eq (by rfl)) (by rfl) (by rfl) (fun A L h₁ R hA' hfr' F0 => ?_) (fun _ _ _ hV => hV.elim)
  have sg : Sub g (hideAll h (FrL fr)) := sub_hide hg hgf
  have F := F0.less (g' := hideAll h (FrL fr)) subHide
  have X := X.keep sg
  have H := H.keep sg
  refine execs_cons ?_
  refine Try_two (C := fun T vs => T = "AssertionError" ∧ msgIs noTxt vs) F hA' rfl rfl rfl rfl rfl (fun a ha => ?_) (fun p hp => by cases hp) (fun y c hc => by cases hc) (fun h₅ F5 Q' q e => Name_B (F5.amb X) (n_ValueError _) bb_ValueError (by decide) q) (fun h₅ F5 Q' q e => Name_B (F5.amb X) (n_AssertionError _) bb_AssertionError (by decide) q) (fun T vs hT => by rw [hT.1]; simp) ?_ (fun vs e t h₇ hT F7 ex tp up => ?_) (fun vs e t h₇ hT F7 ex tp up => ?_)
  · rcases List.mem_cons.mp (show a ∈ L :: FrL fr from ha) with rfl | ha
    · exact none_sub subHide F0.gL
    · exact hideAll_none _ ha
  · have hH : HAt h₁ x D := H.keep F.sub
    have hX : Amb (K7 w) mg mb h₁ := F.amb X
    walk_at "w"
    · refine sub_h hX hH (itemB (Rm.to R.in1 3) hX hH hA' hfr' fun e vs h' hV fl => ⟨e, _, vs, rfl, ⟨rfl, hV⟩, fl⟩)
    · refine get3B (R.to 2) hX hH hA' hfr' fun e vs h' hV fl => ⟨e, _, vs, rfl, ⟨rfl, hV⟩, fl⟩
    · refine allB (R.to 2) hX hH hA' hfr' fun e vs h' hV fl => ⟨e, _, vs, rfl, ⟨rfl, hV⟩, fl⟩
    · refine in_h hX hH (hasB (R.to 3) hX hH hA' hfr' fun e vs h' hV fl => ⟨e, _, vs, rfl, ⟨rfl, hV⟩, fl⟩)
    · refine del_h hX hH (delB (R.to 2) hX hH hA' hfr' fun e vs h' hV fl => ⟨e, _, vs, rfl, ⟨rfl, hV⟩, fl⟩)
  · exact absurd hT.1 (by decide)
  · obtain ⟨tm, rfl⟩ := hT.2
    obtain ⟨g', F', sg', kk⟩ := told_end F0 F7 hfr up
    clear F F7
    have X := X.keep sg'
    walk_at "w"
    refine eStr_exc PySem.F.excStr_AssertionError (by show A.units + 2 < cLine; have := R.un; omega) ex tp ?_
    walk_at "w"
    rename_i D' h₈ F8
    exact ⟨(kk D' _ h₈ F8).1, fun h₉ ee => let ⟨a, b, c, d⟩ := (kk D' _ h₈ F8).2 h₉ ee; k D' 0 _ _ h₉ a b c d⟩
end

section
variable {w : World} {A : Around} {g h : Heap} {E : Value → Heap → Prop} {mg mb : Str → Option Value} {Q : Value → Heap → Prop} {x D : Addr} {t td : Tok} {fr : List Env} {name : Str}
theorem item_call {ps : List (Str × Str)} (R : Rm A 3) (X : Amb (K7 w) mg mb h) (H : HAt h x D) (hP : Pairs h D ps) (hn : name.length ≤ 1000) (hl : (Txt.lower name).length ≤ 1000) (hc : clean (Txt.lower name))
    (k1 : ∀ p t' h', ps.find? (sameLow name) = some p → Sub h h' → Q (.str p.2 t') h') (k2 : ps.find? (sameLow name) = none → ∀ h', Sub h h' → Q .none h') : Ev (model p7 w) A (call (.ref 96) [.ref x, .str name t]) h Q E := by
  refine call_fn (binds := [(Str.ofString "self", .ref x), (Str.ofString "name", .str name t)]) X (by rfl) (by rfl) rfl R (fun s hs => BindsTo.of_eq (by rfl)) (by rfl) (by rfl) (fun A L h₁ R F => ?_)
  walk_at "w"
  have hP' : Pairs h₁ D ps := let ⟨o, us, hD, hL, hr⟩ := hP.ex; ⟨⟨o, us, F.sub _ _ hD, hL, hr.keep F.sub⟩, hP.len⟩
  exact get_call2 R (F.amb X) (H.keep F.sub) hP' hn hl hc (fun p t' h' e s => k1 p t' h' e (F.sub.tr s)) fun e h' s => k2 e h' (F.sub.tr s)
set_option maxHeartbeats 4000000 in
theorem told_0 {us : List Value} {n : Nat} {ps : List (Str × Str)} (R : Rm A 6) (X : Amb (K7 w) mg mb g) (hg : Sub g h) (hgf : ∀ a ∈ FrL fr, g.get? a = none) (H : HAt g x D) (hD0 : g.get? D = none) (hD : h.get? D = some (listO us n)) (hr : RdAll g us (ps.map pairD)) (hps : ∀ p ∈ ps, p.1.length ≤ 1000) (hpl : ps.length ≤ 1000)
    (hA : A.frames = some fr) (hfr : FramesAt fr h) (hn : name.length ≤ 1000) (hl : (Txt.lower name).length ≤ 1000) (hc : clean (Txt.lower name))
    (k1 : ∀ p t' h', ps.find? (sameLow name) = some p → Sub h h' → Q (.str p.2 t') h') (k2 : ps.find? (sameLow name) = none → ∀ h', Sub h h' → Q .none h') :
    Ev (model p7 w) A (call (.ref 199) [.ref x, .int 0 td, .str name t]) h Q E := by
  refine call_fnG (cls := .none) (V := fun _ => False) (binds := [(Str.ofString "h", .ref x), (Str.ofString "door", .int 0 td), (Str.ofString "name", .str name t)]) (X.keep hg) (by rfl) (by rfl) rfl R hA hfr (fun s hs => BindsTo.of_eq (by rfl)) (by rfl) (by rfl) (fun A L h₁ R hA' hfr' F0 => ?_) (fun _ _ _ hV => hV.elim)
  have sg : Sub g (hideAll h (D :: FrL fr)) := sub_hide hg fun a ha => by
    rcases List.mem_cons.mp ha with rfl | ha
    · exact hD0
    · exact hgf a ha
  have F := F0.less (g' := hideAll h (D :: FrL fr)) subHide
  have hDL : D ≠ L := fun e => by rw [e, F0.gL] at hD; cases hD
  have X0 := X
  have H0 := H
  have X := X.keep sg
  have H := H.keep sg
  refine execs_cons ?_
  refine Try_two (C := fun T vs => False) F hA' rfl rfl rfl rfl rfl (fun a ha => ?_) (fun p hp => by cases hp) (fun y c hc => by cases hc) (fun h₅ F5 Q' q e => Name_B (F5.amb X) (n_ValueError _) bb_ValueError (by decide) q) (fun h₅ F5 Q' q e => Name_B (F5.amb X) (n_AssertionError _) bb_AssertionError (by decide) q) (fun T vs hT => hT.elim) ?_ (fun vs e t h₇ hT F7 ex tp up => hT.elim) (fun vs e t h₇ hT F7 ex tp up => hT.elim)
  · rcases List.mem_cons.mp (show a ∈ L :: FrL fr from ha) with rfl | ha
    · exact none_sub subHide F0.gL
    · exact hideAll_none _ (.tail _ ha)
  · have hH : HAt h₁ x D := H.keep F.sub
    have hX : Amb (K7 w) mg mb h₁ := F.amb X
    have hP : Pairs h₁ D ps := ⟨⟨_, us, F0.sub _ _ hD, isL_listO _ _, (hr.keep hg).keep F0.sub⟩, hps⟩
    walk_at "w"
    · refine sub_h hX hH (item_call (Rm.to R.in1 3) hX hH hP hn hl hc (fun p t' h' e s => ?_) fun e h' s => ?_)
      · walk_at "w"
        exact k1 p t' h' e (F0.sub.tr s)
      · walk_at "w"
        exact k2 e h' (F0.sub.tr s)
    · exact absurd trivial (by assumption)
set_option maxHeartbeats 4000000 in
theorem told_1 {us : List Value} {n : Nat} {ps : List (Str × Str)} (R : Rm A 6) (X : Amb (K7 w) mg mb g) (hg : Sub g h) (hgf : ∀ a ∈ FrL fr, g.get? a = none) (H : HAt g x D) (hD0 : g.get? D = none) (hD : h.get? D = some (listO us n)) (hr : RdAll g us (ps.map pairD)) (hps : ∀ p ∈ ps, p.1.length ≤ 1000) (hpl : ps.length ≤ 1000)
    (hA : A.frames = some fr) (hfr : FramesAt fr h) (hn : name.length ≤ 1000) (hl : (Txt.lower name).length ≤ 1000) (hc : clean (Txt.lower name))
    (k1 : ∀ p t' h', ps.find? (sameLow name) = some p → Sub h h' → Q (.str p.2 t') h') (k2 : ps.find? (sameLow name) = none → ∀ t' h', Sub h h' → Q (.str (Str.ofString "none") t') h') :
    Ev (model p7 w) A (call (.ref 199) [.ref x, .int 1 td, .str name t]) h Q E := by
  refine call_fnG (cls := .none) (V := fun _ => False) (binds := [(Str.ofString "h", .ref x), (Str.ofString "door", .int 1 td), (Str.ofString "name", .str name t)]) (X.keep hg) (by rfl) (by rfl) rfl R hA hfr (fun s hs => BindsTo.of_eq (by rfl)) (by rfl) (by rfl) (fun A L h₁ R hA' hfr' F0 => ?_) (fun _ _ _ hV => hV.elim)
  have sg : Sub g (hideAll h (D :: FrL fr)) := sub_hide hg fun a ha => by
    rcases List.mem_cons.mp ha with rfl | ha
    · exact hD0
    · exact hgf a ha
  have F := F0.less (g' := hideAll h (D :: FrL fr)) subHide
  have hDL : D ≠ L := fun e => by rw [e, F0.gL] at hD; cases hD
  have X0 := X
  have H0 := H
  have X := X.keep sg
  have H := H.keep sg
  refine execs_cons ?_
  refine Try_two (C := fun T vs => False) F hA' rfl rfl rfl rfl rfl (fun a ha => ?_) (fun p hp => by cases hp) (fun y c hc => by cases hc) (fun h₅ F5 Q' q e => Name_B (F5.amb X) (n_ValueError _) bb_ValueError (by decide) q) (fun h₅ F5 Q' q e => Name_B (F5.amb X) (n_AssertionError _) bb_AssertionError (by decide) q) (fun T vs hT => hT.elim) ?_ (fun vs e t h₇ hT F7 ex tp up => hT.elim) (fun vs e t h₇ hT F7 ex tp up => hT.elim)
  · rcases List.mem_cons.mp (show a ∈ L :: FrL fr from ha) with rfl | ha
    · exact none_sub subHide F0.gL
    · exact hideAll_none _ (.tail _ ha)
  · have hH : HAt h₁ x D := H.keep F.sub
    have hX : Amb (K7 w) mg mb h₁ := F.amb X
    have hP : Pairs h₁ D ps := ⟨⟨_, us, F0.sub _ _ hD, isL_listO _ _, (hr.keep hg).keep F0.sub⟩, hps⟩
    walk_at "w"
    · refine get_call3 (R.to 2) hX hH hP hn hl hc (fun p t' h' e s => ?_) fun e h' s => ?_
      · walk_at "w"
        exact k1 p t' h' e (F0.sub.tr s)
      · walk_at "w"
        exact k2 e _ h' (F0.sub.tr s)
    · exact absurd trivial (by assumption)
set_option maxHeartbeats 4000000 in
theorem told_2 {us : List Value} {n : Nat} {ps : List (Str × Str)} (R : Rm A 6) (X : Amb (K7 w) mg mb g) (hg : Sub g h) (hgf : ∀ a ∈ FrL fr, g.get? a = none) (H : HAt g x D) (hD0 : g.get? D = none) (hD : h.get? D = some (listO us n)) (hr : RdAll g us (ps.map pairD)) (hps : ∀ p ∈ ps, p.1.length ≤ 1000) (hpl : ps.length ≤ 1000)
    (hA : A.frames = some fr) (hfr : FramesAt fr h) (hn : name.length ≤ 1000) (hl : (Txt.lower name).length ≤ 1000) (hc : clean (Txt.lower name))
    (k : ∀ D' ys e h', Sub h h' → h.get? D' = none → h'.get? D' = some (listO ys e) → RdAll h' ys ((ps.filter (sameLow name)).map fun p => .str p.2) → Q (.ref D') h') :
    Ev (model p7 w) A (call (.ref 199) [.ref x, .int 2 td, .str name t]) h Q E := by
  refine call_fnG (cls := .none) (V := fun _ => False) (binds := [(Str.ofString "h", .ref x), (Str.ofString "door", .int 2 td), (Str.ofString "name", .str name t)]) (X.keep hg) (by rfl) (by rfl) rfl R hA hfr (fun s hs => BindsTo.of_eq (by rfl)) (by rfl) (by rfl) (fun A L h₁ R hA' hfr' F0 => ?_) (fun _ _ _ hV => hV.elim)
  have sg : Sub g (hideAll h (D :: FrL fr)) := sub_hide hg fun a ha => by
    rcases List.mem_cons.mp ha with rfl | ha
    · exact hD0
    · exact hgf a ha
  have F := F0.less (g' := hideAll h (D :: FrL fr)) subHide
  have hDL : D ≠ L := fun e => by rw [e, F0.gL] at hD; cases hD
  have X0 := X
  have H0 := H
  have X := X.keep sg
  have H := H.keep sg
  refine execs_cons ?_
  refine Try_two (C := fun T vs => False) F hA' rfl rfl rfl rfl rfl (fun a ha => ?_) (fun p hp => by cases hp) (fun y c hc => by cases hc) (fun h₅ F5 Q' q e => Name_B (F5.amb X) (n_ValueError _) bb_ValueError (by decide) q) (fun h₅ F5 Q' q e => Name_B (F5.amb X) (n_AssertionError _) bb_AssertionError (by decide) q) (fun T vs hT => hT.elim) ?_ (fun vs e t h₇ hT F7 ex tp up => hT.elim) (fun vs e t h₇ hT F7 ex tp up => hT.elim)
  · rcases List.mem_cons.mp (show a ∈ L :: FrL fr from ha) with rfl | ha
    · exact none_sub subHide F0.gL
    · exact hideAll_none _ (.tail _ ha)
  · have hH : HAt h₁ x D := H.keep F.sub
    have hX : Amb (K7 w) mg mb h₁ := F.amb X
    have hP : Pairs h₁ D ps := ⟨⟨_, us, F0.sub _ _ hD, isL_listO _ _, (hr.keep hg).keep F0.sub⟩, hps⟩
    walk_at "w"
    · refine getall_call (R.to 2) hX hH (F0.sub _ _ hD) (isL_listO _ _) ((hr.keep hg).keep F0.sub) hps hpl hn hl hc fun D' ys e h' s a b c => ?_
      walk_at "w"
      exact k D' ys e h' (F0.sub.tr s) (none_sub F0.sub a) b c
    · exact absurd trivial (by assumption)
set_option maxHeartbeats 4000000 in
theorem told_3 {us : List Value} {n : Nat} {ps : List (Str × Str)} (R : Rm A 6) (X : Amb (K7 w) mg mb g) (hg : Sub g h) (hgf : ∀ a ∈ FrL fr, g.get? a = none) (H : HAt g x D) (hD0 : g.get? D = none) (hD : h.get? D = some (listO us n)) (hr : RdAll g us (ps.map pairD)) (hps : ∀ p ∈ ps, p.1.length ≤ 1000) (hpl : ps.length ≤ 1000)
    (hA : A.frames = some fr) (hfr : FramesAt fr h) (hn : name.length ≤ 1000) (hl : (Txt.lower name).length ≤ 1000) (hc : clean (Txt.lower name))
    (k : ∀ h', Sub h h' → Q (.bool (ps.find? (sameLow name)).isSome) h') :
    Ev (model p7 w) A (call (.ref 199) [.ref x, .int 3 td, .str name t]) h Q E := by
  refine call_fnG (cls := .none) (V := fun _ => False) (binds := [(Str.ofString "h", .ref x), (Str.ofString "door", .int 3 td), (Str.ofString "name", .str name t)]) (X.keep hg) (by rfl) (by rfl) rfl R hA hfr (fun s hs => BindsTo.of_eq (by rfl)) (by rfl) (by rfl) (fun A L h₁ R hA' hfr' F0 => ?_) (fun _ _ _ hV => hV.elim)
  have sg : Sub g (hideAll h (D :: FrL fr)) := sub_hide hg fun a ha => by
    rcases List.mem_cons.mp ha with rfl | ha
    · exact hD0
    · exact hgf a ha
  have F := F0.less (g' := hideAll h (D :: FrL fr)) subHide
  have hDL : D ≠ L := fun e => by rw [e, F0.gL] at hD; cases hD
  have X0 := X
  have H0 := H
  have X := X.keep sg
  have H := H.keep sg
  refine execs_cons ?_
  refine Try_two (C := fun T vs => False) F hA' rfl rfl rfl rfl rfl (fun a ha => ?_) (fun p hp => by cases hp) (fun y c hc => by cases hc) (fun h₅ F5 Q' q e => Name_B (F5.amb X) (n_ValueError _) bb_ValueError (by decide) q) (fun h₅ F5 Q' q e => Name_B (F5.amb X) (n_AssertionError _) bb_AssertionError (by decide) q) (fun T vs hT => hT.elim) ?_ (fun vs e t h₇ hT F7 ex tp up => hT.elim) (fun vs e t h₇ hT F7 ex tp up => hT.elim)
  · rcases List.mem_cons.mp (show a ∈ L :: FrL fr from ha) with rfl | ha
    · exact none_sub subHide F0.gL
    · exact hideAll_none _ (.tail _ ha)
  · have hH : HAt h₁ x D := H.keep F.sub
    have hX : Amb (K7 w) mg mb h₁ := F.amb X
    have hP : Pairs h₁ D ps := ⟨⟨_, us, F0.sub _ _ hD, isL_listO _ _, (hr.keep hg).keep F0.sub⟩, hps⟩
    walk_at "w"
    · refine in_h hX hH (has_call (R.to 3) hX hH hP hn hl hc fun h' s => ?_)
      walk_at "w"
      exact k h' (F0.sub.tr s)
    · exact absurd trivial (by assumption)
set_option maxHeartbeats 4000000 in
theorem told_4 {us : List Value} {n : Nat} {ps : List (Str × Str)} (R : Rm A 6) (X : Amb (K7 w) mg mb g) (hg : Sub g h) (hgf : ∀ a ∈ FrL fr, g.get? a = none) (H : HAt g x D) (hD0 : g.get? D = none) (hD : h.get? D = some (listO us n)) (hr : RdAll g us (ps.map pairD)) (hps : ∀ p ∈ ps, p.1.length ≤ 1000) (hpl : ps.length ≤ 1000)
    (hA : A.frames = some fr) (hfr : FramesAt fr h) (hn : name.length ≤ 1000) (hl : (Txt.lower name).length ≤ 1000) (hc : clean (Txt.lower name))
    (k : ∀ us' n' t' h', Heap.ExtBut D h h' → h'.get? D = some (listO us' n') → RdAll g us' ((others name ps).map pairD) → Q (.str (Str.ofString "deleted") t') h') :
    Ev (model p7 w) A (call (.ref 199) [.ref x, .int 4 td, .str name t]) h Q E := by
  refine call_fnG (cls := .none) (V := fun _ => False) (binds := [(Str.ofString "h", .ref x), (Str.ofString "door", .int 4 td), (Str.ofString "name", .str name t)]) (X.keep hg) (by rfl) (by rfl) rfl R hA hfr (fun s hs => BindsTo.of_eq (by rfl)) (by rfl) (by rfl) (fun A L h₁ R hA' hfr' F0 => ?_) (fun _ _ _ hV => hV.elim)
  have sg : Sub g (hideAll h (D :: FrL fr)) := sub_hide hg fun a ha => by
    rcases List.mem_cons.mp ha with rfl | ha
    · exact hD0
    · exact hgf a ha
  have F := F0.less (g' := hideAll h (D :: FrL fr)) subHide
  have hDL : D ≠ L := fun e => by rw [e, F0.gL] at hD; cases hD
  have X0 := X
  have H0 := H
  have X := X.keep sg
  have H := H.keep sg
  refine execs_cons ?_
  refine Try_two (C := fun T vs => False) F hA' rfl rfl rfl rfl rfl (fun a ha => ?_) (fun p hp => by cases hp) (fun y c hc => by cases hc) (fun h₅ F5 Q' q e => Name_B (F5.amb X) (n_ValueError _) bb_ValueError (by decide) q) (fun h₅ F5 Q' q e => Name_B (F5.amb X) (n_AssertionError _) bb_AssertionError (by decide) q) (fun T vs hT => hT.elim) ?_ (fun vs e t h₇ hT F7 ex tp up => hT.elim) (fun vs e t h₇ hT F7 ex tp up => hT.elim)
  · rcases List.mem_cons.mp (show a ∈ L :: FrL fr from ha) with rfl | ha
    · exact none_sub subHide F0.gL
    · exact hideAll_none _ (.tail _ ha)
  · have hH : HAt h₁ x D := H.keep F.sub
    have hX : Amb (K7 w) mg mb h₁ := F.amb X
    have hP : Pairs h₁ D ps := ⟨⟨_, us, F0.sub _ _ hD, isL_listO _ _, (hr.keep hg).keep F0.sub⟩, hps⟩
    walk_at "w"
    refine del_h hX hH (del_call (R.to 2) X0 (hg.tr F0.sub) hD0 H0 (F0.sub _ _ hD) hr hps hpl hn hl hc fun us' n' h' e d r => ?_)
    have F : Loc (hideAll h (D :: FrL fr)) L [] _ [] h' := F.ext (hideAll_none _ (.head _)) hDL (fun p hp => by cases hp) (fun y c hc => by cases hc) e
    walk_at "w"
    exact k us' n' _ h' (fun b o hb q => e _ _ hb (F0.sub _ _ q)) d r
end

section
variable {w : World} {A : Around} {g h : Heap} {E : Value → Heap → Prop} {mg mb : Str → Option Value} {Q : Value → Heap → Prop} {t : Tok}
set_option maxHeartbeats 4000000 in
theorem sign_call {x : Int} (R : Rm A 1) (X : Amb (K7 w) mg mb h) (k : ∀ c t' h', Sub h h' → c < 128 → Q (.str ⟨#[c]⟩ t') h') : Ev (model p7 w) A (call (.ref 180) [.int x t]) h Q E := by
  refine call_fn (binds := [(Str.ofString "x", .int x t)]) X (by rfl) (by rfl) rfl R (fun s hs => BindsTo.of_eq (by rfl)) (by rfl) (by rfl) (fun A L h₁ R F => ?_)
  have f8 := fmod_facts x 8 (by omega)
  have f33 := fmod_facts (x.fdiv 8) 33 (by omega)
  have f95 := fmod_facts x 95 (by omega)
  walk_at "w"
  · rename_i r h2 t1 t2 t3 hr F2
    refine eList_range (n := 32) R.hd hr (by omega) F2 fun D ys c h3 hy hys F3 => ?_
    walk_at "w"
    rename_i tk D1 h4 F4 D2 h5 F5 _ _ _ _
    obtain ⟨c, t', e, hc⟩ : ∃ (c : Nat) (t' : Tok), (ys ++ [Value.int 127 tk])[((x.fdiv 8).fmod 33).toNat]? = some (.int c t') ∧ c < 128 := by
      generalize hj : ((x.fdiv 8).fmod 33).toNat = j
      by_cases q : j < 32
      · obtain ⟨t', e⟩ := hys j q
        exact ⟨j, t', by rw [List.getElem?_append_left (by omega)]; exact e, by omega⟩
      · have : j = 32 := by omega
        subst this
        exact ⟨127, tk, by rw [List.getElem?_append_right (by omega), hy]; rfl, by omega⟩
    refine eGet_list (F5.get (.head _)) (isL_listO _ _) (by omega) (by omega) e ?_
    walk_at "w"
    exact k _ _ _ F5.sub (by omega)
  · exact k _ _ _ (Loc.sub (by assumption)) (by omega)
end

def one (c : Nat) : Str := ⟨#[c]⟩
def txt (cs : List Nat) : Str := ⟨cs.toArray⟩
theorem txt_len (cs : List Nat) : (txt cs).length = cs.length := by show cs.toArray.size = _; simp
theorem txt_list (cs : List Nat) : (txt cs).cps.toList = cs := by show cs.toArray.toList = _; simp
/-- the values are the texts of one sign each -/
def SgAre (ys : List Value) (cs : List Nat) : Prop := ∃ l : List (Str × Tok), ys = strValues l ∧ l.map (·.1) = cs.map one
theorem SgAre.nil : SgAre [] [] := ⟨[], rfl, rfl⟩
theorem SgAre.snoc {ys : List Value} {cs : List Nat} {c : Nat} {t : Tok} (x : SgAre ys cs) : SgAre (ys ++ [.str ⟨#[c]⟩ t]) (cs ++ [c]) := by
  obtain ⟨l, rfl, e⟩ := x
  exact ⟨l ++ [(⟨#[c]⟩, t)], by simp [strValues], by simp [e, one]⟩
theorem SgAre.length {ys : List Value} {cs : List Nat} (x : SgAre ys cs) : ys.length = cs.length := by
  obtain ⟨l, rfl, e⟩ := x
  have := congrArg List.length e
  simpa [strValues] using this
theorem SgAre.take {ys : List Value} {cs : List Nat} (x : SgAre ys cs) (k : Nat) : SgAre (ys.take k) (cs.take k) := by
  obtain ⟨l, rfl, e⟩ := x
  refine ⟨l.take k, by simp [strValues, List.map_take], ?_⟩
  rw [List.map_take, e, List.map_take]
theorem SgAre.get {ys : List Value} {cs : List Nat} {i : Nat} {v : Value} (x : SgAre ys cs) (h : ys[i]? = some v) : ∃ c t, cs[i]? = some c ∧ v = .str ⟨#[c]⟩ t := by
  obtain ⟨l, rfl, e⟩ := x
  unfold strValues at h
  rw [List.getElem?_map] at h
  obtain ⟨p, hp, rfl⟩ := Option.map_eq_some_iff.mp h
  have h2 : (l.map (·.1))[i]? = some p.1 := by rw [List.getElem?_map, hp]; rfl
  rw [e, List.getElem?_map] at h2
  obtain ⟨c, hc, e2⟩ := Option.map_eq_some_iff.mp h2
  exact ⟨c, p.2, hc, by rw [← e2]; rfl⟩
theorem join_ones : ∀ cs : List Nat, Str.join ⟨#[]⟩ (cs.map one) = txt cs
  | [] => rfl
  | [c] => rfl
  | c :: d :: r => by
    have ih := join_ones (d :: r)
    show one c ++ ⟨#[]⟩ ++ Str.join ⟨#[]⟩ (one d :: r.map one) = _
    rw [show one d :: r.map one = (d :: r).map one from rfl, ih]
    show (⟨#[c] ++ #[] ++ (d :: r).toArray⟩ : Str) = ⟨_⟩
    simp [txt]
theorem join_txt {l : List (Str × Tok)} {cs : List Nat} (e : l.map (·.1) = cs.map one) : Txt.join (Str.ofString "") (l.map (·.1)) = txt cs := by
  show Builtin.Str.glued _ _ = _
  rw [StrLaws.glued_eq_join, e, s_e, join_ones]
/-- signs below 128 -/
def low (x : Str) : Prop := ∀ c ∈ x.cps.toList, c < 128
theorem low_app {x y : Str} (h : low x) (h' : low y) : low (x ++ y) := by
  intro c hc
  have e : (x ++ y).cps.toList = x.cps.toList ++ y.cps.toList := by show (x.cps ++ y.cps).toList = _; simp
  rw [e] at hc
  exact (List.mem_append.mp hc).elim (h c) (h' c)
theorem low_slice {x : Str} (h : low x) (l u : Option Int) : low (Txt.slice x l u) := fun c hc => h c (slice_mem x l u c hc)
theorem low_one {c : Nat} (h : c < 128) : low ⟨#[c]⟩ := fun d hd => by
  have hd : d ∈ [c] := hd
  rw [List.mem_singleton.mp hd]; exact h
theorem low_turned {x : Str} (h : low x) : low (turned x) := by
  intro c hc
  have hc : c ∈ (x.cps.map swapc).toList := hc
  rw [Array.toList_map] at hc
  obtain ⟨d, hd, rfl⟩ := List.mem_map.mp hc
  have := h d hd
  unfold swapc
  split
  · omega
  · split <;> omega
theorem low_txt {cs : List Nat} (h : ∀ c ∈ cs, c < 128) : low (txt cs) := fun c hc => h c (by rwa [txt_list] at hc)
theorem low_tilde : low (Str.ofString "~") := by
  rw [show Str.ofString "~" = ⟨#[126]⟩ from by decide +kernel]; exact low_one (by omega)
theorem len_tilde : (Str.ofString "~").length = 1 := by decide +kernel
/-- what may be asked -/
def AskS (v : Value) : Prop := ∃ x t, v = .str x t ∧ x.length ≤ 200 ∧ low x
theorem askS {x : Str} {t : Tok} (h : x.length ≤ 200) (h' : low x) : AskS (.str x t) := ⟨x, t, rfl, h, h'⟩
theorem ascii_of {x : Str} (h : low x) (hc : ∀ c ∈ x.cps.toList, ¬ ctl c) : ascii x := fun c hm => by
  have h1 := h c hm
  have h2 := hc c hm
  unfold ctl at h2
  omega
/-- a control sign stands in the lowered text too -/
theorem ctl_low {x : Str} (h : low x) (hc : ∃ c ∈ x.cps.toList, ctl c) : ∃ j, j < (Txt.lower x).cps.size ∧ ctl ((Txt.lower x).cps.getD j 0) := by
  obtain ⟨c, hm, hc⟩ := hc
  obtain ⟨j, hj, e⟩ := List.getElem_of_mem hm
  rw [lower_ascii h]
  have hj' : j < x.cps.size := by simpa using hj
  refine ⟨j, by show j < (x.cps.map lo1).size; simpa using hj', ?_⟩
  have e2 : (x.cps.map lo1).getD j 0 = lo1 c := by
    rw [Array.getD_eq_getD_getElem?, Array.getElem?_map, Array.getElem?_eq_getElem hj']
    have : x.cps[j] = c := by simpa using e
    simp [this]
  show ctl ((x.cps.map lo1).getD j 0)
  rw [e2]
  have : lo1 c = c := by unfold lo1 ctl at *; split <;> omega
  rw [this]; exact hc
theorem low_len' {x : Str} (h : low x) : (Txt.lower x).length = x.length := by
  rw [lower_ascii h]
  show (x.cps.map lo1).size = x.cps.size
  simp
theorem GoodP.neat {p : Str × Str} (h : GoodP p) : Neat p := ⟨ascii_clean h.a1, by have := h.l1; omega, ascii_clean h.a2, by have := h.l2; omega⟩
/-- what the five doors answer -/
def firstD (name : Str) (ps : List (Str × Str)) (d : PyData) : PyData := match ps.find? (sameLow name) with | some p => .str p.2 | none => d
def valsD (name : Str) (ps : List (Str × Str)) : List PyData := (ps.filter (sameLow name)).map fun p => .str p.2
def dueD (name : Str) (ps : List (Str × Str)) : List PyData :=
  [firstD name ps .none, firstD name ps (.str (Str.ofString "none")), .list (valsD name ps), .bool (ps.find? (sameLow name)).isSome, .str (Str.ofString "deleted")]
theorem sameLow_eq {name : Str} {p : Str × Str} (h1 : ascii p.1) (h2 : ascii name) : sameB swapc p.1 name = sameLow name p := same_low h1 h2
theorem strOk_none : PyData.strOk (Str.ofString "none") = true := by decide +kernel
theorem strOk_del : PyData.strOk (Str.ofString "deleted") = true := by decide +kernel
theorem canLay_vals {name : Str} {ps : List (Str × Str)} (h : ∀ p ∈ ps, ascii p.2) : PyData.canLay0 (.list (valsD name ps)) = true := by
  show PyData.canLayAll0 _ = true
  unfold valsD
  have h' : ∀ p ∈ ps.filter (sameLow name), ascii p.2 := fun p hp => h p (List.mem_filter.mp hp).1
  generalize ps.filter (sameLow name) = qs at h'
  induction qs with
  | nil => rfl
  | cons p r ih =>
    have h1 := h' p (.head _)
    have := ih fun q hq => h' q (.tail _ hq)
    simpa [PyData.canLayAll0, PyData.canLay0, strOk_ascii h1] using this
theorem canLay_first {name : Str} {ps : List (Str × Str)} {d : PyData} (h : ∀ p ∈ ps, ascii p.2) (hd : d.canLay0 = true) : (firstD name ps d).canLay0 = true := by
  unfold firstD
  split
  · rename_i p hp
    simpa [PyData.canLay0] using strOk_ascii (h p (List.mem_of_find?_eq_some hp))
  · exact hd
theorem canLay_due {name : Str} {ps : List (Str × Str)} (h : ∀ p ∈ ps, ascii p.2) : PyData.canLay0 (.list (dueD name ps)) = true := by
  show PyData.canLayAll0 _ = true
  have h1 := canLay_first (name := name) (d := .none) h rfl
  have h2 := canLay_first (name := name) (d := .str (Str.ofString "none")) h (by simpa [PyData.canLay0] using strOk_none)
  have h3 := canLay_vals (name := name) h
  unfold dueD
  simp only [PyData.canLayAll0, h1, h2, h3]
  simp [PyData.canLay0, strOk_del]
theorem depth_due (name : Str) (ps : List (Str × Str)) : PyData.depth (.list (dueD name ps)) ≤ 4 := by
  have hv : ∀ qs : List (Str × Str), PyData.depthAll (qs.map fun p => PyData.str p.2) ≤ 1 := fun qs => by
    induction qs with
    | nil => simp [PyData.depthAll]
    | cons p r ih => simp only [List.map_cons, PyData.depthAll, PyData.depth]; omega
  have hf : ∀ d : PyData, d.depth ≤ 1 → (firstD name ps d).depth ≤ 1 := fun d hd => by
    unfold firstD
    split
    · simp [PyData.depth]
    · exact hd
  have h1 := hf .none (by simp [PyData.depth])
  have h2 := hf (.str (Str.ofString "none")) (by simp [PyData.depth])
  have h3 := hv (ps.filter (sameLow name))
  unfold dueD valsD
  simp only [PyData.depth, PyData.depthAll]
  omega
def badD (x y : Str) : PyData := .list [.str x, .str y]
theorem canLay_bad {x y : Str} (n : Nat) (hx : PyData.strOk x = true) (hy : PyData.strOk y = true) : PyData.canLay0 (.list (List.replicate n (badD x y))) = true := by
  show PyData.canLayAll0 _ = true
  induction n with
  | zero => rfl
  | succ n ih =>
    rw [List.replicate_succ]
    simp only [PyData.canLayAll0, ih]
    simp [badD, PyData.canLay0, PyData.canLayAll0, hx, hy]
theorem depth_bad {x y : Str} (n : Nat) : PyData.depth (.list (List.replicate n (badD x y))) ≤ 4 := by
  have : PyData.depthAll (List.replicate n (badD x y)) ≤ 3 := by
    induction n with
    | zero => simp [PyData.depthAll]
    | succ n ih => rw [List.replicate_succ]; simp only [badD, PyData.depthAll, PyData.depth] at ih ⊢; omega
  simp only [PyData.depth]
  omega
theorem head_vals {name : Str} {ps : List (Str × Str)} {ys : List Value} {h : Heap} {v : Value} {d : PyData} (r : RdAll h ys (valsD name ps)) (hv : Rd h v d) : ∃ u, (ys ++ [v])[0]? = some u ∧ Rd h u (firstD name ps d) := by
  have e := List.head?_filter (p := sameLow name) (l := ps)
  unfold valsD at r
  unfold firstD
  rw [← e]
  cases hq : ps.filter (sameLow name) with
  | nil =>
    rw [hq] at r
    have := r.length
    cases ys with
    | nil => exact ⟨v, rfl, hv⟩
    | cons => simp at this
  | cons p qs =>
    rw [hq] at r
    cases ys with
    | nil => have := r.length; simp at this
    | cons y ys =>
      obtain ⟨_, r⟩ := r
      cases r with
      | cons a b => exact ⟨y, rfl, ⟨_, a⟩⟩
theorem vals_ne {name : Str} {ps : List (Str × Str)} : (!PyData.eqv (.list (valsD name ps)) (.list [])) = (ps.find? (sameLow name)).isSome := by
  show (!PyData.eqvAll _ []) = _
  rw [eqvAll_nil]
  have e := List.head?_filter (p := sameLow name) (l := ps)
  rw [← e]
  unfold valsD
  cases ps.filter (sameLow name) <;> rfl

theorem n_told (w : World) : nsIn (K7 w) mainGlobals (Str.ofString "_law_told") = some (some (.ref 199)) := by rfl
theorem n_same (w : World) : nsIn (K7 w) mainGlobals (Str.ofString "_law_same") = some (some (.ref 192)) := by rfl
theorem n_sign (w : World) : nsIn (K7 w) mainGlobals (Str.ofString "_law_sign") = some (some (.ref 180)) := by rfl
theorem n_Headers (w : World) : nsIn (K7 w) mainGlobals (Str.ofString "Headers") = some (some (.ref 169)) := by rfl
theorem n_isinstance (w : World) : nsIn (K7 w) mainGlobals (Str.ofString "isinstance") = some none := by rfl
theorem n_bytes (w : World) : nsIn (K7 w) mainGlobals (Str.ofString "bytes") = some none := by rfl
theorem bb_isinstance : bootBuiltins (Str.ofString "isinstance") = some (.builtin "isinstance") := by decide +kernel
theorem bb_bytes : bootBuiltins (Str.ofString "bytes") = some (.type "bytes") := by decide +kernel
local macro_rules | `(tactic| walk_at "nsG") => `(tactic| with_reducible first | exact n_turned _ | exact n_told _ | exact n_same _ | exact n_sign _ | exact n_Headers _)
local macro_rules | `(tactic| walk_at "nsB") => `(tactic| with_reducible first | exact n_chr _ | exact n_ord _ | exact n_len _ | exact n_range _ | exact n_str _ | exact n_isinstance _ | exact n_bytes _)
local macro_rules | `(tactic| walk_at "bb") => `(tactic| with_reducible first | exact bb_chr | exact bb_ord | exact bb_len | exact bb_str | exact bb_range | exact bb_isinstance | exact bb_bytes)
local macro_rules | `(tactic| walk_at "s") => `(tactic| first
  | ((with_reducible show Ev _ _ (call (Value.builtin "isinstance") [Value.bytes _ _, Value.type "bytes"]) _ _ _); refine eIsinst_bb ?_)
  | ((with_reducible show Ev _ _ (call (Value.builtin "isinstance") [Value.str _ _, Value.type "bytes"]) _ _ _); refine eIsinst_sb ?_)
  | ((with_reducible show Ev _ _ (binaryOp Operator.Mult (Value.ref _) (Value.int 5 _)) _ _ _); refine' eMul_list (by assumption) (by walk_at "get") ?_; intro _ _ _)
  | fail "no rule of this text")
abbrev lawCs (L : Addr) : List (Str × Addr) := [(Str.ofString "h", L + 1 + 1 + 1 + 1), (Str.ofString "asked", L + 1 + 1 + 1), (Str.ofString "texts", L + 1 + 1), (Str.ofString "signs", L + 1)]
/-- the frames below a call from the law -/
structure FrOne (A : Around) (L : Addr) (fr : List Env) : Prop where
  a : A.frames = some fr
  l : FrL fr = [L]
  k : ∀ e ∈ fr, e.scope.kind = .function ∧ e.frame = some L
/-- the pairs that stand -/
structure PsAt (g : Heap) (DP : Addr) (us : List Value) (n : Nat) (ps : List (Str × Str)) : Prop where
  d : g.get? DP = some (listO us n)
  r : RdAll g us (ps.map pairD)
  ok : ∀ p ∈ ps, GoodP p
  len : ps.length ≤ 200
theorem PsAt.keep {g g' : Heap} {DP : Addr} {us : List Value} {n : Nat} {ps : List (Str × Str)} (x : PsAt g DP us n ps) (s : Sub g g') : PsAt g' DP us n ps := ⟨s _ _ x.d, x.r.keep s, x.ok, x.len⟩
theorem PsAt.ul {g : Heap} {DP : Addr} {us : List Value} {n : Nat} {ps : List (Str × Str)} (x : PsAt g DP us n ps) : us.length ≤ 200 := by have := x.r.length; have := x.len; simp at *; omega
theorem PsAt.lay {g : Heap} {DP : Addr} {us : List Value} {n : Nat} {ps : List (Str × Str)} (x : PsAt g DP us n ps) : PyData.canLay0 (.list (ps.map pairD)) = true := canLay_pairs fun p hp => ⟨(x.ok p hp).a1, (x.ok p hp).a2⟩
/-- a turn of the law's loop is done -/
def TurnDone (g : Heap) (L I DP : Addr) (o : Obj) (fl : Flow) (h : Heap) : Prop := fl = .next ∧ ∃ g' m', Sub g g' ∧ m' (Str.ofString "pairs") = some (.ref DP) ∧ Loc g' L (lawCs L) m' [(I, o)] h
theorem strOk_nt : PyData.strOk (Str.ofString "no text") = true := by decide +kernel
theorem strOk_nT : PyData.strOk noTxt = true := by decide +kernel
section
variable {w : World} {A : Around} {g h : Heap} {mg mb : Str → Option Value} {L I DP : Addr} {o : Obj} {m : Str → Option Value} {us : List Value} {n : Nat} {ps : List (Str × Str)} {fr : List Env} {t : Tok}
  {oc : Value} {od : Option Addr} {osl : Array (Option Value)} {fd : FuncData} {b0 b1 b2 b3 b4 b5 b6 b7 : Stmt} {tg it : Expr} {fbody orelse rest : List Stmt} {fpos : Pos}
set_option maxHeartbeats 4000000 in
theorem turnB (hf : (K7 w).lookup 204 = some ⟨oc, od, .func fd, osl⟩) (hb : fd.body = .stmts (b0 :: b1 :: b2 :: b3 :: b4 :: b5 :: b6 :: b7 :: .For tg it fbody orelse fpos :: rest))
    (R : Rm A 8) (fo : FrOne A L fr) (X : Amb (K7 w) mg mb g) (F : Loc g L (lawCs L) m [(I, o)] h) (P : PsAt g DP us n ps) (hm : m (Str.ofString "pairs") = some (.ref DP)) (ha : m (Str.ofString "asked") = some (.bytes bAB t)) :
    Ev (model p7 w) A (execs fbody (callEnvC fd L 204)) h (TurnDone g L I DP o) No := by
  cases hf
  cases hb
  have hun := R.un
  have hul := P.ul
  walk_at "w"
  refine ⟨Slice_list ?_⟩
  walk_at "w"
  refine ⟨_, _, _, none, none, rfl, F.sub _ _ P.d, isL_listO _ _, by rw [sizeLine_eq]; omega, .none, .none, _, _, _, _, _, F, fun D h2 F2 => ?_⟩
  rw [slicePick_all, show us.toArray.toList = us from by simp] at F2
  walk_at "w"
  refine new_call (R.le (by omega)) (F2.amb X) (F2.get (.head _)) (isL_listO _ _) (P.r.keep F2.sub) (fun p hp => (P.ok p hp).neat) fun x h3 s3 H => ?_
  obtain ⟨g2, F3, y2, H⟩ := F2.freezeOne s3 H
  have X := X.keep y2
  have P := P.keep y2
  clear F F2
  walk_at "w"
  refine Assign_ListComp (by rfl) (by rfl) (by rfl) (by rfl) ?_
  walk_at "w"
  rename Loc _ _ _ _ _ _ => F4
  rename IsRange _ _ _ _ _ _ _ _ => hrg
  refine comp_rangeB (B := D) (n := 5) (fun i g' ys oB => Sub g2 g' ∧ oB = listO us 0 ∧ RdAll g' ys (List.replicate i (badD (Str.ofString "no text") noTxt))) R.hd hrg F4 ⟨Sub.rfl', rfl, .nil⟩ ⟨?_⟩ ?_ ⟨_, _, rfl⟩ ⟨rfl, rfl, trivial⟩ (by rfl) (by rfl) (by rw [sizeLine_eq]; omega)
  · rintro i v C mc lr g' ys oL oB h5 hi ⟨ti, rfl⟩ ⟨sg, rfl, hys⟩ hdL F hca
    have e1 : mc (Str.ofString "h") = some (.ref x) := (hca _ (by rfl)).trans (by walk_at "lk")
    have e2 : mc (Str.ofString "asked") = some (.bytes bAB t) := (hca _ (by rfl)).trans (by walk_at "lk")
    have X := X.keep sg
    walk_at "w"
    rename Loc _ _ _ _ _ _ => F6
    refine toldB (R.le (by omega)) X F6.sub (fun a hm => by rw [fo.l] at hm; rw [List.mem_singleton.mp hm]; exact (F6.led _ (.head _)).2.2) (H.keep sg) fo.a (F6.framesIn hdL fo.k) fun D' n t1 t2 h' s u nD hD' => ?_
    rw [fo.l] at s
    obtain ⟨oL', hsl, F7⟩ := F6.slotUp s u hdL
    obtain ⟨g8, F8, s8, hD8⟩ := Loc.freezeAt F6 nD F7 rfl hD'
    refine ⟨g8, _, oL', _, ⟨sg.tr s8, rfl, ?_⟩, hsl, F8, hca.set (by rfl)⟩
    rw [List.replicate_succ']
    exact (hys.keep s8).snoc (rd_list hD8 (isL_listO _ _) (.cons rd_str (.cons rd_str .nil)))
  rintro g' ys DT oB k h6 ⟨sg, rfl, hys⟩ F
  have X := X.keep sg
  have P := P.keep sg
  have H := H.keep sg
  clear F4
  walk_at "w"
  rename Loc _ _ _ _ _ _ => F9
  have hlay := canLay_bad (x := Str.ofString "no text") (y := noTxt) 5 strOk_nt strOk_nT
  have hdep := depth_bad (x := Str.ofString "no text") (y := noTxt) 5
  refine eNe (rd_list (by walk_at "get") (isL_listO _ _) (hys.keep F9.sub)) (rd_list (ds := List.replicate 5 (badD (Str.ofString "no text") noTxt)) (by walk_at "get") (isL_listO _ _) ?_) hlay hlay (by omega) ?_
  · have rb : Rd _ (.ref _) (badD (Str.ofString "no text") noTxt) := rd_list (F9.get (.tail _ (.tail _ (.head _)))) (isL_listO _ _) (.cons rd_str (.cons rd_str .nil))
    exact .cons rb (.cons rb (.cons rb (.cons rb (.cons rb .nil))))
  rw [PySem.SeqAt.eqv_refl _ hlay, Bool.not_true]
  walk_at "w"
  refine items_call (R.le (by omega)) (F9.amb X) (H.keep F9.sub) (F9.get (.tail _ (.tail _ (.tail _ (.tail _ (.head _)))))) (isL_listO _ _) (by omega) fun DI nI h10 s10 nDI hDI => ?_
  have F10 := F9.keep s10
  have hlay2 := P.lay
  have hdep2 := depth_pairs ps
  walk_at "w"
  refine eNe (rd_list hDI (isL_listO _ _) (P.r.keep F10.sub)) (rd_list (F10.sub _ _ P.d) (isL_listO _ _) (P.r.keep F10.sub)) hlay2 hlay2 (by omega) ?_
  rw [PySem.SeqAt.eqv_refl _ hlay2, Bool.not_true]
  walk_at "w"
  exact ⟨rfl, _, _, y2.tr sg, by walk_at "lk", F10.drop.drop.drop.drop.drop⟩
end

local macro_rules | `(tactic| walk_at "sg") => `(tactic| with_reducible first | exact rfl | exact s_sp | exact s_del)
def ctlB (c : Nat) : Bool := decide (c < 32) || decide (c = 127)
theorem ctlB_iff {c : Nat} : ctlB c = true ↔ ctl c := by unfold ctlB ctl; simp; omega
def sgD (cs : List Nat) : List PyData := cs.map fun c => .str ⟨#[c]⟩
theorem bads_succ {l : List Nat} {i c : Nat} (h : l[i]? = some c) : (l.take (i + 1)).filter ctlB = (l.take i).filter ctlB ++ (if ctlB c then [c] else []) := by
  rw [List.take_add_one, h, List.filter_append]
  cases hc : ctlB c <;> simp [hc]
theorem canLay_sg {cs : List Nat} (h : ∀ c ∈ cs, c < 128) : PyData.canLay0 (.list (sgD cs)) = true := by
  show PyData.canLayAll0 _ = true
  induction cs with
  | nil => rfl
  | cons c r ih =>
    have h1 := h c (.head _)
    have := ih fun d hd => h d (.tail _ hd)
    have hs : PyData.strOk ⟨#[c]⟩ = true := by
      unfold PyData.strOk
      rw [← Array.all_toList, List.all_eq_true]
      intro d hd
      have hd : d ∈ [c] := hd
      rw [List.mem_singleton.mp hd]
      simp; omega
    simpa [PyData.canLayAll0, PyData.canLay0, sgD, hs] using this
theorem eqv_sg (cs : List Nat) : PyData.eqv (.list (sgD cs)) (.list []) = cs.isEmpty := by
  show PyData.eqvAll _ [] = _
  rw [eqvAll_nil]
  cases cs <;> rfl
theorem strOk_rf : PyData.strOk (Str.ofString "refused") = true := by decide +kernel
theorem strOk_cm : PyData.strOk ctlMsg = true := by decide +kernel
theorem sgD_snoc {h : Heap} {zs : List Value} {l : List Nat} {c : Nat} {t : Tok} (x : RdAll h zs (sgD l)) : RdAll h (zs ++ [.str ⟨#[c]⟩ t]) (sgD (l ++ [c])) := by
  unfold sgD at *
  rw [List.map_append]
  exact x.snoc rd_str
theorem del_eq {c : Nat} (h : (⟨#[c]⟩ : Str) = Str.ofString "\x7f") : c = 127 := by
  rw [s_del] at h
  injection h with h; injection h with h; injection h
theorem no_ctl {c : Nat} (h1 : ¬ c < 32) (h2 : ¬ (⟨#[c]⟩ : Str) = Str.ofString "\x7f") : ¬ ctlB c = true := fun q => by
  rcases ctlB_iff.mp q with q | q
  · omega
  · exact h2 (by rw [q, s_del])
section
variable {w : World} {A : Around} {g h : Heap} {mg mb : Str → Option Value} {L I DP : Addr} {o : Obj} {m : Str → Option Value} {us : List Value} {n : Nat} {ps : List (Str × Str)} {fr : List Env} {t : Tok} {name : Str}
  {oc : Value} {od : Option Addr} {osl : Array (Option Value)} {fd : FuncData} {b0 b1 b2 b3 b4 b5 b6 b7 : Stmt} {tg it : Expr} {fbody orelse rest : List Stmt} {fpos : Pos}
set_option maxHeartbeats 4000000 in
theorem turnS (hf : (K7 w).lookup 204 = some ⟨oc, od, .func fd, osl⟩) (hb : fd.body = .stmts (b0 :: b1 :: b2 :: b3 :: b4 :: b5 :: b6 :: b7 :: .For tg it fbody orelse fpos :: rest))
    (R : Rm A 8) (fo : FrOne A L fr) (X : Amb (K7 w) mg mb g) (F : Loc g L (lawCs L) m [(I, o)] h) (P : PsAt g DP us n ps) (hm : m (Str.ofString "pairs") = some (.ref DP)) (ha : m (Str.ofString "asked") = some (.str name t))
    (hn : name.length ≤ 200) (hlow : low name) (hbad : ∃ c ∈ name.cps.toList, ctl c) :
    Ev (model p7 w) A (execs fbody (callEnvC fd L 204)) h (TurnDone g L I DP o) No := by
  cases hf
  cases hb
  have hun := R.un
  have hul := P.ul
  have hns : name.cps.size ≤ 200 := hn
  walk_at "w"
  refine ⟨Slice_list ?_⟩
  walk_at "w"
  refine ⟨_, _, _, none, none, rfl, F.sub _ _ P.d, isL_listO _ _, by rw [sizeLine_eq]; omega, .none, .none, _, _, _, _, _, F, fun D h2 F2 => ?_⟩
  rw [slicePick_all, show us.toArray.toList = us from by simp] at F2
  walk_at "w"
  refine new_call (R.le (by omega)) (F2.amb X) (F2.get (.head _)) (isL_listO _ _) (P.r.keep F2.sub) (fun p hp => (P.ok p hp).neat) fun x h3 s3 H => ?_
  obtain ⟨g2, F3, y2, H⟩ := F2.freezeOne s3 H
  have X := X.keep y2
  have P := P.keep y2
  clear F F2
  walk_at "w"
  refine Assign_ListComp (by rfl) (by rfl) (by rfl) (by rfl) ?_
  walk_at "w"
  rename Loc _ _ _ _ _ _ => F4
  rename IsRange _ _ _ _ _ _ _ _ => hrg
  obtain ⟨j, hj, hin⟩ := ctl_low hlow hbad
  have hll := low_len' hlow
  refine comp_rangeB (B := D) (n := 5) (fun i g' ys oB => Sub g2 g' ∧ oB = listO us 0 ∧ RdAll g' ys (List.replicate i (badD (Str.ofString "refused") ctlMsg))) R.hd hrg F4 ⟨Sub.rfl', rfl, .nil⟩ ⟨?_⟩ ?_ ⟨_, _, rfl⟩ ⟨rfl, rfl, trivial⟩ (by rfl) (by rfl) (by rw [sizeLine_eq]; omega)
  · rintro i v C mc lr g' ys oL oB h5 hi ⟨ti, rfl⟩ ⟨sg, rfl, hys⟩ hdL F hca
    have e1 : mc (Str.ofString "h") = some (.ref x) := (hca _ (by rfl)).trans (by walk_at "lk")
    have e2 : mc (Str.ofString "asked") = some (.str name t) := (hca _ (by rfl)).trans (by walk_at "lk")
    have X := X.keep sg
    walk_at "w"
    rename Loc _ _ _ _ _ _ => F6
    refine toldS (R.le (by omega)) X F6.sub (fun a hm => by rw [fo.l] at hm; rw [List.mem_singleton.mp hm]; exact (F6.led _ (.head _)).2.2) (H.keep sg) fo.a (F6.framesIn hdL fo.k) (by omega) (by omega) hj hin fun D' n t1 t2 h' s u nD hD' => ?_
    rw [fo.l] at s
    obtain ⟨oL', hsl, F7⟩ := F6.slotUp s u hdL
    obtain ⟨g8, F8, s8, hD8⟩ := Loc.freezeAt F6 nD F7 rfl hD'
    refine ⟨g8, _, oL', _, ⟨sg.tr s8, rfl, ?_⟩, hsl, F8, hca.set (by rfl)⟩
    rw [List.replicate_succ']
    exact (hys.keep s8).snoc (rd_list hD8 (isL_listO _ _) (.cons rd_str (.cons rd_str .nil)))
  rintro g' ys DT oB k h6 ⟨sg, rfl, hys⟩ F
  have X := X.keep sg
  have P := P.keep sg
  have H := H.keep sg
  clear F4 hrg
  walk_at "w"
  refine ListComp_ (by rfl) (by rfl) (by rfl) ?_
  walk_at "w"
  rename Loc _ _ _ _ _ _ => F8
  refine comp_str (fun i g₁ ys => g₁ = g' ∧ RdAll g₁ ys (sgD ((name.cps.toList.take i).filter ctlB))) R.hd F8 ⟨rfl, .nil⟩ ⟨?_⟩ ?_ ⟨_, _, rfl⟩ trivial (by rfl) (by rfl) (by rw [sizeLine_eq]; omega)
  · rintro i v C mc led' g₁ zs h₆ hil ⟨c, uc, hc, rfl⟩ ⟨rfl, hzs⟩ hled F hca
    have hc' : name.cps.toList[i]? = some c := by simpa using hc
    have hs := bads_succ hc'
    walk_at "w"
    · refine comp_turn_end (by assumption) ⟨rfl, ?_⟩ (hca.set (by rfl))
      rw [hs, if_pos (ctlB_iff.mpr (.inl (by omega)))]
      exact sgD_snoc hzs
    · refine comp_turn_end (by assumption) ⟨rfl, ?_⟩ (hca.set (by rfl))
      rw [hs, if_pos (ctlB_iff.mpr (.inr (del_eq (by assumption))))]
      exact sgD_snoc hzs
    · refine comp_turn_end (by assumption) ⟨rfl, ?_⟩ (hca.set (by rfl))
      rw [hs, if_neg (no_ctl (by omega) (by assumption)), List.append_nil]
      exact hzs
  rintro g₁ zs DZ kz h7 ⟨rfl, hzs⟩ F
  rw [List.take_of_length_le (by simp)] at hzs
  have hne : (name.cps.toList.filter ctlB).isEmpty = false := by
    obtain ⟨c, hm, hc⟩ := hbad
    have : c ∈ name.cps.toList.filter ctlB := List.mem_filter.mpr ⟨hm, ctlB_iff.mpr hc⟩
    cases q : name.cps.toList.filter ctlB with
    | nil => rw [q] at this; cases this
    | cons => rfl
  have hlz : PyData.canLay0 (.list (sgD (name.cps.toList.filter ctlB))) = true := canLay_sg fun c hc => hlow c (List.mem_filter.mp hc).1
  walk_at "w"
  rename Loc _ _ _ _ _ _ => F9
  refine eNe (rd_list (F9.get (.tail _ (.head _))) (isL_listO _ _) (hzs.keep F9.sub)) (rd_list (F9.get (.head _)) (isL_listO _ _) .nil) hlz rfl (by show _ + min _ 1 < _; omega) ?_
  rw [eqv_sg, hne, Bool.not_false]
  walk_at "w"
  rename Loc _ _ _ _ _ _ => F11
  have hlay := canLay_bad (x := Str.ofString "refused") (y := ctlMsg) 5 strOk_rf strOk_cm
  have hdep := depth_bad (x := Str.ofString "refused") (y := ctlMsg) 5
  refine eNe (rd_list (by walk_at "get") (isL_listO _ _) (hys.keep F11.sub)) (rd_list (ds := List.replicate 5 (badD (Str.ofString "refused") ctlMsg)) (by walk_at "get") (isL_listO _ _) ?_) hlay hlay (by omega) ?_
  · have rb : Rd _ (.ref _) (badD (Str.ofString "refused") ctlMsg) := rd_list (F11.get (.tail _ (.tail _ (.head _)))) (isL_listO _ _) (.cons rd_str (.cons rd_str .nil))
    exact .cons rb (.cons rb (.cons rb (.cons rb (.cons rb .nil))))
  rw [PySem.SeqAt.eqv_refl _ hlay, Bool.not_true]
  walk_at "w"
  refine items_call (D := D) (us := us) (o := listO us 0) (R.le (by omega)) (F11.amb X) (H.keep F11.sub) (by walk_at "get") (isL_listO _ _) (by omega) fun DI nI h10 s10 nDI hDI => ?_
  have F10 := F11.keep s10
  have hlay2 := P.lay
  have hdep2 := depth_pairs ps
  walk_at "w"
  refine eNe (rd_list hDI (isL_listO _ _) (P.r.keep F10.sub)) (rd_list (F10.sub _ _ P.d) (isL_listO _ _) (P.r.keep F10.sub)) hlay2 hlay2 (by omega) ?_
  rw [PySem.SeqAt.eqv_refl _ hlay2, Bool.not_true]
  walk_at "w"
  exact ⟨rfl, _, _, y2.tr sg, by walk_at "lk", F10.drop.drop.drop.drop.drop.drop.drop⟩
end

theorem take_snoc {α : Type} {l : List α} {i : Nat} {d : α} (h : l[i]? = some d) : l.take (i + 1) = l.take i ++ [d] := by
  rw [List.take_add_one, h]; rfl
theorem RdAll.strs {h g : Heap} : ∀ {ys : List Value} {l : List Str}, RdAll h ys (l.map .str) → RdAll g ys (l.map .str)
  | [], [], _ => .nil
  | [], _ :: _, ⟨_, r⟩ => by cases r
  | _ :: _, [], ⟨_, r⟩ => by cases r
  | y :: ys, x :: l, ⟨_, r⟩ => by
    cases r with
    | cons a b =>
      have ra : Rd h y (.str x) := ⟨_, a⟩
      obtain ⟨t, rfl⟩ := ra.st
      exact .cons rd_str (RdAll.strs ⟨_, b⟩)
theorem rdVals {h g : Heap} {name : Str} {ps : List (Str × Str)} {ys : List Value} (r : RdAll h ys ((ps.filter (sameLow name)).map fun p => .str p.2)) : RdAll g ys (valsD name ps) := by
  have e : (ps.filter (sameLow name)).map (fun p => PyData.str p.2) = ((ps.filter (sameLow name)).map (·.2)).map PyData.str := by rw [List.map_map]; rfl
  unfold valsD
  rw [e] at r ⊢
  exact r.strs
theorem filter_succ {p : Str × Str → Bool} {ps : List (Str × Str)} {i : Nat} {q : Str × Str} (hq : ps[i]? = some q) : (ps.take (i + 1)).filter p = (ps.take i).filter p ++ (if p q = true then [q] else []) := by
  rw [List.take_add_one, hq, List.filter_append]
  cases h : p q <;> simp [h]
theorem firstD_some {name : Str} {ps : List (Str × Str)} {d : PyData} {p : Str × Str} {h : Heap} {t : Tok} (e : ps.find? (sameLow name) = some p) : Rd h (.str p.2 t) (firstD name ps d) := by unfold firstD; rw [e]; exact rd_str
theorem firstD_none {name : Str} {ps : List (Str × Str)} {d : PyData} {h : Heap} {v : Value} (e : ps.find? (sameLow name) = none) (r : Rd h v d) : Rd h v (firstD name ps d) := by unfold firstD; rw [e]; exact r
section
variable {w : World} {A : Around} {g h : Heap} {mg mb : Str → Option Value} {L I DP : Addr} {o : Obj} {m : Str → Option Value} {us : List Value} {n : Nat} {ps : List (Str × Str)} {fr : List Env} {t : Tok} {name : Str}
  {oc : Value} {od : Option Addr} {osl : Array (Option Value)} {fd : FuncData} {b0 b1 b2 b3 b4 b5 b6 b7 : Stmt} {tg it : Expr} {fbody orelse rest : List Stmt} {fpos : Pos}
set_option maxHeartbeats 8000000 in
theorem turnG (hf : (K7 w).lookup 204 = some ⟨oc, od, .func fd, osl⟩) (hb : fd.body = .stmts (b0 :: b1 :: b2 :: b3 :: b4 :: b5 :: b6 :: b7 :: .For tg it fbody orelse fpos :: rest))
    (R : Rm A 8) (fo : FrOne A L fr) (X : Amb (K7 w) mg mb g) (F : Loc g L (lawCs L) m [(I, o)] h) (P : PsAt g DP us n ps) (hm : m (Str.ofString "pairs") = some (.ref DP)) (ha : m (Str.ofString "asked") = some (.str name t))
    (hn : name.length ≤ 200) (hasc : ascii name) :
    Ev (model p7 w) A (execs fbody (callEnvC fd L 204)) h (TurnDone g L I DP o) No := by
  cases hf
  cases hb
  have hun := R.un
  have hul := P.ul
  have hul2 : us.length = ps.length := by have := P.r.length; simpa using this
  have hns : name.cps.size ≤ 200 := hn
  walk_at "w"
  refine ⟨Slice_list ?_⟩
  walk_at "w"
  refine ⟨_, _, _, none, none, rfl, F.sub _ _ P.d, isL_listO _ _, by rw [sizeLine_eq]; omega, .none, .none, _, _, _, _, _, F, fun D h2 F2 => ?_⟩
  rw [slicePick_all, show us.toArray.toList = us from by simp] at F2
  walk_at "w"
  refine new_call (R.le (by omega)) (F2.amb X) (F2.get (.head _)) (isL_listO _ _) (P.r.keep F2.sub) (fun p hp => (P.ok p hp).neat) fun x h3 s3 H => ?_
  obtain ⟨g2, F3, y2, H⟩ := F2.freezeOne s3 H
  have X := X.keep y2
  have P := P.keep y2
  clear F F2
  walk_at "w"
  refine Assign_ListComp (by rfl) (by rfl) (by rfl) (by rfl) ?_
  walk_at "w"
  rename Loc _ _ _ _ _ _ => F4
  rename IsRange _ _ _ _ _ _ _ _ => hrg
  have hll := low_len hasc
  have hcl := low_clean hasc
  have hps1 : ∀ p ∈ ps, p.1.length ≤ 1000 := fun p hp => by have := (P.ok p hp).l1; omega
  have hpl1 := P.len
  refine comp_rangeB (B := D) (n := 5) (fun i g' ys oB => Sub g2 g' ∧ RdAll g' ys ((dueD name ps).take i) ∧ ((i ≤ 4 ∧ oB = listO us 0) ∨ (i = 5 ∧ ∃ us' n', oB = listO us' n' ∧ RdAll g' us' ((others name ps).map pairD)))) R.hd hrg F4 ⟨Sub.rfl', .nil, .inl ⟨by omega, rfl⟩⟩ ⟨?_⟩ ?_ ⟨_, _, rfl⟩ ⟨rfl, rfl, trivial⟩ (by rfl) (by rfl) (by rw [sizeLine_eq]; omega)
  · rintro i v C mc lr g' ys oL oB h5 hi ⟨ti, rfl⟩ ⟨sg, hys, hoB⟩ hdL F hca
    obtain rfl : oB = listO us 0 := by
      rcases hoB with ⟨_, e⟩ | ⟨e, _⟩
      · exact e
      · omega
    have e1 : mc (Str.ofString "h") = some (.ref x) := (hca _ (by rfl)).trans (by walk_at "lk")
    have e2 : mc (Str.ofString "asked") = some (.str name t) := (hca _ (by rfl)).trans (by walk_at "lk")
    have X := X.keep sg
    have P := P.keep sg
    have H := H.keep sg
    walk_at "w"
    rename Loc _ _ _ _ _ _ => F6
    have hgf : ∀ a ∈ FrL fr, g'.get? a = none := fun a hm => by rw [fo.l] at hm; rw [List.mem_singleton.mp hm]; exact (F6.led _ (.head _)).2.2
    have hFA := F6.framesIn hdL fo.k
    have hD0 : g'.get? D = none := (F6.led _ (.tail _ (.head _))).2.2
    have hD := F6.get (.tail _ (.head _))
    obtain rfl | rfl | rfl | rfl | rfl : i = 0 ∨ i = 1 ∨ i = 2 ∨ i = 3 ∨ i = 4 := by omega
    · refine told_0 (R.le (by omega)) X F6.sub hgf H hD0 hD P.r hps1 (by omega) fo.a hFA (by omega) (by omega) hcl (fun p t' h' e s => ?_) (fun e h' s => ?_)
      · refine ⟨g', _, oL, _, ⟨sg, ?_, .inl ⟨by omega, rfl⟩⟩, ⟨oL.slots, rfl⟩, F6.keep s, hca.set (by rfl)⟩
        rw [take_snoc (d := firstD name ps .none) rfl]
        exact hys.snoc (firstD_some e)
      · refine ⟨g', _, oL, _, ⟨sg, ?_, .inl ⟨by omega, rfl⟩⟩, ⟨oL.slots, rfl⟩, F6.keep s, hca.set (by rfl)⟩
        rw [take_snoc (d := firstD name ps .none) rfl]
        exact hys.snoc (firstD_none e rd_none)
    · refine told_1 (R.le (by omega)) X F6.sub hgf H hD0 hD P.r hps1 (by omega) fo.a hFA (by omega) (by omega) hcl (fun p t' h' e s => ?_) (fun e t' h' s => ?_)
      · refine ⟨g', _, oL, _, ⟨sg, ?_, .inl ⟨by omega, rfl⟩⟩, ⟨oL.slots, rfl⟩, F6.keep s, hca.set (by rfl)⟩
        rw [take_snoc (d := firstD name ps (.str (Str.ofString "none"))) rfl]
        exact hys.snoc (firstD_some e)
      · refine ⟨g', _, oL, _, ⟨sg, ?_, .inl ⟨by omega, rfl⟩⟩, ⟨oL.slots, rfl⟩, F6.keep s, hca.set (by rfl)⟩
        rw [take_snoc (d := firstD name ps (.str (Str.ofString "none"))) rfl]
        exact hys.snoc (firstD_none e rd_str)
    · refine told_2 (R.le (by omega)) X F6.sub hgf H hD0 hD P.r hps1 (by omega) fo.a hFA (by omega) (by omega) hcl (fun D' zs e h' s nD hD' r => ?_)
      obtain ⟨g8, F8, s8, hD8⟩ := Loc.freezeAt F6 nD (F6.keep s) rfl hD'
      refine ⟨g8, _, oL, _, ⟨sg.tr s8, ?_, .inl ⟨by omega, rfl⟩⟩, ⟨oL.slots, rfl⟩, F8, hca.set (by rfl)⟩
      rw [take_snoc (d := .list (valsD name ps)) rfl]
      exact (hys.keep s8).snoc (rd_list hD8 (isL_listO _ _) (rdVals r))
    · refine told_3 (R.le (by omega)) X F6.sub hgf H hD0 hD P.r hps1 (by omega) fo.a hFA (by omega) (by omega) hcl (fun h' s => ?_)
      refine ⟨g', _, oL, _, ⟨sg, ?_, .inl ⟨by omega, rfl⟩⟩, ⟨oL.slots, rfl⟩, F6.keep s, hca.set (by rfl)⟩
      rw [take_snoc (d := .bool (ps.find? (sameLow name)).isSome) rfl]
      exact hys.snoc rd_bool
    · refine told_4 (R.le (by omega)) X F6.sub hgf H hD0 hD P.r hps1 (by omega) fo.a hFA (by omega) (by omega) hcl (fun us' n' t' h' e d r => ?_)
      refine ⟨g', _, oL, _, ⟨sg, ?_, .inr ⟨rfl, us', n', rfl, r⟩⟩, ⟨oL.slots, rfl⟩, F6.putE (.tail .head) e d, hca.set (by rfl)⟩
      rw [take_snoc (d := .str (Str.ofString "deleted")) rfl]
      exact hys.snoc rd_str
  rintro g' ys DT oB k h6 ⟨sg, hys, hoB⟩ F
  obtain ⟨us', n', rfl, hro⟩ : ∃ us' n', oB = listO us' n' ∧ RdAll g' us' ((others name ps).map pairD) := by
    rcases hoB with ⟨e, _⟩ | ⟨_, e⟩
    · omega
    · exact e
  have hys : RdAll g' ys (dueD name ps) := hys
  have X := X.keep sg
  have P := P.keep sg
  have H := H.keep sg
  clear F4 hrg
  walk_at "w"
  refine ListComp_ (by rfl) (by rfl) (by rfl) ?_
  walk_at "w"
  rename Loc _ _ _ _ _ _ => F8
  refine comp_str (fun i g₁ ys => g₁ = g' ∧ ys = []) R.hd F8 ⟨rfl, rfl⟩ ⟨?_⟩ ?_ ⟨_, _, rfl⟩ trivial (by rfl) (by rfl) (by rw [sizeLine_eq]; omega)
  · rintro i v C mc led' g₁ zs h₆ hil ⟨c, uc, hc, rfl⟩ ⟨rfl, hzs⟩ hled F hca
    have hc' : name.cps.toList[i]? = some c := by simpa using hc
    have hcr := hasc c (List.mem_of_getElem? hc')
    walk_at "w"
    · have := del_eq (by assumption)
      omega
    · exact comp_turn_end (by assumption) ⟨rfl, hzs⟩ (hca.set (by rfl))
  rintro g₁ zs DZ kz h7 ⟨rfl, rfl⟩ F
  walk_at "w"
  rename Loc _ _ _ _ _ _ => F9
  refine eNe (da := .list []) (rd_list (F9.get (.tail _ (.head _))) (isL_listO _ _) .nil) (rd_list (F9.get (.head _)) (isL_listO _ _) .nil) rfl rfl (by show _ + min _ 1 < _; omega) ?_
  rw [PySem.SeqAt.eqv_refl _ rfl, Bool.not_true]
  walk_at "w"
  refine Assign_ListComp (by rfl) (by rfl) (by rfl) (by rfl) ?_
  walk_at "w"
  have hDP := P.d
  have hr := P.r
  refine comp_listN (fun i g₂ ys => g₂ = g₁ ∧ RdAll g₁ ys (((ps.take i).filter (sameLow name)).map fun p => .str p.2)) R.hd (isL_listO _ _) F9 (fun _ _ _ e => .inl (e.1 ▸ hDP)) ⟨rfl, .nil⟩ ⟨?_⟩ ?_ ⟨rfl, trivial⟩ (by rfl) (by rfl) (by rw [sizeLine_eq]; omega)
  · rintro i v C mc led' g₂ ys h₆ hil hv ⟨rfl, hys⟩ hled F hca
    obtain ⟨d, hd, hv'⟩ := hr.get hv
    rw [List.getElem?_map] at hd
    obtain ⟨q, hq, rfl⟩ := Option.map_eq_some_iff.mp hd
    have hq' := P.ok q (List.mem_of_getElem? hq)
    have hqs := sameLow_eq hq'.a1 hasc
    obtain ⟨r, ro, rvs, rn, rfl, hro, hrc, hrd, hrr⟩ := hv'.tup
    obtain ⟨t₁, t₂, e⟩ := hrr.two
    have e2 : mc (Str.ofString "asked") = some (.str name t) := (hca _ (by rfl)).trans (by walk_at "lk")
    refine assign_two R.hd F (F.sub _ _ hro) ⟨.inr hrc, rn, by rw [hrd]; congr 1; apply Array.ext'; exact e⟩ fun h₇ F => ?_
    walk_at "w"
    rename Loc _ _ _ _ _ _ => F
    refine same_call (R.le (by omega)) (F.amb X) (by have := hq'.l1; omega) (by omega) fun h8 s8 => ?_
    have F := F.keep s8
    rw [hqs]
    refine truthy_bool ?_
    refine ite_both (fun hq9 => ?_) (fun hq9 => ?_)
    · walk_at "w"
      refine comp_turn_end F ⟨rfl, ?_⟩ ((hca.set (by rfl)).set (by rfl))
      rw [filter_succ hq, if_pos hq9, List.map_append]
      exact hys.snoc rd_str
    · refine comp_turn_end F ⟨rfl, ?_⟩ ((hca.set (by rfl)).set (by rfl))
      rw [filter_succ hq, if_neg hq9, List.append_nil]
      exact hys
  rintro g₂ vs DV kv h8 ⟨rfl, hvs⟩ F
  rw [List.take_of_length_le (by omega)] at hvs
  have hvs : RdAll g₂ vs (valsD name ps) := hvs
  clear F9
  walk_at "w"
  refine Assign_ListComp (by rfl) (by rfl) (by rfl) (by rfl) ?_
  walk_at "w"
  refine comp_listN (fun i g₃ zs => Sub g₂ g₃ ∧ RdAll g₃ zs ((others name (ps.take i)).map pairD)) R.hd (isL_listO _ _) F (fun _ _ _ e => .inl (e.1 _ _ hDP)) ⟨Sub.rfl', .nil⟩ ⟨?_⟩ ?_ ⟨rfl, trivial⟩ (by rfl) (by rfl) (by rw [sizeLine_eq]; omega)
  · rintro i v C mc led' g₃ zs h₆ hil hv ⟨sg3, hzs⟩ hled F hca
    obtain ⟨d, hd, hv'⟩ := hr.get hv
    rw [List.getElem?_map] at hd
    obtain ⟨q, hq, rfl⟩ := Option.map_eq_some_iff.mp hd
    have hq' := P.ok q (List.mem_of_getElem? hq)
    have hqs := sameLow_eq hq'.a1 hasc
    have X := X.keep sg3
    obtain ⟨r, ro, rvs, rn, rfl, hro, hrc, hrd, hrr⟩ := (hv'.keep sg3).tup
    obtain ⟨t₁, t₂, e⟩ := hrr.two
    have e2 : mc (Str.ofString "asked") = some (.str name t) := (hca _ (by rfl)).trans (by walk_at "lk")
    refine assign_two R.hd F (F.sub _ _ hro) ⟨.inr hrc, rn, by rw [hrd]; congr 1; apply Array.ext'; exact e⟩ fun h₇ F => ?_
    walk_at "w"
    rename Loc _ _ _ _ _ _ => F
    refine same_call (R.le (by omega)) (F.amb X) (by have := hq'.l1; omega) (by omega) fun h8 s8 => ?_
    have F := F.keep s8
    rw [hqs]
    refine truthy_bool ?_
    refine ite_both (fun hq9 => ?_) (fun hq9 => ?_)
    · walk_at "w"
      rename Loc _ _ _ _ _ _ => F
      obtain ⟨g8, F8, s8, hT8⟩ := F.freeze1
      refine ⟨g8, _, ⟨sg3.tr s8, ?_⟩, F8, ((hca.set (by rfl)).set (by rfl))⟩
      unfold others
      rw [filter_succ hq, if_pos hq9, List.map_append]
      exact (hzs.keep s8).snoc (rd_tuple hT8 (.cons rd_str (.cons rd_str .nil)))
    · refine comp_turn_end F ⟨sg3, ?_⟩ ((hca.set (by rfl)).set (by rfl))
      unfold others
      rw [filter_succ hq, if_neg hq9, List.append_nil]
      exact hzs
  rintro g₃ zs DL kl h9 ⟨sg3, hzs⟩ F
  rw [List.take_of_length_le (by omega)] at hzs
  have X := X.keep sg3
  have P := P.keep sg3
  have H := H.keep sg3
  have hvs := hvs.keep sg3
  have hys := hys.keep sg3
  have hro := hro.keep sg3
  have hvl : vs.length ≤ ps.length := by have := hvs.length; have := List.length_filter_le (sameLow name) ps; unfold valsD at *; simp at *; omega
  obtain ⟨u1, hu1, r1⟩ := head_vals hvs (rd_none (h := g₃))
  have hu1 : (vs ++ [Value.none])[(0 : Int).toNat]? = some u1 := hu1
  have hlv : PyData.canLay0 (.list (valsD name ps)) = true := canLay_vals fun p hp => (P.ok p hp).a2
  obtain ⟨u2, hu2⟩ : ∃ f : Tok → Value, ∀ tk, (vs ++ [Value.str (Str.ofString "none") tk])[(0 : Int).toNat]? = some (f tk) ∧ Rd g₃ (f tk) (firstD name ps (.str (Str.ofString "none"))) :=
    Classical.axiomOfChoice fun tk => head_vals hvs (rd_str (h := g₃) (x := Str.ofString "none") (t := tk))
  walk_at "w"
  rename Loc _ _ _ _ _ _ => F11
  refine eGet_list (F11.get (.head _)) (isL_listO _ _) (by decide) (by decide) (hu2 _).1 ?_
  walk_at "w"
  rename Loc _ _ _ _ _ _ => F12
  refine eNe (rd_list (ds := valsD name ps) (by walk_at "get") (isL_listO _ _) (hvs.keep F12.sub)) (rd_list (F12.get (.head _)) (isL_listO _ _) .nil) hlv rfl (by show _ + min _ 1 < _; omega) ?_
  rw [vals_ne]
  walk_at "w"
  rename Loc _ _ _ _ _ _ => F13
  have hlay := canLay_due (name := name) (ps := ps) fun p hp => (P.ok p hp).a2
  have hdep := depth_due name ps
  refine eNe (rd_list (ds := dueD name ps) (by walk_at "get") (isL_listO _ _) (hys.keep F13.sub)) (rd_list (ds := dueD name ps) (by walk_at "get") (isL_listO _ _) ?_) hlay hlay (by omega) ?_
  · refine .cons (r1.keep F13.sub) (.cons ((hu2 _).2.keep F13.sub) (.cons (rd_list (by walk_at "get") (isL_listO _ _) (hvs.keep F13.sub)) (.cons rd_bool (.cons rd_str .nil))))
  rw [PySem.SeqAt.eqv_refl _ hlay, Bool.not_true]
  walk_at "w"
  have hol : us'.length ≤ ps.length := by have := hro.length; have := List.length_filter_le (fun p => !sameLow name p) ps; unfold others at *; simp at *; omega
  refine items_call (D := D) (us := us') (o := listO us' n') (R.le (by omega)) (F13.amb X) (H.keep F13.sub) (by walk_at "get") (isL_listO _ _) (by omega) fun DI nI h10 s10 nDI hDI => ?_
  have F14 := F13.keep s10
  have hlay2 : PyData.canLay0 (.list ((others name ps).map pairD)) = true := canLay_pairs fun p hp => ⟨(P.ok p (List.mem_filter.mp hp).1).a1, (P.ok p (List.mem_filter.mp hp).1).a2⟩
  have hdep2 := depth_pairs (others name ps)
  walk_at "w"
  refine eNe (rd_list hDI (isL_listO _ _) (hro.keep F14.sub)) (rd_list (ds := (others name ps).map pairD) (by walk_at "get") (isL_listO _ _) (hzs.keep F14.sub)) hlay2 hlay2 (by omega) ?_
  rw [PySem.SeqAt.eqv_refl _ hlay2, Bool.not_true]
  walk_at "w"
  refine ⟨rfl, _, _, (y2.tr sg).tr sg3, by walk_at "lk", F14.only (fun q hq => by rw [List.mem_singleton.mp hq]; walk_at "mem") (by simp)⟩
end

local macro_rules | `(tactic| walk_at "s") => `(tactic| first
  | ((with_reducible show Ev _ _ (eval (Expr.Constant (Const.bytes _) _ _) _) _ _ _); refine Const_bytes ?_; intro _)
  | fail "no rule of the last text")
/-- a number of a good beginning -/
def GoodK (cs : List Nat) (v : Value) : Prop := ∃ (k : Nat) (t : Tok), v = .int (k : Int) t ∧ k ≤ cs.length ∧ ∀ c ∈ cs.take k, ¬ ctl c
theorem none_ctl {l : List Nat} (h : (l.filter ctlB).isEmpty = true) : ∀ c ∈ l, ¬ ctl c := fun c hc q => by
  have : c ∈ l.filter ctlB := List.mem_filter.mpr ⟨hc, ctlB_iff.mpr q⟩
  rw [List.isEmpty_iff.mp h] at this; cases this
theorem mem_snoc {P : Value → Prop} {l : List Value} {v : Value} (h : ∀ u ∈ l, P u) (hv : P v) : ∀ u ∈ l ++ [v], P u := fun u hu => by
  rcases List.mem_append.mp hu with q | q
  · exact h u q
  · rw [List.mem_singleton.mp q]; exact hv
theorem mem_app {P : Value → Prop} {l l' : List Value} (h : ∀ u ∈ l, P u) (h' : ∀ u ∈ l', P u) : ∀ u ∈ l ++ l', P u := fun u hu => (List.mem_append.mp hu).elim (h u) (h' u)
theorem len_again : (Str.ofString "again ").length = 6 := by decide +kernel
theorem asc_again : ascii (Str.ofString "again ") := ascii_of_B (by decide +kernel)
theorem pairs_snoc {g g' : Heap} {us : List Value} {ps : List (Str × Str)} {i : Nat} {T : Addr} {x y : Str} {t u : Tok} (hus : RdAll g us (ps.map pairD)) (s : Sub g g') (hpl : ps.length = i) (hps : ∀ p ∈ ps, GoodP p)
    (hT : g'.get? T = some (tupO [.str x t, .str y u] 0)) (hg : GoodP (x, y)) : ∃ ps' : List (Str × Str), RdAll g' (us ++ [.ref T]) (ps'.map pairD) ∧ ps'.length = i + 1 ∧ ∀ p ∈ ps', GoodP p := by
  refine ⟨ps ++ [(x, y)], ?_, by simp; omega, fun p hp => ?_⟩
  · rw [List.map_append]
    exact (hus.keep s).snoc (rd_tuple hT (.cons rd_str (.cons rd_str .nil)))
  · rcases List.mem_append.mp hp with q | q
    · exact hps p q
    · rw [List.mem_singleton.mp q]; exact hg
section
variable {w : World} {A : Around} {g h : Heap} {E : Value → Heap → Prop} {mg mb : Str → Option Value} {Q : Value → Heap → Prop}
set_option maxHeartbeats 8000000 in
theorem law_call {l : Addr} {ol : Obj} {vs : List Value} {ns : List Int} (R : Rm A 12) (hA : A.frames = some []) (X : Amb (K7 w) mg mb h) (hol : h.get? l = some ol) (hl : IsL ol vs) (hi : IntsAre vs ns) (hn : ns.length ≤ 63)
    (k : ∀ h', Sub h h' → Q (.bool true) h') : Ev (model p7 w) A (call (.ref 204) [.ref l]) h Q E := by
  have hvl := hi.length
  refine call_fnGC (cls := .none) (V := fun _ => False) (binds := [(Str.ofString "script", .ref l)]) (cs := lawCs) (fr := []) X (by rfl) (by rfl) rfl R hA (fun _ h => by cases h) (fun s hs => BindsTo.of_eq (by rfl)) (by rfl) (by decide +kernel) (by simp only [List.map]; decide +kernel) (fun L => by rfl) (fun A L h₁ R hA' hfr' F => ?_) (fun _ _ _ hV => hV.elim)
  obtain ⟨fr, fo⟩ : ∃ fr, FrOne A L fr := ⟨_, hA', rfl, fun e he => by rw [List.mem_singleton.mp he]; exact ⟨rfl, rfl⟩⟩
  clear hA' hfr'
  have hun := R.un
  -- signs
  walk_at "w"
  refine ListComp_ (by rfl) (by rfl) (by rfl) ?_
  walk_at "w"
  refine comp_list (fun i g₁ ys => g₁ = h ∧ ∃ cs, SgAre ys cs ∧ cs.length = i ∧ ∀ c ∈ cs, c < 128) R.hd hl F (fun _ _ _ e => .inl (e.1 ▸ hol)) ⟨rfl, [], .nil, rfl, fun c hc => by cases hc⟩ ⟨?_⟩ ?_ trivial (by rfl) (by rfl) (by rw [sizeLine_eq]; omega)
  · rintro i v C mc led' g₁ ys h6 hil hv ⟨rfl, cs, hys, hcl, hlow⟩ hled F hca
    obtain ⟨nv, tv, rfl, _⟩ := intsAre_get hi hv
    walk_at "w"
    rename Loc _ _ _ _ _ _ => F
    refine sign_call (R.le (by omega)) (F.amb X) fun c t' h' s hc => ?_
    refine comp_turn_end (F.keep s) ⟨rfl, cs ++ [c], hys.snoc, by simp; omega, fun d hd => ?_⟩ (hca.set (by rfl))
    rcases List.mem_append.mp hd with q | q
    · exact hlow d q
    · rw [List.mem_singleton.mp q]; exact hc
  rintro g₁ sgs DS kS h6 ⟨rfl, cs, hsg, hcl, hlow⟩ F
  have hsl := hsg.length
  obtain ⟨g1, F, s1, hDS⟩ := F.freeze1
  have X := X.keep s1
  -- good
  walk_at "w"
  refine Assign_ListComp (by rfl) (by rfl) (by rfl) (by rfl) ?_
  walk_at "w"
  rename Loc _ _ _ _ _ _ => F2
  rename IsRange _ _ _ _ _ _ _ _ => hrg
  have er : ((sgs.length : Int) + 1) = ((cs.length + 1 : Nat) : Int) := by omega
  rw [er] at hrg
  have hsp : ∀ i : Nat, (slicePick sgs.toArray none (some ((i : Nat) : Int)) none).toList = sgs.take i := fun i => by rw [slicePick_upto']
  refine comp_rangeN (n := cs.length + 1) (fun i g₁ zs => g₁ = g1 ∧ zs.length ≤ i ∧ ∀ v ∈ zs, GoodK cs v) R.hd hrg F2 ⟨rfl, Nat.le_refl _, fun v hv => by cases hv⟩ ⟨?_⟩ ?_ ⟨_, _, rfl⟩ ⟨rfl, trivial⟩ (by rfl) (by rfl) (by rw [sizeLine_eq]; omega)
  · rintro i v C mc led' g₁ zs h7 hil ⟨ti, rfl⟩ ⟨rfl, hzl, hzs⟩ hled F hca
    have e1 : mc (Str.ofString "signs") = some (.ref DS) := (hca _ (by rfl)).trans (by walk_at "lk")
    walk_at "w"
    refine ListComp_ (by rfl) (by rfl) (by rfl) ?_
    refine Slice_list ?_
    walk_at "w"
    rename Loc _ _ _ _ _ _ => F3
    refine ⟨_, _, _, none, some _, rfl, F3.sub _ _ hDS, isL_listO _ _, by rw [sizeLine_eq]; omega, .none, .int _ _, _, _, _, _, _, F3, fun DZ h8 F4 => ?_⟩
    rw [hsp] at F4
    have htk := hsg.take i
    refine comp_list (fun j g₂ ws => g₂ = g₁ ∧ RdAll g₂ ws (sgD (((cs.take i).take j).filter ctlB))) R.hd (isL_listO _ _) F4 (fun _ _ _ e => .inr (.head _)) ⟨rfl, .nil⟩ ⟨?_⟩ ?_ trivial (by rfl) (by rfl) (by rw [sizeLine_eq, List.length_take]; omega)
    · rintro j v C2 mc2 led2 g₂ ws h9 hjl hv ⟨rfl, hws⟩ hled2 F hca2
      obtain ⟨c, tc, hc, rfl⟩ := htk.get hv
      have hs := bads_succ hc
      walk_at "w"
      · refine comp_turn_end (by assumption) ⟨rfl, ?_⟩ (hca2.set (by rfl))
        rw [hs, if_pos (ctlB_iff.mpr (.inl (by omega)))]
        exact sgD_snoc hws
      · refine comp_turn_end (by assumption) ⟨rfl, ?_⟩ (hca2.set (by rfl))
        rw [hs, if_pos (ctlB_iff.mpr (.inr (del_eq (by assumption))))]
        exact sgD_snoc hws
      · refine comp_turn_end (by assumption) ⟨rfl, ?_⟩ (hca2.set (by rfl))
        rw [hs, if_neg (no_ctl (by omega) (by assumption)), List.append_nil]
        exact hws
    rintro g₂ ws DW kW h9 ⟨rfl, hws⟩ F5
    have hwl := htk.length
    rw [List.take_of_length_le (by omega)] at hws
    walk_at "w"
    rename Loc _ _ _ _ _ _ => F6
    refine eEq (rd_list (F6.get (.tail _ (.head _))) (isL_listO _ _) (hws.keep F6.sub)) (rd_list (F6.get (.head _)) (isL_listO _ _) .nil) (canLay_sg fun c hc => hlow c (List.mem_of_mem_take (List.mem_filter.mp hc).1)) rfl (by show _ + min _ 1 < _; omega) ?_
    rw [eqv_sg]
    refine truthy_bool ?_
    refine ite_both (fun hq9 => ?_) (fun hq9 => ?_)
    · walk_at "w"
      refine comp_turn_end F6.drop.drop.drop ⟨rfl, by simp; omega, mem_snoc hzs ⟨i, _, rfl, by omega, none_ctl hq9⟩⟩ (hca.set (by rfl))
    · refine comp_turn_end F6.drop.drop.drop ⟨rfl, by omega, hzs⟩ (hca.set (by rfl))
  rintro g₁ gds DG kG h7 ⟨rfl, hgl, hgds⟩ F
  obtain ⟨g2, F, s2, hDG⟩ := F.freeze1
  have X := X.keep s2
  have hDS := s2 _ _ hDS
  clear F2 hrg
  -- texts
  walk_at "w"
  refine ListComp_ (by rfl) (by rfl) (by rfl) ?_
  walk_at "w"
  rename Loc _ _ _ _ _ _ => F2
  rename IsRange _ _ _ _ _ _ _ _ => hrg
  rw [er] at hrg
  refine comp_range1 (n := cs.length + 1) (fun i g₁ zs => g₁ = g2 ∧ zs.length = i ∧ ∀ k < i, ∃ t, zs[k]? = some (.str (txt (cs.take k)) t)) R.hd hrg F2 ⟨rfl, rfl, fun k hk => by omega⟩ (by rw [sizeLine_eq]; omega) ⟨?_⟩ ?_ ⟨_, _, rfl⟩ ⟨rfl, trivial⟩ (by rfl) (by rfl)
  · rintro i v C mc led' g₁ zs h8 hil ⟨ti, rfl⟩ ⟨rfl, hzl, hzs⟩ hled F hca
    have e1 : mc (Str.ofString "signs") = some (.ref DS) := (hca _ (by rfl)).trans (by walk_at "lk")
    walk_at "w"
    refine ⟨Slice_list ?_⟩
    walk_at "w"
    rename Loc _ _ _ _ _ _ => F3
    refine ⟨_, _, _, none, some _, rfl, F3.sub _ _ hDS, isL_listO _ _, by rw [sizeLine_eq]; omega, .none, .int _ _, _, _, _, _, _, F3, fun DZ h9 F4 => ?_⟩
    rw [hsp] at F4
    obtain ⟨lt, elt, hlt⟩ := hsg.take i
    have hll : lt.length ≤ 1000 := by have := congrArg List.length hlt; simp at this; omega
    have hl1 : ∀ p ∈ lt, p.1.length ≤ 1000 := fun p hp => by
      have : p.1 ∈ lt.map (·.1) := List.mem_map.mpr ⟨p, hp, rfl⟩
      rw [hlt] at this
      obtain ⟨c, _, e⟩ := List.mem_map.mp this
      rw [← e]; show 1 ≤ 1000; omega
    rw [elt] at F4
    walk_at "w"
    refine eJoin_list (F4.get (.head _)) (isL_listO _ _) hll hl1 len_nil fun tj => ?_
    rw [join_txt hlt]
    refine comp_turn_end F4.drop ⟨rfl, by simp; omega, fun k hk => ?_⟩ (hca.set (by rfl))
    by_cases hki : k < i
    · obtain ⟨t, e⟩ := hzs k hki
      exact ⟨t, by rw [List.getElem?_append_left (by omega)]; exact e⟩
    · have : k = i := by omega
      subst this
      exact ⟨tj, by rw [List.getElem?_append_right (by omega), hzl]; simp⟩
  rintro g₁ txs DT kT h8 ⟨rfl, htl, htxs⟩ F
  obtain ⟨g3, F, s3, hDT⟩ := F.freeze1
  have X := X.keep s3
  have hDS := s3 _ _ hDS
  have hDG := s3 _ _ hDG
  clear F2 hrg
  have htx : ∀ k : Nat, k ≤ cs.length → ∃ t, txs[(k : Int).toNat]? = some (.str (txt (cs.take k)) t) := fun k hk => htxs k (by omega)
  -- pairs
  walk_at "w"
  refine Assign_ListComp (by rfl) (by rfl) (by rfl) (by rfl) ?_
  walk_at "w"
  rename Loc _ _ _ _ _ _ => F2
  refine comp_listN (fun i g₁ us => Sub g3 g₁ ∧ ∃ ps, RdAll g₁ us (ps.map pairD) ∧ ps.length = i ∧ ∀ p ∈ ps, GoodP p) R.hd (isL_listO _ _) F2 (fun _ _ _ e => .inl (e.1 _ _ hDG)) ⟨Sub.rfl', [], .nil, rfl, fun p hp => by cases hp⟩ ⟨?_⟩ ?_ ⟨rfl, trivial⟩ (by rfl) (by rfl) (by rw [sizeLine_eq]; omega)
  · rintro i v C mc led' g₁ us h9 hil hv ⟨sg, ps, hus, hpl, hps⟩ hled F hca
    obtain ⟨kk, tk, rfl, hkl, hkc⟩ := hgds v (List.mem_of_getElem? hv)
    obtain ⟨tt, htk⟩ := htx kk hkl
    have e1 : mc (Str.ofString "texts") = some (.ref DT) := (hca _ (by rfl)).trans (by walk_at "lk")
    have X := X.keep sg
    have hDT := sg _ _ hDT
    have hlo : low (txt (cs.take kk)) := low_txt fun c hc => hlow c (List.mem_of_mem_take hc)
    have hasc : ascii (txt (cs.take kk)) := ascii_of hlo fun c hc => hkc c (by rwa [txt_list] at hc)
    have hxl : (txt (cs.take kk)).length ≤ 63 := by rw [txt_len, List.length_take]; omega
    have hdg := digits kk (by omega)
    walk_at "w"
    rename Loc _ _ _ _ _ _ => F3
    refine turned_call (R.le (by omega)) (F3.amb X) (by omega) fun t' h10 s10 => ?_
    have F4 := F3.keep s10
    clear F F3
    walk_at "w"
    all_goals
      rename Loc _ _ _ _ _ _ => F5
      obtain ⟨g8, F8, s8, hT8⟩ := F5.freeze1
      refine ⟨g8, _, ⟨sg.tr s8, pairs_snoc hus s8 hpl hps hT8 ?_⟩, F8, hca.set (by rfl)⟩
      first
        | exact goodP (turned_ascii hasc) (by rw [turned_len]; exact hxl) hdg.1 (by omega)
        | exact goodP (turned_ascii hasc) (by rw [turned_len]; exact hxl) ascii_nil (by rw [len_nil]; omega)
  rintro g₁ us DP kP h9 ⟨sg, ps, hus, hpl, hps⟩ F
  obtain ⟨g4, F, s4, hDP⟩ := F.freeze1
  have s34 := sg.tr s4
  have X := X.keep s34
  have hDS := s34 _ _ hDS
  have hDG := s34 _ _ hDG
  have hDT := s34 _ _ hDT
  have hus := hus.keep s4
  have hul : us.length = ps.length := by have := hus.length; simpa using this
  clear F2
  -- pairs, the second half
  walk_at "w"
  refine ListComp_ (by rfl) (by rfl) (by rfl) ?_
  walk_at "w"
  rename Loc _ _ _ _ _ _ => F2
  refine comp_list (fun i g₁ us => Sub g4 g₁ ∧ ∃ ps, RdAll g₁ us (ps.map pairD) ∧ ps.length = i ∧ ∀ p ∈ ps, GoodP p) R.hd (isL_listO _ _) F2 (fun _ _ _ e => .inl (e.1 _ _ hDG)) ⟨Sub.rfl', [], .nil, rfl, fun p hp => by cases hp⟩ ⟨?_⟩ ?_ ⟨rfl, trivial⟩ (by rfl) (by rfl) (by rw [sizeLine_eq]; omega)
  · rintro i v C mc led' g₁ us h9 hil hv ⟨sg, ps, hus, hpl, hps⟩ hled F hca
    obtain ⟨kk, tk, rfl, hkl, hkc⟩ := hgds v (List.mem_of_getElem? hv)
    obtain ⟨tt, htk⟩ := htx kk hkl
    have e1 : mc (Str.ofString "texts") = some (.ref DT) := (hca _ (by rfl)).trans (by walk_at "lk")
    have X := X.keep sg
    have hDT := sg _ _ hDT
    have hlo : low (txt (cs.take kk)) := low_txt fun c hc => hlow c (List.mem_of_mem_take hc)
    have hasc : ascii (txt (cs.take kk)) := ascii_of hlo fun c hc => hkc c (by rwa [txt_list] at hc)
    have hxl : (txt (cs.take kk)).length ≤ 63 := by rw [txt_len, List.length_take]; omega
    have hdg := digits kk (by omega)
    have hdl := hdg.2
    have hal := len_again
    walk_at "w"
    rename Loc _ _ _ _ _ _ => F5
    obtain ⟨g8, F8, s8, hT8⟩ := F5.freeze1
    refine ⟨g8, _, ⟨sg.tr s8, pairs_snoc hus s8 hpl hps hT8 ?_⟩, F8, hca.set (by rfl)⟩
    exact goodP hasc hxl (app_ascii asc_again hdg.1) (by rw [Str.length_append]; omega)
  rintro g₁ us2 DP2 kP2 h10 ⟨sg5, ps2, hus2, hpl2, hps2⟩ F
  have hul2 : us2.length = ps2.length := by have := hus2.length; simpa using this
  have X := X.keep sg5
  have hDP := sg5 _ _ hDP
  have hus := hus.keep sg5
  have hDS := sg5 _ _ hDS
  have hDT := sg5 _ _ hDT
  clear F2
  refine eAdd_list F (F.sub _ _ hDP) (isL_listO _ _) (F.get (.head _)) (isL_listO _ _) (by rw [sizeLine_eq]; omega) fun DQ h11 F => ?_
  obtain ⟨g6, F, s6, hDQ⟩ := F.freeze1
  have F := F.drop
  have X := X.keep s6
  have hDT := s6 _ _ hDT
  have P : PsAt g6 DQ (us ++ us2) 0 (ps ++ ps2) := ⟨hDQ, by rw [List.map_append]; exact (hus.append hus2).keep s6, fun p hp => (List.mem_append.mp hp).elim (hps p) (hps2 p), by rw [List.length_append]; omega⟩
  have htxA : ∀ (i : Nat) v, txs[i]? = some v → ∃ t, v = .str (txt (cs.take i)) t ∧ i ≤ cs.length := fun i v hv => by
    have hil : i < txs.length := (List.getElem?_eq_some_iff.mp hv).1
    obtain ⟨t, e⟩ := htxs i (by omega)
    rw [hv] at e
    exact ⟨t, Option.some.inj e, by omega⟩
  have htxL : ∀ i : Nat, low (txt (cs.take i)) ∧ (txt (cs.take i)).length ≤ 63 := fun i => ⟨low_txt fun c hc => hlow c (List.mem_of_mem_take hc), by rw [txt_len, List.length_take]; omega⟩
  have htxS : ∀ v ∈ txs, AskS v := fun v hv => by
    obtain ⟨i, hi', e⟩ := List.getElem_of_mem hv
    obtain ⟨t, rfl, _⟩ := htxA i v (by rw [List.getElem?_eq_getElem hi', e])
    exact askS (by have := (htxL i).2; omega) (htxL i).1
  -- names
  walk_at "w"
  refine ListComp_ (by rfl) (by rfl) (by rfl) ?_
  walk_at "w"
  rename Loc _ _ _ _ _ _ => F2
  refine comp_list (fun i g₁ ys => g₁ = g6 ∧ ys.length = i ∧ ∀ v ∈ ys, AskS v) R.hd (isL_listO _ _) F2 (fun _ _ _ e => .inl (e.1 ▸ hDT)) ⟨rfl, rfl, fun v hv => by cases hv⟩ ⟨?_⟩ ?_ trivial (by rfl) (by rfl) (by rw [sizeLine_eq]; omega)
  · rintro i v C mc led' g₁ ys h12 hil hv ⟨rfl, hyl, hys⟩ hled F hca
    obtain ⟨tv, rfl, hic⟩ := htxA i v hv
    obtain ⟨hlo, hxl⟩ := htxL i
    have htl := len_tilde
    walk_at "w"
    refine comp_turn_end (by assumption) ⟨rfl, by simp; omega, mem_snoc hys (askS (by rw [Str.length_append]; omega) (low_app hlo low_tilde))⟩ (hca.set (by rfl))
  rintro g₁ n2 DN2 kN2 h12 ⟨rfl, hn2l, hn2⟩ F
  clear F2
  refine eAdd_list F (F.sub _ _ hDT) (isL_listO _ _) (F.get (.head _)) (isL_listO _ _) (by rw [sizeLine_eq]; omega) fun DN h13 F => ?_
  obtain ⟨nv, hnv⟩ : ∃ nv, nv = txs ++ n2 := ⟨_, rfl⟩
  rw [← hnv] at F
  have hnvl : nv.length ≤ 200 := by rw [hnv, List.length_append]; omega
  have hnvS : ∀ v ∈ nv, AskS v := by rw [hnv]; exact mem_app htxS hn2
  clear hnv
  have F : Loc g₁ L (lawCs L) _ [(DN, listO nv 0)] h13 := F.only (fun q hq => by rw [List.mem_singleton.mp hq]; exact .head _) (by simp)
  -- names += the halves
  walk_at "w"
  refine ListComp_ (by rfl) (by rfl) (by rfl) ?_
  walk_at "w"
  rename Loc _ _ _ _ _ _ => F2
  refine comp_list (fun i g₂ ys => g₂ = g₁ ∧ ys.length = i ∧ ∀ v ∈ ys, AskS v) R.hd (isL_listO _ _) F2 (fun _ _ _ e => .inl (e.1 ▸ hDT)) ⟨rfl, rfl, fun v hv => by cases hv⟩ ⟨?_⟩ ?_ trivial (by rfl) (by rfl) (by rw [sizeLine_eq]; omega)
  · rintro i v C mc led' g₂ ys h14 hil hv ⟨rfl, hyl, hys⟩ hled F hca
    obtain ⟨tv, rfl, hic⟩ := htxA i v hv
    obtain ⟨hlo, hxl⟩ := htxL i
    walk_at "w"
    refine ⟨Slice_str ?_⟩
    walk_at "w"
    rename Loc _ _ _ _ _ _ => F3
    refine ⟨_, _, none, some (_, _), rfl, rfl, rfl, by rw [sizeLine_eq]; omega, _, _, _, _, _, F3, fun t' h15 F4 => ?_⟩
    walk_at "w"
    have hS : ∀ l u, (Txt.slice (txt (cs.take i)) l u).length ≤ 63 := fun l u => Nat.le_trans (Txt.slice_le _ _ _) hxl
    refine turned_call (R.le (by omega)) (F4.amb X) (Nat.le_trans (hS _ _) (by omega)) fun t5 h16 s16 => ?_
    have F5 := F4.keep s16
    clear F F3 F4
    walk_at "w"
    refine ⟨Slice_str ?_⟩
    walk_at "w"
    refine ⟨_, _, some (_, _), none, rfl, rfl, rfl, by rw [sizeLine_eq]; omega, _, _, _, _, _, F5, fun t6 h17 F6 => ?_⟩
    refine eAdd_str (fun t7 => ?_) (by rw [turned_len, sizeLine_eq]; exact Nat.le_trans (Nat.add_le_add (hS _ _) (hS _ _)) (by omega))
    refine comp_turn_end F6 ⟨rfl, by simp; omega, mem_snoc hys (askS ?_ (low_app (low_turned (low_slice hlo _ _)) (low_slice hlo _ _)))⟩ (hca.set (by rfl))
    rw [Str.length_append, turned_len]
    exact Nat.le_trans (Nat.add_le_add (hS _ _) (hS _ _)) (by omega)
  rintro g₂ n3 DN3 kN3 h14 ⟨rfl, hn3l, hn3⟩ F
  clear F2
  refine eIadd_list F (PutF.tail PutF.head) (F.get (.head _)) (by omega) fun nn h15 F => ?_
  obtain ⟨nv2, hnv2⟩ : ∃ nv2, nv2 = nv ++ n3 := ⟨_, rfl⟩
  rw [← hnv2] at F
  have hnvl2 : nv2.length ≤ 400 := by rw [hnv2, List.length_append]; omega
  have hnvS2 : ∀ v ∈ nv2, AskS v := by rw [hnv2]; exact mem_app hnvS hn3
  clear hnv2
  have F : Loc g₂ L (lawCs L) _ [(DN, listO nv2 nn)] h15 := F.drop
  -- names += the other ends
  walk_at "w"
  refine ListComp_ (by rfl) (by rfl) (by rfl) ?_
  refine Slice_list ?_
  walk_at "w"
  rename Loc _ _ _ _ _ _ => F2
  refine ⟨_, _, _, some _, none, rfl, F2.sub _ _ hDT, isL_listO _ _, by rw [sizeLine_eq]; omega, .int _ _, .none, _, _, _, _, _, F2, fun DZ h16 F3 => ?_⟩
  rw [show (slicePick txs.toArray (some 1) none none).toList = txs.drop 1 from by rw [show (1 : Int) = ((1 : Nat) : Int) from rfl, slicePick_from']] at F3
  refine comp_list (fun i g₁ ys => g₁ = g₂ ∧ ys.length = i ∧ ∀ v ∈ ys, AskS v) R.hd (isL_listO _ _) F3 (fun _ _ _ e => .inr (.head _)) ⟨rfl, rfl, fun v hv => by cases hv⟩ ⟨?_⟩ ?_ trivial (by rfl) (by rfl) (by rw [sizeLine_eq, List.length_drop]; omega)
  · rintro i v C mc led' g₁ ys h17 hil hv ⟨rfl, hyl, hys⟩ hled F hca
    rw [List.getElem?_drop] at hv
    obtain ⟨tv, rfl, hic⟩ := htxA (1 + i) v hv
    obtain ⟨hlo, hxl⟩ := htxL (1 + i)
    have hS : ∀ l u, (Txt.slice (txt (cs.take (1 + i))) l u).length ≤ 63 := fun l u => Nat.le_trans (Txt.slice_le _ _ _) hxl
    obtain ⟨c, hc⟩ : ∃ c, (txt (cs.take (1 + i))).cps.back? = some c := by
      have hz : (txt (cs.take (1 + i))).cps.size = 1 + i := by show (cs.take (1 + i)).toArray.size = _; simp; omega
      exact ⟨_, by rw [Array.back?, Array.getElem?_eq_getElem (by omega)]⟩
    have f95 := fmod_facts ((c : Int) - 31) 95 (by omega)
    walk_at "w"
    refine ⟨Slice_str ?_⟩
    walk_at "w"
    rename Loc _ _ _ _ _ _ => F4
    refine ⟨_, _, none, some (_, _), rfl, rfl, rfl, by rw [sizeLine_eq]; omega, _, _, _, _, _, F4, fun t' h18 F5 => ?_⟩
    walk_at "w"
    refine eItem_end hc fun t8 => ?_
    walk_at "w"
    refine eAdd_str (fun t9 => ?_) (by rw [sizeLine_eq]; exact Nat.le_trans (Nat.add_le_add (hS _ _) (Nat.le_refl 1)) (by omega))
    refine comp_turn_end F5 ⟨rfl, by simp; omega, mem_snoc hys (askS ?_ (low_app (low_slice hlo _ _) (low_one (by omega))))⟩ (hca.set (by rfl))
    rw [Str.length_append]
    exact Nat.le_trans (Nat.add_le_add (hS _ _) (Nat.le_refl 1)) (by omega)
  rintro g₁ n4 DN4 kN4 h17 ⟨rfl, hn4l, hn4⟩ F
  rw [List.length_drop] at hn4l
  clear F2 F3
  refine eIadd_list F (PutF.tail (PutF.tail PutF.head)) (F.get (.head _)) (by omega) fun nn2 h18 F => ?_
  obtain ⟨nv3, hnv3⟩ : ∃ nv3, nv3 = nv2 ++ n4 := ⟨_, rfl⟩
  rw [← hnv3] at F
  have hnvl3 : nv3.length ≤ 600 := by rw [hnv3, List.length_append]; omega
  have hnvS3 : ∀ v ∈ nv3, AskS v := by rw [hnv3]; exact mem_app hnvS2 hn4
  clear hnv3
  have F : Loc g₁ L (lawCs L) _ [(DN, listO nv3 nn2)] h18 := F.drop.drop
  -- the loop
  walk_at "w"
  rename Loc _ _ _ _ _ _ => F2
  obtain ⟨g7, F, s7, hDD⟩ := F2.freeze1
  have F := F.drop.drop
  have X := X.keep s7
  have P := P.keep s7
  clear F2
  have hask : ∀ (i : Nat) v t, (nv3 ++ [Value.bytes bAB t])[i]? = some v → AskS v ∨ ∃ t, v = .bytes bAB t := fun i v t hv => by
    rcases List.mem_append.mp (List.mem_of_getElem? hv) with q | q
    · exact .inl (hnvS3 v q)
    · exact .inr ⟨t, List.mem_singleton.mp q⟩
  refine loop_list (fun i g m led => led = [] ∧ Sub g7 g ∧ m (Str.ofString "pairs") = some (.ref DQ)) R.hd (isL_listO _ _) F ⟨rfl, Sub.rfl', by walk_at "lk"⟩ (fun i g m led e => .inl (e.2.1 _ _ hDD)) ?_ ?_
  · rintro i v I o g m led h19 hv ⟨rfl, sg7, hm⟩ F
    have X := X.keep sg7
    have P := P.keep sg7
    have hv' := hask i v _ hv
    refine assign_C F (fun h20 F => ?_)
    rcases hv' with ⟨x, t, rfl, hxl, hxo⟩ | ⟨t, rfl⟩
    · by_cases hb : ∃ c ∈ x.cps.toList, ctl c
      · exact (turnS (by rfl) rfl (R.le (by omega)) fo X F P (by walk_at "lk") (by walk_at "lk") hxl hxo hb).mono (fun fl h₂ ⟨e, g', m', s, hm', F'⟩ => by subst e; exact ⟨g', m', [], ⟨rfl, sg7.tr s, hm'⟩, F'⟩) (fun _ _ e => e)
      · exact (turnG (by rfl) rfl (R.le (by omega)) fo X F P (by walk_at "lk") (by walk_at "lk") hxl (ascii_of hxo fun c hc q => hb ⟨c, hc, q⟩)).mono (fun fl h₂ ⟨e, g', m', s, hm', F'⟩ => by subst e; exact ⟨g', m', [], ⟨rfl, sg7.tr s, hm'⟩, F'⟩) (fun _ _ e => e)
    · exact (turnB (by rfl) rfl (R.le (by omega)) fo X F P (by walk_at "lk") (by walk_at "lk")).mono (fun fl h₂ ⟨e, g', m', s, hm', F'⟩ => by subst e; exact ⟨g', m', [], ⟨rfl, sg7.tr s, hm'⟩, F'⟩) (fun _ _ e => e)
  · rintro g m led h19 ⟨rfl, sg7, hm⟩ F
    walk_at "w"
    exact k _ (s1.tr (s2.tr (s3.tr (s34.tr (sg5.tr (s6.tr (s7.tr (sg7.tr F.sub))))))))
end

set_option maxHeartbeats 8000000
theorem fin06 : PySem.Challenge.rw_dn0261_06.Holds := by
  refine Mine.hd ?_
  k_fill
  intro w s₀ s₁ mg mb G Y fa o pm cd doc dV kV ho hd hcd hD hmg hg args vals as hpre hlay hrd hwl hlo
  have KX := kIn_of Y
  wrow_args hpre hlay hrd hwl hlo
  clear ho hd
  rename IntsAre _ _ => hI
  rename Heap.IsList _ _ _ => hL
  rename (¬ (_ : Int) < _) => hlen
  have X : Amb (K7 w) mg mb s₁.heap := ⟨KX, G.T.g, G.T.b, G.T.builtins, G.T.nolimit⟩
  have hfa : fa = 204 := by
    have e := hmg.symm.trans (mg_of KX G.T.g (n := Str.ofString "law") (v := .ref 204) (by rfl))
    injection e with e
    injection e
  subst hfa
  obtain ⟨ol, hol, hlc, hld⟩ := hL
  refine wpAny_mono ((law_call (Q := fun v h' => v = .bool true ∧ Sub s₁.heap h') (E := fun _ _ => False) (A := callerA) ⟨rfl, by decide, by decide, rfl⟩ rfl X hol ⟨hlc, hld⟩ hI (by omega) (fun h' s => ⟨rfl, s⟩)).run s₁ rfl) (fun v s' q => ?_) (fun e s' q => q.2.elim)
  obtain ⟨m, rfl, sub⟩ := q
  refine ⟨.inl ⟨.bool true, _, [], rfl, fun _ => rfl, .bool true, postW_of (by wrow_shape) (by wtm_val) (by str_meet; first | done | w_fin), fun _ => ⟨.nil, fun _ h => by cases h⟩⟩, .of_keep sub, ?_, .of_eq ?_⟩
  · rw [m]
  · rw [m]; exact hg
end Mine
theorem PySem.Challenge.cw_dn0261_06_holds : PySem.Challenge.rw_dn0261_06.Holds :=
  Mine.fin06
