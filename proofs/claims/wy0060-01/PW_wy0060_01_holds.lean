import PyProof.Rows.All
import Wide.All
import OpenK.AllK
import Wide.FinOn
import PyProof.CompFree
import PyProof.Conv_int_float
import PyProof.NeData
import PyProof.StrLawsFirst
import PyProof.WalksMore
import PyProof.Rows.DictMethods
import Flt.Ops
import KE.KNest
import Lean
import PySem.Challenge.RW_wy0060_01
open PySem PySem.W PySem.Calls PyProof.Rows
set_option Elab.async false
set_option maxRecDepth 20000
set_option linter.unusedVariables false
namespace Mine
/-! F1 -/
abbrev PG : Program := PySem.Challenge.rw_wy0060_01.prog

/-- what a run of ours leaves as it was, beside the heap and the tokens -/
structure Same (s s' : Shared) : Prop where
  gens : s'.gens = s.gens
  drawn : s'.drawn = s.drawn
  os : s'.os = s.os
theorem Same.rfl' {s : Shared} : Same s s := ⟨rfl, rfl, rfl⟩
theorem Same.trans {a b c : Shared} (x : Same a b) (y : Same b c) : Same a c := ⟨y.1.trans x.1, y.2.trans x.2, y.3.trans x.3⟩

/-- from heap h the tree ends, without an exception, in a value and a heap that meet F -/
def Run {α : Type} (w : World) (A : Around) (t : Sem α) (h : Heap) (F : α → Heap → Prop) : Prop :=
  ∀ s : Shared, s.heap = h → wpAny (model PG w) A t (fun a s' => Same s s' ∧ F a s'.heap) (fun _ _ => False) s

section
variable {α β : Type} {w : World} {A : Around} {h : Heap}

theorem Run.mono {t : Sem α} {F G : α → Heap → Prop} (x : Run w A t h F) (k : ∀ a h', F a h' → G a h') : Run w A t h G :=
  fun s hs => wpAny_mono (x s hs) (fun a s' q => ⟨q.1, k a _ q.2⟩) fun _ _ e => e
theorem Run.pure {a : α} {F : α → Heap → Prop} (x : F a h) : Run w A (Pure.pure a) h F :=
  fun s hs => wpAny_pure ⟨Same.rfl', hs ▸ x⟩
/-- a run behind a state that is the same but for heap and tokens -/
theorem Run.on {t : Sem α} {F : α → Heap → Prop} {s s₁ : Shared} (x : Run w A t s₁.heap F) (S : Same s s₁) :
    wpAny (model PG w) A t (fun a s' => Same s s' ∧ F a s'.heap) (fun _ _ => False) s₁ :=
  wpAny_mono (x s₁ rfl) (fun _ _ q => ⟨S.trans q.1, q.2⟩) fun _ _ e => e
/-- take a rule of the library for one of ours -/
theorem Run.bind {m : Sem α} {f : α → Sem β} {F : β → Heap → Prop} (x : Run w A m h (fun a h' => Run w A (f a) h' F)) : Run w A (m >>= f) h F :=
  fun s hs => wpAny_bind (wpAny_mono (x s hs) (fun _ _ q => q.2.on q.1) fun _ _ e => e)
/-- from ours to the library's -/
theorem Run.to {t : Sem α} {F : α → Heap → Prop} {s : Shared} {Q : α → Shared → Prop} {E : Value → Shared → Prop} (x : Run w A t s.heap F) (k : ∀ a s', Same s s' → F a s'.heap → Q a s') : wpAny (model PG w) A t Q E s :=
  wpAny_mono (x s rfl) (fun a s' q => k a s' q.1 q.2) fun _ _ e => e.elim
end

/-! statements -/
section
variable {w : World} {A : Around} {h : Heap} {env : Env} {F : Flow → Heap → Prop}

theorem Run.execs_nil (x : F .next h) : Run w A (execs [] env) h F := fun _ hs => wpAny_execs_nil ⟨Same.rfl', hs ▸ x⟩
/-- a statement that goes on to the next -/
theorem Run.seq {st : Stmt} {rest : List Stmt} (x : Run w A (exec st env) h (fun f h' => match f with | .next => Run w A (execs rest env) h' F | f => F f h')) : Run w A (execs (st :: rest) env) h F :=
  fun s hs => wpAny_execs_cons (wpAny_mono (x s hs) (fun f s' q => by
    obtain ⟨S, q⟩ := q
    cases f with
    | next => exact q.on S
    | brk => exact ⟨S, q⟩
    | cont => exact ⟨S, q⟩
    | ret v => exact ⟨S, q⟩) fun _ _ e => e)
theorem Run.ret {e : Expr} {pos : Pos} (x : Run w A (eval e env) h (fun v h' => F (.ret v) h')) : Run w A (exec (.Return (some e) pos) env) h F :=
  fun s hs => wpAny_Return_some (x s hs)
theorem Run.assignName {x : Str} {p : Pos} {e : Expr} {pos : Pos} (hx : Run w A (eval e env) h (fun v h' => Run w A (storeName env x v) h' (fun _ => F .next)))
    (hs' : swapsWith e (some (.Name x p)) pos.line env = Pure.pure false := by rfl) : Run w A (exec (.Assign [.Name x p] e pos) env) h F :=
  fun s hs => wpAny_Assign_Name (wpAny_mono (hx s hs) (fun _ _ q => q.2.on q.1) fun _ _ e => e) hs'
theorem Run.augName {x : Str} {p : Pos} {op : Operator} {e : Expr} {pos : Pos} (hx : Run w A (loadName env x) h (fun old h₁ => Run w A (eval e env) h₁ (fun v h₂ => Run w A (inplaceOp op old v) h₂ (fun r h₃ => Run w A (storeName env x r) h₃ (fun _ => F .next))))) :
    Run w A (exec (.AugAssign (.Name x p) op e pos) env) h F :=
  fun s hs => wpAny_AugAssign_Name (wpAny_mono (hx s hs) (fun _ _ q => wpAny_mono (q.2.on q.1) (fun _ _ q => wpAny_mono (q.2.on q.1) (fun _ _ q => q.2.on q.1) fun _ _ e => e) fun _ _ e => e) fun _ _ e => e)
theorem Run.ite {test : Expr} {body orelse : List Stmt} {pos : Pos} (x : Run w A (isTrue test env (eval test env)) h (fun b h' => (b = true → Run w A (execs body env) h' F) ∧ (b = false → Run w A (execs orelse env) h' F))) :
    Run w A (exec (.If test body orelse pos) env) h F :=
  fun s hs => wpAny_If (wpAny_mono (x s hs) (fun b s' q => by
    cases b with
    | true => exact (q.2.1 rfl).on q.1
    | false => exact (q.2.2 rfl).on q.1) fun _ _ e => e)
theorem Run.expr {e : Expr} {pos : Pos} (x : Run w A (eval e env) h (fun v h' => (∀ a, v ≠ .ref a) ∧ F .next h'))
    (hi : interactive env = false := by rfl) (hs' : swapsWith e none pos.line env = Pure.pure false := by rfl) : Run w A (exec (.Expr e pos) env) h F :=
  fun s hs => wpAny_Expr (wpAny_mono (x s hs) (fun v s' q => by
    obtain ⟨S, n, q⟩ := q
    cases v with
    | ref a => exact absurd rfl (n a)
    | _ => exact ⟨S, q⟩) fun _ _ e => e) hi hs'
end

/-! expressions -/
section
variable {w : World} {A : Around} {h : Heap} {env : Env} {F : Value → Heap → Prop}

theorem Run.binOp {l r : Expr} {op : Operator} {pos : Pos} (x : Run w A (eval l env) h (fun a h₁ => Run w A (eval r env) h₁ (fun b h₂ => Run w A (binaryOp op a b) h₂ F))) : Run w A (eval (.BinOp l op r pos) env) h F :=
  fun s hs => wpAny_BinOp (wpAny_mono (x s hs) (fun _ _ q => wpAny_mono (q.2.on q.1) (fun _ _ q => q.2.on q.1) fun _ _ e => e) fun _ _ e => e)
theorem Run.cmp {l r : Expr} {op : CmpOp} {pos : Pos} (x : Run w A (eval l env) h (fun a h₁ => Run w A (eval r env) h₁ (fun b h₂ => Run w A (compareOp op a b) h₂ F)))
    (hm : behindInMarks op r = false := by with_unfolding_all rfl) : Run w A (eval (.Compare l [op] [r] pos) env) h F :=
  fun s hs => wpAny_Compare1 (wpAny_mono (x s hs) (fun _ _ q => wpAny_mono (q.2.on q.1) (fun _ _ q => q.2.on q.1) fun _ _ e => e) fun _ _ e => e) hm
theorem Run.truthB {b : Bool} {F : Bool → Heap → Prop} (x : F b h) : Run w A (truthy (.bool b)) h F := fun _ hs => wpAny_truthy_bool ⟨Same.rfl', hs ▸ x⟩
theorem Run.isCmp {l r : Expr} {op : CmpOp} {pos : Pos} {wh : Sem Value} {F : Bool → Heap → Prop} (x : Run w A (eval l env) h (fun a h₁ => Run w A (eval r env) h₁ (fun b h₂ => Run w A (compareOp op a b) h₂ (fun c h₃ => Run w A (truthy c) h₃ F))))
    (hm : behindInMarks op r = false := by with_unfolding_all rfl) : Run w A (isTrue (.Compare l [op] [r] pos) env wh) h F :=
  fun s hs => wpAny_isTrue_Compare1 (wpAny_mono (x s hs) (fun _ _ q => wpAny_mono (q.2.on q.1) (fun _ _ q => wpAny_mono (q.2.on q.1) (fun _ _ q => q.2.on q.1) fun _ _ e => e) fun _ _ e => e) fun _ _ e => e) hm
theorem Run.constI {i : Int} {k : Nat} {pos : Pos} (x : ∀ t, F (.int i t) h) : Run w A (eval (.Constant (.int i) k pos) env) h F := fun s hs => wpAny_Constant_int ⟨⟨rfl, rfl, rfl⟩, by show F _ s.heap; rw [hs]; exact x _⟩
theorem Run.name {x : Str} {pos : Pos} (hx : Run w A (loadName env x) h F) (hd : (x == ("__debug__" : Str)) = false := by decide) : Run w A (eval (.Name x pos) env) h F :=
  fun s hs => wpAny_Name (hx s hs) hd
end

/-! ints -/
section
variable {w : World} {A : Around} {h : Heap} {F : Value → Heap → Prop} {a b : Int} {t u : Tok}
theorem Run.addI (x : ∀ t, F (.int (a + b) t) h) : Run w A (binaryOp .Add (.int a t) (.int b u)) h F := fun s hs => add_int ⟨⟨rfl, rfl, rfl⟩, by show F _ s.heap; rw [hs]; exact x _⟩
theorem Run.subI (x : ∀ t, F (.int (a - b) t) h) : Run w A (binaryOp .Sub (.int a t) (.int b u)) h F := fun s hs => sub_int ⟨⟨rfl, rfl, rfl⟩, by show F _ s.heap; rw [hs]; exact x _⟩
theorem Run.mulI (hm : IntMulOk a b) (x : ∀ t, F (.int (a * b) t) h) : Run w A (binaryOp .Mult (.int a t) (.int b u)) h F := fun s hs => mul_int ⟨⟨rfl, rfl, rfl⟩, by show F _ s.heap; rw [hs]; exact x _⟩ hm
theorem Run.modI (hb : b ≠ 0) (x : ∀ t, F (.int (a.fmod b) t) h) : Run w A (binaryOp .Mod (.int a t) (.int b u)) h F := fun s hs => mod_int hb ⟨⟨rfl, rfl, rfl⟩, by show F _ s.heap; rw [hs]; exact x _⟩
theorem Run.divI (hb : b ≠ 0) (hp : Builtin.divisionGoesByPylong a b = false) (x : ∀ t, F (.int (a.fdiv b) t) h) : Run w A (binaryOp .FloorDiv (.int a t) (.int b u)) h F :=
  fun s hs => floordiv_int hb ⟨⟨rfl, rfl, rfl⟩, by show F _ s.heap; rw [hs]; exact x _⟩ (.inl hp)
theorem Run.ltI (x : F (.bool (decide (a < b))) h) : Run w A (compareOp .Lt (.int a t) (.int b u)) h F := fun s hs => lt_int ⟨Same.rfl', hs ▸ x⟩
theorem Run.eqI (x : F (.bool (a == b)) h) : Run w A (compareOp .Eq (.int a t) (.int b u)) h F := fun s hs => eq_int ⟨Same.rfl', hs ▸ x⟩
theorem Run.neI (x : F (.bool (a != b)) h) : Run w A (compareOp .NotEq (.int a t) (.int b u)) h F := fun s hs => ne_int ⟨Same.rfl', hs ▸ x⟩
end

/-! F2 -/
abbrev Cell := Addr × (Obj → Prop)
/-- the base hb stands; the cells are objects of our own (unknown to hb), apart from one another, and each is as its word says -/
structure Own (hb h : Heap) (cs : List Cell) : Prop where
  keep : ∀ b o, hb.get? b = some o → h.get? b = some o
  cell : ∀ c ∈ cs, (∃ o, h.get? c.1 = some o ∧ c.2 o) ∧ hb.get? c.1 = none
  nodup : (cs.map (·.1)).Nodup

section
variable {hb h h' : Heap} {cs ds : List Cell} {a : Addr} {P P' : Obj → Prop}
theorem Own.start : Own h h [] := ⟨fun _ _ e => e, fun _ x => (nomatch x), List.nodup_nil⟩
theorem Own.tail (O : Own hb h ((a, P) :: cs)) : Own hb h cs := ⟨O.keep, fun c x => O.cell c (.tail _ x), (List.nodup_cons.mp O.nodup).2⟩
theorem Own.sub (O : Own hb h cs) (x : List.Sublist ds cs) : Own hb h ds := ⟨O.keep, fun c y => O.cell c (x.subset y), (x.map _).nodup O.nodup⟩
theorem Own.perm (O : Own hb h cs) (x : List.Perm cs ds) : Own hb h ds := ⟨O.keep, fun c y => O.cell c (x.mem_iff.mpr y), (x.map _).nodup_iff.mp O.nodup⟩
/-- the cell behind l₁ comes to the front -/
theorem Own.front {l₁ l₂ : List Cell} {c : Cell} (O : Own hb h (l₁ ++ c :: l₂)) : Own hb h (c :: (l₁ ++ l₂)) := O.perm List.perm_middle
theorem Own.back {l₁ l₂ : List Cell} {c : Cell} (O : Own hb h (c :: (l₁ ++ l₂))) : Own hb h (l₁ ++ c :: l₂) := O.perm List.perm_middle.symm
theorem Own.weak (O : Own hb h ((a, P) :: cs)) (k : ∀ o, P o → P' o) : Own hb h ((a, P') :: cs) :=
  ⟨O.keep, fun c x => by
    rcases List.mem_cons.mp x with rfl | x
    · obtain ⟨⟨o, e, p⟩, n⟩ := O.cell _ (.head _); exact ⟨⟨o, e, k o p⟩, n⟩
    · exact O.cell c (.tail _ x), O.nodup⟩
theorem Own.get (O : Own hb h cs) (x : (a, P) ∈ cs) : ∃ o, h.get? a = some o ∧ P o := (O.cell _ x).1
theorem Own.new (O : Own hb h cs) (x : (a, P) ∈ cs) : hb.get? a = none := (O.cell _ x).2
theorem Own.ne (O : Own hb h ((a, P) :: cs)) {b : Addr} {Q : Obj → Prop} (x : (b, Q) ∈ cs) : b ≠ a := fun e =>
  (List.nodup_cons.mp O.nodup).1 (e ▸ List.mem_map.mpr ⟨_, x, rfl⟩)
/-- the first cell is changed -/
theorem Own.change (O : Own hb h ((a, P) :: cs)) (hs : Heap.SameBut a h h') (x : ∃ o, h'.get? a = some o ∧ P' o) : Own hb h' ((a, P') :: cs) := by
  have hn := O.new (.head _)
  refine ⟨fun b o e => ?_, fun c y => ?_, O.nodup⟩
  · have : b ≠ a := fun z => by rw [z, hn] at e; cases e
    exact (hs.2 b this).trans (O.keep b o e)
  · rcases List.mem_cons.mp y with rfl | y
    · exact ⟨x, hn⟩
    · obtain ⟨⟨o, e, p⟩, n⟩ := O.cell c (.tail _ y)
      exact ⟨⟨o, (hs.2 c.1 (O.ne (b := c.1) (Q := c.2) y)).trans e, p⟩, n⟩
/-- what keeps every object keeps the cells -/
theorem Own.keeps (O : Own hb h cs) (k : ∀ b o, h.get? b = some o → h'.get? b = some o) : Own hb h' cs :=
  ⟨fun b o e => k b o (O.keep b o e), fun c y => let ⟨⟨o, e, p⟩, n⟩ := O.cell c y; ⟨⟨o, k _ _ e, p⟩, n⟩, O.nodup⟩
theorem Own.lt (O : Own hb h cs) (x : (a, P) ∈ cs) : a < h.objs.size := let ⟨_, e, _⟩ := O.get x; Heap.lt_size e
/-- one object more, at an address that was none's -/
theorem Own.add (O : Own hb h cs) (k : ∀ b o, h.get? b = some o → h'.get? b = some o) (hn : h.get? a = none) (x : ∃ o, h'.get? a = some o ∧ P o) : Own hb h' ((a, P) :: cs) := by
  have O' := O.keeps k
  refine ⟨O'.keep, fun c y => ?_, ?_⟩
  · rcases List.mem_cons.mp y with rfl | y
    · refine ⟨x, ?_⟩
      cases q : hb.get? a with
      | none => rfl
      | some o => rw [O.keep _ _ q] at hn; cases hn
    · exact O'.cell c y
  · rw [List.map_cons]
    refine List.nodup_cons.mpr ⟨fun y => ?_, O.nodup⟩
    obtain ⟨c, z, rfl⟩ := List.mem_map.mp y
    obtain ⟨o, e, _⟩ := O.get (a := c.1) (P := c.2) z
    rw [e] at hn; cases hn
theorem Own.push (O : Own hb h cs) (o : Obj) (p : P o) (hf : o.isFreed = false := by rfl) : Own hb (h.push o) ((h.objs.size, P) :: cs) :=
  O.add (fun b o e => Heap.get?_push_of_some _ e) (by
    cases q : h.get? h.objs.size with
    | none => rfl
    | some o => exact absurd (Heap.lt_size q) (Nat.lt_irrefl _)) ⟨o, Heap.get?_push_size _ hf, p⟩
end

/-! words for objects -/
/-- a namespace in which these names stand so -/
def NSl (l : List (Str × Value)) (o : Obj) : Prop := ∃ es ep, o.data = .dict es ep ∧ StrKeys es ∧ ∀ x v, l.lookup x = some v → nsFind es x = some v
/-- a list | a tuple of these items -/
def LV (vs : List Value) (o : Obj) : Prop := ∃ n, o = { cls := .type "list", data := .seq vs.toArray n }
def TV (vs : List Value) (o : Obj) : Prop := ∃ n, o = { cls := .type "tuple", data := .seq vs.toArray n }
theorem ns_of {h : Heap} {L : Addr} {l : List (Str × Value)} (x : ∃ o, h.get? L = some o ∧ NSl l o) : ∃ m, h.Ns L m ∧ ∀ x v, l.lookup x = some v → m x = some v := by
  obtain ⟨o, e, es, ep, hd, hk, hl⟩ := x
  exact ⟨fun x => nsFind es x, ⟨o, es, ep, e, hd, hk, fun _ => rfl⟩, hl⟩
theorem ns_at {h : Heap} {L : Addr} {m : Str → Option Value} {l : List (Str × Value)} (x : h.Ns L m) (k : ∀ x v, l.lookup x = some v → m x = some v) : ∃ o, h.get? L = some o ∧ NSl l o := by
  obtain ⟨o, es, ep, e, hd, hk, hf⟩ := x
  exact ⟨o, e, es, ep, hd, hk, fun x v q => (hf x).trans (k x v q)⟩
theorem lv_at {h : Heap} {a : Addr} {vs : List Value} (x : ∃ o, h.get? a = some o ∧ LV vs o) : h.IsList a vs.toArray := let ⟨o, e, n, q⟩ := x; ⟨o, e, q ▸ rfl, n, q ▸ rfl⟩
theorem NSl.weak {l l' : List (Str × Value)} {o : Obj} (x : NSl l o) (k : ∀ y v, l'.lookup y = some v → l.lookup y = some v) : NSl l' o :=
  let ⟨es, ep, a, b, c⟩ := x; ⟨es, ep, a, b, fun y v q => c y v (k y v q)⟩

/-! the surroundings of a frame of ours -/
/-- an environment of a def: its own names' kinds are told by `ks` -/
structure EnvIs (env : Env) (L : Addr) (ks : List (Str × NameKind)) : Prop where
  fn : env.scope.kind = .function
  loc : env.locals = L
  glo : env.globals = mainGlobals
  blt : env.builtins = builtinsNs
  kinds : ∀ x k, ks.lookup x = some k → env.kindOf x = some k
  plain : env.scope.isGenerator = false ∧ env.scope.isCoroutine = false
structure AOk (A : Around) (d u : Nat) : Prop where
  hand : A.handled = none
  depth : A.depth + d < recursionLimit
  units : A.units + u < cLine
  frames : ∃ l, A.frames = some l
theorem AOk.room {A : Around} {d u : Nat} (x : AOk A (d + 1) u) : A.depth < recursionLimit := by have := x.depth; omega
theorem AOk.deeper {A : Around} {d u : Nat} {env : Env} (x : AOk A (d + 1) (u + 3)) : AOk (A.deeper env) d u := by
  obtain ⟨a, b, c, l, e⟩ := x
  refine ⟨a, ?_, ?_, env :: l, ?_⟩
  · show A.depth + 1 + d < _; omega
  · show A.units + 3 + u < _; omega
  · show A.frames.map (env :: ·) = _; rw [e]; rfl

/-! a def of the text: where it stands -/
structure Fn (hb : Heap) (f : Addr) (fd : FuncData) : Prop where
  at' : ∃ o, hb.get? f = some o ∧ o.data = .func fd
  code : hb.CodeRec fd.code fd.qualname
/-- what the top's run left -/
structure Gd (hb : Heap) (globs blts : List (Str × Value)) : Prop where
  lim : hb.NoLimit
  seer : hb.NoSeer
  ns : ∃ mg mb, hb.Ns mainGlobals mg ∧ hb.Ns builtinsNs mb ∧ (∀ x v, globs.lookup x = some v → mg x = some v) ∧ (∀ x v, blts.lookup x = some v → mg x = none ∧ mb x = some v)

section
variable {w : World} {A : Around} {hb h : Heap} {env : Env} {L : Addr} {ks : List (Str × NameKind)} {cs : List Cell} {l : List (Str × Value)} {x : Str} {v : Value} {globs blts : List (Str × Value)}

theorem Run.loadLocal {F : Value → Heap → Prop} (e : EnvIs env L ks) (O : Own hb h cs) (hc : (L, NSl l) ∈ cs) (hl : ks.lookup x = some .local) (hv : l.lookup x = some v) (k : F v h) : Run w A (loadName env x) h F := fun s hs => by
  subst hs
  obtain ⟨m, hn, hm⟩ := ns_of (O.get hc)
  exact wpAny_loadName_local e.fn (e.kinds _ _ hl) (by rw [e.loc]; exact hn) (hm _ _ hv) ⟨Same.rfl', k⟩
theorem Run.local' {F : Value → Heap → Prop} {pos : Pos} (e : EnvIs env L ks) (O : Own hb h cs) (hc : (L, NSl l) ∈ cs) (hl : ks.lookup x = some .local) (hv : l.lookup x = some v) (k : F v h)
    (hd : (x == ("__debug__" : Str)) = false := by decide) : Run w A (eval (.Name x pos) env) h F := Run.name (Run.loadLocal e O hc hl hv k) hd
theorem Run.store {F : Unit → Heap → Prop} (e : EnvIs env L ks) (O : Own hb h ((L, NSl l) :: cs)) (hl : ks.lookup x = some .local) (k : ∀ h', Own hb h' ((L, NSl ((x, v) :: l)) :: cs) → F () h') : Run w A (storeName env x v) h F := fun s hs => by
  subst hs
  obtain ⟨m, hn, hm⟩ := ns_of (O.get (.head _))
  refine wpAny_storeName_local (e.kinds _ _ hl) (by rw [e.loc]; exact hn) (fun h' hn' hs' => ⟨⟨rfl, rfl, rfl⟩, k h' ?_⟩) (by rw [e.fn]; rfl)
  rw [e.loc] at hn' hs'
  refine O.change hs' (ns_at hn' fun y u q => ?_)
  by_cases hy : y = x
  · subst hy
    rw [if_pos rfl]
    rw [List.lookup_cons_self] at q
    exact q
  · rw [if_neg hy]
    have : (y == x) = false := by simpa using hy
    rw [List.lookup_cons, this] at q
    exact hm y u q
theorem Run.global {F : Value → Heap → Prop} {pos : Pos} (e : EnvIs env L ks) (G : Gd hb globs blts) (O : Own hb h cs) (hl : ks.lookup x = some .globalImplicit) (hv : globs.lookup x = some v) (k : F v h)
    (hd : (x == ("__debug__" : Str)) = false := by decide) : Run w A (eval (.Name x pos) env) h F := fun s hs => by
  subst hs
  obtain ⟨mg, mb, ng, nb, a, b⟩ := G.ns
  exact Calls.Name_function_global e.fn (e.kinds _ _ hl) (Calls.loadGlobal_global (by rw [e.glo]; exact ng.keeps O.keep) (a _ _ hv) ⟨Same.rfl', k⟩) hd
theorem Run.builtin {F : Value → Heap → Prop} {pos : Pos} (e : EnvIs env L ks) (G : Gd hb globs blts) (O : Own hb h cs) (hl : ks.lookup x = some .globalImplicit) (hv : blts.lookup x = some v) (k : F v h)
    (hd : (x == ("__debug__" : Str)) = false := by decide) : Run w A (eval (.Name x pos) env) h F := fun s hs => by
  subst hs
  obtain ⟨mg, mb, ng, nb, a, b⟩ := G.ns
  exact Calls.Name_function_global e.fn (e.kinds _ _ hl) (Calls.loadGlobal_builtin (by rw [e.glo]; exact ng.keeps O.keep) (b _ _ hv).1 (by rw [e.blt]; exact nb.keeps O.keep) (b _ _ hv).2 ⟨Same.rfl', k⟩) hd
end

/-! calls -/
section
variable {w : World} {A : Around} {hb h : Heap} {env : Env} {F : Value → Heap → Prop} {pos : Pos} {cs : List Cell}
theorem Run.args0 {F : List Value → Heap → Prop} (x : F [] h) : Run w A (spliced (backTo pos (starEach [] env))) h F := fun s hs => spliced_none ⟨Same.rfl', hs ▸ x⟩
theorem Run.args {F : List Value → Heap → Prop} {e : Expr} {rest : List Expr} (x : Run w A (eval e env) h (fun v h₁ => Run w A (spliced (backTo pos (starEach rest env))) h₁ (fun vs h₂ => F (v :: vs) h₂)))
    (he : starEach (e :: rest) env = (false, eval e env) :: starEach rest env := by rfl) : Run w A (spliced (backTo pos (starEach (e :: rest) env))) h F :=
  fun s hs => spliced_more (wpAny_mono (x s hs) (fun _ _ q => q.2.on q.1) fun _ _ e => e) he
/-- f(..): the function, then the call with its arguments' values -/
theorem Run.call {fn : Expr} {args : List Expr} (x : Run w A (eval fn env) h (fun f h₁ => Run w A (callWith pos f [] (backTo pos (starEach args env)) []) h₁ F))
    (hn : eval (.Call fn args [] pos) env = (do callWith pos (← eval fn env) [] (backTo pos (starEach args env)) (backToKw pos (keywordEach [] env))) := by rfl) : Run w A (eval (.Call fn args [] pos) env) h F := fun s hs => by
  rw [hn]
  exact wpAny_bind (wpAny_mono (x s hs) (fun _ _ q => q.2.on q.1) fun _ _ e => e)
theorem Run.callDef {f : Addr} {fd : FuncData} {e : Expr} {rest : List Expr} (G : Fn hb f fd) (x : Run w A (spliced (backTo pos (starEach (e :: rest) env))) h (fun vs h₁ => (∃ cs, Own hb h₁ cs) ∧ Run w A (PySem.call (.ref f) vs) h₁ F))
    (he : starEach (e :: rest) env = (false, eval e env) :: starEach rest env := by rfl) : Run w A (callWith pos (.ref f) [] (backTo pos (starEach (e :: rest) env)) []) h F := fun s hs => by
  obtain ⟨o, ho, hd⟩ := G.at'
  have y := x s hs
  rw [he] at y ⊢
  refine callWith_function (o := o) (fd := fd) (evalArgs_plain ?_)
  exact wpAny_mono y (fun vs s' q => ⟨⟨q.2.1.elim fun _ O => O.keep _ _ ho, hd⟩, q.2.2.on q.1⟩) fun _ _ e => e
theorem Run.callBuiltin {id : String} {first : List Value} {e : Expr} {rest : List Expr} (x : Run w A (spliced (backTo pos (starEach (e :: rest) env))) h (fun vs h₁ => Run w A (PySem.call (.builtin id) (first ++ vs)) h₁ F))
    (he : starEach (e :: rest) env = (false, eval e env) :: starEach rest env := by rfl)
    (hp : (backTo pos (starEach rest env)).any (·.1) = false := by rfl) : Run w A (callWith pos (.builtin id) first (backTo pos (starEach (e :: rest) env)) []) h F := fun s hs => by
  have y := x s hs
  rw [he] at y ⊢
  refine callWith_builtin (by show (false || (backTo pos (starEach rest env)).any (·.1)) = false; rw [hp]; rfl) (evalArgs_plain ?_)
  exact wpAny_mono y (fun vs s' q => q.2.on q.1) fun _ _ e => e

/-- a call, as code -/
def RunCall (w : World) (A : Around) (f : Value) (args : Args) (h : Heap) (F : Value → Heap → Prop) : Prop :=
  ∀ s : Shared, s.heap = h → codeAny (model PG w) A (.call f args) (fun r s' => match r with | .ok (.ret v) => Same s s' ∧ F v s'.heap | _ => False) s
theorem RunCall.run {f : Value} {vs : List Value} {kw : List (Str × Value)} (x : RunCall w A f ⟨vs, kw⟩ h F) : Run w A (PySem.call f vs kw) h F := fun s hs =>
  wpAny_call (codeAny_mono (x s hs) fun r s' q => by
    cases r with
    | ok f => cases f <;> exact q
    | error e => exact q)
/-- a call of a plain def (no cell, no closure): its body from its own frame -/
theorem RunCall.enter {f : Addr} {fd : FuncData} {body : List Stmt} {args : Args} {binds : List (Str × Value)} {d u : Nat} {globs blts : List (Str × Value)} (hA : AOk A (d + 1) (u + 3)) (G : Gd hb globs blts) (D : Fn hb f fd) (O : Own hb h cs)
    (hbody : fd.body = .stmts body) (hbind : ∀ s : Shared, s.heap = h → BindsTo s fd args binds) (hloc : ∀ x ∈ binds, fd.scope.names.lookup x.1 = some .local)
    (hcell : ∀ x ∈ fd.scope.names, x.2 ≠ .cell) (hpl : fd.scope.isCoroutine = false ∧ fd.scope.isGenerator = false ∧ fd.scope.kind = .function)
    (k : ∀ h₁ L, Own hb h₁ ((L, NSl binds.reverse) :: cs) → AOk (A.deeper (callEnv fd L f)) d u → (∃ l, (A.deeper (callEnv fd L f)).frames = some (callEnv fd L f :: l)) → Run w (A.deeper (callEnv fd L f)) (execs body (callEnv fd L f)) h₁ (fun fl h' => F (match fl with | .ret v => v | _ => .none) h')) :
    RunCall w A (.ref f) args h F := fun s hs => by
  obtain ⟨o, ho, hd⟩ := D.at'
  subst hs
  obtain ⟨l, hl⟩ := hA.frames
  refine codeAny_call_def hA.room (O.keep _ _ ho) hd (G.lim.keeps O.keep) (D.code.keeps O.keep) hbody (hbind s rfl) hcell hloc (fun h₀ hn hk => ?_) hpl.1 hpl.2.1 hpl.2.2
  have hnone : s.heap.get? s.heap.objs.size = none := by
    cases q : s.heap.get? s.heap.objs.size with
    | none => rfl
    | some o => exact absurd (Heap.lt_size q) (Nat.lt_irrefl _)
  have O' : Own hb h₀ ((s.heap.objs.size, NSl binds.reverse) :: cs) := O.add hk hnone (ns_at hn fun _ _ q => q)
  refine wpAny_mono (k h₀ _ O' hA.deeper ⟨l, by show A.frames.map _ = _; rw [hl]; rfl⟩ { s with heap := h₀, toks := s.toks + binds.length } rfl) (fun fl s' q => ⟨⟨q.1.1, q.1.2, q.1.3⟩, q.2⟩) fun _ _ e => e.elim
end

/-! F3 -/
/-- a piece of code (a loop) from heap h -/
def RunC (w : World) (A : Around) (c : Code) (h : Heap) (F : Flow → Heap → Prop) : Prop :=
  ∀ s : Shared, s.heap = h → codeAny (model PG w) A c (fun r s' => match r with | .ok f => Same s s' ∧ F f s'.heap | .error _ => False) s

section
variable {w : World} {A : Around} {h : Heap} {env : Env} {F : Flow → Heap → Prop}

/-- a for's loop: J holds ahead of turn i -/
theorem Run.forLoop {target : Expr} {body : List Stmt} {it : Value} (n : Nat) (J : Nat → Heap → Prop)
    (turn : ∀ i h, i ≤ n → J i h → Run w A (pyNext it) h (fun r h₁ => match r with
      | none => F .next h₁
      | some v => i < n ∧ Run w A (letOwnedTupleGo target it v) h₁ (fun _ h₂ => Run w A (assign target env v) h₂ (fun _ h₃ => Run w A (execs body env) h₃ (fun f h₄ => match f with
          | .next | .cont => J (i + 1) h₄
          | .brk => F .next h₄
          | .ret v => F (.ret v) h₄)))))
    (h0 : J 0 h) : RunC w A (.forLoop target it body [] env) h F := fun s hs => by
  subst hs
  refine codeAny_loop' rfl (fun k s' => ∃ i, i ≤ n ∧ k = n + 1 - i ∧ Same s s' ∧ J i s'.heap) ?_ (n + 1) ⟨0, Nat.zero_le _, rfl, Same.rfl', h0⟩
  rintro k s' ⟨i, hi, rfl, S, hJ⟩
  show wpAny _ _ ((forTurn target it body [] env).onRaise (fun x => do noteFrame x env; theTreesLotGoes x)) _ _ s'
  refine wpAny_noted (wpAny_mono (Q := fun fin s' => match fin with
        | .done f => Same s s' ∧ F f s'.heap
        | .again c' => (c' = .forLoop target it body [] env ∧ ∃ m, m < n + 1 - i ∧ ∃ i, i ≤ n ∧ m = n + 1 - i ∧ Same s s' ∧ J i s'.heap) ∨ (c' = .block [] env ∧ Same s s' ∧ F .next s'.heap)) (E := fun _ _ => False) ?_ (fun fin s' q => ?_) fun _ _ e => e.elim)
  · simp only [forTurn]
    refine wpAny_bind (wpAny_standAt (wpAny_bind (wpAny_onRaise (wpAny_mono (turn i s'.heap hi hJ s' rfl) (fun r s₁ q => ?_) fun _ _ e => e.elim))))
    obtain ⟨S₁, q⟩ := q
    cases r with
    | none => exact wpAny_pure (.inr ⟨rfl, S.trans S₁, q⟩)
    | some v =>
      obtain ⟨hlt, q⟩ := q
      refine wpAny_bind (wpAny_mono (q.on (S.trans S₁)) (fun _ s₂ q => ?_) fun _ _ e => e)
      refine wpAny_bind (wpAny_mono (q.2.on q.1) (fun _ s₃ q => ?_) fun _ _ e => e)
      refine wpAny_bind (wpAny_mono (q.2.on q.1) (fun f s₄ q => ?_) fun _ _ e => e)
      obtain ⟨S₄, q⟩ := q
      cases f with
      | next => exact wpAny_pure (.inl ⟨rfl, n + 1 - (i + 1), by omega, i + 1, hlt, rfl, S₄, q⟩)
      | cont => exact wpAny_pure (.inl ⟨rfl, n + 1 - (i + 1), by omega, i + 1, hlt, rfl, S₄, q⟩)
      | brk => exact wpAny_pure ⟨S₄, q⟩
      | ret v => exact wpAny_pure ⟨S₄, q⟩
  · cases fin with
    | done f => exact q
    | again c' =>
      rcases q with q | ⟨rfl, q⟩
      · exact .inl q
      · exact .inr ⟨rfl, codeAny_block (wpAny_execs_nil q)⟩

theorem Run.for_ {target iter : Expr} {body : List Stmt} {pos : Pos} (x : Run w A (eval iter env) h (fun xv h₁ => Run w A (pyIter xv) h₁ (fun it h₂ => RunC w A (.forLoop target it body [] env) h₂ F)))
    (hf : ∀ x, foldedSetIterable iter env x = Pure.pure x := by intro _; rfl) : Run w A (exec (.For target iter body [] pos) env) h F := fun s hs => by
  refine wpAny_For (wpAny_mono (x s hs) (fun xv s₁ q => wpAny_mono (q.2.on q.1) (fun it s₂ q => codeAny_mono (q.2 s₂ rfl) fun r s' z => ?_) fun _ _ e => e) fun _ _ e => e) hf
  cases r with
  | ok f => exact ⟨q.1.trans z.1, z.2⟩
  | error e => exact z.elim

/-- a while: J k holds ahead of the test, k falls -/
theorem Run.while_ {test : Expr} {body : List Stmt} {pos : Pos} (J : Nat → Heap → Prop)
    (turn : ∀ k h, J k h → Run w A (isTrue test env (eval test env)) h (fun b h₁ => (b = true → Run w A (execs body env) h₁ (fun f h₂ => match f with
        | .next | .cont => ∃ m, m < k ∧ J m h₂
        | .brk => F .next h₂
        | .ret v => F (.ret v) h₂)) ∧ (b = false → F .next h₁)))
    (k : Nat) (h0 : J k h) : Run w A (exec (.While test body [] pos) env) h F := fun s hs => by
  subst hs
  refine wpAny_While ?_
  refine codeAny_mono (R := fun r s' => match r with | .ok f => Same s s' ∧ F f s'.heap | .error _ => False) ?_ fun r s' z => by
    cases r with
    | ok f => exact z
    | error e => exact z.elim
  refine codeAny_loop' rfl (fun k s' => Same s s' ∧ J k s'.heap) ?_ k ⟨Same.rfl', h0⟩
  rintro k s' ⟨S, hJ⟩
  show wpAny _ _ ((whileTurn test body [] env).onRaise (fun x => do noteFrame x env; theTreesLotGoes x)) _ _ s'
  refine wpAny_noted (wpAny_mono (E := fun _ _ => False) ?_ (fun fin s' q => q) fun _ _ e => e.elim)
  simp only [whileTurn]
  refine wpAny_bind (wpAny_mono (turn k s'.heap hJ s' rfl) (fun b s₁ q => ?_) fun _ _ e => e)
  obtain ⟨S₁, q⟩ := q
  cases b with
  | false => exact wpAny_bind (wpAny_execs_nil (wpAny_pure ⟨S.trans S₁, q.2 rfl⟩))
  | true =>
    refine wpAny_bind (wpAny_mono ((q.1 rfl).on (S.trans S₁)) (fun f s₂ q => ?_) fun _ _ e => e)
    obtain ⟨S₂, q⟩ := q
    cases f with
    | next => obtain ⟨m, hm, hJ⟩ := q; exact wpAny_pure (.inl ⟨rfl, m, hm, S₂, hJ⟩)
    | cont => obtain ⟨m, hm, hJ⟩ := q; exact wpAny_pure (.inl ⟨rfl, m, hm, S₂, hJ⟩)
    | brk => exact wpAny_pure ⟨S₂, q⟩
    | ret v => exact wpAny_pure ⟨S₂, q⟩

theorem Run.noTuple {x : Str} {p : Pos} {it v : Value} {F : Unit → Heap → Prop} (k : F () h) : Run w A (letOwnedTupleGo (.Name x p) it v) h F := fun s hs => wpAny_pure ⟨Same.rfl', hs ▸ k⟩
theorem Run.assName {x : Str} {p : Pos} {v : Value} {F : Unit → Heap → Prop} (k : Run w A (storeName env x v) h F) : Run w A (assign (.Name x p) env v) h F := fun s hs => wpAny_assign_Name (k s hs)
end

/-! what is walked -/
def LIt (l : Addr) (i : Nat) (o : Obj) : Prop := o.cls = .type "list_iterator" ∧ o.data = .fields #[.ref l, .int i 0]
def SIt (x : Str) (i : Nat) (o : Obj) : Prop := (o.cls = .type "str_ascii_iterator" ∨ o.cls = .type "str_iterator") ∧ ∃ t, o.data = .fields #[.str x t, .int i 0]
def Rg (a b c : Int) (o : Obj) : Prop := ∃ t u v, o = { cls := .type "range", data := .fields #[.int a t, .int b u, .int c v] }
def RIt (a left step : Int) (o : Obj) : Prop := o = { cls := .type "range_iterator", data := .fields #[rawInt a, rawInt left, rawInt step] }

section
variable {w : World} {A : Around} {hb h : Heap} {cs : List Cell} {l it : Addr} {vs : List Value} {i : Nat}
theorem Own.extTail {P : Obj → Prop} {h' : Heap} (O : Own hb h ((it, P) :: cs)) (k : Heap.ExtBut it h h') : Own hb h' cs := by
  have hn := O.new (.head _)
  refine ⟨fun b o e => k b o (fun z => by rw [z, hn] at e; cases e) (O.keep b o e), fun c y => ?_, O.tail.nodup⟩
  obtain ⟨⟨o, e, p⟩, n⟩ := O.cell c (.tail _ y)
  exact ⟨⟨o, k _ _ (O.ne (b := c.1) (Q := c.2) y) e, p⟩, n⟩
theorem Run.iterList {F : Value → Heap → Prop} (O : Own hb h cs) (hc : (l, LV vs) ∈ cs) (k : ∀ it h', Own hb h' ((it, LIt l 0) :: cs) → F (.ref it) h') : Run w A (pyIter (.ref l)) h F := fun s hs => by
  subst hs
  exact wpAny_pyIter_list (lv_at (O.get hc)) ⟨⟨rfl, rfl, rfl⟩, k _ _ (O.push _ ⟨rfl, rfl⟩)⟩
theorem Run.nextList {F : Option Value → Heap → Prop} (hA : A.handled = none) (O : Own hb h ((it, LIt l i) :: cs)) (hc : (l, LV vs) ∈ cs)
    (k₁ : ∀ v h', vs[i]? = some v → Own hb h' ((it, LIt l (i + 1)) :: cs) → F (some v) h') (k₂ : ∀ h', vs[i]? = none → Own hb h' cs → F none h') : Run w A (pyNext (.ref it)) h F := fun s hs => by
  subst hs
  have hl := lv_at (O.get (.tail _ hc))
  have hi : s.heap.IsListIter it l i := let ⟨o, e, a, b⟩ := O.get (.head _); ⟨o, e, a, b⟩
  cases q : vs[i]? with
  | some v => exact wpAny_pyNext_list_item hi hl (by simpa using q) fun h' hi' hs' => ⟨⟨rfl, rfl, rfl⟩, k₁ v h' q (O.change hs' (let ⟨o, e, a, b⟩ := hi'; ⟨o, e, a, b⟩))⟩
  | none => exact wpAny_pyNext_list_end hA hi hl (by simpa using q) fun h' he => ⟨⟨rfl, rfl, rfl⟩, k₂ h' q (O.extTail he)⟩
theorem Run.iterStr {F : Value → Heap → Prop} {x : Str} {t : Tok} (O : Own hb h cs) (k : ∀ it h', Own hb h' ((it, SIt x 0) :: cs) → F (.ref it) h') : Run w A (pyIter (.str x t)) h F := fun s hs => by
  subst hs
  cases ha : x.cps.all (· < 128)
  · exact wpAny_pyIter_wide ha ⟨⟨rfl, rfl, rfl⟩, k _ _ (O.push _ ⟨.inr rfl, _, rfl⟩)⟩
  · exact wpAny_pyIter_ascii ha ⟨⟨rfl, rfl, rfl⟩, k _ _ (O.push _ ⟨.inl rfl, _, rfl⟩)⟩
theorem Run.nextStr {F : Option Value → Heap → Prop} {x : Str} (hA : A.handled = none) (O : Own hb h ((it, SIt x i) :: cs))
    (k₁ : ∀ c t h', x.cps[i]? = some c → Own hb h' ((it, SIt x (i + 1)) :: cs) → F (some (.str ⟨#[c]⟩ t)) h') (k₂ : ∀ h', x.cps[i]? = none → Own hb h' cs → F none h') : Run w A (pyNext (.ref it)) h F := fun s hs => by
  subst hs
  obtain ⟨o, e, a, t, b⟩ := O.get (.head _)
  rcases a with a | a
  · have hi : s.heap.IsStrIter it "str_ascii_iterator" x t i := ⟨o, e, a, b⟩
    cases q : x.cps[i]? with
    | some c => exact wpAny_pyNext_ascii_item hi q fun h' hi' hs' => ⟨⟨rfl, rfl, rfl⟩, k₁ c _ h' q (O.change hs' (let ⟨o, e, a, b⟩ := hi'; ⟨o, e, .inl a, _, b⟩))⟩
    | none => exact wpAny_pyNext_ascii_end hA hi q fun h' he => ⟨⟨rfl, rfl, rfl⟩, k₂ h' q (O.extTail he)⟩
  · have hi : s.heap.IsStrIter it "str_iterator" x t i := ⟨o, e, a, b⟩
    cases q : x.cps[i]? with
    | some c => exact wpAny_pyNext_wide_item hi q fun h' hi' hs' => ⟨⟨rfl, rfl, rfl⟩, k₁ c _ h' q (O.change hs' (let ⟨o, e, a, b⟩ := hi'; ⟨o, e, .inr a, _, b⟩))⟩
    | none => exact wpAny_pyNext_wide_end hA hi q fun h' he => ⟨⟨rfl, rfl, rfl⟩, k₂ h' q (O.extTail he)⟩
/-- range objects; their iterator at turn i of n: the first int, how many are left -/
theorem Run.iterRange {F : Value → Heap → Prop} {r : Addr} {a b c : Int} (O : Own hb h cs) (hc : (r, Rg a b c) ∈ cs) (hsm : Builtin.Range.small a b c = true) (k : ∀ it h', Own hb h' ((it, RIt a (Builtin.Range.rangeSize a b c) c) :: cs) → F (.ref it) h') : Run w A (pyIter (.ref r)) h F := fun s hs => by
  subst hs
  obtain ⟨o, e, t, u, v, rfl⟩ := O.get hc
  exact wpAny_pyIter_range (t := t) (u := u) (v := v) e hsm ⟨⟨rfl, rfl, rfl⟩, k _ _ (O.push _ rfl)⟩
theorem Run.nextRange {F : Option Value → Heap → Prop} {x left step : Int} (hA : A.handled = none) (O : Own hb h ((it, RIt x left step) :: cs))
    (k₁ : ∀ t h', 0 < left → Own hb h' ((it, RIt (x + step) (left - 1) step) :: cs) → F (some (.int x t)) h') (k₂ : ∀ h', left ≤ 0 → Own hb h' cs → F none h') : Run w A (pyNext (.ref it)) h F := fun s hs => by
  subst hs
  obtain ⟨o, e, rfl⟩ := O.get (.head _)
  have hi : IsRangeIter s.heap it x left step := e
  by_cases q : 0 < left
  · exact wpAny_pyNext_range_item hi q fun h' hi' hs' => ⟨⟨rfl, rfl, rfl⟩, k₁ _ h' q (O.change hs' ⟨_, hi', rfl⟩)⟩
  · exact wpAny_pyNext_range_end hA hi (by omega) fun h' he => ⟨⟨rfl, rfl, rfl⟩, k₂ h' (by omega) (O.extTail he)⟩
end

/-! F4 -/
/-- the n-th statement of the text's top -/
def stmtAt (n : Nat) : Stmt := PG.main.body.getD n (.Pass ⟨0, 0, 0, 0⟩)

/-- a def of the text as the top's run left it: its params, body and scope are the statement's -/
structure DefIs (hb : Heap) (f : Addr) (st : Stmt) (dV kV : Value) (fd : FuncData) : Prop where
  fn : Fn hb f fd
  shape : match st with | .FunctionDef _ args body _ _ _ scope _ _ _ => fd.params = args ∧ fd.body = .stmts body ∧ fd.scope = scope | _ => False
  clo : fd.closure = []
  glo : fd.globals = mainGlobals
  blt : fd.builtins = builtinsNs
  dflt : fd.defaults = dV
  kwd : fd.kwdefaults = kV

theorem kinds_of {names ks : List (Str × NameKind)} (e : (ks.all fun p => names.lookup p.1 == some p.2) = true) : ∀ x k, ks.lookup x = some k → names.lookup x = some k := by
  intro x k h
  induction ks with
  | nil => cases h
  | cons p r ih =>
    rw [List.all_cons, Bool.and_eq_true] at e
    rw [List.lookup_cons] at h
    split at h
    · rename_i q
      cases h
      have : x = p.1 := by simpa using q
      rw [this]; simpa using e.1
    · exact ih e.2 h

section
variable {w : World} {A : Around} {hb h : Heap} {F : Value → Heap → Prop} {cs : List Cell} {f : Addr} {fd : FuncData} {dV kV : Value} {name bind : Str} {params : Arguments} {body : List Stmt} {decos : List Expr} {ret : Option Expr} {tps : List TypeParam} {scope : Scope} {tsc : Option Scope} {pos : Pos} {vs : List Value} {kw : List (Str × Value)} {binds : List (Str × Value)} {d u : Nat} {globs blts : List (Str × Value)} {ks : List (Str × NameKind)}
/-- a call of a plain def of the text: the body, in a frame of its own, in surroundings of which its words alone are known -/
theorem RunCall.def_ (D : DefIs hb f (.FunctionDef name params body decos ret tps scope tsc bind pos) dV kV fd) (hA : AOk A (d + 1) (u + 3)) (G : Gd hb globs blts) (O : Own hb h cs)
    (hbind : ∀ fd : FuncData, fd.params = params → fd.defaults = dV → fd.kwdefaults = kV → ∀ s : Shared, s.heap = h → BindsTo s fd ⟨vs, kw⟩ binds)
    (ks : List (Str × NameKind)) (hks : (ks.all fun p => scope.names.lookup p.1 == some p.2) = true) (hloc : (binds.all fun b => scope.names.lookup b.1 == some .local) = true) (hcell : (scope.names.all fun x => x.2 != .cell) = true)
    (hpl : scope.isCoroutine = false ∧ scope.isGenerator = false ∧ scope.kind = .function)
    (k : ∀ h₁ L env A', EnvIs env L ks → AOk A' d u → (∃ l, A'.frames = some (env :: l)) → Own hb h₁ ((L, NSl binds.reverse) :: cs) → Run w A' (execs body env) h₁ (fun fl h' => F (match fl with | .ret v => v | _ => .none) h')) :
    RunCall w A (.ref f) ⟨vs, kw⟩ h F := by
  obtain ⟨e1, e2, e3⟩ := D.shape
  refine RunCall.enter (args := ⟨vs, kw⟩) (body := body) (binds := binds) hA G D.fn O e2 (fun s hs => hbind fd e1 D.dflt D.kwd s hs) (fun x hx => ?_) (fun x hx => ?_) (by rw [e3]; exact hpl) (fun h₁ L O' hA' hf => ?_)
  · rw [e3]; simpa using List.all_eq_true.mp hloc x hx
  · rw [e3] at hx; simpa using List.all_eq_true.mp hcell x hx
  · refine k h₁ L _ _ ⟨?_, rfl, ?_, ?_, fun x k' hx => ?_, ?_⟩ hA' hf O'
    · show fd.scope.kind = _; rw [e3]; exact hpl.2.2
    · show fd.globals = _; exact D.glo
    · show fd.builtins = _; exact D.blt
    · show fd.scope.names.lookup x = _; rw [e3]; exact kinds_of hks x k' hx
    · show fd.scope.isGenerator = _ ∧ fd.scope.isCoroutine = _; rw [e3]; exact ⟨hpl.2.1, hpl.1⟩
end

/-! texts -/
section
variable {w : World} {A : Around} {h : Heap} {env : Env} {F : Value → Heap → Prop} {x y : Str} {t u : Tok} {n : Int}
theorem Run.constS {k : Nat} {pos : Pos} (a : ∀ t, F (.str x t) h) : Run w A (eval (.Constant (.str x) k pos) env) h F := fun s hs => Calls.Constant_str ⟨⟨rfl, rfl, rfl⟩, by show F _ s.heap; rw [hs]; exact a _⟩
theorem Run.eqS (a : F (.bool (x == y)) h) : Run w A (compareOp .Eq (.str x t) (.str y u)) h F := fun s hs => PyProof.Rows.eq_str ⟨Same.rfl', hs ▸ a⟩
theorem Run.addS (hz : x.length + y.length ≤ sizeLine) (a : ∀ t, F (.str (x ++ y) t) h) : Run w A (binaryOp .Add (.str x t) (.str y u)) h F := fun s hs => PyProof.Rows.add_str (fun t tk => ⟨⟨rfl, rfl, rfl⟩, by show F _ s.heap; rw [hs]; exact a _⟩) hz
theorem Run.iaddS (hz : x.length + y.length ≤ sizeLine) (a : ∀ t, F (.str (x ++ y) t) h) : Run w A (inplaceOp .Add (.str x t) (.str y u)) h F := fun s hs => PyProof.Rows.iadd_str (fun t tk => ⟨⟨rfl, rfl, rfl⟩, by show F _ s.heap; rw [hs]; exact a _⟩) hz
theorem Run.mulS (hz : MulOk x n) (a : ∀ t, F (.str (Txt.mul x n) t) h) : Run w A (binaryOp .Mult (.str x t) (.int n u)) h F := fun s hs => SB.mul hz (fun t tk => ⟨⟨rfl, rfl, rfl⟩, by show F _ s.heap; rw [hs]; exact a _⟩)
theorem Run.lenS (hz : (x.length : Int) < 2 ^ 63) (a : ∀ t, F (.int x.length t) h) : Run w A (PySem.call (.builtin "len") [.str x t]) h F := fun s hs => PyProof.Rows.len_str (by omega) ⟨⟨rfl, rfl, rfl⟩, by show F _ s.heap; rw [hs]; exact a _⟩
end

/-! F5 -/
def Picks (l : List (Str × Value)) : List (Str × Value) → Prop
  | [] => True
  | p :: r => l.lookup p.1 = some p.2 ∧ Picks l r
theorem NSl.pick {l l' : List (Str × Value)} {o : Obj} (x : NSl l o) (k : Picks l l') : NSl l' o := x.weak (by
  intro y v h
  induction l' with
  | nil => cases h
  | cons p r ih =>
    rw [List.lookup_cons] at h
    split at h
    · rename_i q
      cases h
      have : y = p.1 := by simpa using q
      rw [this]; exact k.1
    · exact ih k.2 h)
section
variable {hb h : Heap} {cs : List Cell} {a b : Addr} {P P' Q : Obj → Prop}
theorem Own.swap (O : Own hb h ((a, P) :: (b, Q) :: cs)) : Own hb h ((b, Q) :: (a, P) :: cs) := O.perm (List.Perm.swap ..)
theorem Own.pick {l l' : List (Str × Value)} (O : Own hb h ((a, NSl l) :: cs)) (k : Picks l l') : Own hb h ((a, NSl l') :: cs) := O.weak fun _ x => x.pick k
theorem Own.pick2 {l l' : List (Str × Value)} (O : Own hb h ((b, Q) :: (a, NSl l) :: cs)) (k : Picks l l') : Own hb h ((b, Q) :: (a, NSl l') :: cs) := (O.swap.pick k).swap
theorem Own.drop2 (O : Own hb h ((a, P) :: (b, Q) :: cs)) : Own hb h ((a, P) :: cs) := O.swap.tail
end

/-- a text by its signs' numbers -/
def S (l : List Nat) : Str := ⟨l.toArray⟩
theorem S_len (l : List Nat) : (S l).length = l.length := by simp [S, Str.length]
theorem S_append (l m : List Nat) : S l ++ S m = S (l ++ m) := by
  have : (S l ++ S m).cps = (S (l ++ m)).cps := by rw [Str.cps_append]; simp [S]
  cases h : S l ++ S m with
  | mk c => rw [h] at this; simp at this; rw [this]
theorem S_toList (l : List Nat) : (S l).cps.toList = l := by simp [S]
theorem S_of (x : Str) : S x.cps.toList = x := by cases x; simp [S]
theorem S_inj {l m : List Nat} (h : S l = S m) : l = m := by rw [← S_toList l, h, S_toList]
theorem S_mul (c : Nat) (n : Int) : Txt.mul (S [c]) n = S (List.replicate n.toNat c) := by
  rw [← S_of (Txt.mul (S [c]) n)]
  exact congrArg S (mul_one_list c n)
theorem S_beq (l m : List Nat) : (S l == S m) = decide (l = m) := by
  by_cases h : l = m
  · subst h; simp
  · rw [decide_eq_false h]; simp; exact fun e => h (S_inj e)

def Globs : List (Str × Value) := [("rgb_to_hls", .ref 28), ("insort_right", .ref 37), ("bisect_right", .ref 46), ("insort_left", .ref 55), ("bisect_left", .ref 64), ("HtmlDiff", .ref 154), ("Whitespace", .ref 220),
  ("_law_cells", .ref 231), ("_law_typed", .ref 238), ("_law_looks", .ref 245), ("_law_hues", .ref 252), ("_law_columns", .ref 257), ("_law_least", .ref 264)]
def Blts : List (Str × Value) := [("len", .builtin "len"), ("max", .builtin "max"), ("min", .builtin "min"), ("sum", .builtin "sum"), ("sorted", .builtin "sorted"), ("int", .type "int"), ("tuple", .type "tuple"), ("range", .type "range")]

/-! ## _law_typed -/
def typedStep (size : Nat) (acc : List Nat) (c : Nat) : List Nat := if c = 9 then acc ++ List.replicate (size - acc.length % size) 9 else acc ++ [c]
def typedL (size : Nat) (l : List Nat) : List Nat := l.foldl (typedStep size) []
theorem typedL_snoc (size : Nat) (l : List Nat) (c : Nat) : typedL size (l ++ [c]) = typedStep size (typedL size l) c := by simp [typedL]
theorem typedL_len {size : Nat} (hs : 0 < size) (l : List Nat) : (typedL size l).length ≤ size * l.length := by
  suffices ∀ (l acc : List Nat), (l.foldl (typedStep size) acc).length ≤ acc.length + size * l.length by simpa [typedL] using this l []
  intro l
  induction l with
  | nil => intro acc; simp
  | cons c r ih =>
    intro acc
    rw [List.foldl_cons, List.length_cons, Nat.mul_add, Nat.mul_one]
    have := ih (typedStep size acc c)
    have : (typedStep size acc c).length ≤ acc.length + size := by
      unfold typedStep
      split
      · simp
      · simp; omega
    omega

/-! F6 -/
/-! ## plain values, and what plain expressions and statements make of them -/
inductive PV where
  | I (n : Int)
  | F (x : UInt64)
  | T (x : Str)
  | B (x : Bool)
  | N
  | O (a : Addr)
def PV.is : PV → Value → Prop
  | .I n, v => ∃ t, v = .int n t
  | .F x, v => ∃ t, v = .float x t
  | .T x, v => ∃ t, v = .str x t
  | .B x, v => v = .bool x
  | .N, v => v = .none
  | .O a, v => v = .ref a
/-- a namespace, by plain values -/
def NP (l : List (Str × PV)) (o : Obj) : Prop := ∃ es ep, o.data = .dict es ep ∧ StrKeys es ∧ ∀ x p, l.lookup x = some p → ∃ v, nsFind es x = some v ∧ p.is v
def PicksP (l : List (Str × Value)) : List (Str × PV) → Prop
  | [] => True
  | p :: r => (∃ v, l.lookup p.1 = some v ∧ p.2.is v) ∧ PicksP l r
def PicksQ (l : List (Str × PV)) : List (Str × PV) → Prop
  | [] => True
  | p :: r => l.lookup p.1 = some p.2 ∧ PicksQ l r
theorem NSl.np {l : List (Str × Value)} {l' : List (Str × PV)} {o : Obj} (x : NSl l o) (k : PicksP l l') : NP l' o := by
  obtain ⟨es, ep, a, b, c⟩ := x
  refine ⟨es, ep, a, b, fun y p h => ?_⟩
  induction l' with
  | nil => cases h
  | cons q r ih =>
    rw [List.lookup_cons] at h
    split at h
    · rename_i e
      cases h
      obtain ⟨v, hv, hp⟩ := k.1
      have : y = q.1 := by simpa using e
      exact ⟨v, c _ _ (this ▸ hv), hp⟩
    · exact ih k.2 h
theorem NP.pick {l l' : List (Str × PV)} {o : Obj} (x : NP l o) (k : PicksQ l l') : NP l' o := by
  obtain ⟨es, ep, a, b, c⟩ := x
  refine ⟨es, ep, a, b, fun y p h => ?_⟩
  induction l' with
  | nil => cases h
  | cons q r ih =>
    rw [List.lookup_cons] at h
    split at h
    · rename_i e
      cases h
      have : y = q.1 := by simpa using e
      exact c _ _ (this ▸ k.1)
    · exact ih k.2 h
theorem np_of {h : Heap} {L : Addr} {l : List (Str × PV)} (x : ∃ o, h.get? L = some o ∧ NP l o) : ∃ m, h.Ns L m ∧ ∀ x p, l.lookup x = some p → ∃ v, m x = some v ∧ p.is v := by
  obtain ⟨o, e, es, ep, hd, hk, hl⟩ := x
  exact ⟨fun x => nsFind es x, ⟨o, es, ep, e, hd, hk, fun _ => rfl⟩, hl⟩
theorem np_at {h : Heap} {L : Addr} {m : Str → Option Value} {l : List (Str × PV)} (x : h.Ns L m) (k : ∀ x p, l.lookup x = some p → ∃ v, m x = some v ∧ p.is v) : ∃ o, h.get? L = some o ∧ NP l o := by
  obtain ⟨o, es, ep, e, hd, hk, hf⟩ := x
  exact ⟨o, e, es, ep, hd, hk, fun x p q => let ⟨v, a, b⟩ := k x p q; ⟨v, (hf x).trans a, b⟩⟩
/-- a list of these ints -/
def LI (ns : List Int) (o : Obj) : Prop := ∃ vs, LV vs o ∧ IntsAre vs ns

section
variable {w : World} {A : Around} {hb h : Heap} {env : Env} {L : Addr} {ks : List (Str × NameKind)} {cs : List Cell} {l : List (Str × PV)} {x : Str} {v : Value} {p : PV}
theorem Own.np {P : List (Str × Value)} (O : Own hb h ((L, NSl P) :: cs)) (k : PicksP P l) : Own hb h ((L, NP l) :: cs) := O.weak fun _ x => x.np k
theorem Own.pickQ {l' : List (Str × PV)} (O : Own hb h ((L, NP l) :: cs)) (k : PicksQ l l') : Own hb h ((L, NP l') :: cs) := O.weak fun _ x => x.pick k
theorem Own.pickQ2 {a : Addr} {P : Obj → Prop} {l' : List (Str × PV)} (O : Own hb h ((a, P) :: (L, NP l) :: cs)) (k : PicksQ l l') : Own hb h ((a, P) :: (L, NP l') :: cs) := (O.swap.pickQ k).swap
theorem Run.ld {F : Value → Heap → Prop} (e : EnvIs env L ks) (O : Own hb h cs) (hc : (L, NP l) ∈ cs) (hl : ks.lookup x = some .local) (hv : l.lookup x = some p) (k : ∀ v, p.is v → F v h) : Run w A (loadName env x) h F := fun s hs => by
  subst hs
  obtain ⟨m, hn, hm⟩ := np_of (O.get hc)
  obtain ⟨v, a, b⟩ := hm _ _ hv
  exact wpAny_loadName_local e.fn (e.kinds _ _ hl) (by rw [e.loc]; exact hn) a ⟨Same.rfl', k v b⟩
theorem Run.st {F : Unit → Heap → Prop} (e : EnvIs env L ks) (O : Own hb h ((L, NP l) :: cs)) (hl : ks.lookup x = some .local) (hp : p.is v) (k : ∀ h', Own hb h' ((L, NP ((x, p) :: l)) :: cs) → F () h') : Run w A (storeName env x v) h F := fun s hs => by
  subst hs
  obtain ⟨m, hn, hm⟩ := np_of (O.get (.head _))
  refine wpAny_storeName_local (e.kinds _ _ hl) (by rw [e.loc]; exact hn) (fun h' hn' hs' => ⟨⟨rfl, rfl, rfl⟩, k h' ?_⟩) (by rw [e.fn]; rfl)
  rw [e.loc] at hn' hs'
  refine O.change hs' (np_at hn' fun y u q => ?_)
  by_cases hy : y = x
  · subst hy
    rw [if_pos rfl]
    rw [List.lookup_cons_self] at q
    cases q
    exact ⟨v, rfl, hp⟩
  · rw [if_neg hy]
    have : (y == x) = false := by simpa using hy
    rw [List.lookup_cons, this] at q
    exact hm y u q
end

/-! ints of a list -/
theorem ints_get {vs : List Value} {ns : List Int} (x : IntsAre vs ns) (k : Nat) (n : Int) (e : ns[k]? = some n) : ∃ t, vs[k]? = some (.int n t) := by
  induction x generalizing k with
  | nil => cases e
  | cons m t _ ih =>
    cases k with
    | zero => cases e; exact ⟨t, rfl⟩
    | succ k => exact ih k (by simpa using e)
theorem ints_len {vs : List Value} {ns : List Int} (x : IntsAre vs ns) : vs.length = ns.length := by
  induction x with
  | nil => rfl
  | cons _ _ _ ih => simp [ih]


/-! ## a frame of ours: its world and surroundings (B), its names' kinds, what they hold, the objects at hand -/
structure Base where
  w : World
  A : Around
  hb : Heap
  env : Env
  L : Addr
abbrev Kinds := List (Str × NameKind)
abbrev Names := List (Str × PV)
def Is (B : Base) (ks : Kinds) (pl : Names) (cs : List Cell) (h : Heap) : Prop := (EnvIs B.env B.L ks ∧ Gd B.hb Globs Blts ∧ B.A.handled = none) ∧ Own B.hb h ((B.L, NP pl) :: cs)

/-- an expression has this value, and leaves the cells as they are -/
def Ev (B : Base) (ks : Kinds) (pl : Names) (cs : List Cell) (e : Expr) (p : PV) : Prop := ∀ h, Is B ks pl cs h → ∀ F : Value → Heap → Prop, (∀ v h', p.is v → Is B ks pl cs h' → F v h') → Run B.w B.A (eval e B.env) h F
/-- a test has this answer -/
def Ts (B : Base) (ks : Kinds) (pl : Names) (cs : List Cell) (e : Expr) (c : Bool) : Prop := ∀ h, Is B ks pl cs h → ∀ F : Bool → Heap → Prop, (∀ h', Is B ks pl cs h' → F c h') → Run B.w B.A (isTrue e B.env (eval e B.env)) h F
/-- statements, from this frame -/
def Ex (B : Base) (ks : Kinds) (pl : Names) (cs : List Cell) (ss : List Stmt) (F : Flow → Heap → Prop) : Prop := ∀ h, Is B ks pl cs h → Run B.w B.A (execs ss B.env) h F
def Bin (op : Operator) (a b p : PV) : Prop := ∀ (w : World) (A : Around) (h : Heap) (F : Value → Heap → Prop) (va vb : Value), a.is va → b.is vb → (∀ v, p.is v → F v h) → Run w A (binaryOp op va vb) h F
def Inp (op : Operator) (a b p : PV) : Prop := ∀ (w : World) (A : Around) (h : Heap) (F : Value → Heap → Prop) (va vb : Value), a.is va → b.is vb → (∀ v, p.is v → F v h) → Run w A (inplaceOp op va vb) h F
def Cmp (op : CmpOp) (a b : PV) (c : Bool) : Prop := ∀ (w : World) (A : Around) (h : Heap) (F : Value → Heap → Prop) (va vb : Value), a.is va → b.is vb → F (.bool c) h → Run w A (compareOp op va vb) h F
/-- a rule of the library that leaves the heap as it is -/
theorem Run.lib {α : Type} {w : World} {A : Around} {t : Sem α} {h : Heap} {F : α → Heap → Prop} (x : ∀ (s : Shared) (Q : α → Shared → Prop), s.heap = h → (∀ (a : α) (tk : Nat), F a h → Q a { s with toks := tk }) → wpAny (model PG w) A t Q (fun _ _ => False) s) : Run w A t h F :=
  fun s hs => x s _ hs fun a tk f => ⟨⟨rfl, rfl, rfl⟩, by show F a s.heap; rw [hs]; exact f⟩

section
variable {x y : Int} {f g : UInt64} {p q : Str}
theorem Bin.addI : Bin .Add (.I x) (.I y) (.I (x + y)) := fun _ _ _ _ _ _ ⟨_, ha⟩ ⟨_, hb⟩ k => ha ▸ hb ▸ Run.addI fun t => k _ ⟨t, rfl⟩
theorem Bin.subI : Bin .Sub (.I x) (.I y) (.I (x - y)) := fun _ _ _ _ _ _ ⟨_, ha⟩ ⟨_, hb⟩ k => ha ▸ hb ▸ Run.subI fun t => k _ ⟨t, rfl⟩
theorem Bin.mulI (c : IntMulOk x y) : Bin .Mult (.I x) (.I y) (.I (x * y)) := fun _ _ _ _ _ _ ⟨_, ha⟩ ⟨_, hb⟩ k => ha ▸ hb ▸ Run.mulI c fun t => k _ ⟨t, rfl⟩
theorem Bin.modI (c : y ≠ 0) : Bin .Mod (.I x) (.I y) (.I (x.fmod y)) := fun _ _ _ _ _ _ ⟨_, ha⟩ ⟨_, hb⟩ k => ha ▸ hb ▸ Run.modI c fun t => k _ ⟨t, rfl⟩
theorem Bin.divI (c : y ≠ 0) (d : y.natAbs < 1073741824) : Bin .FloorDiv (.I x) (.I y) (.I (x.fdiv y)) := fun _ _ _ _ _ _ ⟨_, ha⟩ ⟨_, hb⟩ k => ha ▸ hb ▸ Run.divI c (PyProof.noPylong_small d) fun t => k _ ⟨t, rfl⟩
theorem Bin.quoI (c : (y == 0) = false) (d : Float64.isInf (Float64.ofFrac (decide (x < 0) != decide (y < 0)) x.natAbs y.natAbs) = false) : Bin .Div (.I x) (.I y) (.F (Float64.ofFrac (decide (x < 0) != decide (y < 0)) x.natAbs y.natAbs)) :=
  fun _ _ _ _ _ _ ⟨_, ha⟩ ⟨_, hb⟩ k => ha ▸ hb ▸ Run.lib fun s Q e r => AutoIntOps.truediv_2 (by rw [c]; decide) (by rw [d]; decide) (r _ _ (k _ ⟨_, rfl⟩))
theorem Bin.addT (c : p.length + q.length ≤ sizeLine) : Bin .Add (.T p) (.T q) (.T (p ++ q)) := fun _ _ _ _ _ _ ⟨_, ha⟩ ⟨_, hb⟩ k => ha ▸ hb ▸ Run.addS c fun t => k _ ⟨t, rfl⟩
theorem Bin.mulT (c : MulOk p y) : Bin .Mult (.T p) (.I y) (.T (Txt.mul p y)) := fun _ _ _ _ _ _ ⟨_, ha⟩ ⟨_, hb⟩ k => ha ▸ hb ▸ Run.mulS c fun t => k _ ⟨t, rfl⟩
theorem Bin.addF : Bin .Add (.F f) (.F g) (.F (Float64.add f g)) := fun _ _ _ _ _ _ ⟨_, ha⟩ ⟨_, hb⟩ k => ha ▸ hb ▸ Run.lib fun s Q e r => PyProof.Rows.add_float (r _ _ (k _ ⟨_, rfl⟩))
theorem Bin.subF : Bin .Sub (.F f) (.F g) (.F (Float64.sub f g)) := fun _ _ _ _ _ _ ⟨_, ha⟩ ⟨_, hb⟩ k => ha ▸ hb ▸ Run.lib fun s Q e r => PyProof.Rows.sub_float (r _ _ (k _ ⟨_, rfl⟩))
theorem Bin.mulF : Bin .Mult (.F f) (.F g) (.F (Float64.mul f g)) := fun _ _ _ _ _ _ ⟨_, ha⟩ ⟨_, hb⟩ k => ha ▸ hb ▸ Run.lib fun s Q e r => PyProof.Rows.mul_float (r _ _ (k _ ⟨_, rfl⟩))
theorem Bin.divF (c : Float64.isZero g = false) : Bin .Div (.F f) (.F g) (.F (Float64.div f g)) := fun _ _ _ _ _ _ ⟨_, ha⟩ ⟨_, hb⟩ k => ha ▸ hb ▸ Run.lib fun s Q e r => AutoFloatOps.truediv_1 (by rw [c]; decide) (r _ _ (k _ ⟨_, rfl⟩))
theorem Bin.modF (c : Float64.isZero g = false) : Bin .Mod (.F f) (.F g) (.F (Float64.divmod f g).2) := fun _ _ _ _ _ _ ⟨_, ha⟩ ⟨_, hb⟩ k => ha ▸ hb ▸ Run.lib fun s Q e r => AutoFloatOps.mod_1 (by rw [c]; decide) (r _ _ (k _ ⟨_, rfl⟩))
theorem Bin.mulIF (c : Float64.isInf (Float64.ofInt x) = false) : Bin .Mult (.I x) (.F g) (.F (Float64.mul (Float64.ofInt x) g)) := fun _ _ _ _ _ _ ⟨_, ha⟩ ⟨_, hb⟩ k => ha ▸ hb ▸ Run.lib fun s Q e r => AutoFloatOps.mul_if_1 (by rw [c]; decide) (r _ _ (k _ ⟨_, rfl⟩))
theorem Bin.mulFI (c : Float64.isInf (Float64.ofInt y) = false) : Bin .Mult (.F f) (.I y) (.F (Float64.mul f (Float64.ofInt y))) := fun _ _ _ _ _ _ ⟨_, ha⟩ ⟨_, hb⟩ k => ha ▸ hb ▸ Run.lib fun s Q e r => AutoFloatOps.mul_fi_1 (by rw [c]; decide) (r _ _ (k _ ⟨_, rfl⟩))
theorem Bin.addFI (c : Float64.isInf (Float64.ofInt y) = false) : Bin .Add (.F f) (.I y) (.F (Float64.add f (Float64.ofInt y))) := fun _ _ _ _ _ _ ⟨_, ha⟩ ⟨_, hb⟩ k => ha ▸ hb ▸ Run.lib fun s Q e r => AutoFloatOps.add_fi_1 (by rw [c]; decide) (r _ _ (k _ ⟨_, rfl⟩))
theorem Inp.addI : Inp .Add (.I x) (.I y) (.I (x + y)) := fun _ _ _ _ _ _ ⟨_, ha⟩ ⟨_, hb⟩ k => ha ▸ hb ▸ Run.lib fun s Q e r => PyProof.Rows.iadd_int (r _ _ (k _ ⟨_, rfl⟩))
theorem Inp.addT (c : p.length + q.length ≤ sizeLine) : Inp .Add (.T p) (.T q) (.T (p ++ q)) := fun _ _ _ _ _ _ ⟨_, ha⟩ ⟨_, hb⟩ k => ha ▸ hb ▸ Run.iaddS c fun t => k _ ⟨t, rfl⟩
theorem Cmp.ltI : Cmp .Lt (.I x) (.I y) (decide (x < y)) := fun _ _ _ _ _ _ ⟨_, ha⟩ ⟨_, hb⟩ k => ha ▸ hb ▸ Run.ltI k
theorem Cmp.geI : Cmp .GtE (.I x) (.I y) (decide (y ≤ x)) := fun _ _ _ _ _ _ ⟨_, ha⟩ ⟨_, hb⟩ k => ha ▸ hb ▸ Run.lib fun s Q e r => PyProof.Rows.ge_int (r _ _ k)
theorem Cmp.gtI : Cmp .Gt (.I x) (.I y) (decide (y < x)) := fun _ _ _ _ _ _ ⟨_, ha⟩ ⟨_, hb⟩ k => ha ▸ hb ▸ Run.lib fun s Q e r => PyProof.Rows.gt_int (r _ _ k)
theorem Cmp.leI : Cmp .LtE (.I x) (.I y) (decide (x ≤ y)) := fun _ _ _ _ _ _ ⟨_, ha⟩ ⟨_, hb⟩ k => ha ▸ hb ▸ Run.lib fun s Q e r => PyProof.Rows.le_int (r _ _ k)
theorem Cmp.eqI : Cmp .Eq (.I x) (.I y) (x == y) := fun _ _ _ _ _ _ ⟨_, ha⟩ ⟨_, hb⟩ k => ha ▸ hb ▸ Run.eqI k
theorem Cmp.neI : Cmp .NotEq (.I x) (.I y) (x != y) := fun _ _ _ _ _ _ ⟨_, ha⟩ ⟨_, hb⟩ k => ha ▸ hb ▸ Run.neI k
theorem Cmp.eqT : Cmp .Eq (.T p) (.T q) (p == q) := fun _ _ _ _ _ _ ⟨_, ha⟩ ⟨_, hb⟩ k => ha ▸ hb ▸ Run.eqS k
theorem Cmp.eqF : Cmp .Eq (.F f) (.F g) (Float64.cmp f g == some Ordering.eq) := fun _ _ _ _ _ _ ⟨_, ha⟩ ⟨_, hb⟩ k => ha ▸ hb ▸ Run.lib fun s Q e r => AutoFloatOps.eq_0 (r _ _ k)
theorem Cmp.neF : Cmp .NotEq (.F f) (.F g) (Float64.cmp f g != some Ordering.eq) := fun _ _ _ _ _ _ ⟨_, ha⟩ ⟨_, hb⟩ k => ha ▸ hb ▸ Run.lib fun s Q e r => AutoFloatOps.ne_0 (r _ _ k)
theorem Cmp.leF : Cmp .LtE (.F f) (.F g) (Float64.cmp f g == some Ordering.lt || Float64.cmp f g == some Ordering.eq) := fun _ _ _ _ _ _ ⟨_, ha⟩ ⟨_, hb⟩ k => ha ▸ hb ▸ Run.lib fun s Q e r => AutoFloatOps.le_0 (r _ _ k)
theorem Cmp.isN : Cmp .Is .N .N true := fun _ _ _ _ _ _ ha hb k => by cases ha; cases hb; exact Run.lib fun s Q e r => wpAny_is_plain rfl (r _ _ k)
theorem Cmp.isI : Cmp .Is (.I x) .N false := fun _ _ _ _ _ _ ⟨_, ha⟩ hb k => by cases ha; cases hb; exact Run.lib fun s Q e r => wpAny_is_other rfl (by intro z; cases z) (r _ _ k)
theorem Cmp.isNotN : Cmp .IsNot .N .N false := fun _ _ _ _ _ _ ha hb k => by cases ha; cases hb; exact Run.lib fun s Q e r => wpAny_isNot_plain rfl (r _ _ k)
end


section
variable {B : Base} {ks : Kinds} {pl : Names} {cs : List Cell} {e l r : Expr} {pos : Pos} {a b p : PV} {op : Operator} {cop : CmpOp} {c : Bool} {x : Str} {F : Flow → Heap → Prop} {rest body orelse : List Stmt}
theorem Is.own {h : Heap} (I : Is B ks pl cs h) : Own B.hb h cs := I.2.tail
theorem Is.to {h h' : Heap} {pl' : Names} {cs' : List Cell} (I : Is B ks pl cs h) (O : Own B.hb h' ((B.L, NP pl') :: cs')) : Is B ks pl' cs' h' := ⟨I.1, O⟩
theorem Is.pick {h : Heap} {pl' : Names} (I : Is B ks pl cs h) (k : PicksQ pl pl') : Is B ks pl' cs h := ⟨I.1, I.2.pickQ k⟩
theorem Ev.name (hl : ks.lookup x = some .local) (hv : pl.lookup x = some p) (hd : (x == ("__debug__" : Str)) = false := by decide) : Ev B ks pl cs (.Name x pos) p :=
  fun h I F k => Run.name (Run.ld I.1.1 I.2 (.head _) hl hv fun v hv => k v h hv I) hd
theorem Ev.int {i : Int} {n : Nat} : Ev B ks pl cs (.Constant (.int i) n pos) (.I i) := fun h I F k => Run.constI fun t => k _ _ ⟨t, rfl⟩ I
theorem Ev.txt {i : Str} {n : Nat} : Ev B ks pl cs (.Constant (.str i) n pos) (.T i) := fun h I F k => Run.constS fun t => k _ _ ⟨t, rfl⟩ I
theorem Ev.flt {i : UInt64} {n : Nat} : Ev B ks pl cs (.Constant (.float i) n pos) (.F i) := fun h I F k => Run.lib fun s Q z r => wpAny_Constant_float (r _ _ (k _ _ ⟨_, rfl⟩ I))
theorem Ev.none {n : Nat} : Ev B ks pl cs (.Constant .none n pos) .N := fun h I F k => Run.lib fun s Q z r => Constant_none (r _ _ (k _ _ rfl I))
theorem Ev.bool {i : Bool} {n : Nat} : Ev B ks pl cs (.Constant (.bool i) n pos) (.B i) := fun h I F k => Run.lib fun s Q z r => Constant_bool (r _ _ (k _ _ rfl I))
theorem Ev.bin (hl : Ev B ks pl cs l a) (hr : Ev B ks pl cs r b) (ho : Bin op a b p) : Ev B ks pl cs (.BinOp l op r pos) p :=
  fun h I F k => Run.binOp (hl h I _ fun va h₁ ha I₁ => hr h₁ I₁ _ fun vb h₂ hb I₂ => ho _ _ _ _ _ _ ha hb fun v hv => k v h₂ hv I₂)
theorem Ev.cmp (hl : Ev B ks pl cs l a) (hr : Ev B ks pl cs r b) (ho : Cmp cop a b c) (hm : behindInMarks cop r = false := by with_unfolding_all rfl) : Ev B ks pl cs (.Compare l [cop] [r] pos) (.B c) :=
  fun h I F k => Run.cmp (hl h I _ fun va h₁ ha I₁ => hr h₁ I₁ _ fun vb h₂ hb I₂ => ho _ _ _ _ _ _ ha hb (k _ h₂ rfl I₂)) hm
theorem Ts.cmp (hl : Ev B ks pl cs l a) (hr : Ev B ks pl cs r b) (ho : Cmp cop a b c) (hm : behindInMarks cop r = false := by with_unfolding_all rfl) : Ts B ks pl cs (.Compare l [cop] [r] pos) c :=
  fun h I F k => Run.isCmp (hl h I _ fun va h₁ ha I₁ => hr h₁ I₁ _ fun vb h₂ hb I₂ => ho _ _ _ _ _ _ ha hb (Run.truthB (k h₂ I₂))) hm
/-- len of a text -/
theorem Ev.lenT {fp : Pos} {t : Str} (he : Ev B ks pl cs e (.T t)) (hz : (t.length : Int) < 2 ^ 63) (hk : ks.lookup ("len" : Str) = some NameKind.globalImplicit := by rfl)
    (hs : starEach [e] B.env = [(false, eval e B.env)] := by rfl) (hn : eval (.Call (.Name "len" fp) [e] [] pos) B.env = (do callWith pos (← eval (.Name "len" fp) B.env) [] (backTo pos (starEach [e] B.env)) (backToKw pos (keywordEach [] B.env))) := by rfl) : Ev B ks pl cs (.Call (.Name "len" fp) [e] [] pos) (.I t.length) :=
  fun h I F k => Run.call (Run.builtin I.1.1 I.1.2.1 I.2 hk rfl (Run.callBuiltin (first := []) (Run.args (he h I _ fun v h₁ ⟨tv, hv⟩ I₁ => Run.args0 (hv ▸ Run.lenS hz fun t => k _ _ ⟨t, rfl⟩ I₁)) hs) hs rfl)) hn

/-! statements -/
theorem Ex.nil (k : ∀ h, Is B ks pl cs h → F .next h) : Ex B ks pl cs [] F := fun h I => Run.execs_nil (k h I)
/-- what stands behind a statement with blocks -/
abbrev Sq (B : Base) (rest : List Stmt) (F : Flow → Heap → Prop) : Flow → Heap → Prop := fun f h => match f with | .next => Run B.w B.A (execs rest B.env) h F | f => F f h
theorem Ex.go (k : Ex B ks pl cs rest F) : Ex B ks pl cs [] (Sq B rest F) := fun h I => Run.execs_nil (k h I)
theorem Ex.assign {xp : Pos} (he : Ev B ks pl cs e p) (k : Ex B ks ((x, p) :: pl) cs rest F) (hl : ks.lookup x = some .local := by rfl)
    (hs : swapsWith e (some (.Name x xp)) pos.line B.env = Pure.pure false := by rfl) : Ex B ks pl cs (.Assign [.Name x xp] e pos :: rest) F :=
  fun h I => Run.seq (Run.assignName (he h I _ fun v h₁ hv I₁ => Run.st I.1.1 I₁.2 hl hv fun h' I' => k h' (I.to I')) hs)
theorem Ex.aug {xp : Pos} (hx : pl.lookup x = some a) (he : Ev B ks pl cs e b) (ho : Inp op a b p) (k : Ex B ks ((x, p) :: pl) cs rest F) (hl : ks.lookup x = some .local := by rfl) : Ex B ks pl cs (.AugAssign (.Name x xp) op e pos :: rest) F :=
  fun h I => Run.seq (Run.augName (Run.ld I.1.1 I.2 (.head _) hl hx fun va ha => he h I _ fun vb h₁ hb I₁ => ho _ _ _ _ _ _ ha hb fun v hv => Run.st I.1.1 I₁.2 hl hv fun h' I' => k h' (I.to I')))
theorem Ex.ite (ht : Ts B ks pl cs e c) (h1 : c = true → Ex B ks pl cs body (Sq B rest F)) (h2 : c = false → Ex B ks pl cs orelse (Sq B rest F)) : Ex B ks pl cs (.If e body orelse pos :: rest) F :=
  fun h I => Run.seq (Run.ite (ht h I _ fun h' I' => ⟨fun q => h1 q h' I', fun q => h2 q h' I'⟩))
theorem Ex.ret (he : Ev B ks pl cs e p) (k : ∀ v h, p.is v → Is B ks pl cs h → F (.ret v) h) : Ex B ks pl cs (.Return (some e) pos :: rest) F :=
  fun h I => Run.seq (Run.ret (he h I _ fun v h' hv I' => k v h' hv I'))
/-- fewer names are kept -/
theorem Ex.names (pl' : Names) (k : PicksQ pl pl') (x : Ex B ks pl' cs rest F) : Ex B ks pl cs rest F := fun h I => x h (I.pick k)

/-- an expression that may make and change objects: what it gives and leaves -/
def EvP (B : Base) (ks : Kinds) (pl : Names) (cs : List Cell) (e : Expr) (P : PV → List Cell → Prop) : Prop := ∀ h, Is B ks pl cs h → ∀ G : Value → Heap → Prop, (∀ p v h' cs', P p cs' → p.is v → Is B ks pl cs' h' → G v h') → Run B.w B.A (eval e B.env) h G
theorem Ev.plain (he : Ev B ks pl cs e p) : EvP B ks pl cs e (fun q ds => q = p ∧ cs = ds) := fun h I G k => he h I G fun v h' hv I' => k p v h' cs ⟨rfl, rfl⟩ hv I'
theorem Ex.assignP {xp : Pos} {P : PV → List Cell → Prop} (he : EvP B ks pl cs e P) (k : ∀ p cs', P p cs' → Ex B ks ((x, p) :: pl) cs' rest F) (hl : ks.lookup x = some .local := by rfl)
    (hs : swapsWith e (some (.Name x xp)) pos.line B.env = Pure.pure false := by rfl) : Ex B ks pl cs (.Assign [.Name x xp] e pos :: rest) F :=
  fun h I => Run.seq (Run.assignName (he h I _ fun p v h₁ cs' j hv I₁ => Run.st I.1.1 I₁.2 hl hv fun h' I' => k p cs' j h' (I.to I')) hs)
theorem Ex.retP {P : PV → List Cell → Prop} (he : EvP B ks pl cs e P) (k : ∀ p v h cs', P p cs' → p.is v → Is B ks pl cs' h → F (.ret v) h) : Ex B ks pl cs (.Return (some e) pos :: rest) F :=
  fun h I => Run.seq (Run.ret (he h I _ fun p v h' cs' j hv I' => k p v h' cs' j hv I'))
end

/-! F7 -/
section
variable {B : Base} {ks : Kinds} {pl : Names} {cs : List Cell} {F : Flow → Heap → Prop} {rest body : List Stmt} {x : Str} {xp pos : Pos} {iter e : Expr}

/-- what a turn of a loop may end with: the next turn's names and cells (with the iterator's), a break, a return -/
def Turn (B : Base) (ks : Kinds) (it : Cell) (J : Names → List Cell → Prop) (rest : List Stmt) (F : Flow → Heap → Prop) : Flow → Heap → Prop := fun f h => match f with
  | .next | .cont => ∃ pl cs, J pl cs ∧ Is B ks pl (it :: cs) h
  | .brk => Run B.w B.A (execs rest B.env) h F
  | .ret v => F (.ret v) h
theorem Turn.next {it : Cell} {J : Names → List Cell → Prop} {pl' : Names} (j : J pl' cs) (k : PicksQ pl pl') : Ex B ks pl (it :: cs) [] (Turn B ks it J rest F) :=
  fun h I => Run.execs_nil ⟨pl', cs, j, I.pick k⟩

theorem Ex.forStr {t : Str} (he : Ev B ks pl cs iter (.T t)) (J : Nat → Names → List Cell → Prop) (h0 : J 0 pl cs) (hl : ks.lookup x = some .local)
    (turn : ∀ i c it pl cs, t.cps[i]? = some c → J i pl cs → Ex B ks ((x, .T ⟨#[c]⟩) :: pl) ((it, SIt t (i + 1)) :: cs) body (Turn B ks (it, SIt t (i + 1)) (J (i + 1)) rest F))
    (done : ∀ pl cs, J t.cps.size pl cs → Ex B ks pl cs rest F)
    (hf : ∀ y, foldedSetIterable iter B.env y = Pure.pure y := by intro _; rfl) : Ex B ks pl cs (.For (.Name x xp) iter body [] pos :: rest) F := fun h I => by
  refine Run.seq (Run.for_ (he h I _ fun v h₀ ⟨tk, hv⟩ I₀ => hv ▸ Run.iterStr I₀.2 fun it h₁ O₁ => ?_) hf)
  refine Run.forLoop t.cps.size (fun i h => ∃ pl cs, J i pl cs ∧ Own B.hb h ((it, SIt t i) :: (B.L, NP pl) :: cs)) ?_ ⟨_, _, h0, O₁⟩
  rintro i h₂ hi ⟨pl, cs, j, O₂⟩
  refine Run.nextStr I.1.2.2 O₂ (fun c tk h₃ hc O₃ => ?_) (fun h₃ hc O₃ => ?_)
  · obtain ⟨hlt, _⟩ := Array.getElem?_eq_some_iff.mp hc
    refine ⟨hlt, Run.noTuple (Run.assName (Run.st (p := .T ⟨#[c]⟩) I.1.1 O₃.swap hl ⟨tk, rfl⟩ fun h₄ O₄ => (turn i c it pl cs hc j h₄ (I.to O₄)).mono fun f h₅ q => ?_))⟩
    cases f with
    | next => obtain ⟨pl', cs', j', I'⟩ := q; exact ⟨pl', cs', j', I'.2.swap⟩
    | cont => obtain ⟨pl', cs', j', I'⟩ := q; exact ⟨pl', cs', j', I'.2.swap⟩
    | brk => exact q
    | ret v => exact q
  · have : i = t.cps.size := by have := Array.getElem?_eq_none_iff.mp hc; omega
    subst this
    exact done pl cs j h₃ (I.to O₃)

/-- a for over a range by ones -/
theorem Ex.forRange (n : Nat) (a b : Int) (hn : n = (b - a).toNat) (hi : ∀ h, Is B ks pl cs h → ∀ G : Value → Heap → Prop, (∀ r h', Own B.hb h' ((r, Rg a b 1) :: (B.L, NP pl) :: cs) → G (.ref r) h') → Run B.w B.A (eval iter B.env) h G)
    (hsm : Builtin.Range.small a b 1 = true) (J : Nat → Names → List Cell → Prop) (h0 : J 0 pl cs) (hl : ks.lookup x = some .local)
    (turn : ∀ i it pl cs, i < n → J i pl cs → Ex B ks ((x, .I (a + i)) :: pl) ((it, RIt (a + i + 1) ((n : Int) - i - 1) 1) :: cs) body (Turn B ks (it, RIt (a + i + 1) ((n : Int) - i - 1) 1) (J (i + 1)) rest F))
    (done : ∀ pl cs, J n pl cs → Ex B ks pl cs rest F)
    (hf : ∀ y, foldedSetIterable iter B.env y = Pure.pure y := by intro _; rfl) : Ex B ks pl cs (.For (.Name x xp) iter body [] pos :: rest) F := fun h I => by
  refine Run.seq (Run.for_ (hi h I _ fun r h₁ O₁ => Run.iterRange O₁ (.head _) hsm fun it h₂ O₂ => ?_) hf)
  have hsz : Builtin.Range.rangeSize a b 1 = n := by rw [rangeSize_one]; split <;> omega
  rw [hsz] at O₂
  refine Run.forLoop n (fun i h => ∃ pl cs, J i pl cs ∧ Own B.hb h ((it, RIt (a + i) ((n : Int) - i) 1) :: (B.L, NP pl) :: cs)) ?_ ⟨_, _, h0, by simpa using O₂.drop2⟩
  rintro i h₃ hin ⟨pl, cs, j, O₃⟩
  refine Run.nextRange I.1.2.2 O₃ (fun tk h₄ hc O₄ => ?_) (fun h₄ hc O₄ => ?_)
  · refine ⟨by omega, Run.noTuple (Run.assName (Run.st (p := .I (a + i)) I.1.1 O₄.swap hl ⟨tk, rfl⟩ fun h₅ O₅ => (turn i it pl cs (by omega) j h₅ (I.to O₅)).mono fun f h₆ q => ?_))⟩
    have e : RIt (a + ((i + 1 : Nat) : Int)) ((n : Int) - ((i + 1 : Nat) : Int)) 1 = RIt (a + i + 1) ((n : Int) - i - 1) 1 := by
      rw [show a + ((i + 1 : Nat) : Int) = a + i + 1 by omega, show (n : Int) - ((i + 1 : Nat) : Int) = (n : Int) - i - 1 by omega]
    cases f with
    | next => obtain ⟨pl', cs', j', I'⟩ := q; exact ⟨pl', cs', j', e ▸ I'.2.swap⟩
    | cont => obtain ⟨pl', cs', j', I'⟩ := q; exact ⟨pl', cs', j', e ▸ I'.2.swap⟩
    | brk => exact q
    | ret v => exact q
  · have : i = n := by omega
    subst this
    exact done pl cs j h₄ (I.to O₄)

/-- the end of a while's turn: a smaller measure -/
def WTurn (B : Base) (ks : Kinds) (m : Nat) (J : Nat → Names → List Cell → Prop) (rest : List Stmt) (F : Flow → Heap → Prop) : Flow → Heap → Prop := fun f h => match f with
  | .next | .cont => ∃ m' pl cs, m' < m ∧ J m' pl cs ∧ Is B ks pl cs h
  | .brk => Run B.w B.A (execs rest B.env) h F
  | .ret v => F (.ret v) h
theorem WTurn.next {J : Nat → Names → List Cell → Prop} {m m' : Nat} {pl' : Names} (j : J m' pl' cs) (hm : m' < m) (k : PicksQ pl pl') : Ex B ks pl cs [] (WTurn B ks m J rest F) :=
  fun h I => Run.execs_nil ⟨m', pl', cs, hm, j, I.pick k⟩
theorem Ex.while_ (J : Nat → Names → List Cell → Prop) (k : Nat) (h0 : J k pl cs)
    (turn : ∀ m pl cs, J m pl cs → ∃ c, Ts B ks pl cs e c ∧ (c = true → Ex B ks pl cs body (WTurn B ks m J rest F)) ∧ (c = false → Ex B ks pl cs rest F)) : Ex B ks pl cs (.While e body [] pos :: rest) F := fun h I => by
  refine Run.seq (Run.while_ (fun m h => ∃ pl cs, J m pl cs ∧ Own B.hb h ((B.L, NP pl) :: cs)) ?_ k ⟨_, _, h0, I.2⟩)
  rintro m h₁ ⟨pl, cs, j, O⟩
  obtain ⟨c, ts, yes, no⟩ := turn m pl cs j
  refine ts h₁ (I.to O) _ fun h₁ I₁ => ⟨fun q => (yes q h₁ I₁).mono fun f h₂ z => ?_, fun q => no q h₁ I₁⟩
  cases f with
  | next => obtain ⟨m', pl', cs', hm, j', I'⟩ := z; exact ⟨m', hm, pl', cs', j', I'.2⟩
  | cont => obtain ⟨m', pl', cs', hm, j', I'⟩ := z; exact ⟨m', hm, pl', cs', j', I'.2⟩
  | brk => exact z
  | ret v => exact z
end

/-- a def of the text, called: its frame -/
theorem RunCall.def' {w : World} {A : Around} {hb h : Heap} {F : Value → Heap → Prop} {cs : List Cell} {f : Addr} {fd : FuncData} {dV kV : Value} {name bind : Str} {params : Arguments} {body : List Stmt} {decos : List Expr} {ret : Option Expr} {tps : List TypeParam} {scope : Scope} {tsc : Option Scope} {pos : Pos} {vs : List Value} {kw : List (Str × Value)} {d u : Nat}
    (D : DefIs hb f (.FunctionDef name params body decos ret tps scope tsc bind pos) dV kV fd) (hA : AOk A (d + 1) (u + 3)) (G : Gd hb Globs Blts) (O : Own hb h cs) (binds : List (Str × Value)) (pl : List (Str × PV))
    (hbind : ∀ fd : FuncData, fd.params = params → fd.defaults = dV → fd.kwdefaults = kV → ∀ s : Shared, s.heap = h → BindsTo s fd ⟨vs, kw⟩ binds) (hp : PicksP binds.reverse pl)
    (ks : List (Str × NameKind)) (hks : (ks.all fun p => scope.names.lookup p.1 == some p.2) = true) (hloc : (binds.all fun b => scope.names.lookup b.1 == some .local) = true) (hcell : (scope.names.all fun x => x.2 != .cell) = true)
    (hpl : scope.isCoroutine = false ∧ scope.isGenerator = false ∧ scope.kind = .function)
    (k : ∀ L env A', AOk A' d u → (∃ l, A'.frames = some (env :: l)) → Ex ⟨w, A', hb, env, L⟩ ks pl cs body (fun fl h' => F (match fl with | .ret v => v | _ => .none) h')) :
    RunCall w A (.ref f) ⟨vs, kw⟩ h F :=
  RunCall.def_ D hA G O hbind ks hks hloc hcell hpl fun h₁ L env A' e hA' hf O₁ => k L env A' hA' hf h₁ ⟨⟨e, G, hA'.hand⟩, O₁.np hp⟩
/-- a def of the text, called: its frame -/
theorem Run.def' {w : World} {A : Around} {hb h : Heap} {F : Value → Heap → Prop} {cs : List Cell} {f : Addr} {fd : FuncData} {dV kV : Value} {name bind : Str} {params : Arguments} {body : List Stmt} {decos : List Expr} {ret : Option Expr} {tps : List TypeParam} {scope : Scope} {tsc : Option Scope} {pos : Pos} {vs : List Value} {kw : List (Str × Value)} {d u : Nat}
    (D : DefIs hb f (.FunctionDef name params body decos ret tps scope tsc bind pos) dV kV fd) (hA : AOk A (d + 1) (u + 3)) (G : Gd hb Globs Blts) (O : Own hb h cs) (binds : List (Str × Value)) (pl : List (Str × PV))
    (hbind : ∀ fd : FuncData, fd.params = params → fd.defaults = dV → fd.kwdefaults = kV → ∀ s : Shared, s.heap = h → BindsTo s fd ⟨vs, kw⟩ binds) (hp : PicksP binds.reverse pl)
    (ks : List (Str × NameKind)) (hks : (ks.all fun p => scope.names.lookup p.1 == some p.2) = true) (hloc : (binds.all fun b => scope.names.lookup b.1 == some .local) = true) (hcell : (scope.names.all fun x => x.2 != .cell) = true)
    (hpl : scope.isCoroutine = false ∧ scope.isGenerator = false ∧ scope.kind = .function)
    (k : ∀ L env A', AOk A' d u → (∃ l, A'.frames = some (env :: l)) → Ex ⟨w, A', hb, env, L⟩ ks pl cs body (fun fl h' => F (match fl with | .ret v => v | _ => .none) h')) :
    Run w A (PySem.call (.ref f) vs kw) h F :=
  (RunCall.def' D hA G O binds pl hbind hp ks hks hloc hcell hpl k).run
/-- arguments by place, for parameters without defaults -/
theorem binds_plain {params : Arguments} {vs : List Value} {binds : List (Str × Value)} {h : Heap} (e : ∀ n q b s g c dV kV doc pm an cd ct bt, bindArgs ⟨n, q, params, b, s, g, c, dV, kV, doc, pm, an, cd, ct, bt⟩ ⟨vs, []⟩ = seqItems? dV >>= fun _ => Pure.pure binds) {dV kV : Value} (hd : dV = .none) :
    ∀ fd : FuncData, fd.params = params → fd.defaults = dV → fd.kwdefaults = kV → ∀ s : Shared, s.heap = h → BindsTo s fd ⟨vs, []⟩ binds := by
  rintro ⟨n, q, p, b, s, g, c, d, k, doc, pm, an, cd, ct, bt⟩ rfl rfl rfl s' _
  refine BindsTo.of_eq ((e ..).trans ?_)
  dsimp only at hd
  subst hd
  rfl

/-! F8 -/
section
variable {B : Base} {ks : Kinds} {pl : Names} {cs : List Cell} {e l r v s : Expr} {pos : Pos} {a : Addr} {ns : List Int}
theorem Ev.lenL {fp : Pos} (he : Ev B ks pl cs e (.O a)) (hc : (a, LI ns) ∈ cs) (hz : ns.length < 2 ^ 62) (hk : ks.lookup ("len" : Str) = some NameKind.globalImplicit := by rfl)
    (hs : starEach [e] B.env = [(false, eval e B.env)] := by rfl) (hn : eval (.Call (.Name "len" fp) [e] [] pos) B.env = (do callWith pos (← eval (.Name "len" fp) B.env) [] (backTo pos (starEach [e] B.env)) (backToKw pos (keywordEach [] B.env))) := by rfl) : Ev B ks pl cs (.Call (.Name "len" fp) [e] [] pos) (.I ns.length) :=
  fun h I F k => Run.call (Run.builtin I.1.1 I.1.2.1 I.2 hk rfl (Run.callBuiltin (first := []) (Run.args (he h I _ fun v h hv I => Run.args0 (by
    cases hv
    refine Run.lib fun s Q z q => ?_
    subst z
    obtain ⟨ob, e1, vs, lv, iv⟩ := I.2.get (.tail _ hc)
    have hl := ints_len iv
    exact PyProof.Rows.len_list (lv_at ⟨ob, e1, lv⟩) (by rw [List.size_toArray]; omega) (q _ _ (k _ _ ⟨_, by rw [List.size_toArray, hl]⟩ I)))) hs) hs rfl)) hn
theorem Run.sub {w : World} {A : Around} {h : Heap} {env : Env} {F : Value → Heap → Prop} {value slice : Expr} (x : Run w A (eval value env) h (fun o h₁ => Run w A (eval slice env) h₁ (fun i h₂ => Run w A (subscriptTail value slice o i) h₂ F))) : Run w A (eval (.Subscript value slice pos) env) h F :=
  fun s hs => Subscript_ (wpAny_mono (x s hs) (fun _ _ q => wpAny_mono (q.2.on q.1) (fun _ _ q => q.2.on q.1) fun _ _ e => e) fun _ _ e => e)
/-- an item of a list of ints -/
theorem Ev.item {i n : Int} (hv : Ev B ks pl cs v (.O a)) (hs : Ev B ks pl cs s (.I i)) (hc : (a, LI ns) ∈ cs) (h0 : 0 ≤ i) (hn : ns[i.toNat]? = some n) (hz : i < 2 ^ 63)
    (hsub : ∀ u, subscripted s false (.ref a) (.int i u) = operate [.ref a, .int i u] (getItem (.ref a) (.int i u)) := by intro _; rfl) (hg : ∀ r, letTemporaryGo v (.ref a) r = Pure.pure () := by intro _; rfl) : Ev B ks pl cs (.Subscript v s pos) (.I n) :=
  fun h I F k => Run.sub (hv h I _ fun vv h hvv I => hs h I _ fun vi h ⟨ti, hvi⟩ I => by
    cases hvv; subst hvi
    refine Run.lib fun st Q z q => ?_
    subst z
    obtain ⟨ob, e1, vs, lv, iv⟩ := I.2.get (.tail _ hc)
    obtain ⟨t, ht⟩ := ints_get iv _ _ hn
    exact item_list (lv_at ⟨ob, e1, lv⟩) h0 hz (by simpa using ht) (q _ _ (k _ _ ⟨t, rfl⟩ I)) (hsub _) hg)
end

def paramsOf : Stmt → Arguments | .FunctionDef _ a .. => a | _ => default
theorem loadAny {α : Type} {M : Model} {A : Around} {E : Value → Shared → Prop} {s : Shared} {a : Addr} {o : Obj} {q : Option Value} {k : Obj → Sem α} {Q : α → Shared → Prop} (ho : s.heap.get? a = some o) (h : wpAny M A (k o) Q E s) : wpAny M A (.load a q k) Q E s :=
  wpAny_bind (m := loadPart a q) (f := k) (wpAny_loadPart ho h)

theorem ints_append {vs ws : List Value} {ns ms : List Int} (x : IntsAre vs ns) (y : IntsAre ws ms) : IntsAre (vs ++ ws) (ns ++ ms) := by
  induction x with
  | nil => exact y
  | cons m t _ ih => exact .cons m t ih
theorem ints_take {vs : List Value} {ns : List Int} (x : IntsAre vs ns) (n : Nat) : IntsAre (vs.take n) (ns.take n) := by
  induction x generalizing n with
  | nil => simpa using IntsAre.nil
  | cons m t _ ih => cases n with
    | zero => exact .nil
    | succ n => exact .cons m t (ih n)
theorem ints_drop {vs : List Value} {ns : List Int} (x : IntsAre vs ns) (n : Nat) : IntsAre (vs.drop n) (ns.drop n) := by
  induction x generalizing n with
  | nil => simpa using IntsAre.nil
  | cons m t r ih => cases n with
    | zero => exact .cons m t r
    | succ n => exact ih n
theorem ints_insert {vs : List Value} {ns : List Int} {v : Int} (x : IntsAre vs ns) (n : Nat) (t : Tok) : IntsAre (vs.take n ++ .int v t :: vs.drop n) (ns.take n ++ v :: ns.drop n) :=
  ints_append (ints_take x n) (.cons v t (ints_drop x n))
/-- what the first cell is, said anew -/
theorem Own.fix {hb h : Heap} {cs : List Cell} {a : Addr} {P P' : Obj → Prop} {o : Obj} (O : Own hb h ((a, P) :: cs)) (e : h.get? a = some o) (p : P' o) : Own hb h ((a, P') :: cs) :=
  ⟨O.keep, fun c x => by
    rcases List.mem_cons.mp x with rfl | x
    · exact ⟨⟨o, e, p⟩, O.new (.head _)⟩
    · exact O.cell c (.tail _ x), O.nodup⟩

/-! methods of built-in objects -/
section
variable {w : World} {A : Around} {hb h : Heap} {cs : List Cell} {env : Env} {F : Value → Heap → Prop} {o e : Expr} {args : List Expr} {name : Str} {apos pos : Pos} {T id : String}
/-- x.name(e, ..) of a built-in type's object -/
theorem Run.meth (pa : PlainAttrs T) (slot : Slot T name id) (ty : typeOf (.builtin id) = Pure.pure (.type "method_descriptor"))
    (x : Run w A (eval o env) h (fun ov h₁ => (∀ s : Shared, s.heap = h₁ → s.TypeIs ov T ∧ ∀ a, ov = .ref a → ∃ ob, s.heap.get? a = some ob ∧ ob.dict = none) ∧ Run w A (spliced (backTo pos (starEach (e :: args) env))) h₁ (fun vs h₂ => Run w A (PySem.call (.builtin id) (ov :: vs)) h₂ F)))
    (hbase : attributeBase o name env (eval o env) = eval o env := by rfl) (hline : (apos.endLine == pos.line) = true := by rfl)
    (hfew : ((backTo pos (starEach (e :: args) env)).all (fun x => !x.1) && (backToKw pos (keywordEach [] env)).all (fun x => x.1.isSome) && decide ((e :: args).length + ([] : List Keyword).length + (if ([] : List Keyword).isEmpty then 0 else 1) < 30)) = true := by rfl)
    (he : starEach (e :: args) env = (false, eval e env) :: starEach args env := by rfl) (hp : (backTo pos (starEach args env)).any (·.1) = false := by rfl) : Run w A (eval (.Call (.Attribute o name apos) (e :: args) [] pos) env) h F := fun s hs =>
  wpAny_Call_method_lateS hbase hfew hline (wpAny_mono (x s hs) (fun ov s₁ q => ⟨T, id, pa, slot, ty, (q.2.1 s₁ rfl).1, (q.2.1 s₁ rfl).2, (Run.callBuiltin (first := [ov]) q.2.2 he hp).on q.1⟩) fun _ _ e => e)

theorem lv_type {h : Heap} {l : Addr} {vs : List Value} (x : ∃ o, h.get? l = some o ∧ LV vs o) (s : Shared) (e : s.heap = h) : s.TypeIs (.ref l) "list" ∧ ∀ a, Value.ref l = .ref a → ∃ ob, s.heap.get? a = some ob ∧ ob.dict = none := by
  subst e
  obtain ⟨o, e, n, rfl⟩ := x
  exact ⟨⟨_, e, rfl⟩, fun a z => by cases z; exact ⟨_, e, rfl⟩⟩
theorem seq_map {c : Value} {its : Array Value} {n : Nat} (f : Array Value → Array Value) : ∃ n', Obj.mapSeq f { cls := c, data := .seq its n } = { cls := c, data := .seq (f its) n' } := ⟨_, rfl⟩
theorem Run.append {l : Addr} {vs : List Value} {v : Value} (O : Own hb h ((l, LV vs) :: cs)) (hz : vs.length ≤ 1000) (k : ∀ h', Own hb h' ((l, LV (vs ++ [v])) :: cs) → F .none h') : Run w A (PySem.call (.builtin "list.append") [.ref l, v]) h F := fun s hs => by
  subst hs
  obtain ⟨o, e, n, rfl⟩ := O.get (.head _)
  obtain ⟨n', hm⟩ := seq_map (c := .type "list") (its := vs.toArray) (n := n) (·.push v)
  refine call_meets PySem.F.slot_list_append ⟨_, e, rfl⟩ PySem.F.entry_list_append (PySem.F.args_list_append_2 _ _) (PySem.AutoListH.list_append_list_val_0 l vs.toArray n v (by rw [List.size_toArray]; exact Nat.le_trans hz (by decide))) ⟨e, ?_⟩
  refine ⟨⟨rfl, rfl, rfl⟩, k _ (O.change (Heap.SameBut.update ..) ⟨_, Heap.get?_update_self _ e (by rw [hm]; rfl), n', ?_⟩)⟩
  rw [hm]; simp
theorem Run.insert {l : Addr} {vs : List Value} {v : Value} {i : Nat} {x : Int} {t : Tok} (O : Own hb h ((l, LV vs) :: cs)) (hz : vs.length ≤ 1000) (hx : x = i) (hi : i ≤ vs.length) (k : ∀ h', Own hb h' ((l, LV (vs.take i ++ v :: vs.drop i)) :: cs) → F .none h') :
    Run w A (PySem.call (.builtin "list.insert") [.ref l, .int x t, v]) h F := fun s hs => by
  subst hs
  obtain ⟨o, e, n, rfl⟩ := O.get (.head _)
  obtain ⟨n', hm⟩ := seq_map (c := .type "list") (its := vs.toArray) (n := n) (fun xs => have k := if x < 0 then (x + (xs.size : Int)).toNat else min x.toNat xs.size; (xs.extract 0 k).push v ++ xs.extract k)
  have hf : Builtin.List.listFitsIndex x = true := by
    unfold Builtin.List.listFitsIndex
    rw [decide_eq_true (by omega), decide_eq_true (by omega)]; rfl
  refine call_meets PySem.F.slot_list_insert ⟨_, e, rfl⟩ PySem.F.entry_list_insert (PySem.F.args_list_insert_3 _ _ _) (PySem.AutoSeq1.list_insert_list_int_val_1 l vs.toArray n x t v (by simp [hf]) (by rw [List.size_toArray]; exact Nat.le_trans hz (by decide))) ⟨e, ?_⟩
  refine ⟨⟨rfl, rfl, rfl⟩, k _ (O.change (Heap.SameBut.update ..) ⟨_, Heap.get?_update_self _ e (by rw [hm]; rfl), n', ?_⟩)⟩
  rw [hm]
  have e1 : ¬ x < 0 := by omega
  have e2 : min x.toNat vs.toArray.size = i := by rw [List.size_toArray]; omega
  show ({ cls := .type "list", data := .seq ((vs.toArray.extract 0 (if x < 0 then (x + (vs.toArray.size : Int)).toNat else min x.toNat vs.toArray.size)).push v ++ vs.toArray.extract (if x < 0 then (x + (vs.toArray.size : Int)).toNat else min x.toNat vs.toArray.size)) n' } : Obj) = _
  rw [if_neg e1, e2]
  congr 2
  apply Array.toList_inj.mp
  simp
  exact List.take_of_length_le (by simp)
end

/-! calls of the text's defs, from a frame of ours -/
inductive Ares : List PV → List Value → Prop
  | nil : Ares [] []
  | cons {p : PV} {v : Value} {ps : List PV} {vs : List Value} : p.is v → Ares ps vs → Ares (p :: ps) (v :: vs)
section
variable {B : Base} {ks : Kinds} {pl : Names} {cs : List Cell} {e : Expr} {es : List Expr} {p : PV} {ps : List PV} {pos : Pos} {x : Str} {fp : Pos} {f : Addr} {fd : FuncData} {P : PV → List Cell → Prop} {rest : List Stmt} {F : Flow → Heap → Prop}
def Evs (B : Base) (ks : Kinds) (pl : Names) (cs : List Cell) (pos : Pos) (es : List Expr) (ps : List PV) : Prop := ∀ h, Is B ks pl cs h → ∀ G : List Value → Heap → Prop, (∀ vs h', Ares ps vs → Is B ks pl cs h' → G vs h') → Run B.w B.A (spliced (backTo pos (starEach es B.env))) h G
theorem Evs.nil : Evs B ks pl cs pos [] [] := fun h I G k => Run.args0 (k _ _ .nil I)
theorem Evs.cons (he : Ev B ks pl cs e p) (hs : Evs B ks pl cs pos es ps) (hq : starEach (e :: es) B.env = (false, eval e B.env) :: starEach es B.env := by rfl) : Evs B ks pl cs pos (e :: es) (p :: ps) :=
  fun h I G k => Run.args (he h I _ fun v h₁ hv I₁ => hs h₁ I₁ _ fun vs h₂ hvs I₂ => k _ _ (.cons hv hvs) I₂) hq
theorem EvP.def_ (D : Fn B.hb f fd) (ha : Evs B ks pl cs pos (e :: es) ps) (hc : ∀ vs h, Ares ps vs → Is B ks pl cs h → ∀ G : Value → Heap → Prop, (∀ p v h' cs', P p cs' → p.is v → Is B ks pl cs' h' → G v h') → Run B.w B.A (PySem.call (.ref f) vs) h G)
    (hk : ks.lookup x = some .globalImplicit := by rfl) (hg : Globs.lookup x = some (.ref f) := by rfl) (hd : (x == ("__debug__" : Str)) = false := by decide)
    (hq : starEach (e :: es) B.env = (false, eval e B.env) :: starEach es B.env := by rfl)
    (hn : eval (.Call (.Name x fp) (e :: es) [] pos) B.env = (do callWith pos (← eval (.Name x fp) B.env) [] (backTo pos (starEach (e :: es) B.env)) (backToKw pos (keywordEach [] B.env))) := by rfl) : EvP B ks pl cs (.Call (.Name x fp) (e :: es) [] pos) P :=
  fun h I G k => Run.call (Run.global I.1.1 I.1.2.1 I.2 hk hg (Run.callDef D (ha h I _ fun vs h₁ hvs I₁ => ⟨⟨_, I₁.2⟩, hc vs h₁ hvs I₁ G k⟩) hq) hd) hn
/-- a call that leaves the cells as they are and gives p -/
theorem Ev.def_ (D : Fn B.hb f fd) (ha : Evs B ks pl cs pos (e :: es) ps) (hc : ∀ vs h, Ares ps vs → Is B ks pl cs h → ∀ G : Value → Heap → Prop, (∀ v h', p.is v → Is B ks pl cs h' → G v h') → Run B.w B.A (PySem.call (.ref f) vs) h G)
    (hk : ks.lookup x = some .globalImplicit := by rfl) (hg : Globs.lookup x = some (.ref f) := by rfl) (hd : (x == ("__debug__" : Str)) = false := by decide)
    (hq : starEach (e :: es) B.env = (false, eval e B.env) :: starEach es B.env := by rfl)
    (hn : eval (.Call (.Name x fp) (e :: es) [] pos) B.env = (do callWith pos (← eval (.Name x fp) B.env) [] (backTo pos (starEach (e :: es) B.env)) (backToKw pos (keywordEach [] B.env))) := by rfl) : Ev B ks pl cs (.Call (.Name x fp) (e :: es) [] pos) p :=
  fun h I G k => Run.call (Run.global I.1.1 I.1.2.1 I.2 hk hg (Run.callDef D (ha h I _ fun vs h₁ hvs I₁ => ⟨⟨_, I₁.2⟩, hc vs h₁ hvs I₁ G k⟩) hq) hd) hn
theorem Ex.exprP (he : EvP B ks pl cs e P) (hn : ∀ p cs', P p cs' → p = .N) (k : ∀ cs', P .N cs' → Ex B ks pl cs' rest F) (hs : swapsWith e none pos.line B.env = Pure.pure false := by rfl) : Ex B ks pl cs (.Expr e pos :: rest) F :=
  fun h I => Run.seq (Run.expr (he h I _ fun p v h' cs' j hv I' => by
    cases hn p cs' j
    cases hv
    exact ⟨fun a z => (nomatch z), k cs' j h' I'⟩) (by unfold interactive; rw [I.1.1.fn]; rfl) hs)
/-- a list's method insert, called for what it does -/
theorem EvP.insert {o i y : Expr} {l : Addr} {n : Nat} {ns : List Int} {v : Int} {apos : Pos} (ho : Ev B ks pl ((l, LI ns) :: cs) o (.O l)) (hi : Ev B ks pl ((l, LI ns) :: cs) i (.I n)) (hy : Ev B ks pl ((l, LI ns) :: cs) y (.I v)) (hz : ns.length ≤ 1000) (hn : n ≤ ns.length)
    (hbase : attributeBase o "insert" B.env (eval o B.env) = eval o B.env := by rfl) (hline : (apos.endLine == pos.line) = true := by rfl)
    (hq : starEach [i, y] B.env = (false, eval i B.env) :: starEach [y] B.env := by rfl) (hy1 : starEach [y] B.env = (false, eval y B.env) :: starEach [] B.env := by rfl) :
    EvP B ks pl ((l, LI ns) :: cs) (.Call (.Attribute o "insert" apos) [i, y] [] pos) (fun p ds => p = .N ∧ ds = (l, LI (ns.take n ++ v :: ns.drop n)) :: cs) := fun h I G k => by
  refine Run.meth PySem.F.plainAttrs_list PySem.F.slot_list_insert PySem.F.type_list_insert (ho h I _ fun ov h₁ hov I₁ => ?_) hbase hline (by rw [hq, hy1]; rfl) hq (by rw [hy1]; rfl)
  cases hov
  refine ⟨fun s e => ?_, ?_⟩
  · obtain ⟨ob, e1, vs, lv, iv⟩ := I₁.2.get (.tail _ (.head _)); exact lv_type ⟨ob, e1, lv⟩ s e
  · refine (Evs.cons hi (Evs.cons hy Evs.nil hy1) hq) h₁ I₁ _ fun vs h₂ hvs I₂ => ?_
    cases hvs with | cons a r => cases r with | cons b r => cases r with | nil =>
    obtain ⟨ti, rfl⟩ := a
    obtain ⟨ty, rfl⟩ := b
    obtain ⟨ob, e1, ws, lv, iv⟩ := I₂.2.get (.tail _ (.head _))
    have hw := ints_len iv
    have O := I₂.2.swap.fix e1 (P' := LV ws) lv
    refine Run.insert O (by omega) rfl (by omega) fun h' O' => k _ _ _ _ ⟨rfl, rfl⟩ rfl ⟨I₂.1, (O'.weak fun o q => ⟨_, q, ints_insert iv n ty⟩).swap⟩
end

/-! F9 -/
/-! lists and tuples of plain values -/
def LP (ps : List PV) (o : Obj) : Prop := ∃ vs, LV vs o ∧ Ares ps vs
def TP (ps : List PV) (o : Obj) : Prop := ∃ vs, TV vs o ∧ Ares ps vs
theorem Ares.len {ps : List PV} {vs : List Value} (x : Ares ps vs) : vs.length = ps.length := by
  induction x with
  | nil => rfl
  | cons _ _ ih => simp [ih]
theorem Ares.get {ps : List PV} {vs : List Value} (x : Ares ps vs) (k : Nat) (p : PV) (e : ps[k]? = some p) : ∃ v, vs[k]? = some v ∧ p.is v := by
  induction x generalizing k with
  | nil => cases e
  | cons h _ ih =>
    cases k with
    | zero => cases e; exact ⟨_, rfl, h⟩
    | succ k => exact ih k (by simpa using e)
theorem Ares.app {ps qs : List PV} {vs ws : List Value} (x : Ares ps vs) (y : Ares qs ws) : Ares (ps ++ qs) (vs ++ ws) := by
  induction x with
  | nil => exact y
  | cons h _ ih => exact .cons h ih
theorem Ares.take {ps : List PV} {vs : List Value} (x : Ares ps vs) (n : Nat) : Ares (ps.take n) (vs.take n) := by
  induction x generalizing n with
  | nil => simpa using Ares.nil
  | cons h _ ih => cases n with
    | zero => exact .nil
    | succ n => exact .cons h (ih n)
theorem Ares.drop {ps : List PV} {vs : List Value} (x : Ares ps vs) (n : Nat) : Ares (ps.drop n) (vs.drop n) := by
  induction x generalizing n with
  | nil => simpa using Ares.nil
  | cons h t ih => cases n with
    | zero => exact .cons h t
    | succ n => exact ih n
theorem Ares.ints {ns : List Int} {vs : List Value} (x : Ares (ns.map .I) vs) : IntsAre vs ns := by
  induction ns generalizing vs with
  | nil => cases x; exact .nil
  | cons n r ih => cases x with | cons h t => obtain ⟨u, rfl⟩ := h; exact .cons n u (ih t)
theorem Ares.ofInts {ns : List Int} {vs : List Value} (x : IntsAre vs ns) : Ares (ns.map .I) vs := by
  induction x with
  | nil => exact .nil
  | cons n t _ ih => exact .cons ⟨t, rfl⟩ ih
theorem LP.ints {ns : List Int} {o : Obj} (x : LP (ns.map .I) o) : LI ns o := let ⟨vs, a, b⟩ := x; ⟨vs, a, b.ints⟩
theorem LI.lp {ns : List Int} {o : Obj} (x : LI ns o) : LP (ns.map .I) o := let ⟨vs, a, b⟩ := x; ⟨vs, a, .ofInts b⟩
theorem tv_at {h : Heap} {a : Addr} {vs : List Value} (x : ∃ o, h.get? a = some o ∧ TV vs o) : h.IsTuple a vs.toArray := let ⟨o, e, n, q⟩ := x; ⟨o, e, q ▸ rfl, n, q ▸ rfl⟩

section
variable {B : Base} {ks : Kinds} {pl : Names} {cs l₁ l₂ : List Cell} {e l r v s test body orelse : Expr} {pos : Pos} {a : Addr} {ps qs : List PV} {p q : PV} {es : List Expr} {P P₁ Q : PV → List Cell → Prop} {F : Flow → Heap → Prop} {rest : List Stmt}

theorem Is.at {h : Heap} {c : Cell} (I : Is B ks pl (l₁ ++ c :: l₂) h) : Own B.hb h (c :: ((B.L, NP pl) :: (l₁ ++ l₂))) := Own.front (l₁ := (B.L, NP pl) :: l₁) I.2
theorem Is.back {h h' : Heap} {c : Cell} {cs : List Cell} (I : Is B ks pl cs h) (O : Own B.hb h' (c :: ((B.L, NP pl) :: (l₁ ++ l₂)))) : Is B ks pl (l₁ ++ c :: l₂) h' := ⟨I.1, Own.back (l₁ := (B.L, NP pl) :: l₁) O⟩
theorem Is.add {h h' : Heap} {c : Cell} (I : Is B ks pl cs h) (O : Own B.hb h' (c :: (B.L, NP pl) :: cs)) : Is B ks pl (c :: cs) h' := ⟨I.1, O.perm (List.Perm.swap ..)⟩
theorem Is.weak {h : Heap} {R R' : Obj → Prop} (I : Is B ks pl (l₁ ++ (a, R) :: l₂) h) (k : ∀ o, R o → R' o) : Is B ks pl (l₁ ++ (a, R') :: l₂) h := I.back (I.at.weak k)
theorem Is.fwd {h : Heap} {c : Cell} (I : Is B ks pl (l₁ ++ c :: l₂) h) : Is B ks pl (c :: (l₁ ++ l₂)) h := ⟨I.1, I.at.perm (List.Perm.swap ..)⟩
theorem Is.sub {h : Heap} {ds : List Cell} (I : Is B ks pl cs h) (x : List.Sublist ds cs) : Is B ks pl ds h := ⟨I.1, I.2.sub (x.cons_cons _)⟩
theorem Is.perm {h : Heap} {ds : List Cell} (I : Is B ks pl cs h) (x : List.Perm cs ds) : Is B ks pl ds h := ⟨I.1, I.2.perm (x.cons _)⟩
theorem Ex.fwd {c : Cell} (k : Ex B ks pl (c :: (l₁ ++ l₂)) rest F) : Ex B ks pl (l₁ ++ c :: l₂) rest F := fun h I => k h I.fwd
theorem Ex.sub {ds : List Cell} (x : List.Sublist ds cs) (k : Ex B ks pl ds rest F) : Ex B ks pl cs rest F := fun h I => k h (I.sub x)
theorem Ex.perm {ds : List Cell} (x : List.Perm cs ds) (k : Ex B ks pl ds rest F) : Ex B ks pl cs rest F := fun h I => k h (I.perm x)
theorem Ex.weak {R R' : Obj → Prop} (w : ∀ o, R o → R' o) (k : Ex B ks pl (l₁ ++ (a, R') :: l₂) rest F) : Ex B ks pl (l₁ ++ (a, R) :: l₂) rest F := fun h I => k h (I.weak w)

/-- arguments that may make and change objects -/
def EvsP (B : Base) (ks : Kinds) (pl : Names) (cs : List Cell) (pos : Pos) (es : List Expr) (P : List PV → List Cell → Prop) : Prop :=
  ∀ h, Is B ks pl cs h → ∀ G : List Value → Heap → Prop, (∀ ps vs h' ds, P ps ds → Ares ps vs → Is B ks pl ds h' → G vs h') → Run B.w B.A (spliced (backTo pos (starEach es B.env))) h G
theorem EvsP.nil : EvsP B ks pl cs pos [] (fun ps ds => ps = [] ∧ ds = cs) := fun h I G k => Run.args0 (k _ _ _ _ ⟨rfl, rfl⟩ .nil I)
theorem EvsP.of {R : List PV → List Cell → Prop} (x : Evs B ks pl cs pos es ps) (k : R ps cs) : EvsP B ks pl cs pos es R := fun h I G kk => x h I G fun vs h' hv I' => kk _ _ _ _ k hv I'
theorem EvsP.cons {R : List PV → List Cell → Prop} (he : EvP B ks pl cs e P) (hs : ∀ p ds, P p ds → EvsP B ks pl ds pos es (fun ps ds' => R (p :: ps) ds')) (hq : starEach (e :: es) B.env = (false, eval e B.env) :: starEach es B.env := by rfl) : EvsP B ks pl cs pos (e :: es) R :=
  fun h I G k => Run.args (he h I _ fun p v h₁ ds j hv I₁ => hs p ds j h₁ I₁ _ fun ps vs h₂ ds' j' hvs I₂ => k _ _ _ _ j' (.cons hv hvs) I₂) hq
theorem EvP.of (x : Ev B ks pl cs e p) (k : P p cs) : EvP B ks pl cs e P := fun h I G kk => x h I G fun v h' hv I' => kk _ _ _ _ k hv I'
theorem EvP.mono (x : EvP B ks pl cs e P) (k : ∀ p ds, P p ds → Q p ds) : EvP B ks pl cs e Q := fun h I G kk => x h I G fun p v h' ds j hv I' => kk _ _ _ _ (k _ _ j) hv I'
theorem EvP.to (x : EvP B ks pl cs e P) (k : ∀ p' ds, P p' ds → p' = p ∧ ds = cs) : Ev B ks pl cs e p := fun h I G kk => x h I G fun p v h' ds j hv I' => by
  obtain ⟨rfl, rfl⟩ := k _ _ j
  exact kk _ _ hv I'

/-- [e, ..] -/
theorem EvP.list (hs : EvsP B ks pl cs pos es (fun ps ds => ps.length ≤ 1000 ∧ ∀ a, Q (.O a) ((a, LP ps) :: ds))) : EvP B ks pl cs (.List es pos) Q := fun h I G k => by
  intro s hz
  rw [arm_eval_List]
  refine wpAny_bind (wpAny_standAt (wpAny_bind (wpAny_mono (hs h I (fun vs h' => ∃ ps ds, (ps.length ≤ 1000 ∧ ∀ a, Q (.O a) ((a, LP ps) :: ds)) ∧ Ares ps vs ∧ Is B ks pl ds h') (fun ps vs h' ds j hv I' => ⟨ps, ds, j, hv, I'⟩) s hz) (fun vs s' q => ?_) fun _ _ e => e)))
  obtain ⟨S, ps, ds, ⟨hl, j⟩, hv, I'⟩ := q
  have hvl := hv.len
  refine wpAny_newObj_type ⟨⟨S.1, S.2, S.3⟩, ?_⟩ (by unfold sizeOk; simp only [List.size_toArray]; exact Nat.le_trans (by omega) (by decide : 1000 ≤ sizeLine))
  exact k _ _ _ _ (j _) rfl (I'.add (I'.2.push _ ⟨vs, ⟨_, rfl⟩, hv⟩))
/-- (e, ..) -/
theorem EvP.tuple {b : Nat} (hs : EvsP B ks pl cs pos es (fun ps ds => ps.length ≤ 1000 ∧ ∀ a, Q (.O a) ((a, TP ps) :: ds))) : EvP B ks pl cs (.Tuple es b pos) Q := fun h I G k => by
  intro s hz
  rw [arm_eval_Tuple]
  refine wpAny_bind (wpAny_standAt (wpAny_bind (wpAny_mono (hs h I (fun vs h' => ∃ ps ds, (ps.length ≤ 1000 ∧ ∀ a, Q (.O a) ((a, TP ps) :: ds)) ∧ Ares ps vs ∧ Is B ks pl ds h') (fun ps vs h' ds j hv I' => ⟨ps, ds, j, hv, I'⟩) s hz) (fun vs s' q => ?_) fun _ _ e => e)))
  obtain ⟨S, ps, ds, ⟨hl, j⟩, hv, I'⟩ := q
  have hvl := hv.len
  refine wpAny_newObj_type ⟨⟨S.1, S.2, S.3⟩, ?_⟩ (by unfold sizeOk; simp only [List.size_toArray]; exact Nat.le_trans (by omega) (by decide : 1000 ≤ sizeLine))
  exact k _ _ _ _ (j _) rfl (I'.add (I'.2.push _ ⟨vs, ⟨_, rfl⟩, hv⟩))
/-- an item of a list -/
theorem Ev.itemP {i : Int} (hv : Ev B ks pl cs v (.O a)) (hs : Ev B ks pl cs s (.I i)) (hc : (a, LP ps) ∈ cs) (h0 : 0 ≤ i) (hn : ps[i.toNat]? = some p) (hz : i < 2 ^ 63)
    (hsub : ∀ u, subscripted s false (.ref a) (.int i u) = operate [.ref a, .int i u] (getItem (.ref a) (.int i u)) := by intro _; rfl) (hg : ∀ r, letTemporaryGo v (.ref a) r = Pure.pure () := by intro _; rfl) : Ev B ks pl cs (.Subscript v s pos) p :=
  fun h I F k => Run.sub (hv h I _ fun vv h hvv I => hs h I _ fun vi h ⟨ti, hvi⟩ I => by
    cases hvv; subst hvi
    refine Run.lib fun st Q z q => ?_
    subst z
    obtain ⟨ob, e1, vs, lv, iv⟩ := I.2.get (.tail _ hc)
    obtain ⟨v, ht, hp⟩ := iv.get _ _ hn
    exact item_list (lv_at ⟨ob, e1, lv⟩) h0 hz (by simpa using ht) (q _ _ (k _ _ hp I)) (hsub _) hg)
theorem Ev.ifexp {c : Bool} (ht : Ts B ks pl cs test c) (h1 : c = true → Ev B ks pl cs body p) (h2 : c = false → Ev B ks pl cs orelse p) : Ev B ks pl cs (.IfExp test body orelse pos) p := fun h I G k s hz =>
  IfExp_ (wpAny_mono (ht h I (fun b h' => Is B ks pl cs h' ∧ b = c) (fun h' I' => ⟨I', rfl⟩) s hz) (fun b s' q => by
    obtain ⟨S, I', rfl⟩ := q
    cases b
    · exact (h2 rfl _ I' G k).on S
    · exact (h1 rfl _ I' G k).on S) fun _ _ e => e)
theorem Ts.not {c : Bool} (ht : Ts B ks pl cs e c) : Ts B ks pl cs (.UnaryOp .Not e pos) (!c) := fun h I G k s hz => isTrue_not (ht h I _ k s hz)
theorem Ts.int {n : Int} (he : Ev B ks pl cs e (.I n)) (hp : isTrue e B.env (eval e B.env) = (do let v ← eval e B.env; standAt e.pos; holding [v] (truthy v)) := by rfl) : Ts B ks pl cs e (n != 0) := fun h I G k s hz =>
  isTrue_plain (wpAny_mono (he h I (fun v h' => (∃ t, v = .int n t) ∧ Is B ks pl cs h') (fun v h' hv I' => ⟨hv, I'⟩) s hz) (fun v s' q => by
    obtain ⟨S, ⟨t, rfl⟩, I'⟩ := q
    exact truthy_int ⟨S, k _ I'⟩) fun _ _ e => e) hp
theorem Ts.or2 {c d : Bool} {e₁ e₂ : Expr} (h1 : Ts B ks pl cs e₁ c) (h2 : c = false → Ts B ks pl cs e₂ d) : Ts B ks pl cs (.BoolOp .Or [e₁, e₂] pos) (c || d) := fun h I G k s hz =>
  isTrue_or (wpAny_mono (h1 h I (fun b h' => b = c ∧ Is B ks pl cs h') (fun h' I' => ⟨rfl, I'⟩) s hz) (fun b s' q => by
    obtain ⟨S, rfl, I'⟩ := q
    cases b
    · refine isTrue_or (wpAny_mono (h2 rfl _ I' (fun b h' => b = d ∧ Is B ks pl cs h') (fun h' I' => ⟨rfl, I'⟩) s' rfl) (fun b s' q => ?_) fun _ _ e => e)
      obtain ⟨S', rfl, I'⟩ := q
      cases b
      · exact isTrue_or_nil ⟨S.trans S', k _ I'⟩
      · exact ⟨S.trans S', k _ I'⟩
    · exact ⟨S, by simpa using k _ I'⟩) fun _ _ e => e)
/-- x.append(e) -/
theorem EvP.append {o : Expr} {apos : Pos} (ho : Ev B ks pl cs o (.O a)) (hm : (a, LP ps) ∈ cs) (he : EvP B ks pl cs e P) (hq : ∀ p ds, P p ds → ∃ l₁ qs l₂, ds = l₁ ++ (a, LP qs) :: l₂ ∧ qs.length ≤ 1000 ∧ Q .N (l₁ ++ (a, LP (qs ++ [p])) :: l₂))
    (hbase : attributeBase o "append" B.env (eval o B.env) = eval o B.env := by rfl) (hline : (apos.endLine == pos.line) = true := by rfl)
    (hs : starEach [e] B.env = (false, eval e B.env) :: starEach [] B.env := by rfl) : EvP B ks pl cs (.Call (.Attribute o "append" apos) [e] [] pos) Q := fun h I G k => by
  refine Run.meth PySem.F.plainAttrs_list PySem.F.slot_list_append PySem.F.type_list_append (ho h I _ fun ov h₁ hov I₁ => ?_) hbase hline (by rw [hs]; rfl) hs rfl
  cases hov
  refine ⟨fun s e => ?_, ?_⟩
  · obtain ⟨ob, e1, vs, lv, iv⟩ := I₁.2.get (.tail _ hm); exact lv_type ⟨ob, e1, lv⟩ s e
  · refine Run.args (he h₁ I₁ _ fun p v h₂ ds j hv I₂ => Run.args0 ?_) hs
    obtain ⟨l₁, qs, l₂, rfl, hl, jq⟩ := hq p ds j
    have O := I₂.at
    obtain ⟨ob, e1, ws, lv, iv⟩ := O.get (.head _)
    have hw := iv.len
    refine Run.append (O.fix e1 (P' := LV ws) lv) (by omega) fun h' O' => k _ _ _ _ jq rfl (I₂.back (O'.weak fun o q => ⟨_, q, iv.app (.cons hv .nil)⟩))
/-- a def of the text, called with what may change the cells -/
theorem EvP.defP {R : List PV → List Cell → Prop} {x : Str} {fp : Pos} {f : Addr} {fd : FuncData} (D : Fn B.hb f fd) (ha : EvsP B ks pl cs pos (e :: es) R) (hc : ∀ ps ds vs h, R ps ds → Ares ps vs → Is B ks pl ds h → ∀ G : Value → Heap → Prop, (∀ p v h' cs', Q p cs' → p.is v → Is B ks pl cs' h' → G v h') → Run B.w B.A (PySem.call (.ref f) vs) h G)
    (hk : ks.lookup x = some .globalImplicit := by rfl) (hg : Globs.lookup x = some (.ref f) := by rfl) (hd : (x == ("__debug__" : Str)) = false := by decide)
    (hq : starEach (e :: es) B.env = (false, eval e B.env) :: starEach es B.env := by rfl)
    (hn : eval (.Call (.Name x fp) (e :: es) [] pos) B.env = (do callWith pos (← eval (.Name x fp) B.env) [] (backTo pos (starEach (e :: es) B.env)) (backToKw pos (keywordEach [] B.env))) := by rfl) : EvP B ks pl cs (.Call (.Name x fp) (e :: es) [] pos) Q :=
  fun h I G k => Run.call (Run.global I.1.1 I.1.2.1 I.2 hk hg (Run.callDef D (ha h I _ fun ps vs h₁ ds j hvs I₁ => ⟨⟨_, I₁.2⟩, hc ps ds vs h₁ j hvs I₁ G k⟩) hq) hd) hn
/-- a builtin, called -/
theorem EvP.blt {R : List PV → List Cell → Prop} {x : Str} {fp : Pos} {id : String} (ha : EvsP B ks pl cs pos (e :: es) R) (hc : ∀ ps ds vs h, R ps ds → Ares ps vs → Is B ks pl ds h → ∀ G : Value → Heap → Prop, (∀ p v h' cs', Q p cs' → p.is v → Is B ks pl cs' h' → G v h') → Run B.w B.A (PySem.call (.builtin id) vs) h G)
    (hk : ks.lookup x = some .globalImplicit := by rfl) (hg : Blts.lookup x = some (.builtin id) := by rfl) (hd : (x == ("__debug__" : Str)) = false := by decide)
    (hq : starEach (e :: es) B.env = (false, eval e B.env) :: starEach es B.env := by rfl) (hp : (backTo pos (starEach es B.env)).any (·.1) = false := by rfl)
    (hn : eval (.Call (.Name x fp) (e :: es) [] pos) B.env = (do callWith pos (← eval (.Name x fp) B.env) [] (backTo pos (starEach (e :: es) B.env)) (backToKw pos (keywordEach [] B.env))) := by rfl) : EvP B ks pl cs (.Call (.Name x fp) (e :: es) [] pos) Q :=
  fun h I G k => Run.call (Run.builtin I.1.1 I.1.2.1 I.2 hk hg (Run.callBuiltin (first := []) (ha h I _ fun ps vs h₁ ds j hvs I₁ => hc ps ds vs h₁ j hvs I₁ G k) hq hp) hd) hn
end

/-! F10 -/
section
variable {B : Base} {ks : Kinds} {pl : Names} {cs l₁ l₂ : List Cell} {e l r v s iter : Expr} {pos xp yp : Pos} {a b : Addr} {ps qs : List PV} {p q : PV} {es : List Expr} {P P₁ Q : PV → List Cell → Prop} {F : Flow → Heap → Prop} {rest body : List Stmt} {x y : Str}
variable {w : World} {A : Around} {hb h : Heap}

/-- a builtin type, called -/
theorem EvP.typ {R : List PV → List Cell → Prop} {fp : Pos} {T : String} (ha : EvsP B ks pl cs pos (e :: es) R) (hc : ∀ ps ds vs h, R ps ds → Ares ps vs → Is B ks pl ds h → ∀ G : Value → Heap → Prop, (∀ p v h' cs', Q p cs' → p.is v → Is B ks pl cs' h' → G v h') → Run B.w B.A (PySem.call (.type T) vs) h G)
    (hk : ks.lookup x = some .globalImplicit := by rfl) (hg : Blts.lookup x = some (.type T) := by rfl) (hd : (x == ("__debug__" : Str)) = false := by decide)
    (hq : starEach (e :: es) B.env = (false, eval e B.env) :: starEach es B.env := by rfl) (hp : (backTo pos (starEach es B.env)).any (·.1) = false := by rfl)
    (hn : eval (.Call (.Name x fp) (e :: es) [] pos) B.env = (do callWith pos (← eval (.Name x fp) B.env) [] (backTo pos (starEach (e :: es) B.env)) (backToKw pos (keywordEach [] B.env))) := by rfl) : EvP B ks pl cs (.Call (.Name x fp) (e :: es) [] pos) Q :=
  fun h I G k => Run.call (Run.builtin I.1.1 I.1.2.1 I.2 hk hg (fun s hs => PyProof.Rows.callWith_type1 (wpAny_mono (ha h I (fun vs h' => ∃ ps ds, R ps ds ∧ Ares ps vs ∧ Is B ks pl ds h') (fun ps vs h₁ ds j hvs I₁ => ⟨ps, ds, j, hvs, I₁⟩) s hs) (fun vs s' q => by
    obtain ⟨S, ps, ds, j, hvs, I₁⟩ := q
    exact (hc ps ds vs _ j hvs I₁ G k).on S) fun _ _ e => e) hq hp) hd) hn
/-- range(e) | range(e, f), to be walked by a for -/
theorem EvP.range1 {fp : Pos} {n : Int} (he : Ev B ks pl cs e (.I n)) (k : ∀ a, Q (.O a) ((a, Rg 0 n 1) :: cs)) (hk : ks.lookup ("range" : Str) = some .globalImplicit := by rfl) (hq : starEach [e] B.env = (false, eval e B.env) :: starEach [] B.env := by rfl)
    (hn : eval (.Call (.Name "range" fp) [e] [] pos) B.env = (do callWith pos (← eval (.Name "range" fp) B.env) [] (backTo pos (starEach [e] B.env)) (backToKw pos (keywordEach [] B.env))) := by rfl) : EvP B ks pl cs (.Call (.Name "range" fp) [e] [] pos) Q :=
  EvP.typ (R := fun ps ds => ps = [.I n] ∧ ds = cs) (EvsP.of (Evs.cons he Evs.nil hq) ⟨rfl, rfl⟩) (fun ps ds vs h j hv I G kk => by
    obtain ⟨rfl, rfl⟩ := j
    cases hv with | cons x hv => cases hv with | nil =>
    obtain ⟨t, rfl⟩ := x
    intro s hs
    subst hs
    exact call_range_1 ⟨⟨rfl, rfl, rfl⟩, kk _ _ _ _ (k _) rfl (I.add (I.2.push _ ⟨_, _, _, rfl⟩))⟩) hk rfl (by decide) hq rfl hn
theorem EvP.range2 {fp : Pos} {m n : Int} {f : Expr} (he : Ev B ks pl cs e (.I m)) (hf : Ev B ks pl cs f (.I n)) (k : ∀ a, Q (.O a) ((a, Rg m n 1) :: cs)) (hk : ks.lookup ("range" : Str) = some .globalImplicit := by rfl) (hq : starEach [e, f] B.env = (false, eval e B.env) :: starEach [f] B.env := by rfl)
    (hq' : starEach [f] B.env = (false, eval f B.env) :: starEach [] B.env := by rfl)
    (hn : eval (.Call (.Name "range" fp) [e, f] [] pos) B.env = (do callWith pos (← eval (.Name "range" fp) B.env) [] (backTo pos (starEach [e, f] B.env)) (backToKw pos (keywordEach [] B.env))) := by rfl) : EvP B ks pl cs (.Call (.Name "range" fp) [e, f] [] pos) Q :=
  EvP.typ (R := fun ps ds => ps = [.I m, .I n] ∧ ds = cs) (EvsP.of (Evs.cons he (Evs.cons hf Evs.nil hq') hq) ⟨rfl, rfl⟩) (fun ps ds vs h j hv I G kk => by
    obtain ⟨rfl, rfl⟩ := j
    cases hv with | cons x hv => cases hv with | cons y hv => cases hv with | nil =>
    obtain ⟨t, rfl⟩ := x
    obtain ⟨u, rfl⟩ := y
    intro s hs
    subst hs
    exact call_range_2 ⟨⟨rfl, rfl, rfl⟩, kk _ _ _ _ (k _) rfl (I.add (I.2.push _ ⟨_, _, _, rfl⟩))⟩) hk rfl (by decide) hq (by rw [hq']; rfl) hn
theorem Ex.forRng {m n : Int} (c : Nat) (hc : c = (n - m).toNat) (hi : EvP B ks pl cs iter (fun p ds => ∃ a, p = .O a ∧ ds = (a, Rg m n 1) :: cs))
    (hsm : Builtin.Range.small m n 1 = true) (J : Nat → Names → List Cell → Prop) (h0 : J 0 pl cs)
    (turn : ∀ i it pl cs, i < c → J i pl cs → Ex B ks ((x, .I (m + i)) :: pl) ((it, RIt (m + i + 1) ((c : Int) - i - 1) 1) :: cs) body (Turn B ks (it, RIt (m + i + 1) ((c : Int) - i - 1) 1) (J (i + 1)) rest F))
    (done : ∀ pl cs, J c pl cs → Ex B ks pl cs rest F) (hl : ks.lookup x = some .local := by rfl)
    (hf : ∀ y, foldedSetIterable iter B.env y = Pure.pure y := by intro _; rfl) : Ex B ks pl cs (.For (.Name x xp) iter body [] pos :: rest) F :=
  Ex.forRange c m n hc (fun h I G k => hi h I _ fun p v h' ds j hv I' => by
    obtain ⟨a, rfl, rfl⟩ := j
    cases hv
    exact k a h' (I'.2.perm (List.Perm.swap ..))) hsm J h0 hl turn done hf

/-! for over a list -/
theorem Run.forListG {target : Expr} (I : Is B ks pl cs h) {F : Flow → Heap → Prop} (he : Run B.w B.A (eval iter B.env) h (fun v h' => v = .ref a ∧ Is B ks pl cs h')) (J : Nat → Names → List Cell → Prop) (hm : ∀ i pl cs, J i pl cs → (a, LP ps) ∈ cs) (h0 : J 0 pl cs)
    (turn : ∀ i p v it pl cs h, ps[i]? = some p → p.is v → J i pl cs → Is B ks pl ((it, LIt a (i + 1)) :: cs) h → Run B.w B.A (letOwnedTupleGo target (.ref it) v) h (fun _ h₂ => Run B.w B.A (assign target B.env v) h₂ (fun _ h₃ => Run B.w B.A (execs body B.env) h₃ (fun f h₄ => match f with
      | .next | .cont => ∃ pl cs, J (i + 1) pl cs ∧ Is B ks pl ((it, LIt a (i + 1)) :: cs) h₄
      | .brk => F .next h₄
      | .ret v => F (.ret v) h₄))))
    (done : ∀ pl cs h, J ps.length pl cs → Is B ks pl cs h → F .next h)
    (hf : ∀ y, foldedSetIterable iter B.env y = Pure.pure y := by intro _; rfl) : Run B.w B.A (exec (.For target iter body [] pos) B.env) h F := by
  refine Run.for_ (he.mono fun v h₀ q => ?_) hf
  obtain ⟨rfl, I₀⟩ := q
  obtain ⟨ob, e1, vs, lv, iv⟩ := I₀.2.get (.tail _ (hm 0 pl cs h0))
  intro s hs
  subst hs
  refine wpAny_pyIter_list (lv_at ⟨ob, e1, lv⟩) ⟨⟨rfl, rfl, rfl⟩, ?_⟩
  refine Run.forLoop ps.length (fun i h => ∃ pl cs, J i pl cs ∧ Is B ks pl ((_, LIt a i) :: cs) h) ?_ ⟨pl, cs, h0, I₀.add (I₀.2.push _ ⟨rfl, rfl⟩)⟩
  rintro i h₂ hi ⟨pl, cs, j, I₂⟩
  obtain ⟨ob, e1, vs, lv, iv⟩ := I₂.2.get (.tail _ (.tail _ (hm i pl cs j)))
  intro s hs
  subst hs
  obtain ⟨oi, ei, la, lb⟩ := I₂.2.get (.tail _ (.head _))
  cases q : ps[i]? with
  | some p =>
    obtain ⟨v, hv, hp⟩ := iv.get _ _ q
    obtain ⟨hlt, _⟩ := List.getElem?_eq_some_iff.mp q
    exact wpAny_pyNext_list_item ⟨oi, ei, la, lb⟩ (lv_at ⟨ob, e1, lv⟩) (by simpa using hv) fun h' hi' hs' => ⟨⟨rfl, rfl, rfl⟩, hlt, turn i p v _ pl cs h' q hp j (I₂.back (l₁ := []) ((I₂.at (l₁ := [])).change hs' (let ⟨o, e, a, b⟩ := hi'; ⟨o, e, a, b⟩)))⟩
  | none =>
    have hlen : ps.length = i := by have := List.getElem?_eq_none_iff.mp q; omega
    have hv : vs[i]? = none := by rw [List.getElem?_eq_none_iff, iv.len]; omega
    exact wpAny_pyNext_list_end I.1.2.2 ⟨oi, ei, la, lb⟩ (lv_at ⟨ob, e1, lv⟩) (by simpa using hv) fun h' he => ⟨⟨rfl, rfl, rfl⟩, done pl cs h' (hlen ▸ j) ⟨I.1, (I₂.at (l₁ := [])).extTail he⟩⟩
theorem Ex.forList (he : Ev B ks pl cs iter (.O a)) (J : Nat → Names → List Cell → Prop) (hm : ∀ i pl cs, J i pl cs → (a, LP ps) ∈ cs) (h0 : J 0 pl cs)
    (turn : ∀ i p it pl cs, ps[i]? = some p → J i pl cs → Ex B ks ((x, p) :: pl) ((it, LIt a (i + 1)) :: cs) body (Turn B ks (it, LIt a (i + 1)) (J (i + 1)) rest F))
    (done : ∀ pl cs, J ps.length pl cs → Ex B ks pl cs rest F) (hl : ks.lookup x = some .local := by rfl)
    (hf : ∀ y, foldedSetIterable iter B.env y = Pure.pure y := by intro _; rfl) : Ex B ks pl cs (.For (.Name x xp) iter body [] pos :: rest) F := fun h I =>
  Run.seq (Run.forListG I (he h I _ fun v h' hv I' => ⟨hv, I'⟩) J hm h0 (fun i p v it pl cs h hi hp j I' => Run.noTuple (Run.assName (Run.st I.1.1 I'.2 hl hp fun h₄ O₄ => (turn i p it pl cs hi j h₄ (I'.to O₄)).mono fun f h₅ q => by
    cases f with
    | next => exact q
    | cont => exact q
    | brk => exact q
    | ret v => exact q))) (fun pl cs h j I' => done pl cs j h I') hf)
/-- two names from a tuple of two -/
theorem Run.assign2 {F : Unit → Heap → Prop} {k : Nat} (I : Is B ks pl cs h) (ht : (a, TP [p, q]) ∈ cs) (hx : ks.lookup x = some .local) (hy : ks.lookup y = some .local) (kk : ∀ h', Is B ks ((y, q) :: (x, p) :: pl) cs h' → F () h') :
    Run B.w B.A (assign (.Tuple [.Name x xp, .Name y yp] k pos) B.env (.ref a)) h F := fun s hs => by
  subst hs
  obtain ⟨ob, e1, vs, tv, iv⟩ := I.2.get (.tail _ ht)
  cases iv with | cons hp iv => cases iv with | cons hq iv => cases iv with | nil =>
  rename_i va vb
  refine wpAny_assign_Tuple (items := #[va, vb]) I.1.2.2 (tv_at ⟨ob, e1, tv⟩) rfl rfl fun h' hx' => ?_
  have I' : Is B ks pl cs h' := ⟨I.1, I.2.keeps fun b o e => hx' b o (Nat.ne_of_lt (Heap.lt_size e)) e⟩
  have R : Run B.w B.A (assignInOrder [assign (.Name x xp) B.env, assign (.Name y yp) B.env] [va, vb]) h' F :=
    fun s hs => wpAny_assignInOrder_more (wpAny_mono (Run.assName (p := xp) (Run.st (F := fun _ h => Run B.w B.A (assignInOrder [assign (.Name y yp) B.env] [vb]) h F) I.1.1 I'.2 hx hp fun h₁ O₁ s hs => wpAny_assignInOrder_more (wpAny_mono (Run.assName (p := yp) (Run.st (F := fun _ h => F () h) I.1.1 O₁ hy hq fun h₂ O₂ => kk h₂ ⟨I.1, O₂⟩) s hs) (fun _ s' q => wpAny_assignInOrder_none ⟨q.1, q.2⟩) fun _ _ e => e)) s hs) (fun _ s' q => q.2.on q.1) fun _ _ e => e)
  exact R.on ⟨rfl, rfl, rfl⟩
theorem Ex.forList2 {k : Nat} (he : Ev B ks pl cs iter (.O a)) (J : Nat → Names → List Cell → Prop) (hm : ∀ i pl cs, J i pl cs → (a, LP ps) ∈ cs) (h0 : J 0 pl cs)
    (turn : ∀ i r it pl cs, ps[i]? = some r → J i pl cs → ∃ t p q, r = .O t ∧ (t, TP [p, q]) ∈ cs ∧ Ex B ks ((y, q) :: (x, p) :: pl) ((it, LIt a (i + 1)) :: cs) body (Turn B ks (it, LIt a (i + 1)) (J (i + 1)) rest F))
    (done : ∀ pl cs, J ps.length pl cs → Ex B ks pl cs rest F) (hlx : ks.lookup x = some .local := by rfl) (hly : ks.lookup y = some .local := by rfl)
    (hf : ∀ y, foldedSetIterable iter B.env y = Pure.pure y := by intro _; rfl) : Ex B ks pl cs (.For (.Tuple [.Name x xp, .Name y yp] k pos) iter body [] pos :: rest) F := fun h I =>
  Run.seq (Run.forListG I (he h I _ fun v h' hv I' => ⟨hv, I'⟩) J hm h0 (fun i p v it pl cs h hi hp j I' => by
    obtain ⟨t, p', q', rfl, ht, K⟩ := turn i p it pl cs hi j
    cases hp
    intro s hs
    subst hs
    refine wpAny_letOwnedTupleGo_listiter (I := it) (l := a) (i := i + 1) (let ⟨o, e, a, b⟩ := I'.2.get (.tail _ (.head _)); ⟨o, e, a, b⟩) ⟨⟨rfl, rfl, rfl⟩, ?_⟩
    refine Run.assign2 I' (.tail _ ht) hlx hly fun h₄ I₄ => (K h₄ I₄).mono fun f h₅ q => ?_
    cases f with
    | next => exact q
    | cont => exact q
    | brk => exact q
    | ret v => exact q) (fun pl cs h j I' => done pl cs j h I') hf)

/-! builtins on numbers -/
theorem Is.kept {h h' : Heap} (I : Is B ks pl cs h) (k : ∀ b o, h.get? b = some o → h'.get? b = some o) : Is B ks pl cs h' := ⟨I.1, I.2.keeps k⟩
theorem Ev.bltN {R : List PV} {id : String} {fp : Pos} (ha : Evs B ks pl cs pos (e :: es) R) (hc : ∀ (vs : List Value) (s : Shared) (Z : Value → Shared → Prop), Ares R vs → (∀ v h' tk, (∀ b o, s.heap.get? b = some o → h'.get? b = some o) → p.is v → Z v { s with heap := h', toks := tk }) → Is B ks pl cs s.heap → wpAny (model PG B.w) B.A (PySem.call (.builtin id) vs) Z (fun _ _ => False) s)
    (hk : ks.lookup x = some .globalImplicit := by rfl) (hg : Blts.lookup x = some (.builtin id) := by rfl) (hd : (x == ("__debug__" : Str)) = false := by decide)
    (hq : starEach (e :: es) B.env = (false, eval e B.env) :: starEach es B.env := by rfl) (hp : (backTo pos (starEach es B.env)).any (·.1) = false := by rfl)
    (hn : eval (.Call (.Name x fp) (e :: es) [] pos) B.env = (do callWith pos (← eval (.Name x fp) B.env) [] (backTo pos (starEach (e :: es) B.env)) (backToKw pos (keywordEach [] B.env))) := by rfl) : Ev B ks pl cs (.Call (.Name x fp) (e :: es) [] pos) p :=
  EvP.to (P := fun q ds => q = p ∧ ds = cs) (EvP.blt (R := fun ps ds => ps = R ∧ ds = cs) (EvsP.of ha ⟨rfl, rfl⟩) (fun ps ds vs h j hv I G kk => by
    obtain ⟨rfl, rfl⟩ := j
    intro s hs
    subst hs
    exact hc vs s _ hv (fun v h' tk k hp => ⟨⟨rfl, rfl, rfl⟩, kk _ _ _ _ ⟨rfl, rfl⟩ hp (I.kept k)⟩) I) hk hg hd hq hp hn) fun _ _ j => j
theorem Ev.max2 {fp : Pos} {f : Expr} {m n : Int} (he : Ev B ks pl cs e (.I m)) (hf : Ev B ks pl cs f (.I n)) (hk : ks.lookup ("max" : Str) = some .globalImplicit := by rfl) (hq : starEach [e, f] B.env = (false, eval e B.env) :: starEach [f] B.env := by rfl) (hq' : starEach [f] B.env = (false, eval f B.env) :: starEach [] B.env := by rfl)
    (hn : eval (.Call (.Name "max" fp) [e, f] [] pos) B.env = (do callWith pos (← eval (.Name "max" fp) B.env) [] (backTo pos (starEach [e, f] B.env)) (backToKw pos (keywordEach [] B.env))) := by rfl) : Ev B ks pl cs (.Call (.Name "max" fp) [e, f] [] pos) (.I (max m n)) :=
  Ev.bltN (Evs.cons he (Evs.cons hf Evs.nil hq') hq) (fun vs s Z hv k I => by
    cases hv with | cons x hv => cases hv with | cons y hv => cases hv with | nil =>
    obtain ⟨t, rfl⟩ := x
    obtain ⟨u, rfl⟩ := y
    refine max_two_ints I.1.2.2 fun h' tk kk => k _ h' tk kk ?_
    split
    · exact ⟨u, by rw [Int.max_def, if_pos (by omega)]⟩
    · refine ⟨t, ?_⟩; rw [Int.max_def]; split
      · rw [show m = n by omega]
      · rfl) hk rfl (by decide) hq (by rw [hq']; rfl) hn
theorem Ev.min2 {fp : Pos} {f : Expr} {m n : Int} (he : Ev B ks pl cs e (.I m)) (hf : Ev B ks pl cs f (.I n)) (hk : ks.lookup ("min" : Str) = some .globalImplicit := by rfl) (hq : starEach [e, f] B.env = (false, eval e B.env) :: starEach [f] B.env := by rfl) (hq' : starEach [f] B.env = (false, eval f B.env) :: starEach [] B.env := by rfl)
    (hn : eval (.Call (.Name "min" fp) [e, f] [] pos) B.env = (do callWith pos (← eval (.Name "min" fp) B.env) [] (backTo pos (starEach [e, f] B.env)) (backToKw pos (keywordEach [] B.env))) := by rfl) : Ev B ks pl cs (.Call (.Name "min" fp) [e, f] [] pos) (.I (min m n)) :=
  Ev.bltN (Evs.cons he (Evs.cons hf Evs.nil hq') hq) (fun vs s Z hv k I => by
    cases hv with | cons x hv => cases hv with | cons y hv => cases hv with | nil =>
    obtain ⟨t, rfl⟩ := x
    obtain ⟨u, rfl⟩ := y
    refine min_two_ints I.1.2.2 fun h' tk kk => k _ h' tk kk ?_
    split
    · refine ⟨u, ?_⟩; rw [Int.min_def]; split
      · omega
      · rfl
    · exact ⟨t, by rw [Int.min_def, if_pos (by omega)]⟩) hk rfl (by decide) hq (by rw [hq']; rfl) hn
theorem preSum_ints (ns : List Int) (val : Nat → Int) (hv : ∀ i n, ns[i]? = some n → val i = n) (k : Nat) (hk : k ≤ ns.length) : preSum val k = (ns.take k).sum := by
  induction k with
  | zero => simp [preSum]
  | succ k ih =>
    obtain ⟨n, hn⟩ : ∃ n, ns[k]? = some n := ⟨_, List.getElem?_eq_getElem (by omega)⟩
    have e : preSum val (k + 1) = preSum val k + val k := by simp [preSum]
    rw [e, ih (by omega), hv k n hn, List.take_add_one, hn]; simp
theorem Ev.sum {fp : Pos} {ns : List Int} (he : Ev B ks pl cs e (.O a)) (hm : (a, LI ns) ∈ cs) (hk : ks.lookup ("sum" : Str) = some .globalImplicit := by rfl) (hq : starEach [e] B.env = (false, eval e B.env) :: starEach [] B.env := by rfl)
    (hn : eval (.Call (.Name "sum" fp) [e] [] pos) B.env = (do callWith pos (← eval (.Name "sum" fp) B.env) [] (backTo pos (starEach [e] B.env)) (backToKw pos (keywordEach [] B.env))) := by rfl) : Ev B ks pl cs (.Call (.Name "sum" fp) [e] [] pos) (.I ns.sum) :=
  Ev.bltN (Evs.cons he Evs.nil hq) (fun vs s Z hv k I => by
    cases hv with | cons x hv => cases hv with | nil =>
    cases x
    obtain ⟨ob, e1, vs, lv, iv⟩ := I.2.get (.tail _ hm)
    obtain ⟨ts, hts⟩ : ∃ xs : Array (Int × Tok), intItems xs = vs.toArray ∧ xs.toList.map (·.1) = ns := by
      clear e1 lv I k hm
      induction iv with
      | nil => exact ⟨#[], by simp [intItems], rfl⟩
      | cons n t _ ih =>
        obtain ⟨xs, h1, h2⟩ := ih
        refine ⟨#[(n, t)] ++ xs, ?_, by simp [h2]⟩
        have h3 := congrArg Array.toList h1
        simp only [intItems, Array.toList_map] at h3
        apply Array.toList_inj.mp
        simp [intItems, h3]
    obtain ⟨h1, h2⟩ := hts
    refine sum_intListG (xs := ts) I.1.2.2 (h1 ▸ lv_at ⟨ob, e1, lv⟩) fun h' tk t' kk => k _ h' tk kk ⟨t', ?_⟩
    have hsz : ts.size = ns.length := by rw [← h2]; simp
    rw [preSum_ints ns _ (fun i n hi => ?_) _ (Nat.le_of_eq hsz), hsz, List.take_length]
    rw [← h2] at hi
    simp at hi
    obtain ⟨z, hz⟩ := hi
    simp [numAt, hz]) hk rfl (by decide) hq rfl hn
end

/-! F11 -/
/-- what a slice picks -/
def pick (ps : List PV) (lo hi st : Option Int) : List PV := (sliceRange (sliceBounds lo hi st ps.length).1 (sliceBounds lo hi st ps.length).2.1 (sliceBounds lo hi st ps.length).2.2).filterMap (ps[·]?)
theorem Ares.filter {ps : List PV} {vs : List Value} (x : Ares ps vs) (is : List Nat) : Ares (is.filterMap (ps[·]?)) (is.filterMap (vs[·]?)) := by
  induction is with
  | nil => exact .nil
  | cons i r ih =>
    rw [List.filterMap_cons, List.filterMap_cons]
    cases q : ps[i]? with
    | none =>
      have : vs[i]? = none := by rw [List.getElem?_eq_none_iff, x.len]; exact List.getElem?_eq_none_iff.mp q
      rw [this]; exact ih
    | some p =>
      obtain ⟨v, hv, hp⟩ := x.get _ _ q
      rw [hv]; exact .cons hp ih
theorem Ares.pick {ps : List PV} {vs : List Value} (x : Ares ps vs) (lo hi st : Option Int) : ∃ ws : List Value, slicePick vs.toArray lo hi st = ws.toArray ∧ Ares (Mine.pick ps lo hi st) ws := by
  refine ⟨_, rfl, ?_⟩
  have := x.filter (sliceRange (sliceBounds lo hi st ps.length).1 (sliceBounds lo hi st ps.length).2.1 (sliceBounds lo hi st ps.length).2.2)
  simpa [Mine.pick, x.len] using this

section
variable {B : Base} {ks : Kinds} {pl : Names} {cs l₁ l₂ : List Cell} {e l r v s iter value : Expr} {pos xp yp p : Pos} {a b : Addr} {ps qs : List PV} {es : List Expr} {P P₁ Q : PV → List Cell → Prop} {F : Flow → Heap → Prop} {rest body : List Stmt} {x y : Str} {lower upper : Option Expr} {lo hi st : Option Int} {h : Heap}

/-- a slice's part -/
def Part (B : Base) (ks : Kinds) (pl : Names) (cs : List Cell) (e : Option Expr) (o : Option Int) : Prop := ∀ h, Is B ks pl cs h → ∀ F : Value → Heap → Prop, (∀ v h', IsPart v o → Is B ks pl cs h' → F v h') → Run B.w B.A (evalPart e B.env) h F
theorem Part.none : Part B ks pl cs none none := fun h I F k => Run.lib fun s Q z r => evalPart_none_step (r _ s.toks (k _ _ .none I))
theorem Part.some {i : Int} (he : Ev B ks pl cs e (.I i)) : Part B ks pl cs (some e) (some i) := fun h I F k => he h I F fun v h' ⟨t, hv⟩ I' => hv ▸ k _ _ (.int i t) I'
theorem Ev.neg {i : Int} (he : Ev B ks pl cs e (.I i)) : Ev B ks pl cs (.UnaryOp .USub e pos) (.I (-i)) := fun h I F k s hs => UnaryOp_ (wpAny_mono (he h I (fun v h' => (∃ t, v = .int i t) ∧ Is B ks pl cs h') (fun v h' hv I' => ⟨hv, I'⟩) s hs) (fun v s' q => by
  obtain ⟨S, ⟨t, rfl⟩, I'⟩ := q
  exact neg_int ⟨⟨S.1, S.2, S.3⟩, k _ _ ⟨_, rfl⟩ I'⟩) fun _ _ e => e)
/-- v[lo:hi] of a list -/
theorem EvP.slice {p : Pos} (hv : Ev B ks pl cs value (.O a)) (hm : (a, LP ps) ∈ cs) (hl : ps.length ≤ 1000) (h1 : Part B ks pl cs lower lo) (h2 : Part B ks pl cs upper hi) (k : ∀ b, Q (.O b) ((b, LP (pick ps lo hi none)) :: cs))
    (ht : ∀ o r, letTemporaryGo value o r = Pure.pure () := by intro _ _; rfl) : EvP B ks pl cs (.Subscript value (.Slice lower upper none p) pos) Q := fun h I G kk s hs =>
  wpAny_Subscript_list_slice (wpAny_mono (hv h I (fun v h' => v = .ref a ∧ Is B ks pl cs h') (fun v h' hv I' => ⟨hv, I'⟩) s hs) (fun o s₁ q₁ => wpAny_mono (h1 _ q₁.2.2 (fun v h' => IsPart v lo ∧ Is B ks pl cs h') (fun v h' hv I' => ⟨hv, I'⟩) s₁ rfl) (fun vl s₂ q₂ => wpAny_mono (h2 _ q₂.2.2 (fun v h' => IsPart v hi ∧ Is B ks pl cs h') (fun v h' hv I' => ⟨hv, I'⟩) s₂ rfl) (fun vu s₃ q₃ => by
    obtain ⟨S₁, rfl, _⟩ := q₁
    obtain ⟨S₂, pa, _⟩ := q₂
    obtain ⟨S₃, pb, I₃⟩ := q₃
    obtain ⟨ob, e1, vs, lv, iv⟩ := I₃.2.get (.tail _ hm)
    obtain ⟨ws, e2, iw⟩ := iv.pick lo hi Option.none
    have hvl := iv.len
    refine ⟨a, vs.toArray, lo, hi, rfl, lv_at ⟨ob, e1, lv⟩, by rw [List.size_toArray]; exact Nat.le_trans (by omega) (by decide : 1000 ≤ sizeLine), pa, pb, ⟨⟨((S₁.trans S₂).trans S₃).1, ((S₁.trans S₂).trans S₃).2, ((S₁.trans S₂).trans S₃).3⟩, ?_⟩⟩
    rw [e2]
    have I₄ : Is B ks pl _ _ := I₃.add (I₃.2.push (P := fun _ => True) { cls := .type "slice", data := .fields #[vl, vu, .none] } trivial)
    have I₅ := I₄.add (I₄.2.push (P := LP (Mine.pick ps lo hi Option.none)) { cls := .type "list", data := .seq ws.toArray } ⟨ws, ⟨_, rfl⟩, iw⟩)
    rw [Heap.size_push] at I₅
    exact kk _ _ _ _ (k _) rfl (I₅.sub (List.Sublist.cons_cons _ (List.sublist_cons_self _ _)))) fun _ _ e => e) fun _ _ e => e) fun _ _ e => e) ht
/-- v[::st] of a list -/
theorem EvP.sliceStep {p : Pos} {st' : Expr} {i : Int} (hv : Ev B ks pl cs value (.O a)) (hm : (a, LP ps) ∈ cs) (hl : ps.length ≤ 1000) (hs : Ev B ks pl cs st' (.I i)) (h0 : i ≠ 0) (k : ∀ b, Q (.O b) ((b, LP (pick ps none none (some i))) :: cs))
    (ht : ∀ o r, letTemporaryGo value o r = Pure.pure () := by intro _ _; rfl) : EvP B ks pl cs (.Subscript value (.Slice Option.none Option.none (some st') p) pos) Q := fun h I G kk s hs' =>
  wpAny_Subscript_Slice_step (T := "list") list_getitem_lookup (wpAny_mono (hv h I (fun v h' => v = .ref a ∧ Is B ks pl cs h') (fun v h' hv I' => ⟨hv, I'⟩) s hs') (fun o s₁ q₁ => wpAny_Slice (evalPart_none_step (evalPart_none_step (wpAny_mono (hs _ q₁.2.2 (fun v h' => (∃ t, v = .int i t) ∧ Is B ks pl cs h') (fun v h' hv I' => ⟨hv, I'⟩) s₁ rfl) (fun vu s₃ q₃ => by
    obtain ⟨S₁, rfl, _⟩ := q₁
    obtain ⟨S₃, ⟨t, rfl⟩, I₃⟩ := q₃
    obtain ⟨ob, e1, vs, lv, iv⟩ := I₃.2.get (.tail _ hm)
    obtain ⟨ws, e2, iw⟩ := iv.pick Option.none Option.none (some i)
    have hvl := iv.len
    have hL := lv_at ⟨ob, e1, lv⟩
    have hne : a ≠ s₃.heap.objs.size := Nat.ne_of_lt (Heap.lt_size e1)
    have hL' : (s₃.heap.push { cls := .type "slice", data := .fields #[.none, .none, .int i t] }).IsList a vs.toArray := let ⟨o, e, c⟩ := hL; ⟨o, Heap.get?_push_of_some _ e, c⟩
    refine ⟨hL'.typeIs, wpAny_getItem_list_slice (lo := Option.none) (hi := Option.none) (st := some i) hL' (Heap.IsSliceOf.new ..) .none .none (.int i t) (fun z => h0 (Option.some.inj z)) ⟨⟨(S₁.trans S₃).1, (S₁.trans S₃).2, (S₁.trans S₃).3⟩, ?_⟩ (by rw [List.size_toArray]; exact Nat.le_trans (by omega) (by decide : 1000 ≤ sizeLine))⟩
    rw [e2]
    have I₄ : Is B ks pl _ _ := I₃.add (I₃.2.push (P := fun _ => True) { cls := .type "slice", data := .fields #[.none, .none, .int i t] } trivial)
    have I₅ := I₄.add (I₄.2.push (P := LP (Mine.pick ps Option.none Option.none (some i))) { cls := .type "list", data := .seq ws.toArray } ⟨ws, ⟨_, rfl⟩, iw⟩)
    exact kk _ _ _ _ (k _) rfl (I₅.sub (List.Sublist.cons_cons _ (List.sublist_cons_self _ _)))) fun _ _ e => e)))) fun _ _ e => e) ht
/-- l + r of two lists -/
theorem EvP.addL (hl : EvP B ks pl cs l P) (hr : ∀ p ds, P p ds → EvP B ks pl ds r (fun q ds' => ∃ a ps b qs, p = .O a ∧ q = .O b ∧ (a, LP ps) ∈ ds' ∧ (b, LP qs) ∈ ds' ∧ ps.length + qs.length ≤ 1000 ∧ ∀ c, Q (.O c) ((c, LP (ps ++ qs)) :: ds'))) : EvP B ks pl cs (.BinOp l .Add r pos) Q := fun h I G k =>
  Run.binOp (hl h I _ fun p va h₁ ds j ha I₁ => hr p ds j h₁ I₁ _ fun q vb h₂ ds' j' hb I₂ => by
    obtain ⟨a, ps, b, qs, rfl, rfl, ma, mb, hz, jq⟩ := j'
    cases ha; cases hb
    intro s hs
    subst hs
    obtain ⟨oa, ea, vs, ⟨n, rfl⟩, iv⟩ := I₂.2.get (.tail _ ma)
    obtain ⟨ob, eb, ws, ⟨m, rfl⟩, iw⟩ := I₂.2.get (.tail _ mb)
    have hvl := iv.len
    have hwl := iw.len
    refine PySem.P.add_list ea eb ⟨⟨rfl, rfl, rfl⟩, k _ _ _ _ (jq _) rfl (I₂.add (I₂.2.push _ ⟨vs ++ ws, ⟨0, ?_⟩, iv.app iw⟩))⟩ (by simp only [List.size_toArray]; exact Nat.le_trans (by omega) (by decide : 1000 ≤ sizeLine))
    simp)

/-! tuples taken apart -/
inductive Asg (ks : Kinds) : List Expr → List PV → Names → Names → Prop
  | nil {pl : Names} : Asg ks [] [] pl pl
  | cons {x : Str} {xp : Pos} {es : List Expr} {p : PV} {ps : List PV} {pl pl' : Names} : ks.lookup x = some .local → Asg ks es ps ((x, p) :: pl) pl' → Asg ks (.Name x xp :: es) (p :: ps) pl pl'
theorem Asg.each {pl' : Names} (x : Asg ks es ps pl pl') (env : Env) : (assignEach es env).length = ps.length ∧ (assignEach es env).findIdx? (·.1) = none := by
  induction x with
  | nil => exact ⟨rfl, rfl⟩
  | cons _ _ ih => exact ⟨congrArg (· + 1) ih.1, by show List.findIdx? _ ((false, _) :: assignEach _ _) = _; rw [List.findIdx?_cons]; simp [ih.2]⟩
theorem Asg.run {pl' : Names} {vs : List Value} (x : Asg ks es ps pl pl') (hv : Ares ps vs) (I : Is B ks pl cs h) {G : Unit → Heap → Prop} (k : ∀ h', Is B ks pl' cs h' → G () h') : Run B.w B.A (assignInOrder ((assignEach es B.env).map (·.2)) vs) h G := by
  induction x generalizing vs h with
  | nil => cases hv; exact fun s hs => wpAny_assignInOrder_none ⟨Same.rfl', hs ▸ k h I⟩
  | @cons x' xp' es' p' ps' pl₁ pl₂ hx _ ih =>
    cases hv with | @cons _ v' _ vs' hp hv =>
    exact fun s hs => wpAny_assignInOrder_more (wpAny_mono (Run.assName (Run.st (F := fun _ h => Run B.w B.A (assignInOrder ((assignEach es' B.env).map (·.2)) vs') h G) I.1.1 I.2 hx hp fun h₁ O₁ => ih hv (I.to O₁) k) s hs) (fun _ s' q => q.2.on q.1) fun _ _ e => e)
theorem Run.assignN {pl' : Names} {k : Nat} {tp : Pos} {G : Unit → Heap → Prop} (x : Asg ks es ps pl pl') (I : Is B ks pl cs h) (ht : (a, TP ps) ∈ cs) (kk : ∀ h', Is B ks pl' cs h' → G () h') : Run B.w B.A (assign (.Tuple es k tp) B.env (.ref a)) h G := fun s hs => by
  subst hs
  obtain ⟨ob, e1, vs, tv, iv⟩ := I.2.get (.tail _ ht)
  have hE := x.each B.env
  refine wpAny_assign_Tuple I.1.2.2 (tv_at ⟨ob, e1, tv⟩) (by rw [hE.1, List.size_toArray, iv.len]) hE.2 fun h' hx' => ?_
  have I' : Is B ks pl cs h' := ⟨I.1, I.2.keeps fun b o e => hx' b o (Nat.ne_of_lt (Heap.lt_size e)) e⟩
  exact (x.run iv I' kk).on ⟨rfl, rfl, rfl⟩
theorem Ex.assignTup {k : Nat} {tp : Pos} (he : EvP B ks pl cs e P) (kk : ∀ p ds, P p ds → ∃ a ps pl', p = .O a ∧ (a, TP ps) ∈ ds ∧ Asg ks es ps pl pl' ∧ Ex B ks pl' ds rest F)
    (hs : swapsWithSole [.Tuple es k tp] e pos.line B.env = Pure.pure false := by rfl) (hw : swappedStores [.Tuple es k tp] e B.env = Pure.pure none := by rfl) : Ex B ks pl cs (.Assign [.Tuple es k tp] e pos :: rest) F := fun h I =>
  Run.seq fun s hs' => Assign_Tuple (wpAny_mono (he h I (fun v h' => ∃ p ds, P p ds ∧ p.is v ∧ Is B ks pl ds h') (fun p v h' ds j hv I' => ⟨p, ds, j, hv, I'⟩) s hs') (fun v s' q => by
    obtain ⟨S, p, ds, j, hv, I'⟩ := q
    obtain ⟨a, ps, pl', rfl, hm, hA, K⟩ := kk p ds j
    cases hv
    exact (Run.assignN (G := fun _ h' => Run B.w B.A (execs rest B.env) h' F) hA I' hm fun h' I'' => K h' I'').on S) fun _ _ e => e) hs hw
end

/-! F12 -/
def truncF (x : UInt64) : Option Int := match Float64.decode x with | .fin sg m e => some (Float64.truncOf sg m e) | _ => none
section
variable {B : Base} {ks : Kinds} {pl : Names} {cs l₁ l₂ : List Cell} {e l r v s iter value : Expr} {pos xp yp p fp : Pos} {a b : Addr} {ps qs : List PV} {es : List Expr} {P P₁ : PV → List Cell → Prop} {F : Flow → Heap → Prop} {rest body orelse : List Stmt} {x y : Str} {c : Bool} {Q : List Cell → Prop}
/-- int(x) of a float -/
theorem Ev.intF {f : UInt64} {i : Int} (he : Ev B ks pl cs e (.F f)) (hi : truncF f = some i) (hk : ks.lookup ("int" : Str) = some .globalImplicit := by rfl) (hq : starEach [e] B.env = (false, eval e B.env) :: starEach [] B.env := by rfl)
    (hn : eval (.Call (.Name "int" fp) [e] [] pos) B.env = (do callWith pos (← eval (.Name "int" fp) B.env) [] (backTo pos (starEach [e] B.env)) (backToKw pos (keywordEach [] B.env))) := by rfl) : Ev B ks pl cs (.Call (.Name "int" fp) [e] [] pos) (.I i) :=
  EvP.to (P := fun q ds => q = .I i ∧ ds = cs) (EvP.typ (R := fun ps ds => ps = [.F f] ∧ ds = cs) (EvsP.of (Evs.cons he Evs.nil hq) ⟨rfl, rfl⟩) (fun ps ds vs h j hv I G kk => by
    obtain ⟨rfl, rfl⟩ := j
    cases hv with | cons x hv => cases hv with | nil =>
    obtain ⟨t, rfl⟩ := x
    unfold truncF at hi
    split at hi
    · rename_i sg m e' hd
      cases hi
      intro s hs
      subst hs
      exact call_int_float hd ⟨⟨rfl, rfl, rfl⟩, kk _ _ _ _ ⟨rfl, rfl⟩ ⟨_, rfl⟩ I⟩
    · cases hi) hk rfl (by decide) hq rfl hn) fun _ _ j => j
/-- a test that may change objects -/
def TsP (B : Base) (ks : Kinds) (pl : Names) (cs : List Cell) (e : Expr) (c : Bool) (Q : List Cell → Prop) : Prop := ∀ h, Is B ks pl cs h → ∀ F : Bool → Heap → Prop, (∀ h' ds, Q ds → Is B ks pl ds h' → F c h') → Run B.w B.A (isTrue e B.env (eval e B.env)) h F
theorem TsP.isNotNone {n : Nat} {np : Pos} (he : EvP B ks pl cs e P) (hp : ∀ p ds, P p ds → p = .N ∧ Q ds) : TsP B ks pl cs (.Compare e [.IsNot] [.Constant .none n np] pos) false Q := fun h I F k =>
  Run.isCmp (he h I _ fun p va h₁ ds j ha I₁ => by
    obtain ⟨rfl, q⟩ := hp p ds j
    exact Ev.none h₁ I₁ _ fun vb h₂ hb I₂ => Cmp.isNotN _ _ _ _ _ _ ha hb (Run.truthB (k h₂ ds q I₂))) (by with_unfolding_all rfl)
theorem Ex.iteP (ht : TsP B ks pl cs e c Q) (h1 : c = true → ∀ ds, Q ds → Ex B ks pl ds body (Sq B rest F)) (h2 : c = false → ∀ ds, Q ds → Ex B ks pl ds orelse (Sq B rest F)) : Ex B ks pl cs (.If e body orelse pos :: rest) F :=
  fun h I => Run.seq (Run.ite (ht h I _ fun h' ds j I' => ⟨fun q => h1 q ds j h' I', fun q => h2 q ds j h' I'⟩))
end
/-! what slices of short lists pick -/
theorem pick_rot {a b c : PV} {turn : Nat} (h : turn < 3) : pick [a, b, c] (some (3 - (turn : Int))) none none ++ pick [a, b, c] none (some (3 - (turn : Int))) none = [a, b, c].drop (3 - turn) ++ [a, b, c].take (3 - turn) := by
  match turn, h with
  | 0, _ => rfl
  | 1, _ =>
    have e1 : sliceRange (sliceBounds (some (3 - ((1 : Nat) : Int))) none none 3).1 (sliceBounds (some (3 - ((1 : Nat) : Int))) none none 3).2.1 (sliceBounds (some (3 - ((1 : Nat) : Int))) none none 3).2.2 = [2] := by decide
    have e2 : sliceRange (sliceBounds none (some (3 - ((1 : Nat) : Int))) none 3).1 (sliceBounds none (some (3 - ((1 : Nat) : Int))) none 3).2.1 (sliceBounds none (some (3 - ((1 : Nat) : Int))) none 3).2.2 = [0, 1] := by decide
    unfold pick
    simp only [List.length_cons, List.length_nil] at *
    rw [e1, e2]; rfl
  | 2, _ =>
    have e1 : sliceRange (sliceBounds (some (3 - ((2 : Nat) : Int))) none none 3).1 (sliceBounds (some (3 - ((2 : Nat) : Int))) none none 3).2.1 (sliceBounds (some (3 - ((2 : Nat) : Int))) none none 3).2.2 = [1, 2] := by decide
    have e2 : sliceRange (sliceBounds none (some (3 - ((2 : Nat) : Int))) none 3).1 (sliceBounds none (some (3 - ((2 : Nat) : Int))) none 3).2.1 (sliceBounds none (some (3 - ((2 : Nat) : Int))) none 3).2.2 = [0] := by decide
    unfold pick
    simp only [List.length_cons, List.length_nil] at *
    rw [e1, e2]; rfl
theorem pick_rev {a b c d : PV} : pick [a, b, c, d] none none (some (-1)) = [d, c, b, a] := by
  have e1 : sliceRange (sliceBounds none none (some (-1)) 4).1 (sliceBounds none none (some (-1)) 4).2.1 (sliceBounds none none (some (-1)) 4).2.2 = [3, 2, 1, 0] := by decide
  unfold pick
  simp only [List.length_cons, List.length_nil] at *
  rw [e1]; rfl

/-! F13 -/
/-! ## instances of the text's classes -/
abbrev IO (C dx : Addr) (o : Obj) : Prop := o = instObj C dx
/-- an own object's dict: these names alone, with these values -/
def DN (pl : List (Str × PV)) (o : Obj) : Prop := ∃ es ep, o.data = .dict es ep ∧ StrKeys es ∧ UniqKeys es ∧ (∀ y, nsFind es y ≠ none → y ∈ pl.map (·.1)) ∧ ∀ x p, pl.lookup x = some p → ∃ v, nsFind es x = some v ∧ p.is v
theorem handed_is {p : PV} {v : Value} (h : p.is v) : handedIn v = true := by
  cases p with
  | I n => obtain ⟨t, rfl⟩ := h; rfl
  | F n => obtain ⟨t, rfl⟩ := h; rfl
  | T n => obtain ⟨t, rfl⟩ := h; rfl
  | B n => cases h; rfl
  | N => cases h; rfl
  | O n => cases h; rfl
theorem lookIn_of {name : Str} {o : Obj} {es : Array DictEntry} {ep : Nat} (hd : o.data = .dict es ep) (hk : StrKeys es) : lookIn name o = some (nsFind es name) := by
  unfold lookIn
  rw [hd]
  dsimp only
  unfold nsFind findBy
  rw [← Array.find?_toList]
  cases q : List.find? (fun e => e.key.isStr name) es.toList with
  | some e => rfl
  | none =>
    dsimp only
    rw [if_neg]
    · rfl
    · intro h
      obtain ⟨e, he, hr⟩ := List.any_eq_true.mp h
      obtain ⟨n, t, e1⟩ := hk e (Array.mem_def.mpr he)
      unfold DictEntry.refKey at hr
      rw [e1] at hr
      cases hr
structure KCls (K : Frag) (C : Addr) : Prop where
  set : findIn K (.ref C) "__setattr__" = some (some (.builtin "object.__setattr__"))
  plain : plainOver K C = true
  dict : hasDictIn K C = true
  get : plainGet K C "x" = true
  makes : makesIn K C = true
  keep : keepIn K (.ref C) = true

section
variable {w : World} {A : Around} {hb h : Heap} {cs : List Cell} {K : Frag} {x C dx : Addr} {name : Str} {p : PV} {pl : List (Str × PV)} {v : Value}
theorem Run.getOwn {F : Value → Heap → Prop} {expr : Bool} (X : K.In hb) (H : KCls K C) (hn : findIn K (.ref C) name = some none) (O : Own hb h cs) (h1 : (x, IO C dx) ∈ cs) (h2 : (dx, DN pl) ∈ cs) (hl : pl.lookup name = some p) (k : ∀ v, p.is v → F v h) :
    Run w A (getAttr (.ref x) name expr) h F := fun s hs => by
  subst hs
  obtain ⟨ox, ex, rfl⟩ := O.get h1
  obtain ⟨od, ed, es, ep, hd, hk, hu, hw, hf⟩ := O.get h2
  obtain ⟨v, hv, hp⟩ := hf _ _ hl
  refine get_value (od := some od) (X.keeps O.keep) ⟨ex, rfl, rfl, ed⟩ (plainGet_of H.get).1 (findObj_own H.dict hn rfl ((lookIn_of hd hk).trans (congrArg some hv))) (handed_is hp) ⟨⟨rfl, rfl, rfl⟩, k v hp⟩
theorem Run.setOwn {F : Unit → Heap → Prop} (X : K.In hb) (H : KCls K C) (hn : takerIn K C name = some none) (O : Own hb h ((dx, DN pl) :: cs)) (h1 : (x, IO C dx) ∈ cs) (hz : pl.length ≤ 100) (hp : p.is v) (k : ∀ h', Own hb h' ((dx, DN ((name, p) :: pl)) :: cs) → F () h') :
    Run w A (setAttr (.ref x) name v) h F := fun s hs => by
  subst hs
  obtain ⟨ox, ex, rfl⟩ := O.get (.tail _ h1)
  obtain ⟨od, ed, es, ep, hd, hk, hu, hw, hf⟩ := O.get (.head _)
  have X' : K.In s.heap := X.keeps O.keep
  have I : InstAt s.heap x (instObj C dx) C (some od) := ⟨ex, rfl, rfl, ed⟩
  refine set_plain X' I H.set (osa_open (s := { s with toks := s.toks + 1 }) X' I H.plain hn fun b => ?_)
  obtain ⟨cd, hc, hd'⟩ := any_some H.dict
  refine wpAny_bind (wpAny_pure (wpAny_bind (wpAny_bind (wpAny_loadPart ex (wpAny_bind (looks_clsIn X' hc _ _ _ _ (fun _ _ e => e) ?_))))))
  rw [hd']
  refine wpAny_pure (a := some dx) (wpAny_bind (wpAny_pure (wpAny_bind ?_)))
  have hns : s.heap.Ns1 dx (fun y => nsFind es y) := ⟨od, es, ep, ed, hd, hk, hu, fun _ => rfl⟩
  refine wpAny_nsSet1 hns fun h' hn' hs' => ?_
  obtain ⟨oD, esD, epD, hoD, hdD, hcD⟩ := hn'.count (Within.cons name v (show PySem.Within (fun y => nsFind es y) (pl.map fun q => q.1) from hw))
  refine wpAny_bind (wpAny_lookBehind hoD (by rw [hdD]; exact pastItsLine_dict (Nat.le_trans hcD (by rw [List.length_cons, List.length_map]; exact Nat.le_trans (by omega : pl.length + 1 ≤ 1000) (by decide)))) ?_)
  refine wpAny_pure ⟨⟨rfl, rfl, rfl⟩, k h' (O.change hs' ?_)⟩
  obtain ⟨o', es', ep', e1, e2, e3, e4, e5⟩ := hn'
  refine ⟨o', e1, es', ep', e2, e3, e4, fun y hy => ?_, fun y q hq => ?_⟩
  · by_cases z : y = name
    · subst z; exact .head _
    · exact .tail _ (hw y fun e => hy ((e5 y).trans ((if_neg z).trans e)))
  · by_cases z : y = name
    · subst z
      rw [List.lookup_cons_self] at hq
      cases hq
      exact ⟨v, (e5 y).trans (if_pos rfl), hp⟩
    · have : (y == name) = false := by simpa using z
      rw [List.lookup_cons, this] at hq
      obtain ⟨u, hu', hp'⟩ := hf y q hq
      exact ⟨u, (e5 y).trans ((if_neg z).trans hu'), hp'⟩
theorem AOk.make {d u : Nat} {C : Addr} {rest : List Value} {kw : List (Str × Value)} (x : AOk A (d + 1) (u + 1)) : AOk (A.under (.builtin "type.__call__" ⟨.ref C :: rest, kw⟩)) d u := by
  obtain ⟨a, b, c, l, e⟩ := x
  refine ⟨a, ?_, ?_, l, e⟩
  · show A.depth + 1 + d < _; omega
  · show A.units + 1 + u < _; omega
/-- C(..): an object of a class of the text -/
theorem Run.make {F : Value → Heap → Prop} {rest : List Value} {kw : List (Str × Value)} {fI : Addr} (X : K.In hb) (H : KCls K C) (hi : findIn K (.ref C) "__init__" = some (some (.ref fI))) (hf : isFn K (.ref fI) = true) (O : Own hb h cs)
    (k : ∀ x dx h', Own hb h' ((dx, DN []) :: (x, IO C dx) :: cs) → RunCall w (A.under (.builtin "type.__call__" ⟨.ref C :: rest, kw⟩)) (.ref fI) ⟨.ref x :: rest, kw⟩ h' (fun v h'' => v = .none ∧ F (.ref x) h'')) :
    Run w A (PySem.call (.ref C) rest kw) h F := fun s hs => by
  subst hs
  have X' : K.In s.heap := X.keeps O.keep
  refine wpAny_call (make_core (h := s.heap) (g := s.gens) (d := s.drawn) (t := s.toks) (os := s.os) (makes_of X' H.makes) (looks_findIn X' hi) (fun self => bind_fn X' self (beq_iff_eq.mp hf)) (.inl rfl) ?_)
  have O1 := O.push (P := DN []) emptyDict ⟨#[], _, rfl, fun e he => absurd he (by simp), by simp [UniqKeys], fun y hy => absurd rfl hy, fun x p q => nomatch q⟩
  have O2 := O1.push (P := IO C s.heap.objs.size) (instObj C s.heap.objs.size) rfl
  rw [Heap.size_push] at O2
  refine codeAny_mono (k _ _ _ O2.swap ⟨(s.heap.push emptyDict).push (instObj C s.heap.objs.size), s.gens, s.drawn, s.toks, s.os⟩ rfl) fun r s' q => ?_
  cases r with
  | ok f => cases f with
    | ret v => exact ⟨q.2.1, ⟨q.1.1, q.1.2, q.1.3⟩, q.2.2⟩
    | _ => exact q
  | error e => exact q.elim
end

section
variable {B : Base} {ks : Kinds} {pl : Names} {cs l₁ l₂ : List Cell} {e l r v s iter value : Expr} {pos xp yp fp apos : Pos} {a b f : Addr} {ps qs : List PV} {p : PV} {es : List Expr} {P Q : PV → List Cell → Prop} {F : Flow → Heap → Prop} {rest body : List Stmt} {x y name attr : Str} {K : Frag} {C dx xa : Addr} {al : List (Str × PV)}
/-- o.name, an own attribute -/
theorem Ev.attrO (X : K.In B.hb) (H : KCls K C) (hn : findIn K (.ref C) attr = some Option.none) (ho : Ev B ks pl cs e (.O xa)) (h1 : (xa, IO C dx) ∈ cs) (h2 : (dx, DN al) ∈ cs) (hl : al.lookup attr = some p)
    (he : eval (.Attribute e attr pos) B.env = (do
      let o ← eval e B.env
      standAt pos.atName
      let r ← holding [o] (getAttr o attr true)
      letTemporaryGo e o r
      Pure.pure r) := by with_unfolding_all rfl) : Ev B ks pl cs (.Attribute e attr pos) p := fun h I G k s hs =>
  Attribute_any_ (wpAny_mono (ho h I (fun v h' => v = .ref xa ∧ Is B ks pl cs h') (fun v h' hv I' => ⟨hv, I'⟩) s hs) (fun v s' q => by
    obtain ⟨S, rfl, I'⟩ := q
    exact (Run.getOwn X H hn I'.2 (.tail _ h1) (.tail _ h2) hl fun v hv => k v _ hv I').on S) fun _ _ e => e) he
/-- C.name, of a class of the text -/
theorem Ev.clsAttr {u : Str} {t : Tok} (X : K.In B.hb) (hr : readsIn K C (.type "type") = true) (hf : findCls K (.ref C) (.type "type") attr = some (.val (.str u t))) (ho : Ev B ks pl cs e (.O C))
    (he : eval (.Attribute e attr pos) B.env = (do
      let o ← eval e B.env
      standAt pos.atName
      let r ← holding [o] (getAttr o attr true)
      letTemporaryGo e o r
      Pure.pure r) := by with_unfolding_all rfl) : Ev B ks pl cs (.Attribute e attr pos) (.T u) := fun h I G k s hs =>
  Attribute_any_ (wpAny_mono (ho h I (fun v h' => v = .ref C ∧ Is B ks pl cs h') (fun v h' hv I' => ⟨hv, I'⟩) s hs) (fun v s' q => by
    obtain ⟨S, rfl, I'⟩ := q
    exact cls_value (X.keeps I'.2.keep) hr hf rfl ⟨⟨S.1, S.2, S.3⟩, k _ _ ⟨t, rfl⟩ I'⟩) fun _ _ e => e) he
/-- a name of the text's top -/
theorem Ev.glob (hk : ks.lookup x = some .globalImplicit := by rfl) (hg : Globs.lookup x = some (.ref a) := by rfl) (hd : (x == ("__debug__" : Str)) = false := by decide) : Ev B ks pl cs (.Name x pos) (.O a) := fun h I G k =>
  Run.global I.1.1 I.1.2.1 I.2 hk hg (k _ _ rfl I) hd
/-- o.name = e -/
theorem Ex.setAttr {o : Expr} (X : K.In B.hb) (H : KCls K C) (hn : takerIn K C attr = some none) (he : EvP B ks pl cs e P) (k : ∀ p ds, P p ds → ∃ l₁ l₂ dx xa al, Ev B ks pl ds o (.O xa) ∧ ds = l₁ ++ (dx, DN al) :: l₂ ∧ (xa, IO C dx) ∈ ds ∧ al.length ≤ 100 ∧ Ex B ks pl (l₁ ++ (dx, DN ((attr, p) :: al)) :: l₂) rest F)
    (hs : swapsWith e (some (.Attribute o attr apos)) pos.line B.env = Pure.pure false := by rfl) : Ex B ks pl cs (.Assign [.Attribute o attr apos] e pos :: rest) F := fun h I => by
  refine Run.seq fun s hz => plainObj_wpAny_Assign_Attribute (wpAny_mono (he h I (fun v h' => ∃ p ds, P p ds ∧ p.is v ∧ Is B ks pl ds h') (fun p v h' ds j hv I' => ⟨p, ds, j, hv, I'⟩) s hz) (fun v s₁ q => ?_) fun _ _ e => e) hs
  obtain ⟨S, p, ds, j, hv, I₁⟩ := q
  obtain ⟨l₁, l₂, dx, xa, al, ho, rfl, hx, hz, kk⟩ := k p ds j
  refine wpAny_mono (ho _ I₁ (fun v h' => v = .ref xa ∧ Is B ks pl _ h') (fun v h' hv I' => ⟨hv, I'⟩) s₁ rfl) (fun ov s₂ q => ?_) fun _ _ e => e
  obtain ⟨S₂, rfl, I₂⟩ := q
  have O := I₂.at
  have hne : xa ≠ dx → (xa, IO C dx) ∈ ((B.L, NP pl) :: (l₁ ++ l₂)) := fun ne => by
    rcases List.mem_append.mp hx with h | h
    · exact .tail _ (List.mem_append_left _ h)
    · rcases List.mem_cons.mp h with e | h
      · exact absurd (congrArg Prod.fst e) ne
      · exact .tail _ (List.mem_append_right _ h)
  have hd : xa ≠ dx := fun e => by
    subst e
    obtain ⟨o, e1, rfl⟩ := I₂.2.get (.tail _ hx)
    obtain ⟨o', e2, es, ep, hdat, _⟩ := O.get (.head _)
    rw [e1] at e2; cases e2
    cases hdat
  exact (Run.setOwn (F := fun _ h' => Run B.w B.A (execs rest B.env) h' F) X H hn O (hne hd) hz hv fun h' O' => kk h' (I₂.back O')).on (S.trans S₂)
/-- a call of a class of the text, with arguments by place -/
theorem EvP.refP {R : List PV → List Cell → Prop} (X : K.In B.hb) (hk' : keepIn K (.ref f) = true) (ha : EvsP B ks pl cs pos (e :: es) R) (hc : ∀ ps ds vs h, R ps ds → Ares ps vs → Is B ks pl ds h → ∀ G : Value → Heap → Prop, (∀ p v h' cs', Q p cs' → p.is v → Is B ks pl cs' h' → G v h') → Run B.w B.A (PySem.call (.ref f) vs) h G)
    (hk : ks.lookup x = some .globalImplicit := by rfl) (hg : Globs.lookup x = some (.ref f) := by rfl) (hd : (x == ("__debug__" : Str)) = false := by decide)
    (hq : starEach (e :: es) B.env = (false, eval e B.env) :: starEach es B.env := by rfl) (hp : (backTo pos (starEach es B.env)).any (·.1) = false := by rfl)
    (hn : eval (.Call (.Name x fp) (e :: es) [] pos) B.env = (do callWith pos (← eval (.Name x fp) B.env) [] (backTo pos (starEach (e :: es) B.env)) (backToKw pos (keywordEach [] B.env))) := by rfl) : EvP B ks pl cs (.Call (.Name x fp) (e :: es) [] pos) Q :=
  fun h I G k => Run.call (Run.global I.1.1 I.1.2.1 I.2 hk hg (fun s hs => callWith_K (h₀ := B.hb) X hk' (wpAny_mono (ha h I (fun vs h' => ∃ ps ds, R ps ds ∧ Ares ps vs ∧ Is B ks pl ds h') (fun ps vs h₁ ds j hvs I₁ => ⟨ps, ds, j, hvs, I₁⟩) s hs) (fun vs s' q => by
    obtain ⟨S, ps, ds, j, hvs, I₁⟩ := q
    exact ⟨X.keeps I₁.2.keep, (hc ps ds vs _ j hvs I₁ G k).on S⟩) fun _ _ e => e) hq hp) hd) hn
/-- o.name(e, ..), a method of the text -/
theorem EvP.methP {R : List PV → List Cell → Prop} {pl' : Sem Bool} (X : K.In B.hb) (H : KCls K C) (hm : findIn K (.ref C) name = some (some (.ref f))) (hf : isFn K (.ref f) = true) (hk' : keepIn K (.ref f) = true) {o : Expr} (ho : EvP B ks pl cs o P)
    (hx : ∀ p ds, P p ds → ∃ xa dx al, p = .O xa ∧ (xa, IO C dx) ∈ ds ∧ (dx, DN al) ∈ ds ∧ (al.map (·.1)).contains name = false ∧ EvsP B ks pl ds pos (e :: es) (fun ps ds' => R (.O xa :: ps) ds'))
    (hc : ∀ ps ds vs h, R ps ds → Ares ps vs → Is B ks pl ds h → ∀ G : Value → Heap → Prop, (∀ p v h' cs', Q p cs' → p.is v → Is B ks pl cs' h' → G v h') → Run B.w B.A (PySem.call (.ref f) vs) h G)
    (he : eval (.Call (.Attribute o name apos) (e :: es) [] pos) B.env = (do
      let ov ← eval o B.env
      standAt apos.atName
      let (f, first) ← holding [ov] (getMethod ov name pl')
      callWith pos f first (backTo pos (starEach (e :: es) B.env)) []))
    (hq : starEach (e :: es) B.env = (false, eval e B.env) :: starEach es B.env := by rfl) (hp : (backTo pos (starEach es B.env)).any (·.1) = false := by rfl) : EvP B ks pl cs (.Call (.Attribute o name apos) (e :: es) [] pos) Q := fun h I G k s hs => by
  refine MethodCall_ (wpAny_mono (ho h I (fun v h' => ∃ p ds, P p ds ∧ p.is v ∧ Is B ks pl ds h') (fun p v h' ds j hv I' => ⟨p, ds, j, hv, I'⟩) s hs) (fun v s₁ q => ?_) fun _ _ e => e) he
  obtain ⟨S, p, ds, j, hv, I₁⟩ := q
  obtain ⟨xa, dx, al, rfl, h1, h2, hal, ha⟩ := hx p ds j
  cases hv
  obtain ⟨ox, ex, rfl⟩ := I₁.2.get (.tail _ h1)
  obtain ⟨od, ed, es', ep, hd, hk, hu, hw, hf'⟩ := I₁.2.get (.tail _ h2)
  have hnone : nsFind es' name = none := by
    cases z : nsFind es' name with
    | none => rfl
    | some u =>
      have := hw name (by rw [z]; intro c; cases c)
      rw [List.contains_iff_mem.mpr this] at hal
      cases hal
  refine method_fn (od := some od) (X.keeps I₁.2.keep) ⟨ex, rfl, rfl, ed⟩ (plainGet_of H.get).1 (plainGet_of H.get).2 hm (beq_iff_eq.mp hf) (by show (lookIn name od).map _ = _; rw [lookIn_of hd hk, hnone]; rfl) ?_
  refine callWith_K (h₀ := B.hb) X hk' (wpAny_mono (ha _ I₁ (fun vs h' => ∃ ps ds, R (.O xa :: ps) ds ∧ Ares ps vs ∧ Is B ks pl ds h') (fun ps vs h₁ ds j hvs I₁ => ⟨ps, ds, j, hvs, I₁⟩) s₁ rfl) (fun vs s' q => ?_) fun _ _ e => e) hq hp
  obtain ⟨S₂, ps, ds', j', hvs, I₂⟩ := q
  exact ⟨X.keeps I₂.2.keep, (hc _ ds' _ _ j' (.cons rfl hvs) I₂ G k).on (S.trans S₂)⟩
end

/-! T1typed -/
/-! ## _law_typed -/
theorem typed_ok {w : World} {A : Around} {hb h : Heap} {cs : List Cell} {fd : FuncData} {d u : Nat} {F : Value → Heap → Prop} (D : DefIs hb 238 (stmtAt 19) .none .none fd) (hA : AOk A (d + 1) (u + 3)) (G : Gd hb Globs Blts) (O : Own hb h cs)
    {l : List Nat} {size : Nat} {tt ts : Tok} (h0 : 0 < size) (h1 : size ≤ 100) (h2 : l.length ≤ 1000)
    (k : ∀ t h', Own hb h' cs → F (.str (S (typedL size l)) t) h') :
    Run w A (PySem.call (.ref 238) [.str (S l) tt, .int size ts]) h F := by
  refine Run.def' D hA G O [("text", .str (S l) tt), ("size", .int size ts)] [("text", .T (S l)), ("size", .I size)] (fun fd e1 e2 e3 s hs => BindsTo.of_eq ?_) ⟨⟨_, rfl, _, rfl⟩, ⟨_, rfl, _, rfl⟩, trivial⟩
    [("text", .local), ("size", .local), ("typed", .local), ("sign", .local), ("len", .globalImplicit)] rfl rfl rfl ⟨rfl, rfl, rfl⟩ ?_
  · cases fd; cases e1; cases e2; cases e3; rfl
  intro L env A' hA' hf
  refine Ex.assign Ev.txt (Ex.names ([("typed", .T (S (typedL size (l.take 0)))), ("size", .I size), ("text", .T (S l))]) ⟨rfl, rfl, rfl, trivial⟩ ?_)
  refine Ex.forStr (Ev.name rfl rfl) (fun i pl cs' => cs = cs' ∧ pl = ([("typed", .T (S (typedL size (l.take i)))), ("size", .I size), ("text", .T (S l))] : List (Str × PV))) ⟨rfl, rfl⟩ rfl ?_ ?_
  · rintro i c it _ _ hc ⟨rfl, rfl⟩
    have hc : l[i]? = some c := by simpa [S] using hc
    have htk : l.take (i + 1) = l.take i ++ [c] := by rw [List.take_add_one, hc]; rfl
    have hl : (typedL size (l.take i)).length ≤ 100000 := by
      have a := typedL_len h0 (l.take i)
      have b : size * (l.take i).length ≤ 100 * 1000 := Nat.mul_le_mul h1 (by rw [List.length_take]; omega)
      omega
    refine Ex.ite (Ts.cmp (Ev.name rfl rfl) Ev.txt (Cmp.eqT (p := S [c]) (q := S [9]))) (fun hT => ?_) (fun hF => ?_)
    · have hc9 : c = 9 := by rw [S_beq] at hT; simpa using hT
      have hm := Nat.mod_lt (typedL size (l.take i)).length h0
      have hst : typedL size (l.take (i + 1)) = typedL size (l.take i) ++ List.replicate ((size : Int) - ((S (typedL size (l.take i))).length : Int).fmod size).toNat 9 := by
        rw [htk, typedL_snoc, typedStep, if_pos hc9, S_len, ← Int.ofNat_fmod]
        congr 2; omega
      have hz : ((size : Int) - ((S (typedL size (l.take i))).length : Int).fmod size).toNat ≤ 100 := by rw [S_len, ← Int.ofNat_fmod]; omega
      refine Ex.aug rfl (Ev.bin Ev.txt (Ev.bin (Ev.name rfl rfl) (Ev.bin (Ev.lenT (Ev.name rfl rfl) ?_) (Ev.name rfl rfl) (Bin.modI (by omega))) Bin.subI) (Bin.mulT (p := S [9]) ?_)) (Inp.addT ?_) (Ex.go ?_)
      · rw [S_len]; omega
      · exact mulOk_of 1 100 (by rw [S_len]; exact Nat.le_refl 1) (by omega) (by rw [S_len, ← Int.ofNat_fmod]; omega) (by decide) (by decide)
      · rw [S_mul, S_len, S_len, List.length_replicate, show sizeLine = 16777216 from rfl]; rw [S_len] at hz; omega
      · refine Turn.next ⟨rfl, rfl⟩ ⟨?_, rfl, rfl, trivial⟩
        rw [S_mul, S_append, hst]; rfl
    · have hc9 : c ≠ 9 := by rw [S_beq] at hF; simpa using hF
      refine Ex.aug rfl (Ev.name rfl rfl) (Inp.addT (q := S [c]) ?_) (Ex.go ?_)
      · rw [S_len, S_len, show sizeLine = 16777216 from rfl, List.length_singleton]; omega
      · refine Turn.next ⟨rfl, rfl⟩ ⟨?_, rfl, rfl, trivial⟩
        rw [htk, typedL_snoc, typedStep, if_neg hc9, ← S_append]; rfl
  · rintro _ _ ⟨rfl, rfl⟩
    have : l.take (S l).cps.size = l := by simp [S]
    rw [this]
    exact Ex.ret (Ev.name rfl rfl) fun v h ⟨t, hv⟩ I => hv ▸ k t h I.2.tail

/-! T2bis -/
/-- a tuple and a dict of the top that hold the defaults 0, None and key = None -/
structure Dfl (hb : Heap) (T K : Addr) : Prop where
  tup : ∃ t n c d sl, hb.get? T = some ⟨c, d, .seq #[.int 0 t, .none] n, sl⟩
  kw : ∃ hsh t ep c d sl, hb.get? K = some ⟨c, d, .dict #[⟨hsh, .str "key" t, .none⟩] ep, sl⟩
abbrev bBinds (l : Addr) (x : Int) (tx tl : Tok) : List (Str × Value) := [("a", .ref l), ("x", .int x tx), ("lo", .int 0 tl), ("hi", .none), ("key", .none)]
abbrev bNames (l : Addr) (x : Int) : List (Str × PV) := [("a", .O l), ("x", .I x), ("lo", .I 0), ("hi", .N), ("key", .N)]
/-- the arguments of a search: the list and the int, or these and the defaults once more -/
inductive BArgs (l : Addr) (x : Int) (tx : Tok) : List Value → Prop
  | two : BArgs l x tx [.ref l, .int x tx]
  | four (t : Tok) : BArgs l x tx [.ref l, .int x tx, .int 0 t, .none]
theorem binds_dfl {n : Nat} (hn : n = 4 ∨ n = 5 ∨ n = 6 ∨ n = 7) {l T K : Addr} {x : Int} {tx : Tok} {hb h : Heap} {vs : List Value} (V : BArgs l x tx vs) (D : Dfl hb T K) (hk : ∀ b o, hb.get? b = some o → h.get? b = some o) :
    ∃ tl, ∀ fd : FuncData, fd.params = paramsOf (stmtAt n) → fd.defaults = .ref T → fd.kwdefaults = .ref K → ∀ s : Shared, s.heap = h → BindsTo s fd ⟨vs, []⟩ (bBinds l x tx tl) := by
  obtain ⟨⟨tl, nn, c1, d1, sl1, ho⟩, hsh, t, ep, c2, d2, sl2, hm⟩ := D
  have h2 := hk _ _ ho
  have h3 := hk _ _ hm
  clear ho hm hk
  cases V with
  | two =>
    refine ⟨tl, ?_⟩
    rintro ⟨n, q, p, b, s, g, c, d, k, doc, pm, an, cd, ct, bt⟩ h1 h4 h5 s' z M A E Q hq
    subst z
    dsimp only at h1 h4 h5
    subst h4 h5
    rcases hn with rfl | rfl | rfl | rfl <;> subst h1
    all_goals
      refine loadAny h2 ?_
      refine loadAny h3 ?_
      exact wpAny_pure hq
  | four tf =>
    refine ⟨tf, ?_⟩
    rintro ⟨n, q, p, b, s, g, c, d, k, doc, pm, an, cd, ct, bt⟩ h1 h4 h5 s' z M A E Q hq
    subst z
    dsimp only at h1 h4 h5
    subst h4 h5
    rcases hn with rfl | rfl | rfl | rfl <;> subst h1
    all_goals
      refine loadAny h2 ?_
      refine loadAny h3 ?_
      exact wpAny_pure hq

/-! where a sorted list parts -/
section
variable {p : Int → Prop} {ns : List Int} {m : Nat} {v : Int}
theorem part_take (hp : ∀ a b, a ≤ b → p b → p a) (hs : ns.Pairwise (· ≤ ·)) (hm : ns[m]? = some v) (hv : p v) : ∀ n ∈ ns.take (m + 1), p n := by
  intro n hn
  obtain ⟨i, hi, rfl⟩ := List.mem_take_iff_getElem.mp hn
  obtain ⟨hl, e⟩ := List.getElem?_eq_some_iff.mp hm
  rcases Nat.lt_or_ge i m with q | q
  · exact hp _ _ (List.pairwise_iff_getElem.mp hs i m (by omega) hl q) (e ▸ hv)
  · have : i = m := by omega
    subst this; exact e ▸ hv
theorem part_drop (hp : ∀ a b, a ≤ b → p b → p a) (hs : ns.Pairwise (· ≤ ·)) (hm : ns[m]? = some v) (hv : ¬ p v) : ∀ n ∈ ns.drop m, ¬ p n := by
  intro n hn
  obtain ⟨i, hi, rfl⟩ := List.mem_drop_iff_getElem.mp hn
  obtain ⟨hl, e⟩ := List.getElem?_eq_some_iff.mp hm
  rcases Nat.eq_zero_or_pos i with q | q
  · subst q; simpa [e] using hv
  · exact fun z => hv (e ▸ hp _ _ (List.pairwise_iff_getElem.mp hs m (m + i) hl (by omega) (by omega)) (by simpa [Nat.add_comm] using z))
theorem mid_is (a b : Nat) : ((a : Int) + (b : Int)).fdiv 2 = (((a + b) / 2 : Nat) : Int) := by
  rw [← Int.natCast_add]; exact (Int.ofNat_fdiv ..).symm
end

/-- how many stand ahead of the parting -/
theorem part_count {p : Int → Bool} {ns : List Int} {r : Nat} (h : r ≤ ns.length) (a : ∀ n ∈ ns.take r, p n = true) (b : ∀ n ∈ ns.drop r, ¬ p n = true) : r = ns.countP p := by
  conv => rhs; rw [← List.take_append_drop r ns]
  rw [List.countP_append, List.countP_eq_length.mpr a, List.countP_eq_zero.mpr b, List.length_take]
  omega
/-- a sorted list into which one more is laid -/
theorem laid_sorted {ns : List Int} {r : Nat} {x : Int} (hs : ns.Pairwise (· ≤ ·)) (a : ∀ n ∈ ns.take r, n ≤ x) (b : ∀ n ∈ ns.drop r, x ≤ n) : (ns.take r ++ x :: ns.drop r).Pairwise (· ≤ ·) := by
  rw [List.pairwise_append]
  refine ⟨hs.sublist (List.take_sublist ..), List.pairwise_cons.mpr ⟨b, hs.sublist (List.drop_sublist ..)⟩, fun y hy z hz => ?_⟩
  rcases List.mem_cons.mp hz with rfl | hz
  · exact a y hy
  · exact Int.le_trans (a y hy) (b z hz)
theorem laid_perm {ns : List Int} {r : Nat} {x : Int} : (ns.take r ++ x :: ns.drop r).Perm (x :: ns) := by
  have := List.perm_middle (a := x) (l₁ := ns.take r) (l₂ := ns.drop r)
  rwa [List.take_append_drop] at this

abbrev bKinds : List (Str × NameKind) := [("a", .local), ("x", .local), ("lo", .local), ("hi", .local), ("key", .local), ("mid", .local), ("len", .globalImplicit)]

section
variable {w : World} {A : Around} {hb h : Heap} {cs : List Cell} {fd : FuncData} {d u : Nat} {F : Value → Heap → Prop} {l : Addr} {ns : List Int} {x : Int} {tx : Tok} {vs : List Value}

theorem bisR_ok (V : BArgs l x tx vs) (D : DefIs hb 46 (stmtAt 5) (.ref 38) (.ref 39) fd) (df : Dfl hb 38 39) (hA : AOk A (d + 1) (u + 3)) (G : Gd hb Globs Blts) (O : Own hb h cs) (hc : (l, LI ns) ∈ cs) (hz : ns.length < 1000) (hs : ns.Pairwise (· ≤ ·))
    (k : ∀ (r : Nat) t h', r ≤ ns.length → (∀ n ∈ ns.take r, n ≤ x) → (∀ n ∈ ns.drop r, ¬ n ≤ x) → Own hb h' cs → F (.int r t) h') :
    Run w A (PySem.call (.ref 46) vs) h F := by
  obtain ⟨tl, hb'⟩ := binds_dfl (n := 5) (.inr (.inl rfl)) V df O.keep
  refine Run.def' D hA G O (bBinds l x tx tl) (bNames l x) (fun fd e1 => hb' fd e1) ⟨⟨_, rfl, rfl⟩, ⟨_, rfl, _, rfl⟩, ⟨_, rfl, _, rfl⟩, ⟨_, rfl, rfl⟩, ⟨_, rfl, rfl⟩, trivial⟩ bKinds rfl rfl rfl ⟨rfl, rfl, rfl⟩ ?_
  intro L env A' hA' hf
  have mono : ∀ a b : Int, a ≤ b → b ≤ x → a ≤ x := fun _ _ => Int.le_trans
  refine Ex.ite (Ts.cmp (Ev.name rfl rfl) Ev.int Cmp.ltI) (fun q => absurd q (by decide)) (fun _ => Ex.go ?_)
  refine Ex.ite (Ts.cmp (Ev.name rfl rfl) Ev.none Cmp.isN) (fun _ => Ex.assign (Ev.lenL (Ev.name rfl rfl) hc (by omega)) (Ex.go ?_)) (fun q => by cases q)
  refine Ex.ite (Ts.cmp (Ev.name rfl rfl) Ev.none Cmp.isN) (fun _ => ?_) (fun q => by cases q)
  refine Ex.names [("lo", .I (0 : Nat)), ("hi", .I ns.length), ("a", .O l), ("x", .I x)] ⟨rfl, rfl, rfl, rfl, trivial⟩ ?_
  refine Ex.while_ (fun m pl cs' => ∃ lo hi : Nat, m = hi - lo ∧ hi ≤ ns.length ∧ lo ≤ hi ∧ (∀ n ∈ ns.take lo, n ≤ x) ∧ (∀ n ∈ ns.drop hi, ¬ n ≤ x) ∧ cs = cs' ∧ pl = ([("lo", .I lo), ("hi", .I hi), ("a", .O l), ("x", .I x)] : List (Str × PV)))
    ns.length ⟨0, ns.length, rfl, Nat.le_refl _, Nat.zero_le _, by simp, by simp, rfl, rfl⟩ ?_
  rintro _ _ _ ⟨lo, hi, rfl, h1, h2, h3, h4, rfl, rfl⟩
  refine ⟨_, Ts.cmp (Ev.name rfl rfl) (Ev.name rfl rfl) Cmp.ltI, fun q => ?_, fun q => ?_⟩
  · have hlt : lo < hi := by simpa using q
    have hml : (lo + hi) / 2 < ns.length := by omega
    have hm := List.getElem?_eq_getElem hml
    refine Ex.assign (Ev.bin (Ev.bin (Ev.name rfl rfl) (Ev.name rfl rfl) Bin.addI) Ev.int (Bin.divI (by decide) (by decide))) ?_
    rw [mid_is]
    refine Ex.ite (Ts.cmp (Ev.name rfl rfl) (Ev.item (Ev.name rfl rfl) (Ev.name rfl rfl) hc (by omega) hm (by omega)) Cmp.ltI) (fun q => ?_) (fun q => ?_)
    · refine Ex.assign (Ev.name rfl rfl) (Ex.go (WTurn.next ⟨lo, (lo + hi) / 2, rfl, by omega, by omega, h3, part_drop mono hs hm (by simpa using q), rfl, rfl⟩ (by omega) ⟨rfl, rfl, rfl, rfl, trivial⟩))
    · refine Ex.assign (Ev.bin (Ev.name rfl rfl) Ev.int Bin.addI) (Ex.go (WTurn.next ⟨(lo + hi) / 2 + 1, hi, rfl, h1, by omega, part_take mono hs hm (by simpa using q), h4, rfl, rfl⟩ (by omega) ⟨rfl, rfl, rfl, rfl, trivial⟩))
  · have hle : lo = hi := by have : ¬ lo < hi := by simpa using q
                             omega
    subst hle
    exact Ex.go (Ex.ret (Ev.name rfl rfl) fun v h ⟨t, hv⟩ I => hv ▸ k lo t h h1 h3 h4 I.2.tail)

theorem bisL_ok (V : BArgs l x tx vs) (D : DefIs hb 64 (stmtAt 7) (.ref 56) (.ref 57) fd) (df : Dfl hb 56 57) (hA : AOk A (d + 1) (u + 3)) (G : Gd hb Globs Blts) (O : Own hb h cs) (hc : (l, LI ns) ∈ cs) (hz : ns.length < 1000) (hs : ns.Pairwise (· ≤ ·))
    (k : ∀ (r : Nat) t h', r ≤ ns.length → (∀ n ∈ ns.take r, n < x) → (∀ n ∈ ns.drop r, ¬ n < x) → Own hb h' cs → F (.int r t) h') :
    Run w A (PySem.call (.ref 64) vs) h F := by
  obtain ⟨tl, hb'⟩ := binds_dfl (n := 7) (.inr (.inr (.inr rfl))) V df O.keep
  refine Run.def' D hA G O (bBinds l x tx tl) (bNames l x) (fun fd e1 => hb' fd e1) ⟨⟨_, rfl, rfl⟩, ⟨_, rfl, _, rfl⟩, ⟨_, rfl, _, rfl⟩, ⟨_, rfl, rfl⟩, ⟨_, rfl, rfl⟩, trivial⟩ bKinds rfl rfl rfl ⟨rfl, rfl, rfl⟩ ?_
  intro L env A' hA' hf
  have mono : ∀ a b : Int, a ≤ b → b < x → a < x := fun _ _ => Int.lt_of_le_of_lt
  refine Ex.ite (Ts.cmp (Ev.name rfl rfl) Ev.int Cmp.ltI) (fun q => absurd q (by decide)) (fun _ => Ex.go ?_)
  refine Ex.ite (Ts.cmp (Ev.name rfl rfl) Ev.none Cmp.isN) (fun _ => Ex.assign (Ev.lenL (Ev.name rfl rfl) hc (by omega)) (Ex.go ?_)) (fun q => by cases q)
  refine Ex.ite (Ts.cmp (Ev.name rfl rfl) Ev.none Cmp.isN) (fun _ => ?_) (fun q => by cases q)
  refine Ex.names [("lo", .I (0 : Nat)), ("hi", .I ns.length), ("a", .O l), ("x", .I x)] ⟨rfl, rfl, rfl, rfl, trivial⟩ ?_
  refine Ex.while_ (fun m pl cs' => ∃ lo hi : Nat, m = hi - lo ∧ hi ≤ ns.length ∧ lo ≤ hi ∧ (∀ n ∈ ns.take lo, n < x) ∧ (∀ n ∈ ns.drop hi, ¬ n < x) ∧ cs = cs' ∧ pl = ([("lo", .I lo), ("hi", .I hi), ("a", .O l), ("x", .I x)] : List (Str × PV)))
    ns.length ⟨0, ns.length, rfl, Nat.le_refl _, Nat.zero_le _, by simp, by simp, rfl, rfl⟩ ?_
  rintro _ _ _ ⟨lo, hi, rfl, h1, h2, h3, h4, rfl, rfl⟩
  refine ⟨_, Ts.cmp (Ev.name rfl rfl) (Ev.name rfl rfl) Cmp.ltI, fun q => ?_, fun q => ?_⟩
  · have hlt : lo < hi := by simpa using q
    have hml : (lo + hi) / 2 < ns.length := by omega
    have hm := List.getElem?_eq_getElem hml
    refine Ex.assign (Ev.bin (Ev.bin (Ev.name rfl rfl) (Ev.name rfl rfl) Bin.addI) Ev.int (Bin.divI (by decide) (by decide))) ?_
    rw [mid_is]
    refine Ex.ite (Ts.cmp (Ev.item (Ev.name rfl rfl) (Ev.name rfl rfl) hc (by omega) hm (by omega)) (Ev.name rfl rfl) Cmp.ltI) (fun q => ?_) (fun q => ?_)
    · exact Ex.assign (Ev.bin (Ev.name rfl rfl) Ev.int Bin.addI) (Ex.go (WTurn.next ⟨(lo + hi) / 2 + 1, hi, rfl, h1, by omega, part_take mono hs hm (by simpa using q), h4, rfl, rfl⟩ (by omega) ⟨rfl, rfl, rfl, rfl, trivial⟩))
    · exact Ex.assign (Ev.name rfl rfl) (Ex.go (WTurn.next ⟨lo, (lo + hi) / 2, rfl, by omega, by omega, h3, part_drop mono hs hm (by simpa using q), rfl, rfl⟩ (by omega) ⟨rfl, rfl, rfl, rfl, trivial⟩))
  · have hle : lo = hi := by have : ¬ lo < hi := by simpa using q
                             omega
    subst hle
    exact Ex.go (Ex.ret (Ev.name rfl rfl) fun v h ⟨t, hv⟩ I => hv ▸ k lo t h h1 h3 h4 I.2.tail)
abbrev iKinds : List (Str × NameKind) := [("a", .local), ("x", .local), ("lo", .local), ("hi", .local), ("key", .local), ("bisect_right", .globalImplicit), ("bisect_left", .globalImplicit)]
abbrev jKinds : List (Str × NameKind) := [("a", .local), ("x", .local), ("lo", .local), ("hi", .local), ("key", .local), ("bisect_right", .globalImplicit)]
abbrev kKinds : List (Str × NameKind) := [("a", .local), ("x", .local), ("lo", .local), ("hi", .local), ("key", .local), ("bisect_left", .globalImplicit)]
theorem insR_ok {fd2 : FuncData} (D : DefIs hb 37 (stmtAt 4) (.ref 29) (.ref 30) fd) (D2 : DefIs hb 46 (stmtAt 5) (.ref 38) (.ref 39) fd2) (df : Dfl hb 29 30) (df2 : Dfl hb 38 39) (hA : AOk A (d + 2) (u + 6)) (G : Gd hb Globs Blts) (O : Own hb h ((l, LI ns) :: cs)) (hz : ns.length < 1000) (hs : ns.Pairwise (· ≤ ·))
    (k : ∀ ms h', ms.Perm (x :: ns) → ms.Pairwise (· ≤ ·) → Own hb h' ((l, LI ms) :: cs) → F .none h') :
    Run w A (PySem.call (.ref 37) [.ref l, .int x tx]) h F := by
  obtain ⟨tl, hb'⟩ := binds_dfl (n := 4) (.inl rfl) (.two (l := l) (x := x) (tx := tx)) df O.keep
  refine Run.def' D hA G O (bBinds l x tx tl) (bNames l x) (fun fd e1 => hb' fd e1) ⟨⟨_, rfl, rfl⟩, ⟨_, rfl, _, rfl⟩, ⟨_, rfl, _, rfl⟩, ⟨_, rfl, rfl⟩, ⟨_, rfl, rfl⟩, trivial⟩ jKinds rfl rfl rfl ⟨rfl, rfl, rfl⟩ ?_
  intro L env A' hA' hf
  refine Ex.ite (Ts.cmp (Ev.name rfl rfl) Ev.none Cmp.isN) (fun _ => ?_) (fun q => by cases q)
  refine Ex.assignP (EvP.def_ (P := fun p ds => ∃ r : Nat, p = .I r ∧ ds = (l, LI ns) :: cs ∧ r ≤ ns.length ∧ (∀ n ∈ ns.take r, n ≤ x) ∧ (∀ n ∈ ns.drop r, ¬ n ≤ x)) D2.fn
    (Evs.cons (Ev.name rfl rfl) (Evs.cons (Ev.name rfl rfl) (Evs.cons (Ev.name rfl rfl) (Evs.cons (Ev.name rfl rfl) Evs.nil)))) (fun vs h hv I G' kk => ?_)) ?_
  · cases hv with | cons a hv => cases hv with | cons b hv => cases hv with | cons c hv => cases hv with | cons e hv => cases hv with | nil =>
    cases a; obtain ⟨t1, rfl⟩ := b; obtain ⟨t2, rfl⟩ := c; cases e
    exact bisR_ok (.four t2) D2 df2 hA' G I.2 (.tail _ (.head _)) hz hs fun r t h' h1 h2 h3 O' => kk _ _ _ _ ⟨r, rfl, rfl, h1, h2, h3⟩ ⟨t, rfl⟩ ⟨I.1, O'⟩
  rintro _ _ ⟨r, rfl, rfl, h1, h2, h3⟩
  refine Ex.go (Ex.exprP (EvP.insert (Ev.name rfl rfl) (Ev.name rfl rfl) (Ev.name rfl rfl) (by omega) h1) (fun p cs' q => q.1) fun cs' q => ?_)
  obtain ⟨_, rfl⟩ := q
  exact Ex.nil fun h I => k _ h laid_perm (laid_sorted hs h2 fun n hn => by have := h3 n hn; omega) I.2.tail
theorem insL_ok {fd2 : FuncData} (D : DefIs hb 55 (stmtAt 6) (.ref 47) (.ref 48) fd) (D2 : DefIs hb 64 (stmtAt 7) (.ref 56) (.ref 57) fd2) (df : Dfl hb 47 48) (df2 : Dfl hb 56 57) (hA : AOk A (d + 2) (u + 6)) (G : Gd hb Globs Blts) (O : Own hb h ((l, LI ns) :: cs)) (hz : ns.length < 1000) (hs : ns.Pairwise (· ≤ ·))
    (k : ∀ ms h', ms.Perm (x :: ns) → ms.Pairwise (· ≤ ·) → Own hb h' ((l, LI ms) :: cs) → F .none h') :
    Run w A (PySem.call (.ref 55) [.ref l, .int x tx]) h F := by
  obtain ⟨tl, hb'⟩ := binds_dfl (n := 6) (.inr (.inr (.inl rfl))) (.two (l := l) (x := x) (tx := tx)) df O.keep
  refine Run.def' D hA G O (bBinds l x tx tl) (bNames l x) (fun fd e1 => hb' fd e1) ⟨⟨_, rfl, rfl⟩, ⟨_, rfl, _, rfl⟩, ⟨_, rfl, _, rfl⟩, ⟨_, rfl, rfl⟩, ⟨_, rfl, rfl⟩, trivial⟩ kKinds rfl rfl rfl ⟨rfl, rfl, rfl⟩ ?_
  intro L env A' hA' hf
  refine Ex.ite (Ts.cmp (Ev.name rfl rfl) Ev.none Cmp.isN) (fun _ => ?_) (fun q => by cases q)
  refine Ex.assignP (EvP.def_ (P := fun p ds => ∃ r : Nat, p = .I r ∧ ds = (l, LI ns) :: cs ∧ r ≤ ns.length ∧ (∀ n ∈ ns.take r, n < x) ∧ (∀ n ∈ ns.drop r, ¬ n < x)) D2.fn
    (Evs.cons (Ev.name rfl rfl) (Evs.cons (Ev.name rfl rfl) (Evs.cons (Ev.name rfl rfl) (Evs.cons (Ev.name rfl rfl) Evs.nil)))) (fun vs h hv I G' kk => ?_)) ?_
  · cases hv with | cons a hv => cases hv with | cons b hv => cases hv with | cons c hv => cases hv with | cons e hv => cases hv with | nil =>
    cases a; obtain ⟨t1, rfl⟩ := b; obtain ⟨t2, rfl⟩ := c; cases e
    exact bisL_ok (.four t2) D2 df2 hA' G I.2 (.tail _ (.head _)) hz hs fun r t h' h1 h2 h3 O' => kk _ _ _ _ ⟨r, rfl, rfl, h1, h2, h3⟩ ⟨t, rfl⟩ ⟨I.1, O'⟩
  rintro _ _ ⟨r, rfl, rfl, h1, h2, h3⟩
  refine Ex.go (Ex.exprP (EvP.insert (Ev.name rfl rfl) (Ev.name rfl rfl) (Ev.name rfl rfl) (by omega) h1) (fun p cs' q => q.1) fun cs' q => ?_)
  obtain ⟨_, rfl⟩ := q
  exact Ex.nil fun h I => k _ h laid_perm (laid_sorted hs (fun n hn => Int.le_of_lt (h2 n hn)) fun n hn => by have := h3 n hn; omega) I.2.tail
/-- a search's place, told by counting -/
theorem bisR_count (D : DefIs hb 46 (stmtAt 5) (.ref 38) (.ref 39) fd) (df : Dfl hb 38 39) (hA : AOk A (d + 1) (u + 3)) (G : Gd hb Globs Blts) (O : Own hb h cs) (hc : (l, LI ns) ∈ cs) (hz : ns.length < 1000) (hs : ns.Pairwise (· ≤ ·))
    (k : ∀ t h', Own hb h' cs → F (.int (ns.countP (fun n => decide (n ≤ x)) : Nat) t) h') : Run w A (PySem.call (.ref 46) [.ref l, .int x tx]) h F :=
  bisR_ok .two D df hA G O hc hz hs fun r t h' h1 h2 h3 O' => part_count (p := fun n => decide (n ≤ x)) h1 (fun n hn => by simpa using h2 n hn) (fun n hn => by simpa using h3 n hn) ▸ k t h' O'
theorem bisL_count (D : DefIs hb 64 (stmtAt 7) (.ref 56) (.ref 57) fd) (df : Dfl hb 56 57) (hA : AOk A (d + 1) (u + 3)) (G : Gd hb Globs Blts) (O : Own hb h cs) (hc : (l, LI ns) ∈ cs) (hz : ns.length < 1000) (hs : ns.Pairwise (· ≤ ·))
    (k : ∀ t h', Own hb h' cs → F (.int (ns.countP (fun n => decide (n < x)) : Nat) t) h') : Run w A (PySem.call (.ref 64) [.ref l, .int x tx]) h F :=
  bisL_ok .two D df hA G O hc hz hs fun r t h' h1 h2 h3 O' => part_count (p := fun n => decide (n < x)) h1 (fun n hn => by simpa using h2 n hn) (fun n hn => by simpa using h3 n hn) ▸ k t h' O'
end

/-! T4cells -/
theorem getD_some {ns : List Int} {w : Nat} (h : w < ns.length) : ns[w]? = some (ns.getD w 0) := by simp [h]
/-- a list, of what is known alone that it holds these -/
def WL (ps : List PV) (o : Obj) : Prop := o.cls = .type "list" ∧ ∃ vs n, o.data = .seq vs.toArray n ∧ Ares ps vs
theorem LP.wl {ps : List PV} {o : Obj} (x : LP ps o) : WL ps o := let ⟨vs, ⟨n, q⟩, b⟩ := x; q ▸ ⟨rfl, vs, n, rfl, b⟩
theorem wl_at {h : Heap} {a : Addr} {ps : List PV} (x : ∃ o, h.get? a = some o ∧ WL ps o) : ∃ vs, h.IsList a vs.toArray ∧ Ares ps vs := let ⟨o, e, c, vs, n, q, r⟩ := x; ⟨vs, ⟨o, e, c, n, q⟩, r⟩
theorem at_wl {h : Heap} {a : Addr} {ps : List PV} {vs : List Value} (x : h.IsList a vs.toArray) (r : Ares ps vs) : ∃ o, h.get? a = some o ∧ WL ps o := let ⟨o, e, c, n, q⟩ := x; ⟨o, e, c, vs, n, q, r⟩
theorem Ares.set {ps : List PV} {vs : List Value} {p : PV} {v : Value} (x : Ares ps vs) (n : Nat) (hp : p.is v) : Ares (ps.set n p) (vs.set n v) := by
  induction x generalizing n with
  | nil => exact .nil
  | cons h t ih => cases n with
    | zero => exact .cons hp t
    | succ n => exact .cons h (ih n)

section
variable {B : Base} {ks : Kinds} {pl : Names} {cs l₁ l₂ : List Cell} {e l r v s o i value : Expr} {pos pos' fp : Pos} {a : Addr} {ps : List PV} {p p₀ q : PV} {F : Flow → Heap → Prop} {rest : List Stmt} {op : Operator} {vs : List Value} {ns : List Int}
/-- o[i] op= e, on a list -/
theorem Ex.augItem {j : Int} (ho : Ev B ks pl (l₁ ++ (a, WL ps) :: l₂) o (.O a)) (hi : Ev B ks pl (l₁ ++ (a, WL ps) :: l₂) i (.I j)) (h0 : 0 ≤ j) (hz : j < 2 ^ 63) (hj : ps[j.toNat]? = some p₀) (he : Ev B ks pl (l₁ ++ (a, WL ps) :: l₂) value q) (hop : Inp op p₀ q p)
    (k : Ex B ks pl (l₁ ++ (a, WL (ps.set j.toNat p)) :: l₂) rest F)
    (ha : ∀ ov iv new, augStore i ov iv new = (do holding [new, ov, iv] (setItem ov iv new); release [new, ov, iv] []; Pure.pure .next) := by intro _ _ _; rfl) : Ex B ks pl (l₁ ++ (a, WL ps) :: l₂) (.AugAssign (.Subscript o i pos') op value pos :: rest) F := fun h I => by
  refine Run.seq fun s hs => wpAny_AugAssign_Subscript_any (wpAny_mono (ho h I (fun v h' => v = .ref a ∧ Is B ks pl (l₁ ++ (a, WL ps) :: l₂) h') (fun v h' hv I' => ⟨hv, I'⟩) s hs) (fun ov s₁ q₁ => ?_) fun _ _ e => e) ha
  obtain ⟨S₁, rfl, I₁⟩ := q₁
  refine wpAny_mono (hi _ I₁ (fun v h' => (∃ t, v = .int j t) ∧ Is B ks pl (l₁ ++ (a, WL ps) :: l₂) h') (fun v h' hv I' => ⟨hv, I'⟩) s₁ rfl) (fun iv s₂ q₂ => ?_) fun _ _ e => e
  obtain ⟨S₂, ⟨t, rfl⟩, I₂⟩ := q₂
  obtain ⟨vs, lv, iv⟩ := wl_at (I₂.at.get (.head _))
  obtain ⟨v₀, hv₀, hp₀⟩ := iv.get _ _ hj
  refine wpAny_getItem_list lv h0 hz (by simpa using hv₀) ?_
  refine wpAny_mono (he _ I₂ (fun v h' => q.is v ∧ Is B ks pl (l₁ ++ (a, WL ps) :: l₂) h') (fun v h' hv I' => ⟨hv, I'⟩) s₂ rfl) (fun vv s₃ q₃ => ?_) fun _ _ e => e
  obtain ⟨S₃, hv, I₃⟩ := q₃
  refine wpAny_mono (hop B.w B.A s₃.heap (fun v h' => p.is v ∧ Is B ks pl (l₁ ++ (a, WL ps) :: l₂) h') v₀ vv hp₀ hv (fun v hv => ⟨hv, I₃⟩) s₃ rfl) (fun nv s₄ q₄ => ?_) fun _ _ e => e
  obtain ⟨S₄, hnv, I₄⟩ := q₄
  obtain ⟨ws, lw, iw⟩ := wl_at (I₄.at.get (.head _))
  obtain ⟨hlt, _⟩ := List.getElem?_eq_some_iff.mp hj
  have hwl := iw.len
  refine wpAny_setItem_list lw h0 hz (by rw [List.size_toArray]; omega) fun h' hl' hs' => ⟨((S₁.trans S₂).trans S₃).trans ⟨S₄.1, S₄.2, S₄.3⟩, ?_⟩
  refine k h' (I₄.back (I₄.at.change hs' (at_wl (vs := ws.set j.toNat nv) ?_ (iw.set _ hnv))))
  simpa using hl'
theorem lk {hb h : Heap} {a : Addr} {its : Array Value} {ds : List Cell} (x : hb.IsList a its) (O : Own hb h ds) : h.IsList a its := let ⟨o, e, r⟩ := x; ⟨o, O.keep _ _ e, r⟩
/-- len and items of a list of the base's -/
theorem Ev.lenB (he : Ev B ks pl cs e (.O a)) (hl : B.hb.IsList a vs.toArray) (hi : IntsAre vs ns) (hz : ns.length < 2 ^ 62) (hk : ks.lookup ("len" : Str) = some NameKind.globalImplicit := by rfl)
    (hs : starEach [e] B.env = [(false, eval e B.env)] := by rfl) (hn : eval (.Call (.Name "len" fp) [e] [] pos) B.env = (do callWith pos (← eval (.Name "len" fp) B.env) [] (backTo pos (starEach [e] B.env)) (backToKw pos (keywordEach [] B.env))) := by rfl) : Ev B ks pl cs (.Call (.Name "len" fp) [e] [] pos) (.I ns.length) :=
  fun h I F k => Run.call (Run.builtin I.1.1 I.1.2.1 I.2 hk rfl (Run.callBuiltin (first := []) (Run.args (he h I _ fun v h hv I => Run.args0 (by
    cases hv
    refine Run.lib fun s Q z q => ?_
    subst z
    have hl' := ints_len hi
    exact PyProof.Rows.len_list (lk hl I.2) (by rw [List.size_toArray]; omega) (q _ _ (k _ _ ⟨_, by rw [List.size_toArray, hl']⟩ I)))) hs) hs rfl)) hn
theorem Ev.itemB {j n : Int} (hv : Ev B ks pl cs v (.O a)) (hs : Ev B ks pl cs s (.I j)) (hl : B.hb.IsList a vs.toArray) (hi : IntsAre vs ns) (h0 : 0 ≤ j) (hn : ns[j.toNat]? = some n) (hz : j < 2 ^ 63)
    (hsub : ∀ u, subscripted s false (.ref a) (.int j u) = operate [.ref a, .int j u] (getItem (.ref a) (.int j u)) := by intro _; rfl) (hg : ∀ r, letTemporaryGo v (.ref a) r = Pure.pure () := by intro _; rfl) : Ev B ks pl cs (.Subscript v s pos) (.I n) :=
  fun h I F k => Run.sub (hv h I _ fun vv h hvv I => hs h I _ fun vi h ⟨ti, hvi⟩ I => by
    cases hvv; subst hvi
    refine Run.lib fun st Q z q => ?_
    subst z
    obtain ⟨t, ht⟩ := ints_get hi _ _ hn
    exact item_list (lk hl I.2) h0 hz (by simpa using ht) (q _ _ (k _ _ ⟨t, rfl⟩ I)) (hsub _) hg)
end

section
variable {w : World} {A : Around} {hb h : Heap} {cs : List Cell} {fd : FuncData} {d u : Nat} {F : Value → Heap → Prop}
/-! ## _law_cells: four ints -/
theorem cells_ok {l : Addr} {vs : List Value} {script : List Int} (D : DefIs hb 231 (stmtAt 18) .none .none fd) (hA : AOk A (d + 1) (u + 3)) (G : Gd hb Globs Blts) (O : Own hb h cs) (hl : hb.IsList l vs.toArray) (hi : IntsAre vs script) (hz : script.length < 1000)
    (k : ∀ a h' (ns : List Int), ns.length = 4 → Own hb h' ((a, WL (ns.map .I)) :: cs) → F (.ref a) h') :
    Run w A (PySem.call (.ref 231) [.ref l]) h F := by
  refine Run.def' D hA G O [("script", .ref l)] [("script", .O l)] (fun fd e1 e2 e3 s hs => BindsTo.of_eq ?_) ⟨⟨_, rfl, rfl⟩, trivial⟩
    [("script", .local), ("cells", .local), ("place", .local), ("range", .globalImplicit), ("len", .globalImplicit)] rfl rfl rfl ⟨rfl, rfl, rfl⟩ ?_
  · cases fd; cases e1; cases e2; cases e3; rfl
  intro L env A' hA' hf
  refine Ex.assignP (EvP.list (Q := fun p ds => ∃ a, p = .O a ∧ ds = (a, LP ([10, 28, 32, 16].map .I)) :: cs) (EvsP.of (Evs.cons Ev.int (Evs.cons Ev.int (Evs.cons Ev.int (Evs.cons Ev.int Evs.nil)))) ⟨by simp, fun a => ⟨a, rfl, rfl⟩⟩)) ?_
  rintro _ _ ⟨a, rfl, rfl⟩
  refine Ex.names [("cells", .O a), ("script", .O l)] ⟨rfl, rfl, trivial⟩ (Ex.weak (l₁ := []) (fun _ => LP.wl) ?_)
  refine Ex.forRng (m := 0) (n := script.length) script.length (by omega) (EvP.range1 (Ev.lenB (Ev.name rfl rfl) hl hi (by omega)) fun a => ⟨a, rfl, rfl⟩) ?_ (fun i pl ds => ∃ ns : List Int, ns.length = 4 ∧ ds = (a, WL (ns.map .I)) :: cs ∧ pl = ([("cells", .O a), ("script", .O l)] : List (Str × PV))) ⟨[10, 28, 32, 16], rfl, rfl, rfl⟩ ?_ ?_
  · exact small_one (by omega) (by omega) (by omega) (by omega)
  · rintro i it _ _ hi' ⟨ns, h4, rfl, rfl⟩
    have e4 : (0 + (i : Int)).fmod 4 = ((i % 4 : Nat) : Int) := by rw [Int.zero_add]; exact (Int.ofNat_fmod i 4).symm
    have hj : i % 4 < ns.length := by omega
    refine Ex.augItem (l₁ := [_]) (Ev.name rfl rfl) (Ev.bin (Ev.name rfl rfl) Ev.int (Bin.modI (by decide))) (by omega) (by omega) (p₀ := .I (ns.getD (i % 4) 0)) ?_ (Ev.itemB (n := script.getD i 0) (Ev.name rfl rfl) (Ev.name rfl rfl) hl hi (by omega) ?_ (by omega)) Inp.addI ?_
    · rw [e4, Int.toNat_natCast, List.getElem?_map, getD_some hj]; rfl
    · rw [Int.zero_add, Int.toNat_natCast]; exact getD_some hi'
    · refine Turn.next ⟨ns.set (i % 4) (ns.getD (i % 4) 0 + script.getD i 0), by simpa using h4, ?_, rfl⟩ ⟨rfl, rfl, trivial⟩
      rw [e4, Int.toNat_natCast, List.map_set]; rfl
  · rintro _ _ ⟨ns, h4, rfl, rfl⟩
    exact Ex.ret (Ev.name rfl rfl) fun v h hv I => by cases hv; exact k a h ns h4 I.2.tail

/-! ## _law_least -/
def leastAt (rs : List (List Int)) (looks : List Int) : Nat → Nat
  | 0 => 4
  | w + 1 => min (leastAt rs looks w) ((rs.getD w []).count (looks.getD w 0))
theorem leastAt_zero {rs : List (List Int)} {looks : List Int} {m n : Nat} (h : leastAt rs looks m = 0) (hn : m ≤ n) : leastAt rs looks n = 0 := by
  induction hn with
  | refl => exact h
  | step _ ih => show min _ _ = 0; rw [ih]; exact Nat.zero_min _
theorem count_diff (ns : List Int) (x : Int) : ns.countP (fun n => decide (n ≤ x)) = ns.countP (fun n => decide (n < x)) + ns.count x := by
  induction ns with
  | nil => rfl
  | cons n r ih =>
    rw [List.countP_cons, List.countP_cons, List.count_cons, ih]
    by_cases h1 : n < x
    · have : ¬ n = x := by omega
      simp [h1, this, Int.le_of_lt h1]; omega
    · by_cases h2 : n = x
      · subst h2; simp; omega
      · have : ¬ n ≤ x := by omega
        simp [h1, h2, this]
theorem least_ok {fd2 fd3 : FuncData} {R K : Addr} {as : List Addr} {rs : List (List Int)} {looks : List Int} (D : DefIs hb 264 (stmtAt 23) .none .none fd) (D2 : DefIs hb 46 (stmtAt 5) (.ref 38) (.ref 39) fd2) (df2 : Dfl hb 38 39) (D3 : DefIs hb 64 (stmtAt 7) (.ref 56) (.ref 57) fd3) (df3 : Dfl hb 56 57)
    (hA : AOk A (d + 2) (u + 6)) (G : Gd hb Globs Blts) (O : Own hb h cs) (hR : (R, LP (as.map .O)) ∈ cs) (hK : (K, LI looks) ∈ cs) (l1 : as.length = 5) (l2 : looks.length = 5) (l3 : rs.length = 5)
    (hr : ∀ w, w < 5 → (as.getD w 0, LI (rs.getD w [])) ∈ cs ∧ (rs.getD w []).length < 1000 ∧ (rs.getD w []).Pairwise (· ≤ ·))
    (k : ∀ t h', Own hb h' cs → F (.int (leastAt rs looks 5 : Nat) t) h') :
    Run w A (PySem.call (.ref 264) [.ref R, .ref K]) h F := by
  refine Run.def' D hA G O [("rows", .ref R), ("looks", .ref K)] [("rows", .O R), ("looks", .O K)] (fun fd e1 e2 e3 s hs => BindsTo.of_eq ?_) ⟨⟨_, rfl, rfl⟩, ⟨_, rfl, rfl⟩, trivial⟩
    [("rows", .local), ("looks", .local), ("least", .local), ("way", .local), ("range", .globalImplicit), ("min", .globalImplicit), ("bisect_right", .globalImplicit), ("bisect_left", .globalImplicit)] rfl rfl rfl ⟨rfl, rfl, rfl⟩ ?_
  · cases fd; cases e1; cases e2; cases e3; rfl
  intro L env A' hA' hf
  refine Ex.assign Ev.int (Ex.names [("least", .I ((leastAt rs looks 0 : Nat) : Int)), ("rows", .O R), ("looks", .O K)] ⟨rfl, rfl, rfl, trivial⟩ ?_)
  refine Ex.forRng (m := 0) (n := 5) 5 rfl (EvP.range1 Ev.int fun a => ⟨a, rfl, rfl⟩) rfl (fun i pl ds => ds = cs ∧ pl = ([("least", .I ((leastAt rs looks i : Nat) : Int)), ("rows", .O R), ("looks", .O K)] : List (Str × PV))) ⟨rfl, rfl⟩ ?_ ?_
  · rintro i it _ _ hi ⟨rfl, rfl⟩
    obtain ⟨hm, hz, hs⟩ := hr i hi
    have ei : (0 + (i : Int)).toNat = i := by rw [Int.zero_add]; rfl
    have hrow : (as.map PV.O)[(0 + (i : Int)).toNat]? = some (.O (as.getD i 0)) := by rw [ei, List.getElem?_map, List.getElem?_eq_getElem (by omega)]; simp [List.getD_eq_getElem?_getD, show i < as.length by omega]
    have hlook : looks[(0 + (i : Int)).toNat]? = some (looks.getD i 0) := by rw [ei]; exact getD_some (by omega)
    refine Ex.assign (Ev.min2 (Ev.name rfl rfl) (Ev.bin (a := .I ((rs.getD i []).countP (fun n => decide (n ≤ looks.getD i 0)) : Nat)) (b := .I ((rs.getD i []).countP (fun n => decide (n < looks.getD i 0)) : Nat))
      (Ev.def_ D2.fn (Evs.cons (Ev.itemP (Ev.name rfl rfl) (Ev.name rfl rfl) (.tail _ hR) (by omega) hrow (by omega)) (Evs.cons (Ev.item (Ev.name rfl rfl) (Ev.name rfl rfl) (.tail _ hK) (by omega) hlook (by omega)) Evs.nil)) fun vs h hv I G' kk => ?_)
      (Ev.def_ D3.fn (Evs.cons (Ev.itemP (Ev.name rfl rfl) (Ev.name rfl rfl) (.tail _ hR) (by omega) hrow (by omega)) (Evs.cons (Ev.item (Ev.name rfl rfl) (Ev.name rfl rfl) (.tail _ hK) (by omega) hlook (by omega)) Evs.nil)) fun vs h hv I G' kk => ?_) Bin.subI)) ?_
    · cases hv with | cons a hv => cases hv with | cons b hv => cases hv with | nil =>
      cases a; obtain ⟨t1, rfl⟩ := b
      exact bisR_count D2 df2 hA' G I.2 (.tail _ (.tail _ hm)) hz hs fun t h' O' => kk _ _ ⟨t, rfl⟩ ⟨I.1, O'⟩
    · cases hv with | cons a hv => cases hv with | cons b hv => cases hv with | nil =>
      cases a; obtain ⟨t1, rfl⟩ := b
      exact bisL_count D3 df3 hA' G I.2 (.tail _ (.tail _ hm)) hz hs fun t h' O' => kk _ _ ⟨t, rfl⟩ ⟨I.1, O'⟩
    · have ev : min ((leastAt rs looks i : Nat) : Int) (((rs.getD i []).countP (fun n => decide (n ≤ looks.getD i 0)) : Nat) - ((rs.getD i []).countP (fun n => decide (n < looks.getD i 0)) : Nat)) = ((leastAt rs looks (i + 1) : Nat) : Int) := by
        rw [count_diff]
        show _ = ((min (leastAt rs looks i) _ : Nat) : Int)
        omega
      rw [ev]
      refine Ex.ite (Ts.cmp (Ev.name rfl rfl) Ev.int Cmp.eqI) (fun q => ?_) (fun q => ?_)
      · refine Ex.ret Ev.int fun v h ⟨t, hv⟩ I => ?_
        have hz0 : leastAt rs looks (i + 1) = 0 := by have : ((leastAt rs looks (i + 1) : Nat) : Int) = 0 := by simpa using q
                                                      omega
        have h5 := leastAt_zero hz0 (show i + 1 ≤ 5 by omega)
        subst hv
        have := k t h I.2.tail.tail
        rw [h5] at this
        exact this
      · exact Ex.go (Turn.next ⟨rfl, rfl⟩ ⟨rfl, rfl, rfl, trivial⟩)
  · rintro _ _ ⟨rfl, rfl⟩
    exact Ex.ret (Ev.name rfl rfl) fun v h ⟨t, hv⟩ I => hv ▸ k t h I.2.tail
end

/-! T3looks -/
theorem mulOk_r {a b : Int} (h : b.natAbs < 1048576) : IntMulOk a b := .of_right (by
  unfold Builtin.Int.intBits
  split
  · decide
  · rename_i h0
    have := (Nat.log2_lt (n := b.natAbs) (k := 20) (by simpa using h0)).mpr h
    omega)
theorem mulOk_l {a b : Int} (h : a.natAbs < 1048576) : IntMulOk a b := .of_left (by
  unfold Builtin.Int.intBits
  split
  · decide
  · rename_i h0
    have := (Nat.log2_lt (n := a.natAbs) (k := 20) (by simpa using h0)).mpr h
    omega)

/-! ## _law_looks -/
def hueL (turn tabs blanks : Int) : Int := if tabs < blanks then (24 * turn + 24 - (12 * tabs).fdiv blanks).fmod 72 else if 0 < tabs then 24 * turn + (12 * blanks).fdiv tabs else 0
def wayL (starts sizes : List Int) (tabs blanks : Int) (w : Nat) : Int := starts.getD w 0 + sizes.getD w 0 * tabs + blanks
def looksL (starts sizes : List Int) (turn tabs blanks : Int) : List Int := hueL turn tabs blanks :: (List.range 4).map (wayL starts sizes tabs blanks)

theorem looks_ok {w : World} {A : Around} {hb h : Heap} {cs : List Cell} {fd : FuncData} {d u : Nat} {F : Value → Heap → Prop} {S Z : Addr} {starts sizes : List Int} {turn tabs blanks : Nat} {t1 t2 t3 : Tok} (D : DefIs hb 245 (stmtAt 20) .none .none fd) (hA : AOk A (d + 1) (u + 3)) (G : Gd hb Globs Blts) (O : Own hb h cs)
    (hS : (S, LI starts) ∈ cs) (hZ : (Z, LI sizes) ∈ cs) (l1 : starts.length = 4) (l2 : sizes.length = 4) (h1 : turn < 3) (h2 : tabs < 4) (h3 : blanks < 5)
    (k : ∀ a h', Own hb h' ((a, LI (looksL starts sizes turn tabs blanks)) :: cs) → F (.ref a) h') :
    Run w A (PySem.call (.ref 245) [.ref S, .ref Z, .int turn t1, .int tabs t2, .int blanks t3]) h F := by
  refine Run.def' D hA G O [("starts", .ref S), ("sizes", .ref Z), ("turn", .int turn t1), ("tabs", .int tabs t2), ("blanks", .int blanks t3)] [("starts", .O S), ("sizes", .O Z), ("turn", .I turn), ("tabs", .I tabs), ("blanks", .I blanks)] (fun fd e1 e2 e3 s hs => BindsTo.of_eq ?_)
    ⟨⟨_, rfl, rfl⟩, ⟨_, rfl, rfl⟩, ⟨_, rfl, _, rfl⟩, ⟨_, rfl, _, rfl⟩, ⟨_, rfl, _, rfl⟩, trivial⟩
    [("starts", .local), ("sizes", .local), ("turn", .local), ("tabs", .local), ("blanks", .local), ("looks", .local), ("way", .local), ("range", .globalImplicit)] rfl rfl rfl ⟨rfl, rfl, rfl⟩ ?_
  · cases fd; cases e1; cases e2; cases e3; rfl
  intro L env A' hA' hf
  have fin : ∀ a pl, PicksQ pl [("looks", .O a), ("starts", .O S), ("sizes", .O Z), ("tabs", .I tabs), ("blanks", .I blanks)] →
      Ex ⟨w, A', hb, env, L⟩ [("starts", .local), ("sizes", .local), ("turn", .local), ("tabs", .local), ("blanks", .local), ("looks", .local), ("way", .local), ("range", .globalImplicit)] pl ((a, LP ([hueL turn tabs blanks].map .I)) :: cs)
        (match stmtAt 20 with | .FunctionDef _ _ (_ :: r) .. => r | _ => []) (fun fl h' => F (match fl with | .ret v => v | _ => .none) h') := by
    intro a pl hpl
    refine Ex.names _ hpl ?_
    refine Ex.forRng (m := 0) (n := 4) 4 rfl (EvP.range1 Ev.int fun a => ⟨a, rfl, rfl⟩) rfl (fun i pl ds => ds = (a, LP ((hueL turn tabs blanks :: (List.range i).map (wayL starts sizes tabs blanks)).map .I)) :: cs ∧ pl = ([("looks", .O a), ("starts", .O S), ("sizes", .O Z), ("tabs", .I tabs), ("blanks", .I blanks)] : List (Str × PV))) ⟨rfl, rfl⟩ ?_ ?_
    · rintro i it _ _ hi ⟨rfl, rfl⟩
      refine Ex.exprP (EvP.append (P := fun p ds => p = .I (wayL starts sizes tabs blanks i) ∧ ds = (it, RIt (0 + ↑i + 1) (((4 : Nat) : Int) - ↑i - 1) 1) :: (a, LP ((hueL turn tabs blanks :: (List.range i).map (wayL starts sizes tabs blanks)).map .I)) :: cs)
        (Q := fun p ds => p = .N ∧ ds = (it, RIt (0 + ↑i + 1) (((4 : Nat) : Int) - ↑i - 1) 1) :: (a, LP ((hueL turn tabs blanks :: (List.range (i + 1)).map (wayL starts sizes tabs blanks)).map .I)) :: cs)
        (Ev.name rfl rfl) (.tail _ (.head _)) (EvP.of (Ev.bin (Ev.bin (Ev.item (Ev.name rfl rfl) (Ev.name rfl rfl) (.tail _ (.tail _ hS)) (by omega) (getD_some (by omega)) (by omega)) (Ev.bin (Ev.item (Ev.name rfl rfl) (Ev.name rfl rfl) (.tail _ (.tail _ hZ)) (by omega) (getD_some (by omega)) (by omega)) (Ev.name rfl rfl) (Bin.mulI (mulOk_r (by omega)))) Bin.addI) (Ev.name rfl rfl) Bin.addI) ⟨?_, rfl⟩) ?_) (fun _ _ q => q.1) ?_
      · unfold wayL; rw [Int.zero_add, Int.toNat_natCast]
      · rintro p ds ⟨rfl, rfl⟩
        refine ⟨[_], _, _, rfl, by simp; omega, rfl, ?_⟩
        rw [List.range_succ, List.map_append, ← List.cons_append, List.map_append]; rfl
      · rintro cs' ⟨_, rfl⟩
        exact Turn.next ⟨rfl, rfl⟩ ⟨rfl, rfl, rfl, rfl, rfl, trivial⟩
    · rintro _ _ ⟨rfl, rfl⟩
      exact Ex.ret (Ev.name rfl rfl) fun v h hv I => by cases hv; exact k a h (I.weak (l₁ := []) (fun _ => LP.ints)).2.tail
  refine Ex.ite (Ts.cmp (Ev.name rfl rfl) (Ev.name rfl rfl) Cmp.ltI) (fun q => ?_) (fun q => ?_)
  · have hq : (tabs : Int) < blanks := by simpa using q
    refine Ex.assignP (EvP.list (Q := fun p ds => ∃ a, p = .O a ∧ ds = (a, LP [.I (hueL turn tabs blanks)]) :: cs) (EvsP.of (ps := [.I (hueL turn tabs blanks)]) (Evs.cons ?_ Evs.nil) ⟨by simp, fun a => ⟨a, rfl, rfl⟩⟩)) ?_
    · unfold hueL; rw [if_pos hq]
      exact Ev.bin (Ev.bin (Ev.bin (Ev.bin Ev.int (Ev.name rfl rfl) (Bin.mulI (mulOk_r (by omega)))) Ev.int Bin.addI) (Ev.bin (Ev.bin Ev.int (Ev.name rfl rfl) (Bin.mulI (mulOk_r (by omega)))) (Ev.name rfl rfl) (Bin.divI (by omega) (by omega))) Bin.subI) Ev.int (Bin.modI (by decide))
    · rintro _ _ ⟨a, rfl, rfl⟩
      exact Ex.go (fin a _ ⟨rfl, rfl, rfl, rfl, rfl, trivial⟩)
  · have hq : ¬ (tabs : Int) < blanks := by simpa using q
    refine Ex.assignP (EvP.list (Q := fun p ds => ∃ a, p = .O a ∧ ds = (a, LP [.I (hueL turn tabs blanks)]) :: cs) (EvsP.of (ps := [.I (hueL turn tabs blanks)]) (Evs.cons (Ev.ifexp (Ts.cmp (Ev.name rfl rfl) Ev.int Cmp.gtI) (fun q => ?_) (fun q => ?_)) Evs.nil) ⟨by simp, fun a => ⟨a, rfl, rfl⟩⟩)) ?_
    · have h0 : (0 : Int) < tabs := by simpa using q
      unfold hueL; rw [if_neg hq, if_pos h0]
      exact Ev.bin (Ev.bin Ev.int (Ev.name rfl rfl) (Bin.mulI (mulOk_r (by omega)))) (Ev.bin (Ev.bin Ev.int (Ev.name rfl rfl) (Bin.mulI (mulOk_r (by omega)))) (Ev.name rfl rfl) (Bin.divI (by omega) (by omega))) Bin.addI
    · have h0 : ¬ (0 : Int) < tabs := by simpa using q
      unfold hueL; rw [if_neg hq, if_neg h0]
      exact Ev.int
    · rintro _ _ ⟨a, rfl, rfl⟩
      exact Ex.go (fin a _ ⟨rfl, rfl, rfl, rfl, rfl, trivial⟩)

/-! T5rgb -/
/-! max and min of three floats -/
def mx (a b c : UInt64) : UInt64 := let m := if Float64.cmp a b == some .lt then b else a; if Float64.cmp m c == some .lt then c else m
def mn (a b c : UInt64) : UInt64 := let m := if Float64.cmp b a == some .lt then b else a; if Float64.cmp c m == some .lt then c else m
theorem best_max {a b c : UInt64} {t u v : Tok} {x : Value} (h : (#[.float a t, .float b u, .float c v] : Array Value)[argBest (fun i j => PySem.Flt.ltV ((#[.float a t, .float b u, .float c v] : Array Value).getD j .none) ((#[.float a t, .float b u, .float c v] : Array Value).getD i .none)) 2]? = some x) : ∃ k, x = .float (mx a b c) k := by
  unfold mx
  cases q1 : Float64.cmp a b == some .lt <;> cases q2 : Float64.cmp a c == some .lt <;> cases q3 : Float64.cmp b c == some .lt <;> simp [argBest, PySem.Flt.ltV, q1, q2, q3] at h <;> simp [q2, q3] <;> exact ⟨_, h.symm⟩
theorem best_min {a b c : UInt64} {t u v : Tok} {x : Value} (h : (#[.float a t, .float b u, .float c v] : Array Value)[argBest (fun i j => PySem.Flt.ltV ((#[.float a t, .float b u, .float c v] : Array Value).getD i .none) ((#[.float a t, .float b u, .float c v] : Array Value).getD j .none)) 2]? = some x) : ∃ k, x = .float (mn a b c) k := by
  unfold mn
  cases q1 : Float64.cmp b a == some .lt <;> cases q2 : Float64.cmp c a == some .lt <;> cases q3 : Float64.cmp c b == some .lt <;> simp [argBest, PySem.Flt.ltV, q1, q2, q3] at h <;> simp [q2, q3] <;> exact ⟨_, h.symm⟩
section
variable {prog : Program} {w : World} {A : Around} {E : Value → Shared → Prop} {s : Shared} {Q : Value → Shared → Prop} {a b c : UInt64} {t u v : Tok}
theorem three_old {h' : Heap} {x y z : Value} {o : Obj} (k : ∀ d q, d ∉ [(s.heap.push { cls := .type "tuple", data := .seq #[x, y, z] }).objs.size] → ((s.heap.push { cls := .type "tuple", data := .seq #[x, y, z] }).push o).get? d = some q → h'.get? d = some q) :
    ∀ d q, s.heap.get? d = some q → h'.get? d = some q := fun d q e => by
  refine k d q (fun hm => ?_) (Heap.get?_push_of_some _ (Heap.get?_push_of_some _ e))
  have h1 := Heap.lt_size e
  have h2 := List.mem_singleton.mp hm
  rw [Heap.size_push] at h2
  rw [h2] at h1
  exact Nat.lt_irrefl _ (Nat.lt_of_succ_lt h1)
theorem max3_float (hh : A.handled = none) (h : ∀ h' tk k, (∀ d o, s.heap.get? d = some o → h'.get? d = some o) → Q (.float (mx a b c) k) { s with heap := h', toks := tk }) :
    wpAny (model prog w) A (PySem.call (.builtin "max") [.float a t, .float b u, .float c v]) Q E s := by
  have hT : (s.heap.push { cls := .type "tuple", data := .seq #[.float a t, .float b u, .float c v] }).IsTuple s.heap.objs.size #[.float a t, .float b u, .float c v] := ⟨_, Heap.get?_push_size _ rfl, rfl, 0, rfl⟩
  refine call_max_three (wpAny_pyIter_tuple hT ?_)
  have hsz : (s.heap.push { cls := .type "tuple", data := .seq #[.float a t, .float b u, .float c v] }).objs.size = s.heap.objs.size + 1 := Heap.size_push ..
  refine ⟨_, [_, s.heap.objs.size], [_], _, _, _, _, rfl, Walks.tuple (A := A.in1) hh _ s.heap.objs.size (by rw [hsz]; exact Nat.ne_of_lt (Nat.lt_succ_self _)) #[.float a t, .float b u, .float c v],
    ⟨⟨_, Heap.get?_push_size _ rfl, rfl, rfl⟩, hT.push _⟩, fun d hd => ?_, by simp, PySem.Flt.cmpOf_gt #[.float a t, .float b u, .float c v] (by simp [PySem.Flt.NumV.float]), fun x h' tk hP hk => ?_⟩
  · show d < ((s.heap.push _).push _).objs.size
    rw [Heap.size_push, hsz]
    rcases List.mem_cons.mp hd with e | hd
    · rw [e, hsz]; exact Nat.lt_succ_self _
    · rw [List.mem_singleton.mp hd]; exact Nat.lt_succ_of_lt (Nat.lt_succ_self _)
  · have := fun k => h h' tk k (three_old hk)
    have hx : ∃ k, x = .float (mx a b c) k := best_max hP
    obtain ⟨k, rfl⟩ := hx
    exact this k
theorem min3_float (hh : A.handled = none) (h : ∀ h' tk k, (∀ d o, s.heap.get? d = some o → h'.get? d = some o) → Q (.float (mn a b c) k) { s with heap := h', toks := tk }) :
    wpAny (model prog w) A (PySem.call (.builtin "min") [.float a t, .float b u, .float c v]) Q E s := by
  have hT : (s.heap.push { cls := .type "tuple", data := .seq #[.float a t, .float b u, .float c v] }).IsTuple s.heap.objs.size #[.float a t, .float b u, .float c v] := ⟨_, Heap.get?_push_size _ rfl, rfl, 0, rfl⟩
  refine call_min_three (wpAny_pyIter_tuple hT ?_)
  have hsz : (s.heap.push { cls := .type "tuple", data := .seq #[.float a t, .float b u, .float c v] }).objs.size = s.heap.objs.size + 1 := Heap.size_push ..
  refine ⟨_, [_, s.heap.objs.size], [_], _, _, _, _, rfl, Walks.tuple (A := A.in1) hh _ s.heap.objs.size (by rw [hsz]; exact Nat.ne_of_lt (Nat.lt_succ_self _)) #[.float a t, .float b u, .float c v],
    ⟨⟨_, Heap.get?_push_size _ rfl, rfl, rfl⟩, hT.push _⟩, fun d hd => ?_, by simp, PySem.Flt.cmpOf_lt #[.float a t, .float b u, .float c v] (by simp [PySem.Flt.NumV.float]), fun x h' tk hP hk => ?_⟩
  · show d < ((s.heap.push _).push _).objs.size
    rw [Heap.size_push, hsz]
    rcases List.mem_cons.mp hd with e | hd
    · rw [e, hsz]; exact Nat.lt_succ_self _
    · rw [List.mem_singleton.mp hd]; exact Nat.lt_succ_of_lt (Nat.lt_succ_self _)
  · have := fun k => h h' tk k (three_old hk)
    have hx : ∃ k, x = .float (mn a b c) k := best_min hP
    obtain ⟨k, rfl⟩ := hx
    exact this k
end
section
variable {B : Base} {ks : Kinds} {pl : Names} {cs : List Cell} {e f g : Expr} {pos fp : Pos} {a b c : UInt64}
theorem Ev.max3F (he : Ev B ks pl cs e (.F a)) (hf : Ev B ks pl cs f (.F b)) (hg : Ev B ks pl cs g (.F c)) (hk : ks.lookup ("max" : Str) = some .globalImplicit := by rfl) (hq : starEach [e, f, g] B.env = (false, eval e B.env) :: starEach [f, g] B.env := by rfl)
    (hq' : starEach [f, g] B.env = (false, eval f B.env) :: starEach [g] B.env := by rfl) (hq2 : starEach [g] B.env = (false, eval g B.env) :: starEach [] B.env := by rfl)
    (hn : eval (.Call (.Name "max" fp) [e, f, g] [] pos) B.env = (do callWith pos (← eval (.Name "max" fp) B.env) [] (backTo pos (starEach [e, f, g] B.env)) (backToKw pos (keywordEach [] B.env))) := by rfl) : Ev B ks pl cs (.Call (.Name "max" fp) [e, f, g] [] pos) (.F (mx a b c)) :=
  Ev.bltN (Evs.cons he (Evs.cons hf (Evs.cons hg Evs.nil hq2) hq') hq) (fun vs s Z hv k I => by
    cases hv with | cons x hv => cases hv with | cons y hv => cases hv with | cons z hv => cases hv with | nil =>
    obtain ⟨t, rfl⟩ := x
    obtain ⟨u, rfl⟩ := y
    obtain ⟨v, rfl⟩ := z
    exact max3_float I.1.2.2 fun h' tk k' kk => k _ h' tk kk ⟨k', rfl⟩) hk rfl (by decide) hq (by rw [hq', hq2]; rfl) hn
theorem Ev.min3F (he : Ev B ks pl cs e (.F a)) (hf : Ev B ks pl cs f (.F b)) (hg : Ev B ks pl cs g (.F c)) (hk : ks.lookup ("min" : Str) = some .globalImplicit := by rfl) (hq : starEach [e, f, g] B.env = (false, eval e B.env) :: starEach [f, g] B.env := by rfl)
    (hq' : starEach [f, g] B.env = (false, eval f B.env) :: starEach [g] B.env := by rfl) (hq2 : starEach [g] B.env = (false, eval g B.env) :: starEach [] B.env := by rfl)
    (hn : eval (.Call (.Name "min" fp) [e, f, g] [] pos) B.env = (do callWith pos (← eval (.Name "min" fp) B.env) [] (backTo pos (starEach [e, f, g] B.env)) (backToKw pos (keywordEach [] B.env))) := by rfl) : Ev B ks pl cs (.Call (.Name "min" fp) [e, f, g] [] pos) (.F (mn a b c)) :=
  Ev.bltN (Evs.cons he (Evs.cons hf (Evs.cons hg Evs.nil hq2) hq') hq) (fun vs s Z hv k I => by
    cases hv with | cons x hv => cases hv with | cons y hv => cases hv with | cons z hv => cases hv with | nil =>
    obtain ⟨t, rfl⟩ := x
    obtain ⟨u, rfl⟩ := y
    obtain ⟨v, rfl⟩ := z
    exact min3_float I.1.2.2 fun h' tk k' kk => k _ h' tk kk ⟨k', rfl⟩) hk rfl (by decide) hq (by rw [hq', hq2]; rfl) hn
end

/-! ## rgb_to_hls -/
abbrev feq (a b : UInt64) : Bool := Float64.cmp a b == some Ordering.eq
abbrev fle (a b : UInt64) : Bool := Float64.cmp a b == some Ordering.lt || Float64.cmp a b == some Ordering.eq
abbrev f0 : UInt64 := 0
abbrev f05 : UInt64 := 0x3FE0000000000000
abbrev f1 : UInt64 := 0x3FF0000000000000
abbrev f2 : UInt64 := 0x4000000000000000
abbrev f4 : UInt64 := 0x4010000000000000
abbrev f6 : UInt64 := 0x4018000000000000
def hlsL (x n : UInt64) : UInt64 := Float64.div (Float64.add x n) f2
def hlsS (x n : UInt64) : UInt64 := if fle (hlsL x n) f05 then Float64.div (Float64.sub x n) (Float64.add x n) else Float64.div (Float64.sub x n) (Float64.sub (Float64.sub f2 x) n)
def hlsC (x n r : UInt64) : UInt64 := Float64.div (Float64.sub x r) (Float64.sub x n)
def hlsH (x n r g b : UInt64) : UInt64 := if feq r x then Float64.sub (hlsC x n b) (hlsC x n g) else if feq g x then Float64.sub (Float64.add f2 (hlsC x n r)) (hlsC x n b) else Float64.sub (Float64.add f4 (hlsC x n g)) (hlsC x n r)
def hlsOk (x n : UInt64) : Bool := feq n x || (!Float64.isZero (Float64.sub x n) && (if fle (hlsL x n) f05 then !Float64.isZero (Float64.add x n) else !Float64.isZero (Float64.sub (Float64.sub f2 x) n)))
def hls (x n r g b : UInt64) : List UInt64 := if feq n x then [f0, hlsL x n, f0] else [(Float64.divmod (Float64.div (hlsH x n r g b) f6) f1).2, hlsL x n, hlsS x n]

theorem rgb_ok {w : World} {A : Around} {hb h : Heap} {cs : List Cell} {fd : FuncData} {d u : Nat} {F : Value → Heap → Prop} {r g b : UInt64} {t1 t2 t3 : Tok} (D : DefIs hb 28 (stmtAt 2) .none .none fd) (hA : AOk A (d + 1) (u + 3)) (G : Gd hb Globs Blts) (O : Own hb h cs)
    (ok : hlsOk (mx r g b) (mn r g b) = true)
    (k : ∀ a h', Own hb h' ((a, TP ((hls (mx r g b) (mn r g b) r g b).map .F)) :: cs) → F (.ref a) h') :
    Run w A (PySem.call (.ref 28) [.float r t1, .float g t2, .float b t3]) h F := by
  refine Run.def' D hA G O [("r", .float r t1), ("g", .float g t2), ("b", .float b t3)] [("r", .F r), ("g", .F g), ("b", .F b)] (fun fd e1 e2 e3 s hs => BindsTo.of_eq ?_) ⟨⟨_, rfl, _, rfl⟩, ⟨_, rfl, _, rfl⟩, ⟨_, rfl, _, rfl⟩, trivial⟩
    [("r", .local), ("g", .local), ("b", .local), ("maxc", .local), ("minc", .local), ("sumc", .local), ("rangec", .local), ("l", .local), ("s", .local), ("rc", .local), ("gc", .local), ("bc", .local), ("h", .local), ("max", .globalImplicit), ("min", .globalImplicit)] rfl rfl rfl ⟨rfl, rfl, rfl⟩ ?_
  · cases fd; cases e1; cases e2; cases e3; rfl
  intro L env A' hA' hf
  refine Ex.assign (Ev.max3F (Ev.name rfl rfl) (Ev.name rfl rfl) (Ev.name rfl rfl)) ?_
  refine Ex.assign (Ev.min3F (Ev.name rfl rfl) (Ev.name rfl rfl) (Ev.name rfl rfl)) ?_
  generalize mx r g b = x at ok k ⊢
  generalize mn r g b = n at ok k ⊢
  refine Ex.assign (Ev.bin (Ev.name rfl rfl) (Ev.name rfl rfl) Bin.addF) ?_
  refine Ex.assign (Ev.bin (Ev.name rfl rfl) (Ev.name rfl rfl) Bin.subF) ?_
  refine Ex.assign (Ev.bin (Ev.name rfl rfl) Ev.flt (Bin.divF (by decide +kernel))) ?_
  refine Ex.names [("maxc", .F x), ("minc", .F n), ("sumc", .F (Float64.add x n)), ("rangec", .F (Float64.sub x n)), ("l", .F (hlsL x n)), ("r", .F r), ("g", .F g), ("b", .F b)] ⟨rfl, rfl, rfl, rfl, rfl, rfl, rfl, rfl, trivial⟩ ?_
  refine Ex.ite (Ts.cmp (Ev.name rfl rfl) (Ev.name rfl rfl) Cmp.eqF) (fun q => ?_) (fun q => Ex.go ?_)
  · refine Ex.retP (EvP.tuple (Q := fun p ds => ∃ a, p = .O a ∧ ds = (a, TP [.F f0, .F (hlsL x n), .F f0]) :: cs) (EvsP.of (Evs.cons Ev.flt (Evs.cons (Ev.name rfl rfl) (Evs.cons Ev.flt Evs.nil))) ⟨by simp, fun a => ⟨a, rfl, rfl⟩⟩)) ?_
    rintro _ v h _ ⟨a, rfl, rfl⟩ hv I
    cases hv
    refine k a h ?_
    unfold hls; rw [if_pos q]
    exact I.2.tail
  · have q' : ¬ feq n x = true := by show ¬ (_ == _) = true; rw [q]; decide
    have hx : hls x n r g b = [(Float64.divmod (Float64.div (hlsH x n r g b) f6) f1).2, hlsL x n, hlsS x n] := by unfold hls; rw [if_neg q']
    rw [hx] at k
    unfold hlsOk at ok
    rw [show feq n x = false from q, Bool.false_or, Bool.and_eq_true] at ok
    obtain ⟨ok1, ok2⟩ := ok
    have z1 : Float64.isZero (Float64.sub x n) = false := by simpa using ok1
    have fin : ∀ pl, PicksQ pl [("h", .F (hlsH x n r g b)), ("l", .F (hlsL x n)), ("s", .F (hlsS x n))] →
      Ex ⟨w, A', hb, env, L⟩ [("r", .local), ("g", .local), ("b", .local), ("maxc", .local), ("minc", .local), ("sumc", .local), ("rangec", .local), ("l", .local), ("s", .local), ("rc", .local), ("gc", .local), ("bc", .local), ("h", .local), ("max", .globalImplicit), ("min", .globalImplicit)] pl cs
        (match stmtAt 2 with | .FunctionDef _ _ r .. => r.drop 11 | _ => []) (fun fl h' => F (match fl with | .ret v => v | _ => .none) h') := by
      intro pl hpl
      refine Ex.names _ hpl (Ex.assign (Ev.bin (Ev.bin (Ev.name rfl rfl) Ev.flt (Bin.divF (by decide +kernel))) Ev.flt (Bin.modF (by decide +kernel))) ?_)
      refine Ex.retP (EvP.tuple (Q := fun p ds => ∃ a, p = .O a ∧ ds = (a, TP [.F (Float64.divmod (Float64.div (hlsH x n r g b) f6) f1).2, .F (hlsL x n), .F (hlsS x n)]) :: cs) (EvsP.of (Evs.cons (Ev.name rfl rfl) (Evs.cons (Ev.name rfl rfl) (Evs.cons (Ev.name rfl rfl) Evs.nil))) ⟨by simp, fun a => ⟨a, rfl, rfl⟩⟩)) ?_
      rintro _ v h _ ⟨a, rfl, rfl⟩ hv I
      cases hv
      exact k a h I.2.tail
    have mid : ∀ pl, PicksQ pl [("maxc", .F x), ("rangec", .F (Float64.sub x n)), ("l", .F (hlsL x n)), ("r", .F r), ("g", .F g), ("b", .F b), ("s", .F (hlsS x n))] →
      Ex ⟨w, A', hb, env, L⟩ [("r", .local), ("g", .local), ("b", .local), ("maxc", .local), ("minc", .local), ("sumc", .local), ("rangec", .local), ("l", .local), ("s", .local), ("rc", .local), ("gc", .local), ("bc", .local), ("h", .local), ("max", .globalImplicit), ("min", .globalImplicit)] pl cs
        (match stmtAt 2 with | .FunctionDef _ _ r .. => r.drop 7 | _ => []) (fun fl h' => F (match fl with | .ret v => v | _ => .none) h') := by
      intro pl hpl
      refine Ex.names _ hpl ?_
      refine Ex.assign (Ev.bin (Ev.bin (Ev.name rfl rfl) (Ev.name rfl rfl) Bin.subF) (Ev.name rfl rfl) (Bin.divF z1)) ?_
      refine Ex.assign (Ev.bin (Ev.bin (Ev.name rfl rfl) (Ev.name rfl rfl) Bin.subF) (Ev.name rfl rfl) (Bin.divF z1)) ?_
      refine Ex.assign (Ev.bin (Ev.bin (Ev.name rfl rfl) (Ev.name rfl rfl) Bin.subF) (Ev.name rfl rfl) (Bin.divF z1)) ?_
      refine Ex.names [("rc", .F (hlsC x n r)), ("gc", .F (hlsC x n g)), ("bc", .F (hlsC x n b)), ("maxc", .F x), ("l", .F (hlsL x n)), ("s", .F (hlsS x n)), ("r", .F r), ("g", .F g)] ⟨rfl, rfl, rfl, rfl, rfl, rfl, rfl, rfl, trivial⟩ ?_
      refine Ex.ite (Ts.cmp (Ev.name rfl rfl) (Ev.name rfl rfl) Cmp.eqF) (fun q => Ex.assign (p := .F (hlsH x n r g b)) ?_ (Ex.go (fin _ ⟨rfl, rfl, rfl, trivial⟩))) (fun q => ?_)
      · unfold hlsH; rw [if_pos q]
        exact Ev.bin (Ev.name rfl rfl) (Ev.name rfl rfl) Bin.subF
      have q1 : ¬ feq r x = true := by show ¬ (_ == _) = true; rw [q]; decide
      refine Ex.ite (Ts.cmp (Ev.name rfl rfl) (Ev.name rfl rfl) Cmp.eqF) (fun q => Ex.assign (p := .F (hlsH x n r g b)) ?_ (Ex.go (Ex.go (fin _ ⟨rfl, rfl, rfl, trivial⟩)))) (fun q => Ex.assign (p := .F (hlsH x n r g b)) ?_ (Ex.go (Ex.go (fin _ ⟨rfl, rfl, rfl, trivial⟩))))
      · unfold hlsH; rw [if_neg q1, if_pos q]
        exact Ev.bin (Ev.bin Ev.flt (Ev.name rfl rfl) Bin.addF) (Ev.name rfl rfl) Bin.subF
      · unfold hlsH; rw [if_neg q1, if_neg (by show ¬ (_ == _) = true; rw [q]; decide)]
        exact Ev.bin (Ev.bin Ev.flt (Ev.name rfl rfl) Bin.addF) (Ev.name rfl rfl) Bin.subF
    refine Ex.ite (Ts.cmp (Ev.name rfl rfl) Ev.flt Cmp.leF) (fun q => ?_) (fun q => ?_)
    · rw [if_pos q] at ok2
      refine Ex.assign (p := .F (hlsS x n)) ?_ (Ex.go (mid _ ⟨rfl, rfl, rfl, rfl, rfl, rfl, rfl, trivial⟩))
      unfold hlsS; rw [if_pos q]
      exact Ev.bin (Ev.name rfl rfl) (Ev.name rfl rfl) (Bin.divF (by simpa using ok2))
    · have q2 : ¬ fle (hlsL x n) f05 = true := by show ¬ (_ || _) = true; rw [q]; decide
      rw [if_neg q2] at ok2
      refine Ex.assign (p := .F (hlsS x n)) ?_ (Ex.go (mid _ ⟨rfl, rfl, rfl, rfl, rfl, rfl, rfl, trivial⟩))
      unfold hlsS; rw [if_neg q2]
      exact Ev.bin (Ev.name rfl rfl) (Ev.bin (Ev.bin Ev.flt (Ev.name rfl rfl) Bin.subF) (Ev.name rfl rfl) Bin.subF) (Bin.divF (by simpa using ok2))

/-! T6tab -/
def quo (x y : Int) : UInt64 := Float64.ofFrac (decide (x < 0) != decide (y < 0)) x.natAbs y.natAbs
def noInf (x : UInt64) : Bool := Float64.isInf x == false
def rot (turn : Nat) (l : List UInt64) : List UInt64 := l.drop (3 - turn) ++ l.take (3 - turn)
def parts (turn tabs blanks grey : Nat) : List UInt64 := rot turn [quo ((tabs : Int) + grey) 16, quo ((blanks : Int) + grey) 16, quo grey 16]
def bothI (tabs blanks grey : Nat) : Int := max (tabs : Int) blanks + 2 * grey
def shareF (s : UInt64) (b : Int) : UInt64 := Float64.add (Float64.mul (Float64.mul (Float64.ofInt 2) s) (Float64.ofInt b)) (Float64.ofInt 1)
def hueF (h : UInt64) : UInt64 := Float64.add (Float64.mul (Float64.ofInt 144) h) (Float64.ofInt 1)
def partsOk (tabs blanks grey : Nat) : Bool := noInf (quo ((tabs : Int) + grey) 16) && noInf (quo ((blanks : Int) + grey) 16) && noInf (quo grey 16)
def hueChk3 (turn tabs blanks grey : Nat) (r g b : UInt64) (l : List UInt64) : Bool :=
  match l with
  | [h, l, s] => feq l (quo (bothI tabs blanks grey) 32) && noInf (quo (bothI tabs blanks grey) 32) && noInf (Float64.ofInt (min (bothI tabs blanks grey) (32 - bothI tabs blanks grey))) &&
      (match truncF (shareF s (min (bothI tabs blanks grey) (32 - bothI tabs blanks grey))) with | some i => i.fdiv 2 == max (tabs : Int) blanks | none => false) &&
      (match truncF (hueF h) with | some i => i.fdiv 2 == hueL turn tabs blanks | none => false)
  | _ => false
def hueChk (turn tabs blanks grey : Nat) : Bool :=
  partsOk tabs blanks grey && match parts turn tabs blanks grey with
  | [r, g, b] => hlsOk (mx r g b) (mn r g b) && hueChk3 turn tabs blanks grey r g b (hls (mx r g b) (mn r g b) r g b)
  | _ => false
def chkRow (t a : Nat) : Bool := (List.range 5).all fun b => (List.range 13).all fun g => hueChk t a b g
set_option maxRecDepth 1000000
theorem row00 : chkRow 0 0 = true := by decide +kernel
theorem row01 : chkRow 0 1 = true := by decide +kernel
theorem row02 : chkRow 0 2 = true := by decide +kernel
theorem row03 : chkRow 0 3 = true := by decide +kernel
theorem row10 : chkRow 1 0 = true := by decide +kernel
theorem row11 : chkRow 1 1 = true := by decide +kernel
theorem row12 : chkRow 1 2 = true := by decide +kernel
theorem row13 : chkRow 1 3 = true := by decide +kernel
theorem row20 : chkRow 2 0 = true := by decide +kernel
theorem row21 : chkRow 2 1 = true := by decide +kernel
theorem row22 : chkRow 2 2 = true := by decide +kernel
theorem row23 : chkRow 2 3 = true := by decide +kernel
set_option maxRecDepth 20000
theorem chkRow_ok {t a : Nat} (h1 : t < 3) (h2 : a < 4) : chkRow t a = true := by
  match t, a, h1, h2 with
  | 0, 0, _, _ => exact row00
  | 0, 1, _, _ => exact row01
  | 0, 2, _, _ => exact row02
  | 0, 3, _, _ => exact row03
  | 1, 0, _, _ => exact row10
  | 1, 1, _, _ => exact row11
  | 1, 2, _, _ => exact row12
  | 1, 3, _, _ => exact row13
  | 2, 0, _, _ => exact row20
  | 2, 1, _, _ => exact row21
  | 2, 2, _, _ => exact row22
  | 2, 3, _, _ => exact row23
theorem chk_at {t a b g : Nat} (h1 : t < 3) (h2 : a < 4) (h3 : b < 5) (h4 : g < 13) : hueChk t a b g = true := by
  have h := chkRow_ok h1 h2
  unfold chkRow at h
  have := List.all_eq_true.mp h b (List.mem_range.mpr h3)
  exact List.all_eq_true.mp this g (List.mem_range.mpr h4)
/-- what the table says of one lead -/
structure HueFacts (turn tabs blanks grey : Nat) (r g b h l s : UInt64) (i j : Int) : Prop where
  inf1 : Float64.isInf (quo ((tabs : Int) + grey) 16) = false
  inf2 : Float64.isInf (quo ((blanks : Int) + grey) 16) = false
  inf3 : Float64.isInf (quo grey 16) = false
  parts : parts turn tabs blanks grey = [r, g, b]
  ok : hlsOk (mx r g b) (mn r g b) = true
  hls : hls (mx r g b) (mn r g b) r g b = [h, l, s]
  light : feq l (quo (bothI tabs blanks grey) 32) = true
  inf4 : Float64.isInf (quo (bothI tabs blanks grey) 32) = false
  inf5 : Float64.isInf (Float64.ofInt (min (bothI tabs blanks grey) (32 - bothI tabs blanks grey))) = false
  share : truncF (shareF s (min (bothI tabs blanks grey) (32 - bothI tabs blanks grey))) = some i
  most : i.fdiv 2 = max (tabs : Int) blanks
  hue : truncF (hueF h) = some j
  hueIs : j.fdiv 2 = hueL turn tabs blanks
theorem hueFacts {turn tabs blanks grey : Nat} (h1 : turn < 3) (h2 : tabs < 4) (h3 : blanks < 5) (h4 : grey < 13) : ∃ r g b h l s i j, HueFacts turn tabs blanks grey r g b h l s i j := by
  have H := chk_at h1 h2 h3 h4
  unfold hueChk at H
  rw [Bool.and_eq_true] at H
  obtain ⟨H0, H⟩ := H
  unfold partsOk noInf at H0
  rw [Bool.and_eq_true, Bool.and_eq_true] at H0
  split at H
  · rename_i r g b hp
    rw [Bool.and_eq_true] at H
    obtain ⟨ok, H⟩ := H
    unfold hueChk3 at H
    split at H
    · rename_i _ h l s hl
      rw [Bool.and_eq_true, Bool.and_eq_true, Bool.and_eq_true, Bool.and_eq_true] at H
      obtain ⟨⟨⟨⟨H1, H2⟩, H3⟩, H4⟩, H5⟩ := H
      split at H4
      · rename_i i hi
        split at H5
        · rename_i j hj
          exact ⟨r, g, b, h, l, s, i, j, by simpa using H0.1.1, by simpa using H0.1.2, by simpa using H0.2, hp, ok, hl, H1, by simpa [noInf] using H2, by simpa [noInf] using H3, hi, by simpa using H4, hj, by simpa using H5⟩
        · cases H5
      · cases H4
    · cases H
  · cases H

/-! T6hues -/
/-! ## _law_hues -/
abbrev Lead := Nat × Nat
def leadsOk (ls : List Lead) : Prop := ∀ x ∈ ls, x.1 < 4 ∧ x.2 < 5
abbrev hKinds : List (Str × NameKind) := [("drawn", .local), ("turn", .local), ("grey", .local), ("row", .local), ("tabs", .local), ("blanks", .local), ("parts", .local), ("hue", .local), ("light", .local), ("share", .local), ("most", .local), ("both", .local), ("rgb_to_hls", .globalImplicit), ("max", .globalImplicit), ("min", .globalImplicit), ("int", .globalImplicit), ("insort_right", .globalImplicit)]
theorem isInf_small {n : Nat} (h : n < 40) : Float64.isInf (Float64.ofInt n) = false := by
  have : ∀ n < 40, Float64.isInf (Float64.ofInt ((n : Nat) : Int)) = false := by decide +kernel
  exact this n h
theorem hues_ok {w : World} {A : Around} {hb h : Heap} {cs : List Cell} {fd fd2 fd3 fd4 : FuncData} {d u : Nat} {F : Value → Heap → Prop} {Dw : Addr} {ts : List Addr} {leads : List Lead} {turn grey : Nat} {t1 t2 : Tok}
    (D : DefIs hb 252 (stmtAt 21) .none .none fd) (D2 : DefIs hb 28 (stmtAt 2) .none .none fd2) (D3 : DefIs hb 37 (stmtAt 4) (.ref 29) (.ref 30) fd3) (D4 : DefIs hb 46 (stmtAt 5) (.ref 38) (.ref 39) fd4) (df3 : Dfl hb 29 30) (df4 : Dfl hb 38 39)
    (hA : AOk A (d + 3) (u + 9)) (G : Gd hb Globs Blts) (O : Own hb h cs) (hD : (Dw, LP (ts.map .O)) ∈ cs) (hl : ts.length = leads.length) (hz : leads.length ≤ 100) (hok : leadsOk leads)
    (hT : ∀ (i : Nat) (t : Addr) (x : Lead), ts[i]? = some t → leads[i]? = some x → (t, TP [.I x.1, .I x.2]) ∈ cs) (h1 : turn < 3) (h4 : grey < 13)
    (k : ∀ a h' (ms : List Int), ms.Perm (leads.map fun (x : Lead) => hueL turn x.1 x.2) → ms.Pairwise (· ≤ ·) → Own hb h' ((a, LI ms) :: cs) → F (.ref a) h') :
    Run w A (PySem.call (.ref 252) [.ref Dw, .int turn t1, .int grey t2]) h F := by
  refine Run.def' D hA G O [("drawn", .ref Dw), ("turn", .int turn t1), ("grey", .int grey t2)] [("drawn", .O Dw), ("turn", .I turn), ("grey", .I grey)] (fun fd e1 e2 e3 s hs => BindsTo.of_eq ?_) ⟨⟨_, rfl, rfl⟩, ⟨_, rfl, _, rfl⟩, ⟨_, rfl, _, rfl⟩, trivial⟩ hKinds rfl rfl rfl ⟨rfl, rfl, rfl⟩ ?_
  · cases fd; cases e1; cases e2; cases e3; rfl
  intro L env A' hA' hf
  refine Ex.assignP (EvP.list (Q := fun p ds => ∃ a, p = .O a ∧ ds = (a, LP (([] : List Int).map .I)) :: cs) (EvsP.of Evs.nil ⟨by simp, fun a => ⟨a, rfl, rfl⟩⟩)) ?_
  rintro _ _ ⟨a, rfl, rfl⟩
  refine Ex.weak (l₁ := []) (fun _ => LP.ints) ?_
  refine Ex.forList2 (Ev.name rfl rfl) (fun i pl ds => ∃ ms : List Int, ms.Perm ((leads.take i).map fun (x : Lead) => hueL turn x.1 x.2) ∧ ms.Pairwise (· ≤ ·) ∧ ds = (a, LI ms) :: cs ∧ PicksQ pl [("row", .O a), ("drawn", .O Dw), ("turn", .I turn), ("grey", .I grey)]) (ps := ts.map .O) ?_ ⟨[], by simp, .nil, rfl, rfl, rfl, rfl, rfl, trivial⟩ ?_ ?_
  · rintro i pl _ ⟨ms, _, _, rfl, _⟩; exact .tail _ hD
  · rintro i r it pl _ hi ⟨ms, hp, hs, rfl, hpl⟩
    rw [List.getElem?_map, Option.map_eq_some_iff] at hi
    obtain ⟨t, hi, rfl⟩ := hi
    obtain ⟨hlt, _⟩ := List.getElem?_eq_some_iff.mp hi
    obtain ⟨⟨tabs, blanks⟩, hx⟩ : ∃ x, leads[i]? = some x := ⟨_, List.getElem?_eq_getElem (by omega)⟩
    obtain ⟨h2, h3⟩ := hok _ (List.mem_of_getElem? hx)
    refine ⟨t, .I tabs, .I blanks, rfl, .tail _ (hT i t _ hi hx), ?_⟩
    obtain ⟨r, g, b, hh, ll, ss, ii, jj, H⟩ := hueFacts h1 h2 h3 h4
    refine Ex.names [("tabs", .I tabs), ("blanks", .I blanks), ("row", .O a), ("drawn", .O Dw), ("turn", .I turn), ("grey", .I grey)] ⟨rfl, rfl, hpl.1, hpl.2.1, hpl.2.2.1, hpl.2.2.2.1, trivial⟩ ?_
    refine Ex.assignP (EvP.list (Q := fun p ds => ∃ a1, p = .O a1 ∧ ds = (a1, LP [.F (quo ((tabs : Int) + grey) 16), .F (quo ((blanks : Int) + grey) 16), .F (quo grey 16)]) :: (it, LIt Dw (i + 1)) :: (a, LI ms) :: cs)
      (EvsP.of (Evs.cons (Ev.bin (Ev.bin (Ev.name rfl rfl) (Ev.name rfl rfl) Bin.addI) Ev.int (Bin.quoI (by decide) H.inf1)) (Evs.cons (Ev.bin (Ev.bin (Ev.name rfl rfl) (Ev.name rfl rfl) Bin.addI) Ev.int (Bin.quoI (by decide) H.inf2)) (Evs.cons (Ev.bin (Ev.name rfl rfl) Ev.int (Bin.quoI (by decide) H.inf3)) Evs.nil))) ⟨by simp, fun a => ⟨a, rfl, rfl⟩⟩)) ?_
    rintro _ _ ⟨a1, rfl, rfl⟩
    refine Ex.assignP (EvP.addL (Q := fun p ds => ∃ c D', p = .O c ∧ ds = (c, LP [.F r, .F g, .F b]) :: D' ∧ List.Sublist ((it, LIt Dw (i + 1)) :: (a, LI ms) :: cs) D')
      (P := fun p ds => ∃ b1, p = .O b1 ∧ ds = (b1, LP (pick [.F (quo ((tabs : Int) + grey) 16), .F (quo ((blanks : Int) + grey) 16), .F (quo grey 16)] (some (3 - (turn : Int))) none none)) :: (a1, LP [.F (quo ((tabs : Int) + grey) 16), .F (quo ((blanks : Int) + grey) 16), .F (quo grey 16)]) :: (it, LIt Dw (i + 1)) :: (a, LI ms) :: cs)
      (EvP.slice (Ev.name rfl rfl) (.head _) (by simp) (Part.some (Ev.bin Ev.int (Ev.name rfl rfl) Bin.subI)) Part.none fun b => ⟨b, rfl, rfl⟩) ?_) ?_
    · rintro _ _ ⟨b1, rfl, rfl⟩
      refine EvP.slice (Ev.name rfl rfl) (.tail _ (.head _)) (by simp) Part.none (Part.some (Ev.bin Ev.int (Ev.name rfl rfl) Bin.subI)) fun b2 => ⟨b1, _, b2, _, rfl, rfl, .tail _ (.head _), .head _, ?_, ?_⟩
      · have e := congrArg List.length (pick_rot (a := PV.F (quo ((tabs : Int) + grey) 16)) (b := PV.F (quo ((blanks : Int) + grey) 16)) (c := PV.F (quo grey 16)) h1)
        rw [List.length_append] at e
        rw [e]; simp
      · have e := congrArg (List.map PV.F) H.parts
        unfold parts rot at e
        rw [List.map_append, List.map_drop, List.map_take] at e
        have e' := (pick_rot (a := PV.F (quo ((tabs : Int) + grey) 16)) (b := PV.F (quo ((blanks : Int) + grey) 16)) (c := PV.F (quo grey 16)) h1).trans e
        rw [e']
        exact fun c => ⟨c, _, rfl, rfl, .cons _ (.cons _ (.cons _ (List.Sublist.refl _)))⟩
    rintro _ _ ⟨c, D', rfl, rfl, sb⟩
    refine Ex.sub (ds := (c, LP [.F r, .F g, .F b]) :: (it, LIt Dw (i + 1)) :: (a, LI ms) :: cs) (.cons_cons _ sb) ?_
    refine Ex.names [("parts", .O c), ("tabs", .I tabs), ("blanks", .I blanks), ("row", .O a), ("drawn", .O Dw), ("turn", .I turn), ("grey", .I grey)] ⟨rfl, rfl, rfl, rfl, rfl, rfl, rfl, trivial⟩ ?_
    refine Ex.assignTup (EvP.defP (R := fun ps ds => ps = [.F r, .F g, .F b] ∧ ds = (c, LP [.F r, .F g, .F b]) :: (it, LIt Dw (i + 1)) :: (a, LI ms) :: cs) (Q := fun p ds => ∃ z, p = .O z ∧ ds = (z, TP [.F hh, .F ll, .F ss]) :: (c, LP [.F r, .F g, .F b]) :: (it, LIt Dw (i + 1)) :: (a, LI ms) :: cs) D2.fn
      (EvsP.of (Evs.cons (Ev.itemP (Ev.name rfl rfl) Ev.int (.head _) (by decide) rfl (by decide)) (Evs.cons (Ev.itemP (Ev.name rfl rfl) Ev.int (.head _) (by decide) rfl (by decide)) (Evs.cons (Ev.itemP (Ev.name rfl rfl) Ev.int (.head _) (by decide) rfl (by decide)) Evs.nil))) ⟨rfl, rfl⟩) (fun ps ds vs h j hv I G' kk => ?_)) ?_
    · obtain ⟨rfl, rfl⟩ := j
      cases hv with | cons x hv => cases hv with | cons y hv => cases hv with | cons z hv => cases hv with | nil =>
      obtain ⟨t1, rfl⟩ := x
      obtain ⟨t2, rfl⟩ := y
      obtain ⟨t3, rfl⟩ := z
      refine rgb_ok (d := d + 1) (u := u + 3) D2 hA' G I.2 H.ok fun z h' O' => kk _ _ _ _ ⟨z, rfl, rfl⟩ rfl (I.add ?_)
      rw [H.hls] at O'
      exact O'
    rintro _ _ ⟨z, rfl, rfl⟩
    refine ⟨z, _, _, rfl, .head _, .cons rfl (.cons rfl (.cons rfl .nil)), ?_⟩
    refine Ex.sub (ds := (it, LIt Dw (i + 1)) :: (a, LI ms) :: cs) (.cons _ (.cons _ (List.Sublist.refl _))) ?_
    refine Ex.assign (Ev.max2 (Ev.name rfl rfl) (Ev.name rfl rfl)) ?_
    refine Ex.assign (p := .I (bothI tabs blanks grey)) (Ev.bin (Ev.name rfl rfl) (Ev.bin Ev.int (Ev.name rfl rfl) (Bin.mulI (mulOk_r (by omega)))) Bin.addI) ?_
    refine Ex.names [("both", .I (bothI tabs blanks grey)), ("most", .I (max (tabs : Int) blanks)), ("share", .F ss), ("light", .F ll), ("hue", .F hh), ("row", .O a), ("drawn", .O Dw), ("turn", .I turn), ("grey", .I grey)] ⟨rfl, rfl, rfl, rfl, rfl, rfl, rfl, rfl, rfl, trivial⟩ ?_
    refine Ex.ite (Ts.or2 (Ts.cmp (Ev.name rfl rfl) (Ev.bin (p := .F (quo (bothI tabs blanks grey) 32)) (Ev.name rfl rfl) Ev.int (Bin.quoI (by decide) H.inf4)) Cmp.neF)
      fun _ => Ts.cmp (Ev.bin (Ev.intF (f := shareF ss (min (bothI tabs blanks grey) (32 - bothI tabs blanks grey))) (Ev.bin (Ev.bin (Ev.bin Ev.int (Ev.name rfl rfl) (Bin.mulIF (by decide +kernel))) (Ev.min2 (Ev.name rfl rfl) (Ev.bin Ev.int (Ev.name rfl rfl) Bin.subI)) (Bin.mulFI H.inf5)) Ev.int (Bin.addFI (by decide +kernel))) H.share) Ev.int (Bin.divI (by decide) (by decide))) (Ev.name rfl rfl) Cmp.neI) (fun q => ?_) (fun _ => Ex.go ?_)
    · exfalso
      rw [H.most] at q
      have e : (Float64.cmp ll (quo (bothI tabs blanks grey) 32) != some Ordering.eq) = false := by
        have := H.light
        unfold feq at this
        unfold bne; rw [this]; rfl
      rw [e] at q
      simp at q
    refine Ex.iteP (TsP.isNotNone (Q := fun ds => ∃ ms' : List Int, ms'.Perm (hueL turn tabs blanks :: ms) ∧ ms'.Pairwise (· ≤ ·) ∧ ds = (it, LIt Dw (i + 1)) :: (a, LI ms') :: cs) (EvP.defP (R := fun ps ds => ps = [.O a, .I (hueL turn tabs blanks)] ∧ ds = (it, LIt Dw (i + 1)) :: (a, LI ms) :: cs)
      (Q := fun p ds => p = .N ∧ ∃ ms' : List Int, ms'.Perm (hueL turn tabs blanks :: ms) ∧ ms'.Pairwise (· ≤ ·) ∧ ds = (it, LIt Dw (i + 1)) :: (a, LI ms') :: cs) D3.fn (EvsP.of (Evs.cons (Ev.name rfl rfl) (Evs.cons (p := .I (hueL turn tabs blanks)) ?_ Evs.nil)) ⟨rfl, rfl⟩) (fun ps ds vs h j hv I G' kk => ?_)) (fun _ _ j => j)) (fun q => by cases q) (fun _ ds j => ?_)
    · rw [← H.hueIs]
      exact Ev.bin (Ev.intF (f := hueF hh) (Ev.bin (Ev.bin Ev.int (Ev.name rfl rfl) (Bin.mulIF (by decide +kernel))) Ev.int (Bin.addFI (by decide +kernel))) H.hue) Ev.int (Bin.divI (by decide) (by decide))
    · obtain ⟨rfl, rfl⟩ := j
      cases hv with | cons x hv => cases hv with | cons y hv => cases hv with | nil =>
      cases x
      obtain ⟨t2, rfl⟩ := y
      have hlen : ms.length ≤ 100 := by rw [hp.length_eq, List.length_map, List.length_take]; omega
      exact insR_ok (d := d) (u := u) D3 D4 df3 df4 hA' G (I.at (l₁ := [_])) (by omega) hs fun ms' h' h5 h6 O' => kk _ _ _ _ ⟨rfl, ms', h5, h6, rfl⟩ rfl (I.back (l₁ := [_]) O')
    · obtain ⟨ms', h5, h6, rfl⟩ := j
      refine Ex.go (Turn.next ⟨ms', ?_, h6, rfl, rfl, rfl, rfl, rfl, trivial⟩ (pl' := [("row", .O a), ("drawn", .O Dw), ("turn", .I turn), ("grey", .I grey)]) ⟨rfl, rfl, rfl, rfl, trivial⟩)
      rw [List.take_add_one, hx, List.map_append]
      exact h5.trans ((hp.cons _).trans (List.perm_append_comm (l₁ := [hueL turn tabs blanks])))
  · rintro pl _ ⟨ms, hp, hs, rfl, hpl⟩
    refine Ex.ret (Ev.name rfl hpl.1) fun v h hv I => ?_
    cases hv
    refine k a h ms ?_ hs I.2.tail
    rwa [List.length_map, hl, List.take_length] at hp

/-! F14 -/
theorem fold_rep (v : Value) (n : Nat) : ∀ acc : Array Value, (List.foldl (fun x1 x2 => x1 ++ x2) acc (List.replicate n #[v])).toList = acc.toList ++ List.replicate n v := by
  induction n with
  | zero => intro acc; simp
  | succ n ih => intro acc; rw [List.replicate_succ, List.foldl_cons, ih, List.replicate_succ]; simp
theorem Ares.rep {p : PV} {v : Value} (h : p.is v) (n : Nat) : Ares (List.replicate n p) (List.replicate n v) := by
  induction n with
  | zero => exact .nil
  | succ n ih => exact .cons h ih

theorem swapped2 {env : Env} {x y : Str} {xp yp tp sp p1 p2 : Pos} {k kt : Nat} {a1 a2 : Expr} {n1 n2 : Str} (hf : env.scope.kind = .function) (kx : env.kindOf x = some .local) (ky : env.kindOf y = some .local) (hl : (yp.line == xp.line) = true) (hne : (x == y) = false) :
    swappedStores [.Tuple [.Name x xp, .Name y yp] k tp] (.Tuple [.Attribute a1 n1 p1, .Attribute a2 n2 p2] kt sp) env = Pure.pure (some [x, y]) := by
  have hb : env.blockKind = .function := by unfold Env.blockKind; rw [hf]; rfl
  have hne' : ¬ x = y := by simpa using hne
  have hyx : (y == x) = false := by simpa using (fun e => hne' e.symm)
  have hl' : yp.line = xp.line := by simpa using hl
  unfold swappedStores
  simp [hb, kx, ky, Expr.pos, hl', foldedForSure, constantsAlone, List.eraseDups_cons, hyx]

section
variable {B : Base} {ks : Kinds} {pl : Names} {cs l₁ l₂ : List Cell} {e l r v s o i iter value e₁ e₂ : Expr} {pos xp yp zp fp sp tp : Pos} {a b : Addr} {ps qs : List PV} {p q : PV} {es : List Expr} {P Q : PV → List Cell → Prop} {F : Flow → Heap → Prop} {rest body : List Stmt} {x y z : Str}
theorem Ex.brk (k : ∀ h, Is B ks pl cs h → F .brk h) : Ex B ks pl cs (.Break pos :: rest) F := fun h I => Run.seq fun s hs => wpAny_Break ⟨Same.rfl', by rw [hs]; exact k h I⟩
theorem Ev.lenW (he : Ev B ks pl cs e (.O a)) (hc : (a, WL ps) ∈ cs) (hz : ps.length < 2 ^ 62) (hk : ks.lookup ("len" : Str) = some NameKind.globalImplicit := by rfl)
    (hs : starEach [e] B.env = [(false, eval e B.env)] := by rfl) (hn : eval (.Call (.Name "len" fp) [e] [] pos) B.env = (do callWith pos (← eval (.Name "len" fp) B.env) [] (backTo pos (starEach [e] B.env)) (backToKw pos (keywordEach [] B.env))) := by rfl) : Ev B ks pl cs (.Call (.Name "len" fp) [e] [] pos) (.I ps.length) :=
  fun h I F k => Run.call (Run.builtin I.1.1 I.1.2.1 I.2 hk rfl (Run.callBuiltin (first := []) (Run.args (he h I _ fun v h hv I => Run.args0 (by
    cases hv
    refine Run.lib fun s Q z q => ?_
    subst z
    obtain ⟨vs, hl, iv⟩ := wl_at (I.2.get (.tail _ hc))
    have hl' := iv.len
    exact PyProof.Rows.len_list hl (by rw [List.size_toArray]; omega) (q _ _ (k _ _ ⟨_, by rw [List.size_toArray, hl']⟩ I)))) hs) hs rfl)) hn
theorem Ev.itemW {j : Int} (hv : Ev B ks pl cs v (.O a)) (hs : Ev B ks pl cs s (.I j)) (hc : (a, WL ps) ∈ cs) (h0 : 0 ≤ j) (hn : ps[j.toNat]? = some p) (hz : j < 2 ^ 63)
    (hsub : ∀ u, subscripted s false (.ref a) (.int j u) = operate [.ref a, .int j u] (getItem (.ref a) (.int j u)) := by intro _; rfl) (hg : ∀ r, letTemporaryGo v (.ref a) r = Pure.pure () := by intro _; rfl) : Ev B ks pl cs (.Subscript v s pos) p :=
  fun h I F k => Run.sub (hv h I _ fun vv h hvv I => hs h I _ fun vi h ⟨ti, hvi⟩ I => by
    cases hvv; subst hvi
    refine Run.lib fun st Q z q => ?_
    subst z
    obtain ⟨vs, hl, iv⟩ := wl_at (I.2.get (.tail _ hc))
    obtain ⟨t, ht, hp⟩ := iv.get _ _ hn
    exact item_list hl h0 hz (by simpa using ht) (q _ _ (k _ _ hp I)) (hsub _) hg)
theorem Ev.lenTup (he : Ev B ks pl cs e (.O a)) (hc : (a, TP ps) ∈ cs) (hz : ps.length < 2 ^ 62) (hk : ks.lookup ("len" : Str) = some NameKind.globalImplicit := by rfl)
    (hs : starEach [e] B.env = [(false, eval e B.env)] := by rfl) (hn : eval (.Call (.Name "len" fp) [e] [] pos) B.env = (do callWith pos (← eval (.Name "len" fp) B.env) [] (backTo pos (starEach [e] B.env)) (backToKw pos (keywordEach [] B.env))) := by rfl) : Ev B ks pl cs (.Call (.Name "len" fp) [e] [] pos) (.I ps.length) :=
  fun h I F k => Run.call (Run.builtin I.1.1 I.1.2.1 I.2 hk rfl (Run.callBuiltin (first := []) (Run.args (he h I _ fun v h hv I => Run.args0 (by
    cases hv
    refine Run.lib fun s Q z q => ?_
    subst z
    obtain ⟨ob, e1, vs, tv, iv⟩ := I.2.get (.tail _ hc)
    have hl' := iv.len
    exact PyProof.Rows.len_tuple (tv_at ⟨ob, e1, tv⟩) (by rw [List.size_toArray]; omega) (q _ _ (k _ _ ⟨_, by rw [List.size_toArray, hl']⟩ I)))) hs) hs rfl)) hn
/-- an item of a tuple -/
theorem Ev.itemT {j : Int} (hv : Ev B ks pl cs v (.O a)) (hs : Ev B ks pl cs s (.I j)) (hc : (a, TP ps) ∈ cs) (h0 : 0 ≤ j) (hn : ps[j.toNat]? = some p) (hz : j < 2 ^ 63)
    (hsub : ∀ u, subscripted s false (.ref a) (.int j u) = operate [.ref a, .int j u] (getItem (.ref a) (.int j u)) := by intro _; rfl) (hg : ∀ r, letTemporaryGo v (.ref a) r = Pure.pure () := by intro _; rfl) : Ev B ks pl cs (.Subscript v s pos) p :=
  fun h I F k => Run.sub (hv h I _ fun vv h hvv I => hs h I _ fun vi h ⟨ti, hvi⟩ I => by
    cases hvv; subst hvi
    refine Run.lib fun st Q z q => ?_
    subst z
    obtain ⟨ob, e1, vs, tv, iv⟩ := I.2.get (.tail _ hc)
    obtain ⟨t, ht, hp⟩ := iv.get _ _ hn
    have hT := tv_at ⟨ob, e1, tv⟩
    obtain ⟨hlt, _⟩ := List.getElem?_eq_some_iff.mp ht
    exact subscriptTail_builtin (T := "tuple") hT.typeIs slot_tuple_getitem.lookup (getItem_tuple hT (by omega) hz (seqIndex_of h0 (by rw [List.size_toArray]; omega)) (by simpa using ht) (q _ _ (k _ _ hp I))) (hsub _) hg)
/-- [..] * e -/
theorem EvP.mul1 {n : Nat} (hl : EvP B ks pl cs l P) (hr : ∀ q ds, P q ds → ∃ a p, q = .O a ∧ (a, LP [p]) ∈ ds ∧ Ev B ks pl ds r (.I n) ∧ n ≤ 1000 ∧ ∀ c, Q (.O c) ((c, LP (List.replicate n p)) :: ds)) : EvP B ks pl cs (.BinOp l .Mult r pos) Q := fun h I G k =>
  Run.binOp (hl h I _ fun q va h₁ ds j ha I₁ => by
    obtain ⟨a, p, rfl, ma, hr', hz, jq⟩ := hr q ds j
    cases ha
    refine hr' h₁ I₁ _ fun vb h₂ hb I₂ => ?_
    obtain ⟨u, rfl⟩ := hb
    intro s hs
    subst hs
    obtain ⟨oa, ea, vs, ⟨m, rfl⟩, iv⟩ := I₂.2.get (.tail _ ma)
    cases iv with | @cons _ v _ _ hp iv => cases iv with | nil =>
    obtain ⟨xi, hxi⟩ : ∃ xi : Int, (n : Int) = xi := ⟨_, rfl⟩
    rw [hxi]
    have zn : xi.toNat = n := by omega
    have hns : [v].toArray.size = 1 := rfl
    generalize hit : [v].toArray = its at ea hns
    have z : its.size * xi.toNat = n := by rw [hns, zn, Nat.one_mul]
    have z0 : Builtin.List.listFitsIndex xi = true := by
      unfold Builtin.List.listFitsIndex
      rw [decide_eq_true (by omega), decide_eq_true (by omega)]; rfl
    have z2 : Builtin.List.listTooLong n = false := by
      unfold Builtin.List.listTooLong
      rw [sizeLine_eq]
      exact decide_eq_false (by omega)
    have M := AutoListH.list___mul___list_int_3 a its m xi u (by rw [z0]; decide) (by rw [z]; omega) (by rw [z, z2]; decide)
    have hlast : (List.foldl (fun x1 x2 => x1 ++ x2) #[] (List.replicate (if its.isEmpty = true then 0 else xi.toNat) its)) = (List.replicate n v).toArray := by
      subst hit
      apply Array.toList_inj.mp
      rw [show (if [v].toArray.isEmpty = true then 0 else xi.toNat) = n by simp [zn]]
      rw [fold_rep]; simp
    rw [hlast] at M
    exact wpAny_binaryOp_repeat_ref (T := "list") (U := "int") (by decide) ⟨_, ea, rfl⟩ (fun s' => typeIs_int s' _ u) noFill_list_mul PySem.F.fills_int_mul PySem.F.slot_int_rmul repeat_list PySem.F.slot_int_index.lookup
      (call_meets PySem.F.slot_int_rmul (typeIs_int s _ u) PySem.F.entry_int_rmul (PySem.F.args_int_rmul_2 _ _) (int___rmul___int_list _ u _ _ m)
        ⟨ea, rfl, ⟨_, ea, rfl⟩, call_meets PySem.F.slot_list_mul ⟨_, ea, rfl⟩ PySem.F.entry_list_mul (PySem.F.args_list_mul_2 _ _) M
          ⟨ea, ⟨rfl, rfl, rfl⟩, k _ _ _ _ (jq _) rfl (I₂.add (I₂.2.push _ ⟨List.replicate n v, ⟨0, rfl⟩, .rep hp n⟩))⟩⟩))
/-- l + r of two lists -/
theorem EvP.addW (hl : EvP B ks pl cs l P) (hr : ∀ p ds, P p ds → EvP B ks pl ds r (fun q ds' => ∃ a ps b qs R₁ R₂, p = .O a ∧ q = .O b ∧ ((a, R₁) ∈ ds' ∧ ∀ o, R₁ o → WL ps o) ∧ ((b, R₂) ∈ ds' ∧ ∀ o, R₂ o → WL qs o) ∧ ps.length + qs.length ≤ 1000 ∧ ∀ c, Q (.O c) ((c, LP (ps ++ qs)) :: ds'))) : EvP B ks pl cs (.BinOp l .Add r pos) Q := fun h I G k =>
  Run.binOp (hl h I _ fun p va h₁ ds j ha I₁ => hr p ds j h₁ I₁ _ fun q vb h₂ ds' j' hb I₂ => by
    obtain ⟨a, ps, b, qs, R₁, R₂, rfl, rfl, ⟨ma, wa⟩, ⟨mb, wb⟩, hz, jq⟩ := j'
    cases ha; cases hb
    intro s hs
    subst hs
    obtain ⟨⟨c1, d1, dt1, s1⟩, ea, ra⟩ := I₂.2.get (.tail _ ma)
    obtain ⟨⟨c2, d2, dt2, s2⟩, eb, rb⟩ := I₂.2.get (.tail _ mb)
    obtain ⟨h1, vs, n, h2, iv⟩ := wa _ ra
    obtain ⟨h3, ws, m, h4, iw⟩ := wb _ rb
    dsimp only at h1 h2 h3 h4
    subst h1 h2 h3 h4
    have hvl := iv.len
    have hwl := iw.len
    refine concat_meets ⟨_, ea, rfl⟩ ⟨_, eb, rfl⟩ noFill_list_add seq_list_add PySem.F.slot_list_add PySem.F.entry_list_add (PySem.F.args_list_add_2 _ _) (list_addW a b vs.toArray ws.toArray n m d1 d2 s1 s2 (by simp only [List.size_toArray]; exact Nat.le_trans (by omega) (by decide : 1000 ≤ sizeLine)))
      ⟨ea, eb, ⟨rfl, rfl, rfl⟩, k _ _ _ _ (jq _) rfl (I₂.add (I₂.2.push _ ⟨vs ++ ws, ⟨0, ?_⟩, iv.app iw⟩))⟩
    simp)
/-- o[i] = e, on a list -/
theorem Ex.setItem {j : Int} (he : Ev B ks pl (l₁ ++ (a, WL ps) :: l₂) value q) (ho : Ev B ks pl (l₁ ++ (a, WL ps) :: l₂) o (.O a)) (hi : Ev B ks pl (l₁ ++ (a, WL ps) :: l₂) i (.I j)) (h0 : 0 ≤ j) (hz : j < 2 ^ 63) (hj : j < ps.length)
    (k : Ex B ks pl (l₁ ++ (a, WL (ps.set j.toNat q)) :: l₂) rest F) (hs : swapsWith value (some (.Subscript o i sp)) pos.line B.env = Pure.pure false := by rfl) : Ex B ks pl (l₁ ++ (a, WL ps) :: l₂) (.Assign [.Subscript o i sp] value pos :: rest) F := fun h I => by
  refine Run.seq fun s hs' => wpAny_Assign_Subscript (wpAny_mono (he h I (fun v h' => q.is v ∧ Is B ks pl (l₁ ++ (a, WL ps) :: l₂) h') (fun v h' hv I' => ⟨hv, I'⟩) s hs') (fun vv s₁ q₁ => ?_) fun _ _ e => e) hs
  obtain ⟨S₁, hv, I₁⟩ := q₁
  refine wpAny_mono (ho _ I₁ (fun v h' => v = .ref a ∧ Is B ks pl (l₁ ++ (a, WL ps) :: l₂) h') (fun v h' hv I' => ⟨hv, I'⟩) s₁ rfl) (fun ov s₂ q₂ => ?_) fun _ _ e => e
  obtain ⟨S₂, rfl, I₂⟩ := q₂
  refine wpAny_mono (hi _ I₂ (fun v h' => (∃ t, v = .int j t) ∧ Is B ks pl (l₁ ++ (a, WL ps) :: l₂) h') (fun v h' hv I' => ⟨hv, I'⟩) s₂ rfl) (fun iv s₃ q₃ => ?_) fun _ _ e => e
  obtain ⟨S₃, ⟨t, rfl⟩, I₃⟩ := q₃
  obtain ⟨ws, lw, iw⟩ := wl_at (I₃.at.get (.head _))
  have hwl := iw.len
  refine wpAny_setItem_list lw h0 hz (by rw [List.size_toArray]; omega) fun h' hl' hs' => ⟨⟨((S₁.trans S₂).trans S₃).1, ((S₁.trans S₂).trans S₃).2, ((S₁.trans S₂).trans S₃).3⟩, ?_⟩
  refine k h' (I₃.back (I₃.at.change hs' (at_wl (vs := ws.set j.toNat vv) ?_ (iw.set _ hv))))
  simpa using hl'
/-- x = y = z = e -/
theorem Ex.assign3 (he : Ev B ks pl cs e p) (k : Ex B ks ((z, p) :: (y, p) :: (x, p) :: pl) cs rest F) (hx : ks.lookup x = some .local := by rfl) (hy : ks.lookup y = some .local := by rfl) (hz : ks.lookup z = some .local := by rfl)
    (hE : (assignEach [.Name x xp, .Name y yp, .Name z zp] B.env).map (·.2) = [PySem.assign (.Name x xp) B.env, PySem.assign (.Name y yp) B.env, PySem.assign (.Name z zp) B.env] := by rfl)
    (hw : swappedStores [.Name x xp, .Name y yp, .Name z zp] e B.env = Pure.pure none := by rfl) : Ex B ks pl cs (.Assign [.Name x xp, .Name y yp, .Name z zp] e pos :: rest) F := fun h I => by
  refine Run.seq fun s hs => wpAny_Assign_three (wpAny_mono (he h I (fun v h' => p.is v ∧ Is B ks pl cs h') (fun v h' hv I' => ⟨hv, I'⟩) s hs) (fun v s₁ q => ?_) fun _ _ e => e) hE hw
  obtain ⟨S, hv, I₁⟩ := q
  refine wpAny_mono ((Run.assName (Run.st (F := fun _ h => Own B.hb h ((B.L, NP ((x, p) :: pl)) :: cs)) I₁.1.1 I₁.2 hx hv fun h' O => O)).on S) (fun _ s₂ q => ?_) fun _ _ e => e
  obtain ⟨S₂, O₂⟩ := q
  refine wpAny_mono ((Run.assName (Run.st (F := fun _ h => Own B.hb h ((B.L, NP ((y, p) :: (x, p) :: pl)) :: cs)) I₁.1.1 O₂ hy hv fun h' O => O)).on S₂) (fun _ s₃ q => ?_) fun _ _ e => e
  obtain ⟨S₃, O₃⟩ := q
  exact (Run.assName (Run.st (F := fun _ h => Run B.w B.A (execs rest B.env) h F) I₁.1.1 O₃ hz hv fun h' O => k h' ⟨I.1, O⟩)).on S₃
/-- tuple(e) of a list -/
theorem EvP.tupleOf (he : Ev B ks pl cs e (.O a)) (hm : (a, WL ps) ∈ cs) (hz : ps.length ≤ 1000) (k : ∀ b, Q (.O b) ((b, TP ps) :: cs)) (hk : ks.lookup ("tuple" : Str) = some .globalImplicit := by rfl) (hq : starEach [e] B.env = (false, eval e B.env) :: starEach [] B.env := by rfl)
    (hn : eval (.Call (.Name "tuple" fp) [e] [] pos) B.env = (do callWith pos (← eval (.Name "tuple" fp) B.env) [] (backTo pos (starEach [e] B.env)) (backToKw pos (keywordEach [] B.env))) := by rfl) : EvP B ks pl cs (.Call (.Name "tuple" fp) [e] [] pos) Q :=
  EvP.typ (R := fun qs ds => qs = [.O a] ∧ ds = cs) (EvsP.of (Evs.cons he Evs.nil hq) ⟨rfl, rfl⟩) (fun qs ds vs h j hv I G kk => by
    obtain ⟨rfl, rfl⟩ := j
    cases hv with | cons x hv => cases hv with | nil =>
    cases x
    intro s hs
    subst hs
    obtain ⟨vs, hl, iv⟩ := wl_at (I.2.get (.tail _ hm))
    have hvl := iv.len
    refine call_tuple_list hl (fun h' hk' => ⟨⟨rfl, rfl, rfl⟩, kk _ _ _ _ (k _) rfl ((I.kept hk').add ((I.kept hk').2.push _ ⟨vs, ⟨_, rfl⟩, iv⟩))⟩) (by rw [List.size_toArray]; exact Nat.le_trans (by omega) (by decide : 1000 ≤ sizeLine))) hk rfl (by decide) hq rfl hn
/-- x, y = (e₁, e₂): no tuple is kept -/
theorem Ex.assignSwap {k : Nat} {kt : Nat} (he : EvP B ks pl cs (.Tuple [e₁, e₂] kt sp) P) (kk : ∀ r ds, P r ds → ∃ t p q, r = .O t ∧ (t, TP [p, q]) ∈ ds ∧ Ex B ks ((x, p) :: (y, q) :: pl) ds rest F) (hx : ks.lookup x = some .local := by rfl) (hy : ks.lookup y = some .local := by rfl)
    (hs : swapsWithSole [.Tuple [.Name x xp, .Name y yp] k tp] (.Tuple [e₁, e₂] kt sp) pos.line B.env = Pure.pure false := by rfl) (hw : EnvIs B.env B.L ks → swappedStores [.Tuple [.Name x xp, .Name y yp] k tp] (.Tuple [e₁, e₂] kt sp) B.env = Pure.pure (some [x, y])) :
    Ex B ks pl cs (.Assign [.Tuple [.Name x xp, .Name y yp] k tp] (.Tuple [e₁, e₂] kt sp) pos :: rest) F := fun h I =>
  Run.seq fun s hs' => Assign_Tuple_swapped (wpAny_mono (he h I (fun v h' => ∃ p ds, P p ds ∧ p.is v ∧ Is B ks pl ds h') (fun p v h' ds j hv I' => ⟨p, ds, j, hv, I'⟩) s hs') (fun v s₁ q => by
    obtain ⟨S, r, ds, j, hv, I₁⟩ := q
    obtain ⟨t, p, q, rfl, hm, K⟩ := kk r ds j
    cases hv
    obtain ⟨ob, e1, vs, tv, iv⟩ := I₁.2.get (.tail _ hm)
    cases iv with | @cons _ va _ _ hp iv => cases iv with | @cons _ vb _ _ hq iv => cases iv with | nil =>
    refine wpAny_unpackItems_tuple (items := #[va, vb]) I₁.1.2.2 (tv_at ⟨ob, e1, tv⟩) fun h' hx' => ?_
    have I₂ : Is B ks pl ds h' := ⟨I₁.1, I₁.2.keeps fun b o e => hx' b o (Nat.ne_of_lt (Heap.lt_size e)) e⟩
    refine wpAny_assignInOrder_more (wpAny_bindName (wpAny_mono (Run.st (F := fun _ h => Own B.hb h ((B.L, NP ((y, q) :: pl)) :: ds)) I₁.1.1 I₂.2 hy hq (fun h' O => O) { s₁ with heap := h' } rfl) (fun _ s₂ z => ?_) fun _ _ e => e))
    obtain ⟨S₂, O₂⟩ := z
    refine wpAny_assignInOrder_more (wpAny_bindName (wpAny_mono (Run.st (F := fun _ h => Own B.hb h ((B.L, NP ((x, p) :: (y, q) :: pl)) :: ds)) I₁.1.1 O₂ hx hp (fun h' O => O) s₂ rfl) (fun _ s₃ z => ?_) fun _ _ e => e))
    obtain ⟨S₃, O₃⟩ := z
    exact wpAny_assignInOrder_none ⟨((S.trans ⟨S₂.1, S₂.2, S₂.3⟩).trans S₃), K _ ⟨I.1, O₃⟩⟩) fun _ _ e => e) hs (hw I.1.1)
end

/-! F15 -/
/-! ## cells -/
def CV (p : Option PV) (o : Obj) : Prop := match p with
  | none => o.data = .cell none
  | some p => ∃ v, o.data = .cell (some v) ∧ p.is v
section
variable {B : Base} {ks : Kinds} {pl : Names} {cs l₁ l₂ : List Cell} {e : Expr} {pos xp : Pos} {c : Addr} {p : PV} {q : Option PV} {P : PV → List Cell → Prop} {F : Flow → Heap → Prop} {rest : List Stmt} {x : Str}
theorem Ev.cell (hk : ks.lookup x = some .cell) (hc : B.env.cells.lookup x = some c) (hm : (c, CV (some p)) ∈ cs) (hd : (x == ("__debug__" : Str)) = false := by decide) : Ev B ks pl cs (.Name x pos) p := fun h I F k =>
  Run.name (fun s hs => by
    subst hs
    obtain ⟨o, e1, v, hd, hp⟩ := I.2.get (.tail _ hm)
    exact wpAny_loadName_cell I.1.1.fn (I.1.1.kinds _ _ hk) hc ⟨o, e1, hd⟩ ⟨Same.rfl', k v _ hp I⟩) hd
theorem Ev.free (hk : ks.lookup x = some .free) (hc : B.env.cells.lookup x = some c) (hm : (c, CV (some p)) ∈ cs) (hd : (x == ("__debug__" : Str)) = false := by decide) (hn : (x == ("__classdict__" : Str)) = false := by decide) : Ev B ks pl cs (.Name x pos) p := fun h I F k =>
  Run.name (fun s hs => by
    subst hs
    obtain ⟨o, e1, v, hd, hp⟩ := I.2.get (.tail _ hm)
    exact wpAny_loadName_free I.1.1.fn (I.1.1.kinds _ _ hk) hc ⟨o, e1, hd⟩ ⟨Same.rfl', k v _ hp I⟩ hn) hd
theorem Run.stC {h : Heap} {v : Value} {G : Unit → Heap → Prop} (hk : ks.lookup x = some .cell) (hc : B.env.cells.lookup x = some c) (I : Is B ks pl (l₁ ++ (c, CV q) :: l₂) h) (hp : p.is v) (k : ∀ h', Is B ks pl (l₁ ++ (c, CV (some p)) :: l₂) h' → G () h') : Run B.w B.A (storeName B.env x v) h G := fun s hs => by
  subst hs
  have O := I.at
  obtain ⟨o, e1, hd⟩ := O.get (.head _)
  have hcell : ∃ v₀, s.heap.IsCell c v₀ := by
    cases q with
    | none => exact ⟨none, o, e1, hd⟩
    | some q => obtain ⟨v, hd, _⟩ := hd; exact ⟨some v, o, e1, hd⟩
  obtain ⟨v₀, hc0⟩ := hcell
  exact wpAny_storeName_cell I.1.1.fn (I.1.1.kinds _ _ hk) hc hc0 fun h' hc' hs' => ⟨⟨rfl, rfl, rfl⟩, k h' (I.back (O.change hs' (let ⟨o, e, d⟩ := hc'; ⟨o, e, v, d, hp⟩)))⟩
theorem Ex.assignC (he : EvP B ks pl cs e P) (k : ∀ p ds, P p ds → ∃ l₁ c q l₂, B.env.cells.lookup x = some c ∧ ds = l₁ ++ (c, CV q) :: l₂ ∧ Ex B ks pl (l₁ ++ (c, CV (some p)) :: l₂) rest F) (hk : ks.lookup x = some .cell := by rfl)
    (hs : EnvIs B.env B.L ks → swapsWith e (some (.Name x xp)) pos.line B.env = Pure.pure false := by intro _; rfl) : Ex B ks pl cs (.Assign [.Name x xp] e pos :: rest) F := fun h I =>
  Run.seq (Run.assignName (he h I _ fun p v h₁ ds j hv I₁ => by
    obtain ⟨l₁, c, q, l₂, hc, rfl, kk⟩ := k p ds j
    exact Run.stC hk hc I₁ hv fun h' I' => kk h' I') (hs I.1.1))
end

/-! a def with cells, called -/
def PicksF (f : Str → Option Value) : List (Str × PV) → Prop
  | [] => True
  | p :: r => (∃ v, f p.1 = some v ∧ p.2.is v) ∧ PicksF f r
def CellsF (f : Str → Option Value) : List (Str × Option PV) → Prop
  | [] => True
  | p :: r => (match p.2 with | none => f p.1 = none | some q => ∃ v, f p.1 = some v ∧ q.is v) ∧ CellsF f r
theorem PicksF.get {f : Str → Option Value} {pl : List (Str × PV)} (h : PicksF f pl) {x : Str} {p : PV} (hx : pl.lookup x = some p) : ∃ v, f x = some v ∧ p.is v := by
  induction pl with
  | nil => cases hx
  | cons q r ih =>
    rw [List.lookup_cons] at hx
    split at hx
    · rename_i e
      cases hx
      have : x = q.1 := by simpa using e
      rw [this]; exact h.1
    · exact ih h.2 hx
theorem CellsF.get {f : Str → Option Value} {cl : List (Str × Option PV)} (h : CellsF f cl) {q : Str × Option PV} (hq : q ∈ cl) {o : Obj} (hd : o.data = .cell (f q.1)) : CV q.2 o := by
  induction cl with
  | nil => cases hq
  | cons r t ih =>
    rcases List.mem_cons.mp hq with rfl | hq
    · have h1 := h.1
      unfold CV
      split
      · rename_i e; rw [e] at h1; dsimp only at h1; rw [hd, h1]
      · rename_i p e; rw [e] at h1; dsimp only at h1
        obtain ⟨v, e1, e2⟩ := h1
        exact ⟨v, by rw [hd, e1], e2⟩
    · exact ih h.2 hq
theorem RunCall.defC {w : World} {A : Around} {hb h : Heap} {F : Value → Heap → Prop} {cs : List Cell} {f : Addr} {fd : FuncData} {dV kV : Value} {name bind : Str} {params : Arguments} {body : List Stmt} {decos : List Expr} {ret : Option Expr} {tps : List TypeParam} {scope : Scope} {tsc : Option Scope} {pos : Pos} {vs : List Value} {d u : Nat}
    (D : DefIs hb f (.FunctionDef name params body decos ret tps scope tsc bind pos) dV kV fd) (hA : AOk A (d + 1) (u + 3)) (G : Gd hb Globs Blts) (O : Own hb h cs) (binds : List (Str × Value)) (pl : List (Str × PV)) (cl : List (Str × Option PV))
    (hbind : ∀ fd : FuncData, fd.params = params → fd.defaults = dV → fd.kwdefaults = kV → bindArgs fd ⟨vs, []⟩ = Pure.pure binds)
    (hp : PicksF (bindL (fun x => scope.names.lookup x) binds fun _ => none) pl) (hc : CellsF (bindC (fun x => scope.names.lookup x) binds fun _ => none) cl)
    (ks : List (Str × NameKind)) (hks : (ks.all fun p => scope.names.lookup p.1 == some p.2) = true)
    (hkind : ∀ n, ∀ x ∈ binds, scope.names.lookup x.1 = some .local ∨ (scope.names.lookup x.1 = some .cell ∧ ((cellsFrom n scope.names []).lookup x.1).isSome = true))
    (hcl : ∀ n, ∀ x ∈ cl, ((cellsFrom n scope.names []).lookup x.1).isSome = true) (hnd : (cl.map (·.1)).Nodup)
    (hpl : scope.isCoroutine = false ∧ scope.isGenerator = false ∧ scope.kind = .function)
    (k : ∀ L env A' (ca : Str → Addr), AOk A' d u → (∀ x ∈ cl, env.cells.lookup x.1 = some (ca x.1)) → env.code = fd.code → env.qual = fd.qualname ++ ".<locals>." →
      Ex ⟨w, A', hb, env, L⟩ ks pl ((cl.map fun x => (ca x.1, CV x.2)) ++ cs) body (fun fl h' => F (match fl with | .ret v => v | _ => .none) h')) :
    RunCall w A (.ref f) ⟨vs, []⟩ h F := fun s hs => by
  subst hs
  obtain ⟨e1, e2, e3⟩ := D.shape
  obtain ⟨o, ho, hd⟩ := D.fn.at'
  obtain ⟨l, hl⟩ := hA.frames
  have hkd : ∀ x, (callEnvC fd s.heap.objs.size f).kindOf x = scope.names.lookup x := fun x => by show fd.scope.names.lookup x = _; rw [e3]
  have hkf : (callEnvC fd s.heap.objs.size f).kindOf = fun x => scope.names.lookup x := funext hkd
  refine codeAny_call_cells hA.room (O.keep _ _ ho) hd (G.lim.keeps O.keep) (D.fn.code.keeps O.keep) e2 (hbind fd e1 D.dflt D.kwd) D.clo (by rw [e3]; exact hkind _) (fun s₁ x => ?_) (by rw [e3]; exact hpl.1) (by rw [e3]; exact hpl.2.1) (by rw [e3]; exact hpl.2.2)
  rw [hkf] at x
  have hcells : (callEnvC fd s.heap.objs.size f).cells = cellsFrom (s.heap.objs.size + 1) scope.names [] := by show cellsFrom _ fd.scope.names [] = _; rw [e3]
  let ca : Str → Addr := fun y => ((cellsFrom (s.heap.objs.size + 1) scope.names []).lookup y).getD 0
  have hca : ∀ y ∈ cl, (callEnvC fd s.heap.objs.size f).cells.lookup y.1 = some (ca y.1) := fun y hy => by
    rw [hcells]
    obtain ⟨c, hc⟩ := Option.isSome_iff_exists.mp (hcl (s.heap.objs.size + 1) y hy)
    show _ = some (((cellsFrom (s.heap.objs.size + 1) scope.names []).lookup y.1).getD 0)
    rw [hc]; rfl
  have hab : ∀ y ∈ cl, s.heap.objs.size < ca y.1 := fun y hy => x.above y.1 _ (mem_of_lookup (hca y hy))
  have hnone : ∀ b, s.heap.objs.size ≤ b → hb.get? b = none := fun b hb' => by
    cases q : hb.get? b with
    | none => rfl
    | some o => exact absurd (Heap.lt_size (O.keep _ _ q)) (Nat.not_lt.mpr hb')
  have O' : Own hb s₁.heap ((s.heap.objs.size, NP pl) :: ((cl.map fun x => (ca x.1, CV x.2)) ++ cs)) := by
    refine ⟨fun b o e => x.toInCall.keep b o (O.keep b o e), fun c hc' => ?_, ?_⟩
    · rcases List.mem_cons.mp hc' with rfl | hc'
      · exact ⟨np_at x.toInCall.ns fun y p hy => hp.get hy, hnone _ (Nat.le_refl _)⟩
      · rcases List.mem_append.mp hc' with hc' | hc'
        · obtain ⟨y, hy, rfl⟩ := List.mem_map.mp hc'
          obtain ⟨o, eo, hdo⟩ := x.cell _ _ (hca y hy)
          exact ⟨⟨o, eo, hc.get hy hdo⟩, hnone _ (Nat.le_of_lt (hab y hy))⟩
        · obtain ⟨⟨o, e, p⟩, n⟩ := O.cell c hc'
          exact ⟨⟨o, x.toInCall.keep _ _ e, p⟩, n⟩
    · rw [List.map_cons, List.map_append, List.map_map]
      have hlt : ∀ c ∈ cs, c.1 < s.heap.objs.size := fun c hc' => let ⟨⟨o, e, p⟩, n⟩ := O.cell c hc'; Heap.lt_size e
      refine List.nodup_cons.mpr ⟨fun hm => ?_, List.nodup_append.mpr ⟨?_, O.nodup, fun a ha b hb' => ?_⟩⟩
      · rcases List.mem_append.mp hm with hm | hm
        · obtain ⟨y, hy, e⟩ := List.mem_map.mp hm
          have := hab y hy
          have e' : ca y.1 = s.heap.objs.size := e
          rw [e'] at this; exact Nat.lt_irrefl _ this
        · obtain ⟨c, hc', e⟩ := List.mem_map.mp hm
          have := hlt c hc'
          rw [e] at this; exact Nat.lt_irrefl _ this
      · have : (cl.map ((fun x => x.1) ∘ fun x => (ca x.1, CV x.2))) = (cl.map (·.1)).map ca := by rw [List.map_map]; rfl
        rw [this]
        refine List.pairwise_map.mpr ((List.pairwise_iff_forall_sublist.mpr fun {a b} hab' => ?_))
        intro e
        have ha : a ∈ cl.map (·.1) := hab'.subset (by simp)
        have hb'' : b ∈ cl.map (·.1) := hab'.subset (by simp)
        obtain ⟨ya, hya, rfl⟩ := List.mem_map.mp ha
        obtain ⟨yb, hyb, rfl⟩ := List.mem_map.mp hb''
        have h1 := mem_of_lookup (hca ya hya)
        have h2 := mem_of_lookup (hca yb hyb)
        rw [e] at h1
        have := name_of_addr x.apart h1 h2
        have hn := hnd.sublist hab'
        simp [this] at hn
      · obtain ⟨y, hy, e⟩ := List.mem_map.mp ha
        obtain ⟨c, hc', e'⟩ := List.mem_map.mp hb'
        intro q
        have h1 := hab y hy
        have h2 := hlt c hc'
        have e1 : ca y.1 = a := e
        rw [e1, q, ← e'] at h1
        exact Nat.lt_irrefl _ (Nat.lt_trans h1 h2)
  obtain ⟨h₁, tk, hs₁⟩ := x.toInCall.same
  have S₁ : Same s s₁ := by rw [hs₁]; exact ⟨rfl, rfl, rfl⟩
  have E : EnvIs (callEnvC fd s.heap.objs.size f) s.heap.objs.size ks := ⟨by show fd.scope.kind = _; rw [e3]; exact hpl.2.2, rfl, D.glo, D.blt, fun x k' hx => (hkd x).trans (kinds_of hks x k' hx), by show fd.scope.isGenerator = _ ∧ fd.scope.isCoroutine = _; rw [e3]; exact ⟨hpl.2.1, hpl.1⟩⟩
  refine wpAny_mono (k _ (callEnvC fd s.heap.objs.size f) (A.deeper (callEnvC fd s.heap.objs.size f)) ca hA.deeper hca rfl rfl s₁.heap ⟨⟨E, G, hA.deeper.hand⟩, O'⟩ s₁ rfl) (fun fl s' q => ⟨S₁.trans q.1, q.2⟩) fun _ _ e => e.elim

/-! F16 -/
/-- fewer cells, in another order -/
def Less (ds cs : List Cell) : Prop := ∃ es, List.Perm cs es ∧ List.Sublist ds es
theorem Less.refl {cs : List Cell} : Less cs cs := ⟨cs, .refl _, .refl _⟩
theorem Less.own {hb h : Heap} {ds cs : List Cell} (x : Less ds cs) (O : Own hb h cs) : Own hb h ds := let ⟨_, p, s⟩ := x; (O.perm p).sub s
theorem Less.cons {ds cs : List Cell} {c : Cell} (x : Less ds cs) : Less (c :: ds) (c :: cs) := let ⟨es, p, s⟩ := x; ⟨c :: es, p.cons c, s.cons_cons c⟩
theorem Less.drop {ds cs : List Cell} {c : Cell} (x : Less ds cs) : Less ds (c :: cs) := let ⟨es, p, s⟩ := x; ⟨c :: es, p.cons c, s.cons c⟩
theorem Is.less {B : Base} {ks : Kinds} {pl : Names} {ds cs : List Cell} {h : Heap} (I : Is B ks pl cs h) (x : Less ds cs) : Is B ks pl ds h := ⟨I.1, x.cons.own I.2⟩
theorem Ex.less {B : Base} {ks : Kinds} {pl : Names} {ds cs : List Cell} {rest : List Stmt} {F : Flow → Heap → Prop} (x : Less ds cs) (k : Ex B ks pl ds rest F) : Ex B ks pl cs rest F := fun h I => k h (I.less x)
theorem EvP.less {B : Base} {ks : Kinds} {pl : Names} {cs : List Cell} {e : Expr} {P Q : PV → List Cell → Prop} (he : EvP B ks pl cs e P) (k : ∀ p ds, P p ds → ∃ ds', Less ds' ds ∧ Q p ds') : EvP B ks pl cs e Q := fun h I G kk => he h I G fun p v h' ds j hv I' =>
  let ⟨ds', l, q⟩ := k p ds j; kk p v h' ds' q hv (I'.less l)

/-- an iterator: its word at turn i, what it gives -/
structure Walk (hb : Heap) (it : Addr) (need : List Cell → Prop) (P : Nat → Obj → Prop) (n : Nat) (val : Nat → PV) : Prop where
  next : ∀ (w : World) (A : Around) i h D, A.handled = none → i ≤ n → Own hb h ((it, P i) :: D) → need D → ∀ G : Option Value → Heap → Prop,
    (∀ v h', i < n → (val i).is v → Own hb h' ((it, P (i + 1)) :: D) → G (some v) h') → (∀ h', i = n → Own hb h' D → G none h') → Run w A (pyNext (.ref it)) h G
  self : ∀ (w : World) (A : Around) h D, Own hb h ((it, P 0) :: D) → ∀ G : Value → Heap → Prop, G (.ref it) h → Run w A (pyIter (.ref it)) h G
  owned : ∀ (w : World) (A : Around) i h D es k pos (a : Addr), Own hb h ((it, P i) :: D) → ∀ G : Unit → Heap → Prop, G () h → Run w A (letOwnedTupleGo (.Tuple es k pos) (.ref it) (.ref a)) h G
theorem Walk.list {hb : Heap} {it a : Addr} {ps : List PV} : Walk hb it (fun D => ∃ R, (a, R) ∈ D ∧ ∀ o, R o → WL ps o) (LIt a) ps.length (fun i => ps.getD i .N) where
  next := fun w A i h D hh hi O hn G k₁ k₂ s hs => by
    subst hs
    obtain ⟨R, hm, hR⟩ := hn
    obtain ⟨o, e, r⟩ := O.get (.tail _ hm)
    obtain ⟨vs, hl, iv⟩ := wl_at ⟨o, e, hR o r⟩
    obtain ⟨oi, ei, la, lb⟩ := O.get (.head _)
    cases q : ps[i]? with
    | some p =>
      obtain ⟨v, hv, hp⟩ := iv.get _ _ q
      obtain ⟨hlt, _⟩ := List.getElem?_eq_some_iff.mp q
      refine wpAny_pyNext_list_item ⟨oi, ei, la, lb⟩ hl (by simpa using hv) fun h' hi' hs' => ⟨⟨rfl, rfl, rfl⟩, k₁ v h' hlt ?_ (O.change hs' (let ⟨o, e, a, b⟩ := hi'; ⟨o, e, a, b⟩))⟩
      rw [List.getD_eq_getElem?_getD, q]; exact hp
    | none =>
      have hlen : i = ps.length := by have := List.getElem?_eq_none_iff.mp q; omega
      have hv : vs[i]? = none := by rw [List.getElem?_eq_none_iff, iv.len]; omega
      exact wpAny_pyNext_list_end hh ⟨oi, ei, la, lb⟩ hl (by simpa using hv) fun h' he => ⟨⟨rfl, rfl, rfl⟩, k₂ h' hlen (O.extTail he)⟩
  self := fun w A h D O G k s hs => by subst hs; exact wpAny_pyIter_listiter (let ⟨o, e, a, b⟩ := O.get (.head _); ⟨o, e, a, b⟩) ⟨Same.rfl', k⟩
  owned := fun w A i h D es k pos a O G g s hs => by subst hs; exact wpAny_letOwnedTupleGo_listiter (let ⟨o, e, a, b⟩ := O.get (.head _); ⟨o, e, a, b⟩) ⟨Same.rfl', g⟩
theorem Walk.range {hb : Heap} {it : Addr} {m : Int} {n : Nat} : Walk hb it (fun _ => True) (fun i => RIt (m + i) ((n : Int) - i) 1) n (fun i => .I (m + i)) where
  next := fun w A i h D hh hi O hn G k₁ k₂ => Run.nextRange hh O (fun t h' hl O' => k₁ _ h' (by omega) ⟨t, rfl⟩ (by
      have e : RIt (m + ((i + 1 : Nat) : Int)) ((n : Int) - ((i + 1 : Nat) : Int)) 1 = RIt (m + i + 1) ((n : Int) - i - 1) 1 := by
        rw [show m + ((i + 1 : Nat) : Int) = m + i + 1 by omega, show (n : Int) - ((i + 1 : Nat) : Int) = (n : Int) - i - 1 by omega]
      rw [e]; exact O')) (fun h' hl O' => k₂ h' (by omega) O')
  self := fun w A h D O G k s hs => by subst hs; obtain ⟨o, e, rfl⟩ := O.get (.head _); exact wpAny_pyIter_rangeiter e ⟨Same.rfl', k⟩
  owned := fun w A i h D es k pos a O G g s hs => by
    subst hs
    obtain ⟨o, e, rfl⟩ := O.get (.head _)
    unfold letOwnedTupleGo
    refine wpAny_bind (wpAny_load e ?_)
    exact wpAny_pure ⟨Same.rfl', g⟩

/-- a comprehension's loop -/
theorem Run.compLoop {w : World} {A : Around} {h : Heap} {env : Env} {F : Heap → Prop} {elt target iter : Expr} {scope : Scope} {pos : Pos} {it acc : Value} (n : Nat) (J : Nat → Heap → Prop)
    (turn : ∀ i h, i ≤ n → J i h → Run w A (pyNext it) h (fun r h₁ => match r with
      | none => F h₁
      | some v => i < n ∧ Run w A (letOwnedTupleGo target it v) h₁ (fun _ h₂ => Run w A (assign target env v) h₂ (fun _ h₃ => Run w A (eval elt env) h₃ (fun y h₄ => Run w A (PySem.call (.builtin "list.append") [acc, y]) h₄ (fun _ h₅ => J (i + 1) h₅))))))
    (h0 : J 0 h) (s : Shared) (hs : s.heap = h) :
    codeAny (model PG w) A (.compLoop (.ListComp elt [⟨target, iter, [], 0⟩] scope pos) 0 it acc env) (fun r s' => match r with | .ok .next => Same s s' ∧ F s'.heap | _ => False) s := by
  subst hs
  refine codeAny_loop' rfl (fun k s' => ∃ i, i ≤ n ∧ k = n + 1 - i ∧ Same s s' ∧ J i s'.heap) ?_ (n + 1) ⟨0, Nat.zero_le _, rfl, Same.rfl', h0⟩
  rintro k s' ⟨i, hi, rfl, S, hJ⟩
  show wpAny _ _ ((compTurn (.ListComp elt [⟨target, iter, [], 0⟩] scope pos) 0 it acc env).onRaise (fun x => do noteFrame x env; theTreesLotGoes x)) _ _ s'
  refine wpAny_noted (wpAny_mono (Q := fun fin s' => match fin with
        | .done f => f = .next ∧ Same s s' ∧ F s'.heap
        | .again c' => c' = .compLoop (.ListComp elt [⟨target, iter, [], 0⟩] scope pos) 0 it acc env ∧ ∃ m, m < n + 1 - i ∧ ∃ i, i ≤ n ∧ m = n + 1 - i ∧ Same s s' ∧ J i s'.heap) (E := fun _ _ => False) ?_ (fun fin s' q => ?_) fun _ _ e => e.elim)
  · rw [compTurn_list]
    refine wpAny_bind (wpAny_standAt (wpAny_bind (wpAny_mono (turn i s'.heap hi hJ s' rfl) (fun r s₁ q => ?_) fun _ _ e => e)))
    obtain ⟨S₁, q⟩ := q
    cases r with
    | none => exact wpAny_pure ⟨rfl, S.trans S₁, q⟩
    | some v =>
      obtain ⟨hlt, q⟩ := q
      refine wpAny_bind (wpAny_mono (q.on (S.trans S₁)) (fun _ s₂ q => ?_) fun _ _ e => e)
      refine wpAny_bind (wpAny_mono (q.2.on q.1) (fun _ s₃ q => ?_) fun _ _ e => e)
      refine wpAny_bind (wpAny_pure ?_)
      show wpAny _ _ (do (do let _ ← PySem.call (.builtin "list.append") [acc, ← eval elt env]); again (.compLoop (.ListComp elt [⟨target, iter, [], 0⟩] scope pos) 0 it acc env)) _ _ s₃
      refine wpAny_bind (wpAny_bind (wpAny_mono (q.2.on q.1) (fun y s₄ q => wpAny_bind (wpAny_mono (q.2.on q.1) (fun _ s₅ q => ?_) fun _ _ e => e)) fun _ _ e => e))
      exact wpAny_pure (wpAny_pure ⟨rfl, n + 1 - (i + 1), by omega, i + 1, hlt, rfl, q.1, q.2⟩)
  · cases fin with
    | done f => obtain ⟨rfl, q⟩ := q; exact q
    | again c' => exact .inl q

/-! F17 -/
def closOf (names : List (Str × NameKind)) (ca : Str → Addr) : List (Str × Addr) := names.foldl (fun acc p => if p.2 == .free then (p.1, ca p.1) :: acc else acc) []
theorem closure_of {scope : Scope} {env : Env} (ca : Str → Addr) (h : ∀ p ∈ scope.names, p.2 = .free → env.cells.lookup p.1 = some (ca p.1)) : closureFor scope env = Pure.pure (closOf scope.names ca) := by
  have this : ∀ (f : Str × NameKind → List (Str × Addr) → Sem (ForInStep (List (Str × Addr)))), (∀ n k acc, f (n, k) acc = if (k == NameKind.free) = true then (do let a ← cellOf env n; Pure.pure (ForInStep.yield ((n, a) :: acc))) else Pure.pure (ForInStep.yield acc)) →
      ∀ (names : List (Str × NameKind)) (acc : List (Str × Addr)), (∀ p ∈ names, p.2 = .free → env.cells.lookup p.1 = some (ca p.1)) →
      forIn names acc f = Pure.pure (names.foldl (fun acc p => if p.2 == .free then (p.1, ca p.1) :: acc else acc) acc) := by
    intro f hf names
    induction names with
    | nil => intro acc _; rfl
    | cons p r ih =>
      intro acc hp
      obtain ⟨n, k⟩ := p
      rw [List.forIn_cons, List.foldl_cons, hf]
      by_cases hk : (k == NameKind.free) = true
      · rw [if_pos hk, if_pos hk]
        have := hp (n, k) (.head _) (by simpa using hk)
        unfold cellOf
        dsimp only at this
        rw [this]
        exact ih _ fun q hq => hp q (.tail _ hq)
      · rw [if_neg hk, if_neg hk]
        exact ih _ fun q hq => hp q (.tail _ hq)
  exact (congrArg (· >>= fun r => Pure.pure r) (this _ (fun n k acc => rfl) scope.names [] h)).trans rfl
theorem lookup_relabel {scope : Scope} {env : Env} (x : Str) : (relabel scope env).names.lookup x = (scope.names.lookup x).map (fun k => if (k == .free && env.scope.kind == .function && env.kindOf x == some .cell) then .cell else k) := by
  unfold relabel
  dsimp only
  induction scope.names with
  | nil => rfl
  | cons p r ih =>
    obtain ⟨n, k⟩ := p
    rw [List.map_cons]
    dsimp only
    by_cases hx : x = n
    · subst hx
      by_cases h : (k == NameKind.free && env.scope.kind == .function && env.kindOf x == some .cell) = true
      · rw [if_pos h, List.lookup_cons_self, List.lookup_cons_self, Option.map_some, if_pos h]
      · rw [if_neg h, List.lookup_cons_self, List.lookup_cons_self, Option.map_some, if_neg h]
    · have : (x == n) = false := by simpa using hx
      by_cases h : (k == NameKind.free && env.scope.kind == .function && env.kindOf n == some .cell) = true
      · rw [if_pos h, List.lookup_cons, List.lookup_cons, this]; exact ih
      · rw [if_neg h, List.lookup_cons, List.lookup_cons, this]; exact ih
def compKinds (ks ks' : Kinds) (names : List (Str × NameKind)) : Bool := ks'.all fun p => match names.lookup p.1 with
  | some .free => p.2 == .cell && ks.lookup p.1 == some .cell
  | some k => p.2 == k
  | none => false
theorem comp_env {B : Base} {ks ks' : Kinds} {scope : Scope} {cl : List (Str × Addr)} {C : Addr} (E : EnvIs B.env B.L ks) (hk : compKinds ks ks' scope.names = true) (hf : scope.kind = .function) (hp : scope.isGenerator = false ∧ scope.isCoroutine = false) : EnvIs (compEnvC scope cl C B.env) C ks' := by
  refine ⟨hf, rfl, E.glo, E.blt, fun x k hx => ?_, hp⟩
  show (relabel scope B.env).names.lookup x = some k
  rw [lookup_relabel]
  have : ∀ ks' : Kinds, compKinds ks ks' scope.names = true → ks'.lookup x = some k → (match scope.names.lookup x with | some .free => k == .cell && ks.lookup x == some .cell | some k' => k == k' | none => false) = true := by
    intro ks'
    induction ks' with
    | nil => intro _ h; cases h
    | cons p r ih =>
      intro h1 h2
      unfold compKinds at h1
      rw [List.all_cons, Bool.and_eq_true] at h1
      rw [List.lookup_cons] at h2
      split at h2
      · rename_i q
        cases h2
        have : x = p.1 := by simpa using q
        rw [this]; exact h1.1
      · exact ih h1.2 h2
  have h := this ks' hk hx
  cases q : scope.names.lookup x with
  | none => rw [q] at h; cases h
  | some k' =>
    rw [q] at h
    cases k' with
    | free =>
      dsimp only at h
      rw [Bool.and_eq_true] at h
      have h1 : k = .cell := by simpa using h.1
      have h2 : ks.lookup x = some .cell := by simpa using h.2
      have h3 := E.kinds _ _ h2
      simp [E.fn, h3, h1]
    | _ => 
      have h1 := (by simpa using h : k = _)
      subst h1
      simp

inductive Tgt (ks' : Kinds) : Expr → PV → List Cell → Names → Prop
  | name {x : Str} {xp : Pos} {p : PV} {D : List Cell} : ks'.lookup x = some .local → Tgt ks' (.Name x xp) p D [(x, p)]
  | two {x y : Str} {xp yp tp : Pos} {k : Nat} {t : Addr} {p q : PV} {D : List Cell} : ks'.lookup x = some .local → ks'.lookup y = some .local → (t, TP [p, q]) ∈ D → Tgt ks' (.Tuple [.Name x xp, .Name y yp] k tp) (.O t) D [(y, q), (x, p)]
theorem np_empty {h : Heap} {C : Addr} (x : h.Ns C (fun _ => none)) : ∃ o, h.get? C = some o ∧ NP [] o := np_at x fun _ _ q => nomatch q

section
variable {B : Base} {ks ks' : Kinds} {pl : Names} {cs : List Cell} {elt target iter : Expr} {scope : Scope} {pos xp : Pos} {Q : PV → List Cell → Prop} {n : Nat} {val : Nat → PV} {J : Nat → List PV → List Cell → Prop} {ca : Str → Addr} {need : Addr → List Cell → Prop} {P : Nat → Obj → Prop} {F : Flow → Heap → Prop} {rest : List Stmt} {x : Str}

/-- what a comprehension's turn has to show -/
def CompTurn (B : Base) (ks' : Kinds) (pl : Names) (scope : Scope) (ca : Str → Addr) (elt target : Expr) (n : Nat) (val : Nat → PV) (P : Nat → Obj → Prop) (J : Nat → List PV → List Cell → Prop) : Prop :=
  ∀ i rs ds C acc it, i < n → J i rs ds → ∃ pl', Tgt ks' target (val i) ds pl' ∧ EvP ⟨B.w, B.A, B.hb, compEnvC scope (closOf scope.names ca) C B.env, C⟩ ks' pl' ((acc, LP rs) :: (it, P (i + 1)) :: (B.L, NP pl) :: ds) elt
    (fun q D => ∃ ds', Less ((acc, LP rs) :: (it, P (i + 1)) :: (B.L, NP pl) :: ds') D ∧ J (i + 1) (rs ++ [q]) ds')

theorem comp_block {s₂ : Shared} {E : Value → Shared → Prop} {it : Addr} {RR : Value → Addr → Result → Shared → Prop} (I : Is B ks pl ((it, P 0) :: cs) s₂.heap) (W : Walk B.hb it (need it) P n val)
    (hneed : ∀ i rs ds, J i rs ds → ∀ D, (∀ c ∈ ds, c ∈ D) → need it D) (hz : n ≤ 900) (hJ : ∀ i rs ds, J i rs ds → rs.length ≤ i)
    (hk : compKinds ks ks' scope.names = true) (hf : scope.kind = .function) (hp : scope.isGenerator = false ∧ scope.isCoroutine = false) (hcell : (scope.names.all fun y => y.2 != .cell) = true)
    (h0 : J 0 [] cs) (turn : CompTurn B ks' pl scope ca elt target n val P J)
    (hRR : ∀ acc C rs ds m s', J n rs ds → Same s₂ s' → s'.heap.Ns C m → Own B.hb s'.heap ((C, fun _ => True) :: (acc, LP rs) :: (B.L, NP pl) :: ds) → RR (.ref acc) C (.ok .next) s') :
    wpAny (model PG B.w) B.A (newList []) (fun acc s₃ => wpAny (model PG B.w) B.A (newFunctionEnv scope B.env.globals (closOf scope.names ca) [] B.env.qual none .none (some B.env)) (fun cenv s₄ =>
      codeAny (model PG B.w) B.A (.compStart (.ListComp elt [⟨target, iter, [], 0⟩] scope pos) 0 (.ref it) acc { cenv with scope := relabel scope B.env }) (RR acc cenv.locals) s₄) E s₃) E s₂ := by
  refine wpAny_newObj_type (wpAny_newFunctionEnv (fun y hy => by have := List.all_eq_true.mp hcell y hy; simpa using this) (by intro y hy; simp at hy) (fun h₁ hns₁ hsb₁ => ?_) hf)
  dsimp only at hns₁ hsb₁ ⊢
  have O2 := I.2.push (P := LP []) { cls := .type "list", dict := none, data := .seq ([] : List Value).toArray } ⟨[], ⟨_, rfl⟩, .nil⟩
  generalize hH2 : s₂.heap.push { cls := .type "list", dict := none, data := .seq ([] : List Value).toArray } = H2 at hns₁ hsb₁ O2 ⊢
  generalize hacc : s₂.heap.objs.size = acc at O2 ⊢
  have hnone : H2.get? H2.objs.size = none := Heap.get?_none_of_le (Nat.le_refl _)
  have O3 : Own B.hb h₁ ((H2.objs.size, NP []) :: (acc, LP []) :: (B.L, NP pl) :: (it, P 0) :: cs) :=
    O2.add (fun b o e => hsb₁.extBut b o (Nat.ne_of_lt (Heap.lt_size e)) (Heap.get?_push_of_some _ e)) hnone (np_empty hns₁)
  generalize hC : H2.objs.size = C at O3 hns₁ hsb₁ ⊢
  have EI : EnvIs (compEnvC scope (closOf scope.names ca) C B.env) C ks' := comp_env I.1.1 hk hf hp
  have loop : ∀ s₃ : Shared, Same s₂ s₃ → s₃.heap = h₁ → codeAny (model PG B.w) B.A (.compLoop (.ListComp elt [⟨target, iter, [], 0⟩] scope pos) 0 (.ref it) (.ref acc) (compEnvC scope (closOf scope.names ca) C B.env)) (RR (.ref acc) C) s₃ := by
    intro s₃ S hs₃
    have L := Run.compLoop (w := B.w) (A := B.A) (env := compEnvC scope (closOf scope.names ca) C B.env) (elt := elt) (target := target) (iter := iter) (scope := scope) (pos := pos) (it := .ref it) (acc := .ref acc)
      (F := fun h' => ∃ rs ds, J n rs ds ∧ Own B.hb h' ((C, NP []) :: (acc, LP rs) :: (B.L, NP pl) :: ds)) n
      (fun i h' => ∃ rs ds, J i rs ds ∧ Own B.hb h' ((C, NP []) :: (acc, LP rs) :: (it, P i) :: (B.L, NP pl) :: ds)) (fun i h' hi j => ?_) (h := h₁) ⟨[], cs, h0, O3.perm (.cons _ (.cons _ (List.Perm.swap ..)))⟩ s₃ hs₃
    · refine codeAny_mono L fun r s' q => ?_
      cases r with
      | error e => exact q.elim
      | ok f => cases f with
        | next =>
          obtain ⟨S', rs, ds, j, O⟩ := q
          obtain ⟨m, hm, _⟩ := np_of (O.get (.head _))
          exact hRR acc C rs ds m s' j (S.trans S') hm (O.weak fun _ _ => trivial)
        | _ => exact q.elim
    · obtain ⟨rs, ds, j, O⟩ := j
      have Oi : Own B.hb h' ((it, P i) :: (C, NP []) :: (acc, LP rs) :: (B.L, NP pl) :: ds) := O.perm (by
        refine (List.Perm.trans (.cons _ (List.Perm.swap ..)) (List.Perm.swap ..)))
      refine W.next B.w B.A i h' _ I.1.2.2 hi Oi (hneed i rs ds j _ fun c hc => .tail _ (.tail _ (.tail _ hc))) _ (fun v h₂ hlt hv O₂ => ?_) (fun h₂ hn O₂ => ⟨rs, ds, hn ▸ j, O₂⟩)
      refine ⟨hlt, ?_⟩
      obtain ⟨pl', T, he⟩ := turn i rs ds C acc it hlt j
      have I' : Is ⟨B.w, B.A, B.hb, compEnvC scope (closOf scope.names ca) C B.env, C⟩ ks' [] ((acc, LP rs) :: (it, P (i + 1)) :: (B.L, NP pl) :: ds) h₂ := ⟨⟨EI, I.1.2.1, I.1.2.2⟩, O₂.perm (by
        refine (List.Perm.trans (List.Perm.swap ..) (.cons _ (List.Perm.swap ..))))⟩
      have fin : ∀ h₃, Is ⟨B.w, B.A, B.hb, compEnvC scope (closOf scope.names ca) C B.env, C⟩ ks' pl' ((acc, LP rs) :: (it, P (i + 1)) :: (B.L, NP pl) :: ds) h₃ → Run B.w B.A (eval elt (compEnvC scope (closOf scope.names ca) C B.env)) h₃ (fun y h₄ => Run B.w B.A (PySem.call (.builtin "list.append") [.ref acc, y]) h₄ (fun _ h₅ => ∃ rs ds, J (i + 1) rs ds ∧ Own B.hb h₅ ((C, NP []) :: (acc, LP rs) :: (it, P (i + 1)) :: (B.L, NP pl) :: ds))) := fun h₃ I₃ =>
        he h₃ I₃ _ fun q y h₄ D j' hy I₄ => by
          obtain ⟨ds', hless, j'⟩ := j'
          have O₄ := (I₄.less hless).2.swap
          obtain ⟨ob, e1, ws, lv, iv⟩ := O₄.get (.head _)
          have hw := iv.len
          have hr := hJ i rs ds j
          refine Run.append (O₄.fix e1 (P' := LV ws) lv) (by omega) fun h₅ O₅ => ⟨rs ++ [q], ds', j', ?_⟩
          exact ((O₅.weak (P' := LP (rs ++ [q])) fun o z => ⟨_, z, iv.app (.cons hy .nil)⟩).swap.pickQ (l' := []) trivial)
      generalize hvi : val i = vi at T hv
      cases T with
      | name hx => exact Run.noTuple (Run.assName (Run.st EI I'.2 hx hv fun h₃ O₃ => fin h₃ ⟨I'.1, O₃⟩))
      | two hx hy ht =>
        cases hv
        refine W.owned B.w B.A (i + 1) h₂ _ _ _ _ _ O₂ _ ?_
        exact Run.assign2 (B := ⟨B.w, B.A, B.hb, compEnvC scope (closOf scope.names ca) C B.env, C⟩) (F := fun _ h₃ => Run B.w B.A (eval elt (compEnvC scope (closOf scope.names ca) C B.env)) h₃ (fun y h₄ => Run B.w B.A (PySem.call (.builtin "list.append") [.ref acc, y]) h₄ (fun _ h₅ => ∃ rs ds, J (i + 1) rs ds ∧ Own B.hb h₅ ((C, NP []) :: (acc, LP rs) :: (it, P (i + 1)) :: (B.L, NP pl) :: ds)))) I' (.tail _ (.tail _ (.tail _ ht))) hx hy (fun h₃ I₃ => fin h₃ I₃)
  refine codeAny_compStart_list (loop _ ⟨rfl, rfl, rfl⟩ rfl) ?_
  refine wpAny_mono (W.self B.w B.A h₁ _ (O3.perm (by
    refine List.Perm.trans (.cons _ (.trans (.cons _ (List.Perm.swap ..)) (List.Perm.swap ..))) (List.Perm.swap ..))) (fun v h' => v = .ref it ∧ h' = h₁) ⟨rfl, rfl⟩ _ rfl) (fun v s' q => ?_) fun _ _ e => e.elim
  obtain ⟨S, rfl, hh⟩ := q
  exact loop s' ⟨S.1, S.2, S.3⟩ hh
end

/-! F18 -/
theorem block_fn {B : Base} {ks : Kinds} (E : EnvIs B.env B.L ks) : B.env.blockKind = .function := by unfold Env.blockKind; rw [E.fn]; rfl
theorem swaps_cell {B : Base} {ks : Kinds} {elt : Expr} {gens : List Comprehension} {scope : Scope} {pos yp : Pos} {y : Str} {n : Nat} (E : EnvIs B.env B.L ks) (hk : ks.lookup y = some .cell) : swapsWith (.ListComp elt gens scope pos) (some (.Name y yp)) n B.env = Pure.pure false := by
  show (Pure.pure (B.env.blockKind == .function && B.env.kindOf y == some .local && yp.line == pos.line && !(scope.names.any fun (n, k) => n == y && (k == .local || k == .cell))) : Sem Bool) = _
  rw [E.kinds _ _ hk, block_fn E]; rfl
theorem swaps_local {B : Base} {ks : Kinds} {elt : Expr} {gens : List Comprehension} {scope : Scope} {pos yp : Pos} {y : Str} {n : Nat} (E : EnvIs B.env B.L ks) (hk : ks.lookup y = some .local) (hl : (yp.line == pos.line && !(scope.names.any fun (n, k) => n == y && (k == .local || k == .cell))) = true) :
    swapsWith (.ListComp elt gens scope pos) (some (.Name y yp)) n B.env = Pure.pure true := by
  show (Pure.pure (B.env.blockKind == .function && B.env.kindOf y == some .local && yp.line == pos.line && !(scope.names.any fun (n, k) => n == y && (k == .local || k == .cell))) : Sem Bool) = _
  rw [E.kinds _ _ hk, block_fn E]
  rw [Bool.and_eq_true] at hl
  rw [hl.1, hl.2]; rfl
/-- what a comprehension's scope has to be like -/
structure ScopeOk (ks ks' : Kinds) (scope : Scope) : Prop where
  kinds : compKinds ks ks' scope.names = true
  fn : scope.kind = .function
  plain : scope.isGenerator = false ∧ scope.isCoroutine = false
  cell : (scope.names.all fun y => y.2 != .cell) = true
  names : (scope.names.all fun y => y.2 != .local || scope.names.lookup y.1 == some .local) = true
theorem ScopeOk.local' {ks ks' : Kinds} {scope : Scope} (x : ScopeOk ks ks' scope) : ∀ y ∈ scope.names, y.2 = .local → scope.names.lookup y.1 = some .local := fun y hy e => by
  have := List.all_eq_true.mp x.names y hy
  rw [e] at this
  simpa using this
def freeOk (names : List (Str × NameKind)) (env : Env) (ca : Str → Addr) : List (Str × NameKind) → Prop
  | [] => True
  | p :: r => (match p.2 with | .free => env.cells.lookup p.1 = some (ca p.1) | _ => True) ∧ freeOk names env ca r
theorem freeOk.get {names : List (Str × NameKind)} {env : Env} {ca : Str → Addr} {l : List (Str × NameKind)} (h : freeOk names env ca l) : ∀ p ∈ l, p.2 = .free → env.cells.lookup p.1 = some (ca p.1) := by
  induction l with
  | nil => intro p hp; cases hp
  | cons q r ih =>
    intro p hp e
    rcases List.mem_cons.mp hp with rfl | hp
    · have := h.1; rw [e] at this; exact this
    · exact ih h.2 p hp e

section
variable {B : Base} {ks ks' : Kinds} {pl : Names} {cs : List Cell} {elt target iter : Expr} {scope : Scope} {pos spos xp yp : Pos} {Q : PV → List Cell → Prop} {n : Nat} {val : Nat → PV} {J : Nat → List PV → List Cell → Prop} {ca : Str → Addr} {need : Addr → List Cell → Prop} {P : Addr → Nat → Obj → Prop} {F : Flow → Heap → Prop} {rest : List Stmt} {x y : Str} {a : Addr} {ps : List PV}

/-- the source of a comprehension: what its iterable gives -/
def Source (B : Base) (ks : Kinds) (pl : Names) (cs : List Cell) (iter : Expr) (P : Nat → Obj → Prop) (need : Addr → List Cell → Prop) (n : Nat) (val : Nat → PV) : Prop :=
  (∀ it, Walk B.hb it (need it) P n val) ∧ ∀ h, Is B ks pl cs h → ∀ G : Value → Heap → Prop, (∀ it h', Is B ks pl ((it, P 0) :: cs) h' → G (.ref it) h') → Run B.w B.A (eval iter B.env) h (fun v h' => Run B.w B.A (pyIter v) h' G)
theorem Source.list {R : Obj → Prop} (he : Ev B ks pl cs iter (.O a)) (hm : (a, R) ∈ cs) (hR : ∀ o, R o → WL ps o) : Source B ks pl cs iter (LIt a) (fun _ D => ∃ R, (a, R) ∈ D ∧ ∀ o, R o → WL ps o) ps.length (fun i => ps.getD i .N) :=
  ⟨fun it => Walk.list, fun h I G k => he h I _ fun v h' hv I' s hs => by
    cases hv
    subst hs
    obtain ⟨o, e, r⟩ := I'.2.get (.tail _ hm)
    obtain ⟨vs, hl, iv⟩ := wl_at ⟨o, e, hR o r⟩
    exact wpAny_pyIter_list hl ⟨⟨rfl, rfl, rfl⟩, k _ _ (I'.add (I'.2.push _ ⟨rfl, rfl⟩))⟩⟩
theorem Source.range {m k : Int} {c : Nat} (hc : c = (k - m).toNat) (hi : EvP B ks pl cs iter (fun p ds => ∃ a, p = .O a ∧ ds = (a, Rg m k 1) :: cs)) (hsm : Builtin.Range.small m k 1 = true) : Source B ks pl cs iter (fun i => RIt (m + i) ((c : Int) - i) 1) (fun _ _ => True) c (fun i => .I (m + i)) :=
  ⟨fun it => Walk.range, fun h I G kk => hi h I _ fun p v h' ds j hv I' => by
    obtain ⟨a, rfl, rfl⟩ := j
    cases hv
    refine Run.iterRange I'.2 (.tail _ (.head _)) hsm fun it h₂ O₂ => kk it h₂ ?_
    have hsz : Builtin.Range.rangeSize m k 1 = c := by rw [rangeSize_one]; split <;> omega
    rw [hsz] at O₂
    have e : RIt (m + ((0 : Nat) : Int)) ((c : Int) - ((0 : Nat) : Int)) 1 = RIt m c 1 := by rw [show m + ((0 : Nat) : Int) = m by omega, show (c : Int) - ((0 : Nat) : Int) = c by omega]
    show Is B ks pl ((it, RIt (m + ((0 : Nat) : Int)) ((c : Int) - ((0 : Nat) : Int)) 1) :: cs) h₂
    rw [e]
    exact ⟨I.1, (O₂.sub (.cons_cons _ (.cons_cons _ (.cons _ (List.Sublist.refl _))))).perm (List.Perm.swap ..)⟩⟩

/-- [elt for .. in ..] -/
theorem EvP.comp {P : Nat → Obj → Prop} (src : Source B ks pl cs iter P need n val) (S : ScopeOk ks ks' scope) (hfree : freeOk scope.names B.env ca scope.names)
    (J : Nat → List PV → List Cell → Prop) (hneed : ∀ it i rs ds, J i rs ds → ∀ D, (∀ c ∈ ds, c ∈ D) → need it D) (hz : n ≤ 900) (hJ : ∀ i rs ds, J i rs ds → rs.length ≤ i) (h0 : J 0 [] cs) (turn : CompTurn B ks' pl scope ca elt target n val P J)
    (k : ∀ acc rs ds, J n rs ds → Q (.O acc) ((acc, LP rs) :: ds)) (hs : ∀ x, foldedSetIterable iter B.env x = Pure.pure x := by intro _; rfl) : EvP B ks pl cs (.ListComp elt [⟨target, iter, [], 0⟩] scope pos) Q := fun h I G kk s hh => by
  rw [eval_ListComp]
  refine wpAny_comprehension_free (use := none) rfl hs (closure_of ca hfree.get) S.fn S.local' (wpAny_mono (src.2 h I (fun v h' => ∃ it, v = .ref it ∧ Is B ks pl ((it, P 0) :: cs) h') (fun it h' I' => ⟨it, rfl, I'⟩) s hh) (fun xv s₁ q₁ => wpAny_mono (q₁.2.on q₁.1) (fun itv s₂ q₂ => ?_) fun _ _ e => e) fun _ _ e => e)
  obtain ⟨S₂, it, rfl, I₂⟩ := q₂
  refine comp_block (need := need) (RR := fun acc C => compPost (model PG B.w) B.A (fun _ _ => False) none (fun v s' => Same s s' ∧ G v s'.heap) acc C) I₂ (src.1 it) (hneed it) hz hJ S.kinds S.fn S.plain S.cell h0 turn ?_
  intro acc C rs ds m s' j S' hn O
  exact ⟨m, hn, fun h' hs' => ⟨⟨(S₂.trans S').1, (S₂.trans S').2, (S₂.trans S').3⟩, kk _ _ _ _ (k acc rs ds j) rfl (I.1 |> fun z => ⟨z, (O.extTail hs'.extBut).swap⟩)⟩⟩
/-- y = [elt for .. in ..], into a local name: the value is stored ahead of the comprehension's names' end -/
theorem Ex.assignComp {P : Nat → Obj → Prop} (src : Source B ks pl cs iter P need n val) (S : ScopeOk ks ks' scope) (hfree : freeOk scope.names B.env ca scope.names)
    (J : Nat → List PV → List Cell → Prop) (hneed : ∀ it i rs ds, J i rs ds → ∀ D, (∀ c ∈ ds, c ∈ D) → need it D) (hz : n ≤ 900) (hJ : ∀ i rs ds, J i rs ds → rs.length ≤ i) (h0 : J 0 [] cs) (turn : CompTurn B ks' pl scope ca elt target n val P J)
    (k : ∀ acc rs ds, J n rs ds → Ex B ks ((y, .O acc) :: pl) ((acc, LP rs) :: ds) rest F) (hk : ks.lookup y = some .local) (hl : (yp.line == pos.line && !(scope.names.any fun (n, k) => n == y && (k == .local || k == .cell))) = true)
    (hs : ∀ x, foldedSetIterable iter B.env x = Pure.pure x := by intro _; rfl) : Ex B ks pl cs (.Assign [.Name y yp] (.ListComp elt [⟨target, iter, [], 0⟩] scope pos) spos :: rest) F := fun h I =>
  Run.seq fun s hh => by
    rw [exec_Assign_Name_used _ _ _ _ (swaps_local I.1.1 hk hl)]
    refine wpAny_bind (wpAny_standAt (wpAny_bind ?_))
    show wpAny _ B.A (do let _ ← comprehension (.ListComp elt [⟨target, iter, [], 0⟩] scope pos) scope B.env _ (newList []) false (eval iter B.env) (some (PySem.assign (.Name y yp) B.env))) _ _ s
    refine wpAny_bind (wpAny_mono (Q := fun _ s' => Same s s' ∧ Run B.w B.A (execs rest B.env) s'.heap F) (wpAny_comprehension_free (use := some (PySem.assign (.Name y yp) B.env)) rfl hs (closure_of ca hfree.get) S.fn S.local' (wpAny_mono (src.2 h I (fun v h' => ∃ it, v = .ref it ∧ Is B ks pl ((it, P 0) :: cs) h') (fun it h' I' => ⟨it, rfl, I'⟩) s hh) (fun xv s₁ q₁ => wpAny_mono (q₁.2.on q₁.1) (fun itv s₂ q₂ => ?_) fun _ _ e => e) fun _ _ e => e)) (fun _ s' q => wpAny_pure (wpAny_pure q)) fun _ _ e => e)
    obtain ⟨S₂, it, rfl, I₂⟩ := q₂
    refine comp_block (need := need) (RR := fun acc C => compPost (model PG B.w) B.A (fun _ _ => False) (some (PySem.assign (.Name y yp) B.env)) (fun _ s' => Same s s' ∧ Run B.w B.A (execs rest B.env) s'.heap F) acc C) I₂ (src.1 it) (hneed it) hz hJ S.kinds S.fn S.plain S.cell h0 turn ?_
    intro acc C rs ds m s' j S' hn O
    show wpAny _ B.A (PySem.assign (.Name y yp) B.env (.ref acc)) _ _ _
    have O' : Own B.hb s'.heap ((B.L, NP pl) :: (C, fun o => ∃ es ep, o.data = .dict es ep ∧ StrKeys es) :: (acc, LP rs) :: ds) := by
      obtain ⟨o, es, ep, e, hd, hk', _⟩ := hn
      exact (O.fix e (P' := fun o => ∃ es ep, o.data = .dict es ep ∧ StrKeys es) ⟨es, ep, hd, hk'⟩).perm (.trans (.cons _ (List.Perm.swap ..)) (List.Perm.swap ..))
    refine wpAny_mono ((Run.assName (Run.st (p := .O acc) (F := fun _ h => Own B.hb h ((B.L, NP ((y, .O acc) :: pl)) :: (C, fun o => ∃ es ep, o.data = .dict es ep ∧ StrKeys es) :: (acc, LP rs) :: ds)) I.1.1 O' hk rfl fun h' O => O)) s' rfl) (fun _ s₃ q => ?_) fun _ _ e => e.elim
    obtain ⟨S₃, O₃⟩ := q
    obtain ⟨o, e, es, ep, hd, hk'⟩ := O₃.get (.tail _ (.head _))
    refine ⟨fun x => nsFind es x, ⟨o, es, ep, e, hd, hk', fun _ => rfl⟩, fun h' hs' => ⟨⟨((S₂.trans S').trans S₃).1, ((S₂.trans S').trans S₃).2, ((S₂.trans S').trans S₃).3⟩, ?_⟩⟩
    exact k acc rs ds j h' ⟨I.1, O₃.swap.extTail hs'.extBut⟩
end

/-! F19 -/
/-! cells, read as data -/
theorem reads_strs {h : Heap} {vs : List Value} {ss : List Str} (x : Ares (ss.map .T) vs) : ∃ as, ReadsAll h vs (ss.map .str) as := by
  induction ss generalizing vs with
  | nil => cases x; exact ⟨[], .nil⟩
  | cons s r ih => cases x with | cons a b => obtain ⟨t, rfl⟩ := a; obtain ⟨as, q⟩ := ih b; exact ⟨_, .cons (.str s t) q⟩
theorem reads_ints {h : Heap} {vs : List Value} {ns : List Int} (x : Ares (ns.map .I) vs) : ∃ as, ReadsAll h vs (ns.map .int) as := by
  induction ns generalizing vs with
  | nil => cases x; exact ⟨[], .nil⟩
  | cons s r ih => cases x with | cons a b => obtain ⟨t, rfl⟩ := a; obtain ⟨as, q⟩ := ih b; exact ⟨_, .cons (.int s t) q⟩
theorem reads_list {h : Heap} {a : Addr} {vs : List Value} {ds : List PyData} (x : ∃ o, h.get? a = some o ∧ LV vs o) (r : ∃ as, ReadsAll h vs ds as) : ∃ as, Reads h (.ref a) (.list ds) as := by
  obtain ⟨o, e, n, rfl⟩ := x
  obtain ⟨as, r⟩ := r
  exact ⟨_, .list e rfl rfl r⟩
theorem reads_tuple {h : Heap} {a : Addr} {vs : List Value} {ds : List PyData} (x : ∃ o, h.get? a = some o ∧ TV vs o) (r : ∃ as, ReadsAll h vs ds as) : ∃ as, Reads h (.ref a) (.tuple ds) as := by
  obtain ⟨o, e, n, rfl⟩ := x
  obtain ⟨as, r⟩ := r
  exact ⟨_, .tuple e rfl rfl r⟩
section
variable {hb h : Heap} {cs : List Cell} {a : Addr}
theorem Own.strs {ss : List Str} (O : Own hb h cs) (hm : (a, LP (ss.map .T)) ∈ cs) : ∃ as, Reads h (.ref a) (.list (ss.map .str)) as := by
  obtain ⟨o, e, vs, lv, iv⟩ := O.get hm
  exact reads_list ⟨o, e, lv⟩ (reads_strs iv)
theorem Own.intsR {ns : List Int} (O : Own hb h cs) (hm : (a, LI ns) ∈ cs) : ∃ as, Reads h (.ref a) (.list (ns.map .int)) as := by
  obtain ⟨o, e, vs, lv, iv⟩ := O.get hm
  exact reads_list ⟨o, e, lv⟩ (reads_ints (Ares.ofInts iv))
theorem Own.rows {as : List Addr} {rs : List (List Int)} (O : Own hb h cs) (hm : (a, LP (as.map .O)) ∈ cs) (hl : as.length = rs.length) (hr : ∀ (i : Nat) (b : Addr) (r : List Int), as[i]? = some b → rs[i]? = some r → (b, LI r) ∈ cs) : ∃ bs, Reads h (.ref a) (.list (rs.map fun r => .list (r.map .int))) bs := by
  obtain ⟨o, e, vs, lv, iv⟩ := O.get hm
  refine reads_list ⟨o, e, lv⟩ ?_
  clear e lv hm
  induction as generalizing vs rs with
  | nil => cases iv; cases rs with
    | nil => exact ⟨[], .nil⟩
    | cons _ _ => cases hl
  | cons b as ih =>
    cases rs with
    | nil => cases hl
    | cons r rs =>
      cases iv with | cons x y =>
      cases x
      obtain ⟨c1, q1⟩ := O.intsR (hr 0 b r rfl rfl)
      obtain ⟨c2, q2⟩ := ih (rs := rs) (by simpa using hl) (fun i b r h1 h2 => hr (i + 1) b r (by simpa using h1) (by simpa using h2)) _ y
      exact ⟨_, .cons q1 q2⟩
end
theorem lay_strs {ss : List Str} (h : ∀ s ∈ ss, (PyData.str s).canLay0 = true) : PyData.canLayAll0 (ss.map .str) = true := by
  induction ss with
  | nil => rfl
  | cons s r ih =>
    rw [List.map_cons]
    unfold PyData.canLayAll0
    rw [ih fun x hx => h x (.tail _ hx), Bool.and_true]
    exact h s (.head _)
theorem lay_ints : ∀ ns : List Int, PyData.canLayAll0 (ns.map .int) = true
  | [] => rfl
  | n :: r => by rw [List.map_cons]; unfold PyData.canLayAll0; rw [lay_ints r]; rfl
theorem lay_rows : ∀ rs : List (List Int), PyData.canLayAll0 (rs.map fun r => .list (r.map .int)) = true
  | [] => rfl
  | r :: rs => by rw [List.map_cons]; unfold PyData.canLayAll0; rw [lay_rows rs, Bool.and_true]; exact lay_ints r
theorem depth_flat {α : Type} (f : α → PyData) (hf : ∀ a, (f a).depth = 0) : ∀ l : List α, PyData.depthAll (l.map f) = 0
  | [] => rfl
  | a :: r => by rw [List.map_cons]; unfold PyData.depthAll; rw [depth_flat f hf r, hf]; rfl
theorem depth_rows : ∀ rs : List (List Int), PyData.depthAll (rs.map fun r => PyData.list (r.map .int)) ≤ 1
  | [] => Nat.zero_le _
  | r :: rs => by
    rw [List.map_cons]; unfold PyData.depthAll
    have h1 : (PyData.list (r.map .int)).depth = 1 := by unfold PyData.depth; rw [depth_flat .int (fun _ => rfl)]
    rw [h1]
    exact Nat.max_le.mpr ⟨Nat.le_refl _, depth_rows rs⟩

section
variable {B : Base} {ks : Kinds} {pl : Names} {cs : List Cell} {e l r o : Expr} {pos apos fp : Pos} {p : PV} {P Q : PV → List Cell → Prop} {T : List Cell → Prop} {c c' : Bool} {F : Flow → Heap → Prop} {rest : List Stmt} {d u : Nat}
theorem TsP.of (x : Ts B ks pl cs e c) (k : T cs) : TsP B ks pl cs e c T := fun h I G kk => x h I G fun h' I' => kk h' _ k I'
theorem TsP.or2 {e₁ e₂ : Expr} {T₁ : List Cell → Prop} (h1 : TsP B ks pl cs e₁ false T₁) (h2 : ∀ ds, T₁ ds → TsP B ks pl ds e₂ c T) : TsP B ks pl cs (.BoolOp .Or [e₁, e₂] pos) c T := fun h I G k s hz =>
  isTrue_or (wpAny_mono (h1 h I (fun b h' => b = false ∧ ∃ ds, T₁ ds ∧ Is B ks pl ds h') (fun h' ds j I' => ⟨rfl, ds, j, I'⟩) s hz) (fun b s' q => by
    obtain ⟨S, rfl, ds, j, I'⟩ := q
    rw [if_neg Bool.false_ne_true]
    refine isTrue_or (wpAny_mono (h2 ds j _ I' (fun b h' => b = c ∧ ∃ ds, T ds ∧ Is B ks pl ds h') (fun h' ds j I' => ⟨rfl, ds, j, I'⟩) s' rfl) (fun b s' q => ?_) fun _ _ e => e)
    obtain ⟨S', rfl, ds, j, I'⟩ := q
    cases b
    · exact isTrue_or_nil ⟨S.trans S', k _ ds j I'⟩
    · exact ⟨S.trans S', k _ ds j I'⟩) fun _ _ e => e)
/-- l != r, of two lists of one content -/
theorem TsP.neSame (hA : AOk B.A d (u + 64)) (hl : EvP B ks pl cs l P) (hr : ∀ p ds, P p ds → EvP B ks pl ds r (fun q ds' => ∃ a b D, p = .O a ∧ q = .O b ∧ PyData.canLay0 D = true ∧ D.depth ≤ 8 ∧ (∀ h, Own B.hb h ds' → (∃ as, Reads h (.ref a) D as) ∧ ∃ bs, Reads h (.ref b) D bs) ∧ T ds'))
    (hm : behindInMarks .NotEq r = false := by with_unfolding_all rfl) : TsP B ks pl cs (.Compare l [.NotEq] [r] pos) false T := fun h I G k =>
  Run.isCmp (hl h I _ fun p va h₁ ds j ha I₁ => hr p ds j h₁ I₁ _ fun q vb h₂ ds' j' hb I₂ => by
    obtain ⟨a, b, D, rfl, rfl, lay, dep, rd, t⟩ := j'
    cases ha; cases hb
    intro s hs
    subst hs
    obtain ⟨⟨as, r1⟩, bs, r2⟩ := rd _ I₂.2.tail
    refine SeqAt.compareNe_reads r1 r2 lay lay (by have := hA.units; omega) ?_
    rw [SeqAt.eqv_refl D lay]
    exact ⟨Same.rfl', Run.truthB (k _ ds' t I₂)⟩) hm
/-- x.index(c), of a sign -/
theorem occ_sign (pre post : List Nat) (c : Nat) (h : c ∉ pre) : ∃ r, Builtin.Str.occurrences (S (pre ++ c :: post)) (S [c]) 0 (S (pre ++ c :: post)).length 1 = pre.length :: r := by
  have at' : ∀ i, StrLaws.At (S (pre ++ c :: post)) (S [c]) (S (pre ++ c :: post)).length i ↔ (pre ++ c :: post)[i]? = some c := fun i => by
    exact (StrLaws.subAt_one (S (pre ++ c :: post)) c i).trans (by rw [S_toList])
  rcases StrLaws.occ_head (S (pre ++ c :: post)) (S [c]) 1 (Nat.le_refl _) with ⟨_, hn⟩ | ⟨i, r, e, ha, hk⟩
  · exact absurd ((at' pre.length).mpr (by simp)) (hn _)
  · refine ⟨r, ?_⟩
    rw [e]
    congr 1
    have h1 := (at' i).mp ha
    rcases Nat.lt_trichotomy i pre.length with q | q | q
    · rw [List.getElem?_append_left q] at h1
      exact absurd (List.mem_of_getElem? h1) h
    · exact q
    · exact absurd ((at' pre.length).mpr (by simp)) (hk _ q)
theorem Ev.index {pre post : List Nat} {n : Nat} {k : Nat} {p1 : Pos} (ho : Ev B ks pl cs o (.T (S (pre ++ n :: post)))) (hn : n ∉ pre) (hbase : attributeBase o "index" B.env (eval o B.env) = eval o B.env := by rfl) (hline : (apos.endLine == pos.line) = true := by rfl) :
    Ev B ks pl cs (.Call (.Attribute o "index" apos) [.Constant (.str (S [n])) k p1] [] pos) (.I pre.length) := fun h I G kk s hs => by
  refine wpAny_Call_method_lateS hbase rfl hline (wpAny_mono (ho h I (fun v h' => (∃ t, v = .str (S (pre ++ n :: post)) t) ∧ Is B ks pl cs h') (fun v h' hv I' => ⟨hv, I'⟩) s hs) (fun ov s₁ q => ?_) fun _ _ e => e)
  obtain ⟨S₁, ⟨t, rfl⟩, I₁⟩ := q
  obtain ⟨r, hocc⟩ := occ_sign pre post n hn
  exact PySem.SB.index (a := PySem.eval (.Constant (.str (S [n])) k p1) B.env) (Calls.Constant_str ⟨S [n], _, rfl, _, r, hocc, ⟨⟨S₁.1, S₁.2, S₁.3⟩, kk _ _ ⟨_, rfl⟩ I₁⟩⟩)
end
section
variable {B : Base} {ks ks' : Kinds} {pl : Names} {cs : List Cell} {elt target iter : Expr} {scope : Scope} {pos spos xp yp : Pos} {Q : PV → List Cell → Prop} {n : Nat} {val : Nat → PV} {ca : Str → Addr} {need : Addr → List Cell → Prop} {P : Nat → Obj → Prop} {F : Flow → Heap → Prop} {rest : List Stmt} {y : Str}
/-- a turn that gives f i and keeps the cells -/
def MapTurn (B : Base) (ks' : Kinds) (pl : Names) (cs : List Cell) (scope : Scope) (ca : Str → Addr) (elt target : Expr) (n : Nat) (val : Nat → PV) (P : Nat → Obj → Prop) (f : Nat → PV) : Prop :=
  ∀ i C acc it rs, i < n → ∃ pl', Tgt ks' target (val i) cs pl' ∧ EvP ⟨B.w, B.A, B.hb, compEnvC scope (closOf scope.names ca) C B.env, C⟩ ks' pl' ((acc, LP rs) :: (it, P (i + 1)) :: (B.L, NP pl) :: cs) elt
    (fun q D => q = f i ∧ Less ((acc, LP rs) :: (it, P (i + 1)) :: (B.L, NP pl) :: cs) D)
theorem MapTurn.comp {f : Nat → PV} (x : MapTurn B ks' pl cs scope ca elt target n val P f) : CompTurn B ks' pl scope ca elt target n val P (fun i rs ds => rs = (List.range i).map f ∧ ds = cs) := by
  rintro i rs ds C acc it hi ⟨h1, h2⟩
  rw [h2]
  obtain ⟨pl', t, e⟩ := x i C acc it rs hi
  refine ⟨pl', t, e.mono fun q D j => ⟨cs, j.2, ?_, rfl⟩⟩
  rw [j.1, h1, List.range_succ, List.map_append]; rfl
theorem EvP.compMap (src : Source B ks pl cs iter P need n val) (S : ScopeOk ks ks' scope) (hfree : freeOk scope.names B.env ca scope.names) (hneed : ∀ it D, (∀ c ∈ cs, c ∈ D) → need it D) (hz : n ≤ 900) (f : Nat → PV) (turn : MapTurn B ks' pl cs scope ca elt target n val P f)
    (k : ∀ acc, Q (.O acc) ((acc, LP ((List.range n).map f)) :: cs)) (hs : ∀ x, foldedSetIterable iter B.env x = Pure.pure x := by intro _; rfl) : EvP B ks pl cs (.ListComp elt [⟨target, iter, [], 0⟩] scope pos) Q :=
  EvP.comp src S hfree (fun i rs ds => rs = (List.range i).map f ∧ ds = cs) (fun it i rs ds j D hD => hneed it D (j.2 ▸ hD)) hz (fun i rs ds j => by rw [j.1]; simp) ⟨rfl, rfl⟩ turn.comp (fun acc rs ds j => by rw [j.1, j.2]; exact k acc) hs
theorem Ex.assignCompMap (src : Source B ks pl cs iter P need n val) (S : ScopeOk ks ks' scope) (hfree : freeOk scope.names B.env ca scope.names) (hneed : ∀ it D, (∀ c ∈ cs, c ∈ D) → need it D) (hz : n ≤ 900) (f : Nat → PV) (turn : MapTurn B ks' pl cs scope ca elt target n val P f)
    (k : ∀ acc, Ex B ks ((y, .O acc) :: pl) ((acc, LP ((List.range n).map f)) :: cs) rest F) (hk : ks.lookup y = some .local) (hl : (yp.line == pos.line && !(scope.names.any fun (n, k) => n == y && (k == .local || k == .cell))) = true)
    (hs : ∀ x, foldedSetIterable iter B.env x = Pure.pure x := by intro _; rfl) : Ex B ks pl cs (.Assign [.Name y yp] (.ListComp elt [⟨target, iter, [], 0⟩] scope pos) spos :: rest) F :=
  Ex.assignComp src S hfree (fun i rs ds => rs = (List.range i).map f ∧ ds = cs) (fun it i rs ds j D hD => hneed it D (j.2 ▸ hD)) hz (fun i rs ds j => by rw [j.1]; simp) ⟨rfl, rfl⟩ turn.comp (fun acc rs ds j => by rw [j.1, j.2]; exact k acc) hk hl hs
end

/-! T7ws -/
def methAt (n k : Nat) : Stmt := match stmtAt n with | .ClassDef _ _ _ b .. => b.getD k (.Pass ⟨0, 0, 0, 0⟩) | _ => .Pass ⟨0, 0, 0, 0⟩
structure WsK (K : Frag) : Prop where
  cls : KCls K 220
  reads : readsIn K 220 (.type "type") = true
  cS : ∃ t, findCls K (.ref 220) (.type "type") "S" = some (.val (.str (S [32]) t))
  cT : ∃ t, findCls K (.ref 220) (.type "type") "T" = some (.val (.str (S [9]) t))
  init : findIn K (.ref 220) "__init__" = some (some (.ref 175))
  initFn : isFn K (.ref 175) = true
  sets : takerIn K 220 "raw" = some none ∧ takerIn K 220 "n" = some none ∧ takerIn K 220 "nt" = some none ∧ takerIn K 220 "norm" = some none ∧ takerIn K 220 "is_simple" = some none
  gets : findIn K (.ref 220) "raw" = some none ∧ findIn K (.ref 220) "norm" = some none ∧ findIn K (.ref 220) "nt" = some none
  meth : findIn K (.ref 220) "indent_level" = some (some (.ref 189))
  methFn : isFn K (.ref 189) = true
  methKeep : keepIn K (.ref 189) = true

/-! ## Whitespace -/
def bump (cnt : List Int) (b : Nat) : List Int := let c := if cnt.length ≤ b then cnt ++ List.replicate (b - cnt.length + 1) 0 else cnt
  c.set b (c.getD b 0 + 1)
abbrev WsSt := List Int × Nat × Nat
def wsStep (st : WsSt) (c : Nat) : WsSt := if c = 32 then (st.1, st.2.1 + 1, st.2.2) else (bump st.1 st.2.1, 0, st.2.2 + 1)
def wsRun : List Nat → WsSt → WsSt
  | [], st => st
  | c :: r, st => if c = 32 ∨ c = 9 then wsRun r (wsStep st c) else st
theorem wsRun_cons (c : Nat) (r : List Nat) (st : WsSt) : wsRun (c :: r) st = if c = 32 ∨ c = 9 then wsRun r (wsStep st c) else st := rfl
theorem bump_len (cnt : List Int) (b : Nat) : (bump cnt b).length = max cnt.length (b + 1) := by
  unfold bump
  simp only [List.length_set]
  split
  · simp; omega
  · omega
abbrev wKinds : List (Str × NameKind) := [("self", .local), ("ws", .local), ("S", .local), ("T", .local), ("count", .local), ("b", .local), ("n", .local), ("nt", .local), ("ch", .local), ("Whitespace", .globalImplicit), ("len", .globalImplicit), ("tuple", .globalImplicit)]

section
variable {w : World} {A : Around} {hb h : Heap} {cs : List Cell} {fd : FuncData} {d u : Nat} {F : Value → Heap → Prop} {K : Frag}
/-- what an object of Whitespace holds -/
abbrev WsNames (l : List Nat) (nrm : Addr) (nt : Nat) (n : Int) (sm : Bool) : List (Str × PV) := [("is_simple", .B sm), ("norm", .O nrm), ("nt", .I nt), ("n", .I n), ("raw", .T (S l))]
theorem wsInit_ok (X : K.In hb) (H : WsK K) (D : DefIs hb 175 (methAt 16 1) .none .none fd) {x dx : Addr} {l : List Nat} {t : Tok} (hA : AOk A (d + 1) (u + 3)) (G : Gd hb Globs Blts) (O : Own hb h ((dx, DN []) :: (x, IO 220 dx) :: cs)) (hz : l.length ≤ 100)
    (k : ∀ nrm tc n sm h', Own hb h' ((dx, DN (WsNames l nrm (wsRun l ([], 0, 0)).2.2 n sm)) :: (x, IO 220 dx) :: (nrm, TP [.O tc, .I (wsRun l ([], 0, 0)).2.1]) :: (tc, TP ((wsRun l ([], 0, 0)).1.map .I)) :: cs) → F .none h') :
    RunCall w A (.ref 175) ⟨[.ref x, .str (S l) t], []⟩ h F := by
  refine RunCall.def' D hA G O [("self", .ref x), ("ws", .str (S l) t)] [("self", .O x), ("ws", .T (S l))] (fun fd e1 e2 e3 s hs => BindsTo.of_eq ?_) ⟨⟨_, rfl, rfl⟩, ⟨_, rfl, _, rfl⟩, trivial⟩ wKinds rfl rfl rfl ⟨rfl, rfl, rfl⟩ ?_
  · cases fd; cases e1; cases e2; cases e3; rfl
  intro L env A' hA' hf
  refine Ex.setAttr X H.cls H.sets.1 (P := fun p ds => p = .T (S l) ∧ ds = (dx, DN []) :: (x, IO 220 dx) :: cs) (EvP.of (Ev.name rfl rfl) ⟨rfl, rfl⟩) ?_
  rintro _ _ ⟨rfl, rfl⟩
  refine ⟨[], _, dx, x, _, Ev.name rfl rfl, rfl, .tail _ (.head _), by simp, ?_⟩
  obtain ⟨tS, hS⟩ := H.cS
  obtain ⟨tT, hT⟩ := H.cT
  refine Ex.assignSwap (P := fun p ds => ∃ a, p = .O a ∧ ds = (a, TP [.T (S [32]), .T (S [9])]) :: (dx, DN [("raw", .T (S l))]) :: (x, IO 220 dx) :: cs) (EvP.tuple (EvsP.of (ps := [.T (S [32]), .T (S [9])]) (Evs.cons (Ev.clsAttr X H.reads hS Ev.glob) (Evs.cons (Ev.clsAttr X H.reads hT Ev.glob) Evs.nil)) ⟨by simp, fun a => ⟨a, rfl, rfl⟩⟩)) ?_ (hw := fun E => swapped2 E.fn (E.kinds _ _ rfl) (E.kinds _ _ rfl) rfl rfl)
  rintro _ _ ⟨a, rfl, rfl⟩
  refine ⟨a, _, _, rfl, .head _, Ex.sub (.cons _ (List.Sublist.refl _)) ?_⟩
  refine Ex.assignP (EvP.list (Q := fun p ds => ∃ a, p = .O a ∧ ds = (a, LP (([] : List Int).map .I)) :: (dx, DN [("raw", .T (S l))]) :: (x, IO 220 dx) :: cs) (EvsP.of Evs.nil ⟨by simp, fun a => ⟨a, rfl, rfl⟩⟩)) ?_
  rintro _ _ ⟨ca, rfl, rfl⟩
  refine Ex.weak (l₁ := []) (fun _ => LP.wl) ?_
  refine Ex.assign3 Ev.int ?_
  have fin : ∀ (st : WsSt) (n : Int) (ca : Addr) pl, st = wsRun l ([], 0, 0) → st.1.length ≤ 101 → PicksQ pl [("self", .O x), ("count", .O ca), ("b", .I st.2.1), ("n", .I n), ("nt", .I st.2.2)] →
      Ex ⟨w, A', hb, env, L⟩ wKinds pl ((ca, WL (st.1.map .I)) :: (dx, DN [("raw", .T (S l))]) :: (x, IO 220 dx) :: cs) (match methAt 16 1 with | .FunctionDef _ _ r .. => r.drop 5 | _ => []) (fun fl h' => F (match fl with | .ret v => v | _ => .none) h') := by
    intro st n ca pl hst hl hpl
    refine Ex.names _ hpl ?_
    refine Ex.setAttr X H.cls H.sets.2.1 (P := fun p ds => p = .I n ∧ ds = (ca, WL (st.1.map .I)) :: (dx, DN [("raw", .T (S l))]) :: (x, IO 220 dx) :: cs) (EvP.of (Ev.name rfl rfl) ⟨rfl, rfl⟩) ?_
    rintro _ _ ⟨rfl, rfl⟩
    refine ⟨[_], _, dx, x, _, Ev.name rfl rfl, rfl, .tail _ (.tail _ (.head _)), by simp, ?_⟩
    refine Ex.setAttr X H.cls H.sets.2.2.1 (P := fun p ds => p = .I st.2.2 ∧ ds = (ca, WL (st.1.map .I)) :: (dx, DN [("n", .I n), ("raw", .T (S l))]) :: (x, IO 220 dx) :: cs) (EvP.of (Ev.name rfl rfl) ⟨rfl, rfl⟩) ?_
    rintro _ _ ⟨rfl, rfl⟩
    refine ⟨[_], _, dx, x, _, Ev.name rfl rfl, rfl, .tail _ (.tail _ (.head _)), by simp, ?_⟩
    refine Ex.setAttr X H.cls H.sets.2.2.2.1 (P := fun p ds => ∃ nrm tc, p = .O nrm ∧ ds = (nrm, TP [.O tc, .I st.2.1]) :: (tc, TP (st.1.map .I)) :: (ca, WL (st.1.map .I)) :: (dx, DN [("nt", .I st.2.2), ("n", .I n), ("raw", .T (S l))]) :: (x, IO 220 dx) :: cs)
      (EvP.tuple (EvsP.cons (EvP.tupleOf (Q := fun p ds => ∃ tc, p = .O tc ∧ ds = (tc, TP (st.1.map .I)) :: (ca, WL (st.1.map .I)) :: (dx, DN [("nt", .I st.2.2), ("n", .I n), ("raw", .T (S l))]) :: (x, IO 220 dx) :: cs) (Ev.name rfl rfl) (.head _) (by rw [List.length_map]; omega) fun tc => ⟨tc, rfl, rfl⟩) (fun p ds j => ?_))) ?_
    · obtain ⟨tc, rfl, rfl⟩ := j
      exact EvsP.of (Evs.cons (Ev.name rfl rfl) Evs.nil) ⟨by simp, fun nrm => ⟨nrm, tc, rfl, rfl⟩⟩
    rintro _ _ ⟨nrm, tc, rfl, rfl⟩
    refine ⟨[_, _, _], _, dx, x, _, Ev.name rfl rfl, rfl, .tail _ (.tail _ (.tail _ (.tail _ (.head _)))), by simp, ?_⟩
    refine Ex.setAttr X H.cls H.sets.2.2.2.2 (P := fun p ds => p = .B (decide (((st.1.map PV.I).length : Int) ≤ 1)) ∧ ds = (nrm, TP [.O tc, .I st.2.1]) :: (tc, TP (st.1.map .I)) :: (ca, WL (st.1.map .I)) :: (dx, DN [("norm", .O nrm), ("nt", .I st.2.2), ("n", .I n), ("raw", .T (S l))]) :: (x, IO 220 dx) :: cs)
      (EvP.of (Ev.cmp (Ev.lenW (Ev.name rfl rfl) (.tail _ (.tail _ (.head _))) (by rw [List.length_map]; omega)) Ev.int Cmp.leI) ⟨rfl, rfl⟩) ?_
    rintro _ _ ⟨rfl, rfl⟩
    refine ⟨[_, _, _], _, dx, x, _, Ev.name rfl rfl, rfl, .tail _ (.tail _ (.tail _ (.tail _ (.head _)))), by simp, ?_⟩
    refine Ex.nil fun h' I => k nrm tc n (decide (((st.1.map PV.I).length : Int) ≤ 1)) h' ?_
    subst hst
    exact ((I.2.tail).sub (.cons_cons _ (.cons_cons _ (.cons _ (List.Sublist.refl _))))).perm ((List.perm_append_comm (l₁ := [_, _]) (l₂ := [_, _])).append_right cs)
  refine Ex.forStr (t := S l) (Ev.attrO X H.cls H.gets.1 (Ev.name rfl rfl) (.tail _ (.tail _ (.head _))) (.tail _ (.head _)) rfl)
    (fun i pl ds => ∃ (st : WsSt) (n : Int) (ca : Addr), wsRun l ([], 0, 0) = wsRun (l.drop i) st ∧ st.1.length ≤ i ∧ st.2.1 ≤ i ∧ ds = (ca, WL (st.1.map .I)) :: (dx, DN [("raw", .T (S l))]) :: (x, IO 220 dx) :: cs ∧ PicksQ pl [("self", .O x), ("S", .T (S [32])), ("T", .T (S [9])), ("count", .O ca), ("b", .I st.2.1), ("n", .I n), ("nt", .I st.2.2)])
    ⟨([], 0, 0), 0, ca, by simp, Nat.le_refl _, Nat.le_refl _, rfl, rfl, rfl, rfl, rfl, rfl, rfl, rfl, trivial⟩ rfl ?_ ?_
  · rintro i c it pl _ hc ⟨⟨cnt, b, nt⟩, n, ca, hrun, h1, h2, rfl, p1, p2, p3, p4, p5, p6, p7, _⟩
    have hc : l[i]? = some c := by simpa [S] using hc
    obtain ⟨hlt, _⟩ := List.getElem?_eq_some_iff.mp hc
    have hdr : l.drop i = c :: l.drop (i + 1) := by rw [List.drop_eq_getElem_cons hlt]; congr 1
    rw [hdr] at hrun
    dsimp only at h1 h2 p5 p7
    show Ex ⟨w, A', hb, env, L⟩ wKinds _ ((it, SIt (S l) (i + 1)) :: (ca, WL (cnt.map .I)) :: (dx, DN [("raw", .T (S l))]) :: (x, IO 220 dx) :: cs) _ _
    refine Ex.names [("ch", .T (S [c])), ("self", .O x), ("S", .T (S [32])), ("T", .T (S [9])), ("count", .O ca), ("b", .I b), ("n", .I n), ("nt", .I nt)] ⟨rfl, p1, p2, p3, p4, p5, p6, p7, trivial⟩ ?_
    refine Ex.ite (Ts.cmp (Ev.name rfl rfl) (Ev.name rfl rfl) Cmp.eqT) (fun q => ?_) (fun q => ?_)
    · have hc9 : c = 32 := by rw [S_beq] at q; simpa using q
      refine Ex.assign (Ev.bin (Ev.name rfl rfl) Ev.int Bin.addI) (Ex.assign (Ev.bin (Ev.name rfl rfl) Ev.int Bin.addI) (Ex.go (Turn.next (pl' := [("self", .O x), ("S", .T (S [32])), ("T", .T (S [9])), ("count", .O ca), ("b", .I (b + 1 : Nat)), ("n", .I (n + 1)), ("nt", .I nt)]) ⟨(cnt, b + 1, nt), n + 1, ca, ?_, ?_, ?_, rfl, rfl, rfl, rfl, rfl, rfl, rfl, rfl, trivial⟩ ⟨rfl, rfl, rfl, rfl, rfl, rfl, rfl, trivial⟩)))
      · rw [hrun, wsRun_cons, if_pos (.inl hc9)]; unfold wsStep; rw [if_pos hc9]
      · show cnt.length ≤ i + 1; omega
      · show b + 1 ≤ i + 1; omega
    · have hc32 : c ≠ 32 := by rw [S_beq] at q; simpa using q
      refine Ex.ite (Ts.cmp (Ev.name rfl rfl) (Ev.name rfl rfl) Cmp.eqT) (fun q => ?_) (fun q => ?_)
      · have hc9 : c = 9 := by rw [S_beq] at q; simpa using q
        have hst : wsRun l ([], 0, 0) = wsRun (l.drop (i + 1)) (bump cnt b, 0, nt + 1) := by
          rw [hrun, wsRun_cons, if_pos (.inr hc9)]; unfold wsStep; rw [if_neg hc32]
        refine Ex.assign (Ev.bin (Ev.name rfl rfl) Ev.int Bin.addI) (Ex.assign (Ev.bin (Ev.name rfl rfl) Ev.int Bin.addI) ?_)
        have tail : ∀ (c : List Int) (ca : Addr) pl, b < c.length → bump cnt b = c.set b (c.getD b 0 + 1) → PicksQ pl [("self", .O x), ("S", .T (S [32])), ("T", .T (S [9])), ("count", .O ca), ("b", .I b), ("n", .I (n + 1)), ("nt", .I (nt + 1 : Nat))] →
            Ex ⟨w, A', hb, env, L⟩ wKinds pl ((it, SIt (S l) (i + 1)) :: (ca, WL (c.map .I)) :: (dx, DN [("raw", .T (S l))]) :: (x, IO 220 dx) :: cs)
              (match methAt 16 1 with | .FunctionDef _ _ r .. => (match r.getD 4 (.Pass ⟨0, 0, 0, 0⟩) with | .For _ _ (.If _ _ (.If _ b _ _ :: _) _ :: _) .. => b.drop 3 | _ => []) | _ => [])
              (Sq ⟨w, A', hb, env, L⟩ [] (Sq ⟨w, A', hb, env, L⟩ [] (Turn ⟨w, A', hb, env, L⟩ wKinds (it, SIt (S l) (i + 1)) (fun pl ds => ∃ (st : WsSt) (n : Int) (ca : Addr), wsRun l ([], 0, 0) = wsRun (l.drop (i + 1)) st ∧ st.1.length ≤ i + 1 ∧ st.2.1 ≤ i + 1 ∧ ds = (ca, WL (st.1.map .I)) :: (dx, DN [("raw", .T (S l))]) :: (x, IO 220 dx) :: cs ∧ PicksQ pl [("self", .O x), ("S", .T (S [32])), ("T", .T (S [9])), ("count", .O ca), ("b", .I st.2.1), ("n", .I n), ("nt", .I st.2.2)])
                (match methAt 16 1 with | .FunctionDef _ _ r .. => r.drop 5 | _ => []) (fun fl h' => F (match fl with | .ret v => v | _ => .none) h')))) := by
          intro c ca pl hb' he hpl
          refine Ex.names _ hpl ?_
          have hg : (c.map PV.I)[((b : Nat) : Int).toNat]? = some (.I (c.getD b 0)) := by rw [Int.toNat_natCast, List.getElem?_map, getD_some hb']; rfl
          refine Ex.setItem (l₁ := [_]) (Ev.bin (Ev.itemW (Ev.name rfl rfl) (Ev.name rfl rfl) (.tail _ (.head _)) (by omega) hg (by omega)) Ev.int Bin.addI) (Ev.name rfl rfl) (Ev.name rfl rfl) (by omega) (by omega) (by rw [List.length_map]; omega) ?_
          refine Ex.assign Ev.int (Ex.go (Ex.go (Turn.next (pl' := [("self", .O x), ("S", .T (S [32])), ("T", .T (S [9])), ("count", .O ca), ("b", .I (0 : Nat)), ("n", .I (n + 1)), ("nt", .I (nt + 1 : Nat))]) ⟨(bump cnt b, 0, nt + 1), n + 1, ca, hst, ?_, Nat.zero_le _, ?_, rfl, rfl, rfl, rfl, rfl, rfl, rfl, trivial⟩ ⟨rfl, rfl, rfl, rfl, rfl, rfl, rfl, trivial⟩)))
          · show (bump cnt b).length ≤ i + 1; rw [bump_len]; omega
          · rw [Int.toNat_natCast, ← List.map_set, ← he]; rfl
        refine Ex.ite (Ts.cmp (Ev.name rfl rfl) (Ev.lenW (Ev.name rfl rfl) (.tail _ (.head _)) (by rw [List.length_map]; omega)) Cmp.geI) (fun q => ?_) (fun q => ?_)
        · have hge : cnt.length ≤ b := by rw [List.length_map] at q; simpa using q
          have en : ((b : Int) - ((cnt.map PV.I).length : Nat) + 1) = ((b - cnt.length + 1 : Nat) : Int) := by rw [List.length_map]; omega
          refine Ex.assignP (EvP.addW (P := fun p ds => p = .O ca ∧ ds = (it, SIt (S l) (i + 1)) :: (ca, WL (cnt.map .I)) :: (dx, DN [("raw", .T (S l))]) :: (x, IO 220 dx) :: cs)
            (Q := fun p ds => ∃ c2 D', p = .O c2 ∧ ds = (c2, LP (cnt.map .I ++ List.replicate (b - cnt.length + 1) (.I 0))) :: D' ∧ List.Sublist ((it, SIt (S l) (i + 1)) :: (dx, DN [("raw", .T (S l))]) :: (x, IO 220 dx) :: cs) D') (EvP.of (Ev.name rfl rfl) ⟨rfl, rfl⟩) ?_) ?_
          · rintro _ _ ⟨rfl, rfl⟩
            refine EvP.mul1 (n := b - cnt.length + 1) (P := fun p ds => ∃ a0, p = .O a0 ∧ ds = (a0, LP [.I 0]) :: (it, SIt (S l) (i + 1)) :: (ca, WL (cnt.map .I)) :: (dx, DN [("raw", .T (S l))]) :: (x, IO 220 dx) :: cs) (EvP.list (EvsP.of (Evs.cons Ev.int Evs.nil) ⟨by simp, fun a => ⟨a, rfl, rfl⟩⟩)) ?_
            rintro _ _ ⟨a0, rfl, rfl⟩
            refine ⟨a0, _, rfl, .head _, en ▸ Ev.bin (Ev.bin (Ev.name rfl rfl) (Ev.lenW (Ev.name rfl rfl) (.tail _ (.tail _ (.head _))) (by rw [List.length_map]; omega)) Bin.subI) Ev.int Bin.addI, by omega, fun c1 => ?_⟩
            refine ⟨ca, _, c1, _, _, _, rfl, rfl, ⟨.tail _ (.tail _ (.tail _ (.head _))), fun _ q => q⟩, ⟨.head _, fun _ => LP.wl⟩, ?_, fun c2 => ⟨c2, _, rfl, rfl, .cons _ (.cons _ (.cons_cons _ (.cons _ (List.Sublist.refl _))))⟩⟩
            · rw [List.length_map, List.length_replicate]; omega
          · rintro _ _ ⟨c2, D', rfl, rfl, sb⟩
            rw [show cnt.map PV.I ++ List.replicate (b - cnt.length + 1) (.I 0) = (cnt ++ List.replicate (b - cnt.length + 1) 0).map PV.I by simp]
            refine Ex.sub (.cons_cons _ sb) (Ex.perm (List.Perm.swap ..) (Ex.weak (l₁ := [_]) (fun _ => LP.wl) (Ex.go (tail _ c2 _ ?_ ?_ ⟨rfl, rfl, rfl, rfl, rfl, rfl, rfl, trivial⟩))))
            · simp; omega
            · unfold bump; rw [if_pos hge]
        · have hlt' : ¬ cnt.length ≤ b := by rw [List.length_map] at q; simpa using q
          refine Ex.go (tail cnt ca _ (by omega) ?_ ⟨rfl, rfl, rfl, rfl, rfl, rfl, rfl, trivial⟩)
          unfold bump; rw [if_neg hlt']
      · have hc9 : c ≠ 9 := by rw [S_beq] at q; simpa using q
        refine Ex.brk fun h I => fin (cnt, b, nt) n ca _ ?_ (by show cnt.length ≤ 101; omega) ⟨rfl, rfl, rfl, rfl, rfl, trivial⟩ h (I.sub (.cons _ (List.Sublist.refl _)))
        rw [hrun, wsRun_cons, if_neg (by rintro (h | h) <;> contradiction)]
  · rintro pl _ ⟨st, n, ca, hrun, h1, h2, rfl, p1, p2, p3, p4, p5, p6, p7, _⟩
    have hsz : (S l).cps.size = l.length := by simp [S]
    rw [hsz] at hrun h1
    rw [List.drop_length] at hrun
    exact fin st n ca pl hrun.symm (by omega) ⟨p1, p4, p5, p6, p7, trivial⟩
end

/-! T8ind -/
section
variable {w : World} {A : Around} {hb h : Heap} {cs : List Cell} {fd : FuncData} {d u : Nat} {F : Value → Heap → Prop} {K : Frag}
theorem wsNew_ok (X : K.In hb) (H : WsK K) (D : DefIs hb 175 (methAt 16 1) .none .none fd) {l : List Nat} {t : Tok} (hA : AOk A (d + 2) (u + 4)) (G : Gd hb Globs Blts) (O : Own hb h cs) (hz : l.length ≤ 100)
    (k : ∀ x dx nrm tc n sm h', Own hb h' ((dx, DN (WsNames l nrm (wsRun l ([], 0, 0)).2.2 n sm)) :: (x, IO 220 dx) :: (nrm, TP [.O tc, .I (wsRun l ([], 0, 0)).2.1]) :: (tc, TP ((wsRun l ([], 0, 0)).1.map .I)) :: cs) → F (.ref x) h') :
    Run w A (PySem.call (.ref 220) [.str (S l) t]) h F :=
  Run.make X H.cls H.init H.initFn O fun x dx h' O' => wsInit_ok (d := d) (u := u) X H D hA.make G O' hz fun nrm tc n sm h'' O'' => ⟨rfl, k x dx nrm tc n sm h'' O''⟩
def ilAt (size : Nat) (cnt : List Int) : Nat → Int
  | 0 => 0
  | k + 1 => ilAt size cnt k + ((size : Int) + k).fdiv size * cnt.getD (size + k) 0
def indentOf (size : Nat) (st : WsSt) : Int := st.2.1 + size * (ilAt size st.1 (st.1.length - size) + st.2.2)
theorem indent_ok (X : K.In hb) (H : WsK K) (D : DefIs hb 189 (methAt 16 3) .none .none fd) {l : List Nat} {t : Tok} {x dx nrm tc : Addr} {n : Int} {sm : Bool} {st : WsSt} {size : Nat} (hA : AOk A (d + 1) (u + 3)) (G : Gd hb Globs Blts) (O : Own hb h cs)
    (hd : (dx, DN (WsNames l nrm st.2.2 n sm)) ∈ cs) (hx : (x, IO 220 dx) ∈ cs) (hn : (nrm, TP [.O tc, .I st.2.1]) ∈ cs) (ht : (tc, TP (st.1.map .I)) ∈ cs) (h0 : 0 < size) (h1 : size ≤ 100) (h2 : st.1.length ≤ 200)
    (k : ∀ t h', Own hb h' cs → F (.int (indentOf size st) t) h') :
    Run w A (PySem.call (.ref 189) [.ref x, .int size t]) h F := by
  refine Run.def' D hA G O [("self", .ref x), ("tabsize", .int size t)] [("self", .O x), ("tabsize", .I size)] (fun fd e1 e2 e3 s hs => BindsTo.of_eq ?_) ⟨⟨_, rfl, rfl⟩, ⟨_, rfl, _, rfl⟩, trivial⟩
    [("self", .local), ("tabsize", .local), ("count", .local), ("trailing", .local), ("il", .local), ("i", .local), ("range", .globalImplicit), ("len", .globalImplicit)] rfl rfl rfl ⟨rfl, rfl, rfl⟩ ?_
  · cases fd; cases e1; cases e2; cases e3; rfl
  intro L env A' hA' hf
  refine Ex.assignTup (P := fun p ds => p = .O nrm ∧ cs = ds) (EvP.of (Ev.attrO X H.cls H.gets.2.1 (Ev.name rfl rfl) hx hd rfl) ⟨rfl, rfl⟩) ?_
  rintro _ _ ⟨rfl, rfl⟩
  refine ⟨nrm, _, _, rfl, hn, .cons rfl (.cons rfl .nil), ?_⟩
  refine Ex.assign Ev.int (Ex.names [("il", .I (ilAt size st.1 0)), ("count", .O tc), ("trailing", .I st.2.1), ("self", .O x), ("tabsize", .I size)] ⟨rfl, rfl, rfl, rfl, rfl, trivial⟩ ?_)
  refine Ex.forRng (m := size) (n := st.1.length) (st.1.length - size) (by omega) (EvP.range2 (Ev.name rfl rfl) (Ev.lenTup (ps := st.1.map .I) (Ev.name rfl rfl) ht (by rw [List.length_map]; omega)) fun a => ⟨a, rfl, by rw [List.length_map]⟩) (small_one (by omega) (by omega) (by omega) (by omega))
    (fun i pl ds => cs = ds ∧ pl = ([("il", .I (ilAt size st.1 i)), ("count", .O tc), ("trailing", .I st.2.1), ("self", .O x), ("tabsize", .I size)] : List (Str × PV))) ⟨rfl, rfl⟩ ?_ ?_
  · rintro i it _ _ hi ⟨rfl, rfl⟩
    have hg : (st.1.map PV.I)[((size : Int) + i).toNat]? = some (.I (st.1.getD (size + i) 0)) := by
      rw [show ((size : Int) + i).toNat = size + i by omega, List.getElem?_map, getD_some (by omega)]; rfl
    have hq : (((size : Int) + i).fdiv size).natAbs < 1048576 := by
      rw [show ((size : Int) + i).fdiv size = (((size + i) / size : Nat) : Int) by rw [← Int.natCast_add]; exact (Int.ofNat_fdiv ..).symm]
      rw [Int.natAbs_natCast]
      have := Nat.div_le_self (size + i) size
      omega
    exact Ex.assign (Ev.bin (Ev.name rfl rfl) (Ev.bin (Ev.bin (Ev.name rfl rfl) (Ev.name rfl rfl) (Bin.divI (by omega) (by omega))) (Ev.itemT (Ev.name rfl rfl) (Ev.name rfl rfl) (.tail _ ht) (by omega) hg (by omega)) (Bin.mulI (mulOk_l hq))) Bin.addI) (Turn.next ⟨rfl, rfl⟩ ⟨rfl, rfl, rfl, rfl, rfl, trivial⟩)
  · rintro _ _ ⟨rfl, rfl⟩
    exact Ex.ret (Ev.bin (Ev.name rfl rfl) (Ev.bin (Ev.name rfl rfl) (Ev.bin (Ev.name rfl rfl) (Ev.attrO X H.cls H.gets.2.2 (Ev.name rfl rfl) hx hd rfl) Bin.addI) (Bin.mulI (mulOk_l (by omega)))) Bin.addI) fun v h ⟨t, hv⟩ I => hv ▸ k t h I.2.tail
end

/-! T9str -/
section
open PySem.Builtin PySem.Builtin.Str
theorem replace_map (l : List Nat) (c d : Nat) : Txt.replace (S l) (S [c]) (S [d]) = S (l.map fun k => if k = c then d else k) := by
  have free : ∀ l : List Nat, c ∉ l → l.map (fun k => if k = c then d else k) = l := by
    intro l
    induction l with
    | nil => intro _; rfl
    | cons k r ih =>
      intro h
      have h1 : ¬ k = c := fun e => h (e ▸ List.mem_cons_self ..)
      rw [List.map_cons, if_neg h1, ih fun m => h (List.mem_cons_of_mem _ m)]
  have joins : ∀ parts : List Str, (∀ p ∈ parts, c ∉ p.cps.toList) → (Str.join (S [c]) parts).cps.toList.map (fun k => if k = c then d else k) = (Str.join (S [d]) parts).cps.toList := by
    intro parts
    induction parts with
    | nil => intro _; rfl
    | cons p r ih =>
      intro h
      cases r with
      | nil => exact free _ (h p (List.mem_singleton.mpr rfl))
      | cons q r =>
        have ih := ih fun a ha => h a (List.mem_cons_of_mem _ ha)
        show (p ++ S [c] ++ Str.join (S [c]) (q :: r)).cps.toList.map _ = (p ++ S [d] ++ Str.join (S [d]) (q :: r)).cps.toList
        simp only [Str.cps_append, Array.toList_append, List.map_append]
        rw [ih, free _ (h p (List.mem_cons_self ..))]
        simp [S]
  rw [← S_of (Txt.replace (S l) (S [c]) (S [d]))]
  show S (Txt.replace (S l) ⟨#[c]⟩ (S [d])).cps.toList = _
  rw [StrLaws.replace_one, ← joins _ (StrLaws.split_free (S l) c)]
  rw [show Str.join (S [c]) (Txt.split (S l) ⟨#[c]⟩) = S l from StrLaws.join_split (S l) ⟨#[c]⟩, S_toList]
theorem strip_nl (l : List Nat) (k : Nat) (h : ∀ c, l.getLast? = some c → c ≠ 10) : Txt.rstripChars (S (l ++ List.replicate k 10)) (S [10]) = S l := by
  have hg : (S [10]).cps.contains = fun c => decide (c = 10) := by
    funext c
    simp [S]
  have htw : ((S (l ++ List.replicate k 10)).cps.toList.drop 0).reverse.takeWhile (fun c => decide (c = 10)) = List.replicate k 10 := by
    rw [List.drop_zero, S_toList, List.reverse_append, List.reverse_replicate, List.takeWhile_append_of_pos (by simp)]
    have : l.reverse.takeWhile (fun c => decide (c = 10)) = [] := by
      cases hl : l.reverse with
      | nil => rfl
      | cons c r =>
        have hc : l.getLast? = some c := by rw [← List.head?_reverse, hl]; rfl
        rw [List.takeWhile_cons_of_neg]
        simpa using h c hc
    rw [this, List.append_nil]
  unfold Txt.rstripChars Txt.stripBy PySem.stripSame PySem.stripped
  have hlo : PySem.stripLo (S [10]).cps.contains false (S (l ++ List.replicate k 10)) = 0 := by unfold PySem.stripLo; rfl
  have hhi : PySem.stripHi (S [10]).cps.contains true (S (l ++ List.replicate k 10)) 0 = l.length := by
    unfold PySem.stripHi
    rw [hg, htw, if_pos rfl, S_len, List.length_append, List.length_replicate]
    omega
  rw [hlo, hhi]
  split
  · rename_i q
    rw [S_len, List.length_append, List.length_replicate] at q
    have : k = 0 := by simp at q; omega
    subst this
    simp
  · rw [← S_of (strSub (S (l ++ List.replicate k 10)) 0 l.length)]
    congr 1
    simp [strSub, S]

/-! ## str.expandtabs -/
def expStep (n : Nat) (st : List Nat × Nat) (c : Nat) : List Nat × Nat := if c = 9 then (st.1 ++ List.replicate (n - st.2 % n) 32, st.2 + (n - st.2 % n)) else (st.1 ++ [c], if c = 10 ∨ c = 13 then 0 else st.2 + 1)
def expandL (n : Nat) (l : List Nat) : List Nat := (l.foldl (expStep n) ([], 0)).1
theorem exp_len (n : Nat) (h0 : 0 < n) : ∀ (l : List Nat) (st : List Nat × Nat), (l.foldl (expStep n) st).1.length ≤ st.1.length + n * l.length := by
  intro l
  induction l with
  | nil => intro st; simp
  | cons c r ih =>
    intro st
    rw [List.foldl_cons]
    refine Nat.le_trans (ih _) ?_
    rw [List.length_cons, Nat.mul_add, Nat.mul_one]
    have : (expStep n st c).1.length ≤ st.1.length + n := by
      unfold expStep
      split
      · simp
      · simp; omega
    omega
def eF (size : Int) (c : Nat) (s : Array Nat × Nat) : Sem (ForInStep (Array Nat × Nat)) :=
  have out := s.fst
  have column := s.snd
  if (c == 9) = true then
    have blanks := if size > 0 then size.toNat - column % size.toNat else 0
    have jp := fun (_ : PUnit) =>
      have out := out ++ Array.replicate blanks 32
      have column := column + blanks
      Pure.pure (ForInStep.yield (out, column))
    if tooLong (out.size + blanks) = true then do
      let r ← unsupported "str.expandtabs:memory"
      jp r
    else jp ()
  else
    have out := out.push c
    have column := if (c == 10 || c == 13) = true then 0 else column + 1
    Pure.pure (ForInStep.yield (out, column))
theorem eF_is {n : Nat} (h0 : 0 < n) (h1 : n < 1000) (c : Nat) (o : List Nat) (col : Nat) (hz : o.length ≤ 1000000) : eF n c (o.toArray, col) = Pure.pure (ForInStep.yield ((expStep n (o, col) c).1.toArray, (expStep n (o, col) c).2)) := by
  unfold eF expStep
  by_cases hc : c = 9
  · have hp : (n : Int) > 0 := by omega
    have e : (if (n : Int) > 0 then ((n : Int)).toNat - col % ((n : Int)).toNat else 0) = n - col % n := by rw [if_pos hp, Int.toNat_natCast]
    have hl : tooLong (o.toArray.size + (n - col % n)) = false := by
      unfold tooLong
      rw [sizeLine_eq, List.size_toArray]
      exact decide_eq_false (by omega)
    dsimp only
    rw [if_pos hc, e, hl, if_pos (by simpa using hc)]
    have : o.toArray ++ Array.replicate (n - col % n) 32 = (o ++ List.replicate (n - col % n) 32).toArray := by apply Array.toList_inj.mp; simp
    rw [this]; simp
  · dsimp only
    rw [if_neg hc, if_neg (by simpa using hc)]
    simp
theorem eF_fold {n : Nat} (h0 : 0 < n) (h1 : n < 1000) : ∀ (l o : List Nat) (col : Nat), o.length + n * l.length ≤ 1000000 → (forIn l (o.toArray, col) (eF n) : Sem (Array Nat × Nat)) = Pure.pure ((l.foldl (expStep n) (o, col)).1.toArray, (l.foldl (expStep n) (o, col)).2) := by
  intro l
  induction l with
  | nil => intro o col _; rfl
  | cons c r ih =>
    intro o col hz
    rw [List.length_cons, Nat.mul_add, Nat.mul_one] at hz
    rw [List.forIn_cons, eF_is h0 h1 c o col (by omega), List.foldl_cons]
    have h2 : (expStep n (o, col) c).1.length ≤ o.length + n := by
      unfold expStep
      split
      · simp
      · simp; omega
    exact ih (expStep n (o, col) c).1 (expStep n (o, col) c).2 (by omega)
theorem gives_expand (l : List Nat) (n : Nat) (t u : Tok) (h0 : 0 < n) (h1 : n < 1000) (hz : n * l.length ≤ 1000000) : Gives («str.expandtabs» ⟨[.str (S l) t, .int n u], []⟩) (if (S l).cps.contains 9 = false then .val (.str (S l) t) else .str (S (expandL n l))) := by
  show Gives (if (decide ((n : Int) < -2 ^ 31) || decide ((n : Int) ≥ 2 ^ 31)) = true then _ else
    if (!(S l).cps.contains 9) = true then (do rule "str.expandtabs.no-tab"; ret (.str (S l) t)) else (forIn (S l).cps ((#[] : Array Nat), 0) (eF n) >>= fun st => retStr ⟨st.1⟩)) _
  rw [decide_eq_false (show ¬ (n : Int) < -2 ^ 31 by omega), decide_eq_false (show ¬ (n : Int) ≥ 2 ^ 31 by omega)]
  cases hc : (S l).cps.contains 9
  · exact .rule (.of_eq rfl)
  · have e : (forIn (S l).cps ((#[] : Array Nat), 0) (eF n) : Sem (Array Nat × Nat)) = Pure.pure ((expandL n l).toArray, (l.foldl (expStep n) ([], 0)).2) := by
      show (forIn l.toArray _ _ : Sem (Array Nat × Nat)) = _
      rw [List.forIn_toArray]
      exact eF_fold h0 h1 l [] 0 (by simpa using hz)
    rw [e]
    exact .of_eq rfl
end

/-! T10exp -/
section
open PySem.Builtin PySem.Builtin.Str
theorem snocInd {P : List Nat → Prop} (nil : P []) (append_singleton : ∀ l c, P l → P (l ++ [c])) (l : List Nat) : P l := by
  rw [← List.reverse_reverse l]
  induction l.reverse with
  | nil => exact nil
  | cons c r ih => rw [List.reverse_cons]; exact append_singleton _ _ ih
/-! ## what the filling makes of a line -/
def g0 (k : Nat) : Nat := if k = 32 then 0 else k
def psi (k : Nat) : Nat := if (if k = 32 then 9 else k) = 0 then 32 else (if k = 32 then 9 else k)
/-- signs of the law's texts -/
def SignOk (c : Nat) : Prop := c = 9 ∨ c = 32 ∨ c = 120
theorem fill_fold {n : Nat} (h0 : 0 < n) : ∀ l : List Nat, (∀ c ∈ l, SignOk c) → ((l.map g0).foldl (expStep n) ([], 0)).2 = ((l.map g0).foldl (expStep n) ([], 0)).1.length ∧ ((l.map g0).foldl (expStep n) ([], 0)).1.map psi = typedL n l := by
  intro l
  induction l using snocInd with
  | nil => intro _; exact ⟨rfl, rfl⟩
  | append_singleton l c ih =>
    intro h
    obtain ⟨h1, h2⟩ := ih fun a ha => h a (List.mem_append_left _ ha)
    have hc := h c (by simp)
    rw [List.map_append, List.foldl_append, typedL_snoc]
    generalize (l.map g0).foldl (expStep n) ([], 0) = st at h1 h2
    obtain ⟨o, col⟩ := st
    dsimp only at h1 h2
    subst h1
    have hl : (typedL n l).length = o.length := by rw [← h2, List.length_map]
    show (expStep n (o, o.length) (g0 c)).2 = (expStep n (o, o.length) (g0 c)).1.length ∧ (expStep n (o, o.length) (g0 c)).1.map psi = typedStep n (typedL n l) c
    rcases hc with rfl | rfl | rfl
    · have : g0 9 = 9 := rfl
      rw [this]
      unfold expStep typedStep
      rw [if_pos rfl, if_pos rfl]
      refine ⟨by simp, ?_⟩
      dsimp only
      rw [List.map_append, h2, hl, List.map_replicate]; rfl
    · have : g0 32 = 0 := rfl
      rw [this]
      unfold expStep typedStep
      rw [if_neg (by decide), if_neg (by decide)]
      refine ⟨by simp, ?_⟩
      dsimp only
      rw [List.map_append, h2]; rfl
    · have : g0 120 = 120 := rfl
      rw [this]
      unfold expStep typedStep
      rw [if_neg (by decide), if_neg (by decide)]
      refine ⟨by simp, ?_⟩
      dsimp only
      rw [List.map_append, h2]; rfl
theorem typed_signs {n : Nat} : ∀ l : List Nat, (∀ c ∈ l, SignOk c) → ∀ c ∈ typedL n l, SignOk c := by
  intro l
  induction l using snocInd with
  | nil => intro _ c hc; cases hc
  | append_singleton l c ih =>
    intro h a ha
    rw [typedL_snoc] at ha
    unfold typedStep at ha
    split at ha
    · rcases List.mem_append.mp ha with ha | ha
      · exact ih (fun b hb => h b (List.mem_append_left _ hb)) a ha
      · exact .inl (List.eq_of_mem_replicate ha)
    · rcases List.mem_append.mp ha with ha | ha
      · exact ih (fun b hb => h b (List.mem_append_left _ hb)) a ha
      · rw [List.mem_singleton.mp ha]; exact h c (by simp)
def nls : Bool → List Nat
  | true => [10]
  | false => []
theorem nls_rep (b : Bool) : nls b = List.replicate (if b then 1 else 0) 10 := by cases b <;> rfl
theorem fill_line {n : Nat} (h0 : 0 < n) {l : List Nat} (b : Bool) (h : ∀ c ∈ l, SignOk c) : Txt.rstripChars (S (((expandL n ((l ++ nls b).map fun k => if k = 32 then 0 else k)).map fun k => if k = 32 then 9 else k).map fun k => if k = 0 then 32 else k)) (S [10]) = S (typedL n l) := by
  obtain ⟨h1, h2⟩ := fill_fold h0 l h
  have e : ((expandL n ((l ++ nls b).map fun k => if k = 32 then 0 else k)).map fun k => if k = 32 then 9 else k).map (fun k => if k = 0 then 32 else k) = typedL n l ++ nls b := by
    rw [List.map_map]
    show ((expandL n ((l ++ nls b).map g0)).map psi) = _
    unfold expandL
    rw [List.map_append, List.foldl_append]
    cases b with
    | false => rw [show (nls false).map g0 = [] from rfl, List.foldl_nil, h2]; simp [nls]
    | true =>
      rw [show (nls true).map g0 = [10] from rfl, List.foldl_cons, List.foldl_nil]
      unfold expStep
      rw [if_neg (by decide)]
      dsimp only
      rw [List.map_append]
      unfold expStep at h2
      rw [h2]; rfl
  rw [e, nls_rep, strip_nl]
  intro c hc
  have := typed_signs l h c (List.mem_of_getLast? hc)
  rcases this with rfl | rfl | rfl <;> decide
theorem expand_free {n : Nat} : ∀ (l o : List Nat) (col : Nat), (9 : Nat) ∉ l → (l.foldl (expStep n) (o, col)).1 = o ++ l := by
  intro l
  induction l with
  | nil => intro o col _; simp
  | cons c r ih =>
    intro o col h
    have hc : ¬ c = 9 := fun e => h (e ▸ List.mem_cons_self ..)
    rw [List.foldl_cons]
    have : expStep n (o, col) c = (o ++ [c], if c = 10 ∨ c = 13 then 0 else col + 1) := by unfold expStep; rw [if_neg hc]
    rw [this, ih _ _ fun m => h (List.mem_cons_of_mem _ m)]
    simp

/-! ## runs that need a token -/
/-- as Run, from states that have dealt a token already -/
def RunP {α : Type} (w : World) (A : Around) (t : Sem α) (h : Heap) (F : α → Heap → Prop) : Prop :=
  ∀ s : Shared, s.heap = h → 0 < s.toks → wpAny (model PG w) A t (fun a s' => (Same s s' ∧ 0 < s'.toks) ∧ F a s'.heap) (fun _ _ => False) s
section
variable {w : World} {A : Around} {h : Heap} {env : Env} {F : Value → Heap → Prop} {o : Expr} {apos pos p1 p2 : Pos} {k1 k2 : Nat} {e : Expr}
theorem RunP.on {α : Type} {t : Sem α} {F : α → Heap → Prop} {s s₁ : Shared} (x : RunP w A t s₁.heap F) (S : Same s s₁ ∧ 0 < s₁.toks) : wpAny (model PG w) A t (fun a s' => (Same s s' ∧ 0 < s'.toks) ∧ F a s'.heap) (fun _ _ => False) s₁ :=
  wpAny_mono (x s₁ rfl S.2) (fun _ _ q => ⟨⟨S.1.trans q.1.1, q.1.2⟩, q.2⟩) fun _ _ e => e
/-- o.replace(c, d), of one sign by another -/
theorem RunP.replace {c d : Nat} (hcd : c ≠ d) (x : RunP w A (eval o env) h (fun v h' => ∃ l t, v = .str (S l) t ∧ l.length ≤ 100000 ∧ ∀ t, F (.str (S (l.map fun k => if k = c then d else k)) t) h'))
    (hbase : attributeBase o "replace" env (eval o env) = eval o env := by rfl) (hline : (apos.endLine == pos.line) = true := by rfl) :
    RunP w A (eval (.Call (.Attribute o "replace" apos) [.Constant (.str (S [c])) k1 p1, .Constant (.str (S [d])) k2 p2] [] pos) env) h F := fun s hs ht => by
  refine wpAny_Call_method_lateS hbase rfl hline (wpAny_mono (x s hs ht) (fun ov s₁ q => ?_) fun _ _ e => e)
  obtain ⟨⟨S₁, t1⟩, l, t, rfl, hl, kk⟩ := q
  refine ⟨"str", "str.replace", PySem.F.plainAttrs_str, PySem.F.slot_str_replace, PySem.F.type_str_replace, typeIs_str _ _ _, fun a e => (nomatch e), ?_⟩
  refine callWith_builtin rfl (evalArgs_plain (spliced_more (Calls.Constant_str (spliced_more (Calls.Constant_str (spliced_none ?_)) rfl)) rfl))
  have hne : ¬ S [c] = S [d] := fun e => hcd (by have := S_inj e; simpa using this)
  have hyz : (S [c] == S [d]) = false := by simpa using hne
  have hsz : (S l).length + ((S l).length + 1) * (S [d]).length ≤ 16777216 := by rw [S_len, S_len, List.length_singleton]; omega
  have hlg : tooLong ((S l).length + (occurrences (S l) (S [c]) 0 (S l).length ((S l).length + 1)).length * (S [d]).length) = false := by
    have h1 := StrLaws.occ_length_le (S l) (S [c]) 0 (S l).length ((S l).length + 1)
    rw [S_len [d], List.length_singleton, Nat.mul_one]
    rw [S_len] at h1 ⊢
    unfold tooLong
    rw [sizeLine_eq]
    exact decide_eq_false (by omega)
  have hu : s₁.toks ≠ 0 := Nat.ne_of_gt t1
  refine call_gives PySem.F.slot_str_replace (typeIs_str _ _ _) PySem.F.entry_str_replace (PySem.F.args_str_replace_3 _ _ _)
    (gives_str_replace (S l) (S [c]) (S [d]) t s₁.toks (s₁.toks + 1) fun _ => ⟨by simp [hu], by simp, hyz, hlg⟩) ?_
  have hr := replace_map l c d
  unfold Txt.replace at hr
  cases hc : ((occurrences (S l) (S [c]) 0 (S l).length ((S l).length + 1)).isEmpty || ((S [c]).length == 0 && (S [d]).length == 0))
  · rw [hc, if_neg Bool.false_ne_true] at hr
    rw [if_neg Bool.false_ne_true]
    exact ⟨fits_replaced _ hsz, ⟨⟨S₁.1, S₁.2, S₁.3⟩, Nat.lt_of_lt_of_le t1 (by show s₁.toks ≤ s₁.toks + 1 + 1 + 1; omega)⟩, by rw [hr]; exact kk _⟩
  · rw [hc, if_pos rfl] at hr
    rw [if_pos rfl]
    exact ⟨⟨⟨S₁.1, S₁.2, S₁.3⟩, Nat.lt_of_lt_of_le t1 (by show s₁.toks ≤ s₁.toks + 1 + 1; omega)⟩, by rw [hr]; exact kk _⟩
theorem RunP.expand {n : Nat} (h0 : 0 < n) (h1 : n < 1000) (x : RunP w A (eval o env) h (fun v h' => ∃ l t, v = .str (S l) t ∧ l.length ≤ 1000 ∧ RunP w A (eval e env) h' (fun v h'' => ∃ u, v = .int n u ∧ ∀ t, F (.str (S (expandL n l)) t) h'')))
    (hbase : attributeBase o "expandtabs" env (eval o env) = eval o env := by rfl) (hline : (apos.endLine == pos.line) = true := by rfl)
    (hq : starEach [e] env = (false, eval e env) :: starEach [] env := by rfl) :
    RunP w A (eval (.Call (.Attribute o "expandtabs" apos) [e] [] pos) env) h F := fun s hs ht => by
  refine wpAny_Call_method_lateS hbase (by rw [hq]; rfl) hline (wpAny_mono (x s hs ht) (fun ov s₁ q => ?_) fun _ _ e => e)
  obtain ⟨⟨S₁, t1⟩, l, t, rfl, hl, kk⟩ := q
  refine ⟨"str", "str.expandtabs", PySem.F.plainAttrs_str, PySem.F.slot_str_expandtabs, PySem.F.type_str_expandtabs, typeIs_str _ _ _, fun a e => (nomatch e), ?_⟩
  rw [hq]
  refine callWith_builtin rfl (evalArgs_plain (spliced_cons (wpAny_mono (kk s₁ rfl t1) (fun v s₂ q => spliced_nil ?_) fun _ _ e => e)))
  obtain ⟨⟨S₂, t2⟩, u, rfl, kk⟩ := q
  have hz : n * l.length ≤ 1000000 := Nat.le_trans (Nat.mul_le_mul (Nat.le_of_lt h1) hl) (by decide)
  refine call_gives PySem.F.slot_str_expandtabs (typeIs_str _ _ _) PySem.F.entry_str_expandtabs (PySem.F.args_str_expandtabs_2 _ _) (gives_expand l n t u h0 h1 hz) ?_
  cases hc : (S l).cps.contains 9
  · rw [if_pos rfl]
    have e : expandL n l = l := by
      unfold expandL
      rw [expand_free l [] 0 (fun m => ?_)]
      · rfl
      · have : (S l).cps.contains 9 = true := by simpa [S] using m
        rw [hc] at this; cases this
    refine ⟨⟨(S₁.trans S₂), t2⟩, ?_⟩
    have := kk t
    rw [e] at this; exact this
  · rw [if_neg (by decide)]
    have hlen := exp_len n h0 l ([], 0)
    exact ⟨by show (S (expandL n l)).length ≤ sizeLine; rw [S_len, sizeLine_eq]; unfold expandL; simp at hlen; omega, ⟨⟨(S₁.trans S₂).1, (S₁.trans S₂).2, (S₁.trans S₂).3⟩, Nat.lt_of_lt_of_le t2 (Nat.le_succ _)⟩, kk _⟩
/-- o.rstrip(c): the tokens are not looked at any more -/
theorem RunP.rstrip {c : Nat} (x : RunP w A (eval o env) h (fun v h' => ∃ l t, v = .str (S l) t ∧ l.length ≤ 1000000 ∧ ∀ t, F (.str (Txt.rstripChars (S l) (S [c])) t) h'))
    (hbase : attributeBase o "rstrip" env (eval o env) = eval o env := by rfl) (hline : (apos.endLine == pos.line) = true := by rfl) (s : Shared) (hs : s.heap = h) (ht : 0 < s.toks) :
    wpAny (model PG w) A (eval (.Call (.Attribute o "rstrip" apos) [.Constant (.str (S [c])) k1 p1] [] pos) env) (fun v s' => Same s s' ∧ F v s'.heap) (fun _ _ => False) s := by
  refine wpAny_Call_method_lateS hbase rfl hline (wpAny_mono (x s hs ht) (fun ov s₁ q => ?_) fun _ _ e => e)
  obtain ⟨⟨S₁, t1⟩, l, t, rfl, hl, kk⟩ := q
  exact PySem.SB.rstripChars (a := PySem.eval (.Constant (.str (S [c])) k1 p1) env) (Calls.Constant_str ⟨S [c], _, rfl, fun t' k => ⟨⟨S₁.1, S₁.2, S₁.3⟩, kk t'⟩⟩) (by rw [S_len, sizeLine_eq]; omega)
end

section
variable {B : Base} {ks : Kinds} {pl : Names} {cs : List Cell} {h : Heap} {x : Str} {p : PV} {pos xp : Pos} {e : Expr} {rest : List Stmt} {F : Flow → Heap → Prop} {K : Frag} {C xa dx c : Addr} {al : List (Str × PV)} {attr : Str}
theorem RunP.name (I : Is B ks pl cs h) (hl : ks.lookup x = some .local) (hv : pl.lookup x = some p) (hd : (x == ("__debug__" : Str)) = false := by decide) : RunP B.w B.A (eval (.Name x pos) B.env) h (fun v h' => p.is v ∧ h' = h) := fun s hs ht => by
  subst hs
  obtain ⟨m, hn, hm⟩ := np_of (I.2.get (.head _))
  obtain ⟨v, a, b⟩ := hm _ _ hv
  exact wpAny_Name (wpAny_loadName_local I.1.1.fn (I.1.1.kinds _ _ hl) (by rw [I.1.1.loc]; exact hn) a ⟨⟨Same.rfl', ht⟩, b, rfl⟩) hd
/-- self.attr, self told by a free name -/
theorem RunP.attrF (X : K.In B.hb) (H : KCls K C) (hn : findIn K (.ref C) attr = some none) (I : Is B ks pl cs h) (hk : ks.lookup x = some .free) (hc : B.env.cells.lookup x = some c) (hm : (c, CV (some (.O xa))) ∈ cs) (h1 : (xa, IO C dx) ∈ cs) (h2 : (dx, DN al) ∈ cs) (hl : al.lookup attr = some p)
    (hd : (x == ("__debug__" : Str)) = false := by decide) (hx : (x == ("__classdict__" : Str)) = false := by decide)
    (he : eval (.Attribute (.Name x xp) attr pos) B.env = (do
      let o ← eval (.Name x xp) B.env
      standAt pos.atName
      let r ← holding [o] (getAttr o attr true)
      letTemporaryGo (.Name x xp) o r
      Pure.pure r) := by with_unfolding_all rfl) : RunP B.w B.A (eval (.Attribute (.Name x xp) attr pos) B.env) h (fun v h' => p.is v ∧ h' = h) := fun s hs ht => by
  subst hs
  obtain ⟨o, e1, v, hd', hp⟩ := I.2.get (.tail _ hm)
  cases hp
  obtain ⟨ox, ex, rfl⟩ := I.2.get (.tail _ h1)
  obtain ⟨od, ed, es, ep, hd2, hk2, hu, hw, hf⟩ := I.2.get (.tail _ h2)
  obtain ⟨v, hv, hp⟩ := hf _ _ hl
  refine Attribute_any_ (wpAny_Name (wpAny_loadName_free I.1.1.fn (I.1.1.kinds _ _ hk) hc ⟨o, e1, hd'⟩ ?_ hx) hd) he
  exact get_value (od := some od) (X.keeps I.2.keep) ⟨ex, rfl, rfl, ed⟩ (plainGet_of H.get).1 (findObj_own H.dict hn rfl ((lookIn_of hd2 hk2).trans (congrArg some hv))) (handed_is hp) ⟨⟨⟨rfl, rfl, rfl⟩, Nat.lt_of_lt_of_le ht (Nat.le_succ _)⟩, hp, rfl⟩
/-- statements, from states that have dealt a token -/
def ExT (B : Base) (ks : Kinds) (pl : Names) (cs : List Cell) (ss : List Stmt) (F : Flow → Heap → Prop) : Prop := ∀ h, Is B ks pl cs h → ∀ s : Shared, s.heap = h → 0 < s.toks → wpAny (model PG B.w) B.A (execs ss B.env) (fun f s' => Same s s' ∧ F f s'.heap) (fun _ _ => False) s
theorem ExT.assign (he : ∀ h, Is B ks pl cs h → RunP B.w B.A (eval e B.env) h (fun v h' => p.is v ∧ h' = h)) (k : ExT B ks ((x, p) :: pl) cs rest F) (hl : ks.lookup x = some .local := by rfl)
    (hs' : swapsWith e (some (.Name x xp)) pos.line B.env = Pure.pure false := by rfl) : ExT B ks pl cs (.Assign [.Name x xp] e pos :: rest) F := fun h I s hs ht =>
  wpAny_execs_cons (wpAny_Assign_Name (wpAny_mono (he h I s hs ht) (fun v s₁ q => by
    obtain ⟨⟨S, t1⟩, hp, hh⟩ := q
    subst hh
    obtain ⟨m, hn, hm⟩ := np_of (I.2.get (.head _))
    refine wpAny_storeName_local (I.1.1.kinds _ _ hl) (by rw [I.1.1.loc]; exact hn) (fun h' hn' hs'' => ?_) (by rw [I.1.1.fn]; rfl)
    rw [I.1.1.loc] at hn' hs''
    have O' : Own B.hb h' ((B.L, NP ((x, p) :: pl)) :: cs) := I.2.change hs'' (np_at hn' fun y u q => by
      by_cases hy : y = x
      · subst hy
        rw [if_pos rfl]
        rw [List.lookup_cons_self] at q
        cases q
        exact ⟨v, rfl, hp⟩
      · rw [if_neg hy]
        have : (y == x) = false := by simpa using hy
        rw [List.lookup_cons, this] at q
        exact hm y u q)
    exact wpAny_mono (k h' ⟨I.1, O'⟩ { s₁ with heap := h', toks := s₁.toks + 1 } rfl (Nat.succ_pos _)) (fun f s' q => ⟨⟨S.1 ▸ q.1.1, S.2 ▸ q.1.2, S.3 ▸ q.1.3⟩, q.2⟩) fun _ _ e => e) fun _ _ e => e.elim) hs')
end

/-! ## expand_tabs -/
def expDef : Stmt := match methAt 14 7 with | .FunctionDef _ _ (b :: _) .. => b | _ => .Pass ⟨0, 0, 0, 0⟩
/-- the function that _tab_newline_replace makes for itself -/
def ExpFn (sc c' : Addr) (qual : Str) (o : Obj) : Prop := match expDef with
  | .FunctionDef name params body _ _ _ scope _ _ _ => ∃ doc pm ctv, o = fnMade name qual params body scope [("self", sc)] doc pm c' ctv
  | _ => False
def CO (qual : Str) (o : Obj) : Prop := ∃ vs t, o.data = .fields vs ∧ vs[1]? = some (.str qual t)
theorem exp_ok {w : World} {A : Around} {hb h : Heap} {cs : List Cell} {d u : Nat} {F : Value → Heap → Prop} {K : Frag} (X : K.In hb) (H : KCls K 154) (Hn : findIn K (.ref 154) "_tabsize" = some none) {f sc c' x dx : Addr} {qual : Str} {al : List (Str × PV)} {size : Nat} {l : List Nat} {b : Bool} {t : Tok}
    (hA : AOk A (d + 1) (u + 3)) (G : Gd hb Globs Blts) (O : Own hb h cs) (hf : (f, ExpFn sc c' qual) ∈ cs) (hc : (c', CO qual) ∈ cs) (hsc : (sc, CV (some (.O x))) ∈ cs) (hx : (x, IO 154 dx) ∈ cs) (hdx : (dx, DN al) ∈ cs) (hal : al.lookup ("_tabsize" : Str) = some (PV.I size))
    (h0 : 0 < size) (h1 : size ≤ 100) (hl : l.length ≤ 100) (ok : ∀ c ∈ l, SignOk c) (k : ∀ t h', Own hb h' cs → F (.str (S (typedL size l)) t) h') : Run w A (PySem.call (.ref f) [.str (S (l ++ nls b)) t]) h F := fun s hs' => by
  subst hs'
  obtain ⟨o, ho, hoe⟩ := O.get hf
  replace hoe : ∃ doc pm ctv, o = fnMade _ qual _ _ _ [("self", sc)] doc pm c' ctv := hoe
  obtain ⟨doc, pm, ctv, hoe⟩ := hoe
  obtain ⟨oc, hoc, vs, tc, hvs, hv1⟩ := O.get hc
  have hd : o.data = .func _ := congrArg Obj.data hoe
  refine wpAny_call (codeAny_call_def hA.room ho hd (G.lim.keeps O.keep) ⟨c', oc, vs, tc, rfl, hoc, hvs, hv1⟩ rfl (binds := [("line", .str (S (l ++ nls b)) t)]) (BindsTo.of_eq rfl) (fun y hy => ?_) (fun y hy => ?_) (fun h₀ hns hk => ?_) rfl rfl rfl)
  · have : ((match expDef with | .FunctionDef _ _ _ _ _ _ scope _ _ _ => scope.names | _ => []).all fun y => y.2 != NameKind.cell) = true := rfl
    have := List.all_eq_true.mp this y hy
    simpa using this
  · have := List.mem_singleton.mp hy
    subst this; rfl
  have hnone : s.heap.get? s.heap.objs.size = none := Heap.get?_none_of_le (Nat.le_refl _)
  have O' : Own hb h₀ ((s.heap.objs.size, NP [("line", .T (S (l ++ nls b)))]) :: cs) := O.add hk hnone (np_at hns fun y p q => by
    by_cases hy : y = ("line" : Str)
    · subst hy
      rw [List.lookup_cons_self] at q
      cases q
      exact ⟨_, List.lookup_cons_self, t, rfl⟩
    · have : (y == ("line" : Str)) = false := by simpa using hy
      rw [List.lookup_cons, this] at q; cases q)
  generalize hfd : callEnv _ s.heap.objs.size f = env
  have E : EnvIs env s.heap.objs.size [("line", .local), ("self", .free)] := by
    subst hfd
    exact ⟨rfl, rfl, rfl, rfl, kinds_of rfl, rfl, rfl⟩
  have hcell : env.cells.lookup ("self" : Str) = some sc := by subst hfd; rfl
  have hA' : AOk (A.deeper env) d u := hA.deeper
  have hlen : (l ++ nls b).length ≤ 101 := by cases b <;> simp [nls] <;> omega
  let m1 := (l ++ nls b).map fun k => if k = 32 then 0 else k
  have hm1 : m1.length ≤ 101 := by show (List.map _ _).length ≤ 101; rw [List.length_map]; exact hlen
  have hm2 : (expandL size m1).length ≤ 10100 := by
    have := exp_len size h0 m1 ([], 0)
    have h3 : size * m1.length ≤ 100 * 101 := Nat.mul_le_mul h1 hm1
    unfold expandL; simp at this; omega
  have main : ExT ⟨w, A.deeper env, hb, env, s.heap.objs.size⟩ [("line", .local), ("self", .free)] [("line", .T (S (l ++ nls b)))] cs (match expDef with | .FunctionDef _ _ body .. => body | _ => []) (fun fl h' => F (match fl with | .ret v => v | _ => .none) h') := by
    refine ExT.assign (p := .T (S m1)) (fun h I => RunP.replace (c := 32) (d := 0) (by decide) (fun s hs ht => wpAny_mono (RunP.name (x := "line") I rfl rfl (by decide) s hs ht) (fun v s' q => ?_) fun _ _ e => e)) ?_
    · obtain ⟨q1, ⟨t, rfl⟩, q3⟩ := q
      exact ⟨q1, _, t, rfl, by omega, fun t => ⟨⟨t, rfl⟩, q3⟩⟩
    refine ExT.assign (p := .T (S (expandL size m1))) (fun h I => RunP.expand h0 (by omega) (fun s hs ht => wpAny_mono (RunP.name (x := "line") I rfl rfl (by decide) s hs ht) (fun v s' q => ?_) fun _ _ e => e)) ?_
    · obtain ⟨q1, ⟨t, rfl⟩, q3⟩ := q
      refine ⟨q1, _, t, rfl, by omega, fun s₂ hs₂ ht₂ => wpAny_mono (RunP.attrF (x := "self") (attr := "_tabsize") X H Hn I rfl hcell hsc hx hdx hal (by decide) (by decide) (by with_unfolding_all rfl) s₂ (hs₂.trans q3) ht₂) (fun v s' q => ?_) fun _ _ e => e⟩
      obtain ⟨q1, ⟨t, rfl⟩, q3⟩ := q
      exact ⟨q1, t, rfl, fun t => ⟨⟨t, rfl⟩, q3⟩⟩
    refine ExT.assign (p := .T (S ((expandL size m1).map fun k => if k = 32 then 9 else k))) (fun h I => RunP.replace (c := 32) (d := 9) (by decide) (fun s hs ht => wpAny_mono (RunP.name (x := "line") I rfl rfl (by decide) s hs ht) (fun v s' q => ?_) fun _ _ e => e)) ?_
    · obtain ⟨q1, ⟨t, rfl⟩, q3⟩ := q
      exact ⟨q1, _, t, rfl, by omega, fun t => ⟨⟨t, rfl⟩, q3⟩⟩
    intro h I s₁ hs₁ ht₁
    refine wpAny_execs_cons (wpAny_Return_some (wpAny_mono (RunP.rstrip (F := fun v h' => ∃ t, v = .str (S (typedL size l)) t ∧ h' = h) (c := 10) (RunP.replace (c := 0) (d := 32) (by decide) (fun s hs ht => wpAny_mono (RunP.name (x := "line") I rfl rfl (by decide) s hs ht) (fun v s' q => ?_) fun _ _ e => e)) rfl rfl s₁ hs₁ ht₁) (fun v s' q => ?_) fun _ _ e => e))
    · obtain ⟨q1, ⟨t, rfl⟩, q3⟩ := q
      refine ⟨q1, _, t, rfl, by rw [List.length_map]; omega, fun t => ⟨_, t, rfl, by rw [List.length_map, List.length_map]; omega, fun t => ⟨t, ?_, q3⟩⟩⟩
      rw [fill_line h0 b ok]
    · obtain ⟨q1, t, rfl, rfl⟩ := q
      exact ⟨q1, k t _ I.2.tail⟩
  refine wpAny_mono (main h₀ ⟨⟨E, G, hA'.hand⟩, O'⟩ _ rfl (Nat.succ_pos _)) (fun fl s' q => ⟨⟨q.1.1, q.1.2, q.1.3⟩, q.2⟩) fun _ _ e => e.elim
end

/-! T11tnr -/
/-! ## HtmlDiff -/
structure HdK (K : Frag) : Prop where
  cls : KCls K 154
  init : findIn K (.ref 154) "__init__" = some (some (.ref 87))
  initFn : isFn K (.ref 87) = true
  sets : takerIn K 154 "_tabsize" = some none ∧ takerIn K 154 "_wrapcolumn" = some none ∧ takerIn K 154 "_linejunk" = some none ∧ takerIn K 154 "_charjunk" = some none
  get : findIn K (.ref 154) "_tabsize" = some none
  meth : findIn K (.ref 154) "_tab_newline_replace" = some (some (.ref 101))
  methFn : isFn K (.ref 101) = true
  methKeep : keepIn K (.ref 101) = true
def DfltH (hb : Heap) : Prop := ∃ t n c d sl, hb.get? 80 = some ⟨c, d, .seq #[.int 8 t, .none, .none, .ref 72] n, sl⟩
abbrev HdNames (size : Nat) : List (Str × PV) := [("_charjunk", .O 72), ("_linejunk", .N), ("_wrapcolumn", .N), ("_tabsize", .I size)]
section
variable {w : World} {A : Around} {hb h : Heap} {cs : List Cell} {fd : FuncData} {d u : Nat} {F : Value → Heap → Prop} {K : Frag}
theorem hdInit_ok (X : K.In hb) (H : HdK K) (df : DfltH hb) (D : DefIs hb 87 (methAt 14 5) (.ref 80) .none fd) {x dx : Addr} {size : Nat} {t : Tok} (hA : AOk A (d + 1) (u + 3)) (G : Gd hb Globs Blts) (O : Own hb h ((dx, DN []) :: (x, IO 154 dx) :: cs))
    (k : ∀ h', Own hb h' ((dx, DN (HdNames size)) :: (x, IO 154 dx) :: cs) → F .none h') :
    RunCall w A (.ref 87) ⟨[.ref x], [("tabsize", .int size t)]⟩ h F := by
  obtain ⟨t8, nn, c1, d1, sl1, ho⟩ := df
  have ho' := O.keep _ _ ho
  refine RunCall.def' D hA G O [("self", .ref x), ("tabsize", .int size t), ("wrapcolumn", .none), ("linejunk", .none), ("charjunk", .ref 72)] [("self", .O x), ("tabsize", .I size), ("wrapcolumn", .N), ("linejunk", .N), ("charjunk", .O 72)] ?_ ⟨⟨_, rfl, rfl⟩, ⟨_, rfl, _, rfl⟩, ⟨_, rfl, rfl⟩, ⟨_, rfl, rfl⟩, ⟨_, rfl, rfl⟩, trivial⟩
    [("self", .local), ("tabsize", .local), ("wrapcolumn", .local), ("linejunk", .local), ("charjunk", .local)] rfl rfl rfl ⟨rfl, rfl, rfl⟩ ?_
  · rintro ⟨n, q, p, b, s, g, c, d, k, doc, pm, an, cd, ct, bt⟩ h1 h4 h5 s' z M A E Q hq
    subst z
    dsimp only at h1 h4 h5
    subst h4 h5
    subst h1
    refine loadAny ho' ?_
    exact wpAny_pure hq
  intro L env A' hA' hf
  refine Ex.setAttr X H.cls H.sets.1 (P := fun p ds => p = .I size ∧ ds = (dx, DN []) :: (x, IO 154 dx) :: cs) (EvP.of (Ev.name rfl rfl) ⟨rfl, rfl⟩) ?_
  rintro _ _ ⟨rfl, rfl⟩
  refine ⟨[], _, dx, x, _, Ev.name rfl rfl, rfl, .tail _ (.head _), by simp, ?_⟩
  refine Ex.setAttr X H.cls H.sets.2.1 (P := fun p ds => p = .N ∧ ds = (dx, DN [("_tabsize", .I size)]) :: (x, IO 154 dx) :: cs) (EvP.of (Ev.name rfl rfl) ⟨rfl, rfl⟩) ?_
  rintro _ _ ⟨rfl, rfl⟩
  refine ⟨[], _, dx, x, _, Ev.name rfl rfl, rfl, .tail _ (.head _), by simp, ?_⟩
  refine Ex.setAttr X H.cls H.sets.2.2.1 (P := fun p ds => p = .N ∧ ds = (dx, DN [("_wrapcolumn", .N), ("_tabsize", .I size)]) :: (x, IO 154 dx) :: cs) (EvP.of (Ev.name rfl rfl) ⟨rfl, rfl⟩) ?_
  rintro _ _ ⟨rfl, rfl⟩
  refine ⟨[], _, dx, x, _, Ev.name rfl rfl, rfl, .tail _ (.head _), by simp, ?_⟩
  refine Ex.setAttr X H.cls H.sets.2.2.2 (P := fun p ds => p = .O 72 ∧ ds = (dx, DN [("_linejunk", .N), ("_wrapcolumn", .N), ("_tabsize", .I size)]) :: (x, IO 154 dx) :: cs) (EvP.of (Ev.name rfl rfl) ⟨rfl, rfl⟩) ?_
  rintro _ _ ⟨rfl, rfl⟩
  refine ⟨[], _, dx, x, _, Ev.name rfl rfl, rfl, .tail _ (.head _), by simp, ?_⟩
  exact Ex.nil fun h' I => k h' I.2.tail
theorem hdNew_ok (X : K.In hb) (H : HdK K) (df : DfltH hb) (D : DefIs hb 87 (methAt 14 5) (.ref 80) .none fd) {size : Nat} {t : Tok} (hA : AOk A (d + 2) (u + 4)) (G : Gd hb Globs Blts) (O : Own hb h cs)
    (k : ∀ x dx h', Own hb h' ((dx, DN (HdNames size)) :: (x, IO 154 dx) :: cs) → F (.ref x) h') : Run w A (PySem.call (.ref 154) [] [("tabsize", .int size t)]) h F :=
  Run.make X H.cls H.init H.initFn O fun x dx h' O' => hdInit_ok (d := d) (u := u) X H df D hA.make G O' fun h'' O'' => ⟨rfl, k x dx h'' O''⟩
end

/-! ## _tab_newline_replace -/
theorem Own.changeX {hb h h' : Heap} {cs : List Cell} {a : Addr} {P P' : Obj → Prop} (O : Own hb h ((a, P) :: cs)) (hs : Heap.ExtBut a h h') (x : ∃ o, h'.get? a = some o ∧ P' o) : Own hb h' ((a, P') :: cs) := by
  have hn := O.new (.head _)
  refine ⟨fun b o e => ?_, fun c y => ?_, O.nodup⟩
  · have : b ≠ a := fun z => by rw [z, hn] at e; cases e
    exact hs b o this (O.keep b o e)
  · rcases List.mem_cons.mp y with rfl | y
    · exact ⟨x, hn⟩
    · obtain ⟨⟨o, e, p⟩, n⟩ := O.cell c (.tail _ y)
      exact ⟨⟨o, hs c.1 o (O.ne (b := c.1) (Q := c.2) y) e, p⟩, n⟩
theorem Own.more {hb h h₀ : Heap} {cs : List Cell} {a : Addr} {P : Obj → Prop} (O : Own hb h cs) (O₀ : ∃ ds, Own hb h₀ ds ∧ ds.map (·.1) = cs.map (·.1)) (ha : h₀.objs.size ≤ a) (x : ∃ o, h.get? a = some o ∧ P o) : Own hb h ((a, P) :: cs) := by
  obtain ⟨ds, O₀, e⟩ := O₀
  refine ⟨O.keep, fun c y => ?_, ?_⟩
  · rcases List.mem_cons.mp y with rfl | y
    · refine ⟨x, ?_⟩
      cases q : hb.get? a with
      | none => rfl
      | some o => exact absurd (Heap.lt_size (O₀.keep _ _ q)) (Nat.not_lt.mpr ha)
    · exact O.cell c y
  · rw [List.map_cons]
    refine List.nodup_cons.mpr ⟨fun y => ?_, O.nodup⟩
    rw [← e] at y
    obtain ⟨c, z, rfl⟩ := List.mem_map.mp y
    obtain ⟨o, eo, _⟩ := O₀.get (a := c.1) (P := c.2) z
    exact absurd (Heap.lt_size eo) (Nat.not_lt.mpr ha)
def expPos : Pos := match expDef with | .FunctionDef _ _ _ _ _ _ _ _ _ pos => pos | _ => ⟨0, 0, 0, 0⟩
def expQ (fd : FuncData) : Str := fd.qualname ++ ".<locals>." ++ ("expand_tabs" : Str)
/-- the code table of _tab_newline_replace, before and after its first run -/
inductive TabOk (q : Str) : List Cell → Prop
  | none : TabOk q [(98, fun o => o = tabObj #[])]
  | made (c' : Addr) : TabOk q [(98, fun o => o = tabObj #[rawInt expPos.line, rawInt expPos.col, .ref c']), (c', CO q)]
structure NestF (hb : Heap) (fd : FuncData) : Prop where
  code : ∃ c, fd.code = .ref c ∧ CodeHd hb c 98
  blt : ∃ mg, hb.Ns mainGlobals mg ∧ hb.BuiltinsAt mg 98
theorem BuiltinsAt.keep' {h h' : Heap} {mg} {P : Addr} (x : h.BuiltinsAt mg P) (k : ∀ b o, h.get? b = some o → h'.get? b = some o) : h'.BuiltinsAt mg P :=
  let ⟨bm, o, a, b, c, d, e, r⟩ := x; ⟨bm, o, a, b, c, d, k _ _ e, r⟩
/-- the nested def: a function object of our own, and the table grown -/
theorem Run.expMake {B : Base} {ks : Kinds} {pl : Names} {T cs : List Cell} {h : Heap} {fd : FuncData} {sc : Addr} {F : Value → Heap → Prop} (N : NestF B.hb fd) (hcode : B.env.code = fd.code) (hT : TabOk (expQ fd) T) (I : Is B ks pl (T ++ cs) h) (hsc : B.env.cells.lookup ("self" : Str) = some sc)
    (k : ∀ f c' T' h', TabOk (expQ fd) T' → (c', CO (expQ fd)) ∈ T' → Is B ks pl ((f, ExpFn sc c' (expQ fd)) :: (T' ++ cs)) h' → F (.ref f) h') :
    Run B.w B.A (match expDef with | .FunctionDef name params body _ _ _ scope _ _ pos => makeFunction name (expQ fd) params (.stmts body) scope B.env [] [] [] pos pos.line | _ => Pure.pure .none) h F := fun s hs => by
  subst hs
  obtain ⟨c, hc, C⟩ := N.code
  obtain ⟨mg, hg, hbl⟩ := N.blt
  have hclos : closureFor (match expDef with | .FunctionDef _ _ _ _ _ _ scope _ _ _ => scope | _ => default) B.env = (Pure.pure [(("self" : Str), sc)] : Sem (List (Str × Addr))) := (closure_of (fun _ => sc) (fun p hp e => by
    have hp' : p ∈ ([("line", .local), ("self", .free)] : List (Str × NameKind)) := hp
    rcases List.mem_cons.mp hp' with rfl | hp'
    · cases e
    · rw [List.mem_singleton.mp hp']; exact hsc))
  have Ck := C.keeps I.2.keep
  have hgk := hg.keeps I.2.keep
  have hbk := BuiltinsAt.keep' hbl I.2.keep
  have hgP : mainGlobals ≠ 98 := by decide
  cases hT with
  | none =>
    obtain ⟨o, e1, rfl⟩ := I.2.get (.tail _ (.head _))
    refine makeFunction_K (c := c) (P := 98) (ps := #[]) (mg := mg) hclos I.1.1.glo hgk (hcode.trans hc) Ck e1 trivial rfl hgP hbk fun c' ctv doc h' tk hx hge hlt hrec htb => ⟨⟨rfl, rfl, rfl⟩, ?_⟩
    obtain ⟨c₂, oc, vs, t, e2, hoc, hd, hv⟩ := hrec
    cases e2
    have O1 : Own B.hb s.heap ((98, fun o => o = tabObj #[]) :: (B.L, NP pl) :: cs) := I.2.perm (List.Perm.swap ..)
    have O2 := O1.changeX hx (P' := fun o => o = tabObj #[rawInt expPos.line, rawInt expPos.col, .ref c']) ⟨_, htb, rfl⟩
    have O3 : Own B.hb h' ((c', CO (expQ fd)) :: (98, fun o => o = tabObj #[rawInt expPos.line, rawInt expPos.col, .ref c']) :: (B.L, NP pl) :: cs) := O2.more ⟨_, O1, rfl⟩ hge ⟨oc, hoc, vs, t, hd, hv⟩
    have O4 := O3.push (P := ExpFn sc c' (expQ fd)) (fnMade _ (expQ fd) _ _ _ [("self", sc)] doc ((mg "__name__").getD .none) c' ctv) ⟨doc, _, ctv, rfl⟩
    refine k _ c' _ _ (.made c') (.tail _ (.head _)) ⟨I.1, O4.perm ?_⟩
    exact (List.Perm.cons _ ((List.Perm.swap ..).trans ((List.Perm.swap ..|>.cons _).trans (List.Perm.refl _)))).trans ((List.Perm.cons _ (List.Perm.swap ..)).trans (List.Perm.swap ..))
  | made c' =>
    obtain ⟨o, e1, rfl⟩ := I.2.get (.tail _ (.head _))
    refine makeFunction_hit (c := c) (P := 98) (cv := .ref c') (mg := mg) hclos I.1.1.glo hgk (hcode.trans hc) Ck e1 trivial rfl hbk fun ctv doc h' tk hk hsz => ⟨⟨rfl, rfl, rfl⟩, ?_⟩
    have O4 := (I.2.keeps hk).push (P := ExpFn sc c' (expQ fd)) (fnMade _ (expQ fd) _ _ _ [("self", sc)] doc ((mg "__name__").getD .none) c' ctv) ⟨doc, _, ctv, rfl⟩
    exact k _ c' _ _ (.made c') (.tail _ (.head _)) ⟨I.1, O4.perm (List.Perm.swap ..)⟩

/-! T12tnr -/
abbrev Line := List Nat × Bool
def lineP (q : Line) : PV := .T (S (q.1 ++ nls q.2))
def typP (size : Nat) (q : Line) : PV := .T (S (typedL size q.1))
def LineOk (q : Line) : Prop := q.1.length ≤ 100 ∧ ∀ c ∈ q.1, SignOk c
theorem perm_front (l T cs : List Cell) : List.Perm (l ++ (T ++ cs)) (T ++ (l ++ cs)) := by
  rw [← List.append_assoc, ← List.append_assoc]; exact List.perm_append_comm.append_right cs
abbrev tKinds : List (Str × NameKind) := [("self", .cell), ("fromlines", .local), ("tolines", .local), ("expand_tabs", .cell)]
abbrev eKinds : List (Str × NameKind) := [("line", .local), ("expand_tabs", .cell)]

section
variable {B : Base} {ks : Kinds} {pl : Names} {cs : List Cell} {fn e : Expr} {pos : Pos} {f : Addr} {p : PV} {P Q : PV → List Cell → Prop}
/-- a call of a function that a name holds -/
theorem EvP.fnCall {R : List PV → List Cell → Prop} {x : Str} {fp : Pos} {es : List Expr} (hn' : Ev B ks pl cs (.Name x fp) (.O f)) (ha : EvsP B ks pl cs pos (e :: es) R) (hfn : ∀ h, Is B ks pl cs h → FnAt f h) (hfk : ∀ ps ds h, R ps ds → Is B ks pl ds h → FnAt f h) (hc : ∀ ps ds vs h, R ps ds → Ares ps vs → Is B ks pl ds h → ∀ G : Value → Heap → Prop, (∀ p v h' cs', Q p cs' → p.is v → Is B ks pl cs' h' → G v h') → Run B.w B.A (PySem.call (.ref f) vs) h G)
    (hq : starEach (e :: es) B.env = (false, eval e B.env) :: starEach es B.env := by rfl) (hp : (backTo pos (starEach es B.env)).any (·.1) = false := by rfl)
    (hn : eval (.Call (.Name x fp) (e :: es) [] pos) B.env = (do callWith pos (← eval (.Name x fp) B.env) [] (backTo pos (starEach (e :: es) B.env)) (backToKw pos (keywordEach [] B.env))) := by rfl) : EvP B ks pl cs (.Call (.Name x fp) (e :: es) [] pos) Q :=
  fun h I G k => Run.call (hn' h I _ fun v h₁ hv I₁ s hs => by
    cases hv
    subst hs
    exact callWith_F (hfn _ I₁) (wpAny_mono (ha s.heap I₁ (fun vs h' => ∃ ps ds, R ps ds ∧ Ares ps vs ∧ Is B ks pl ds h') (fun ps vs h₁ ds j hvs I₁ => ⟨ps, ds, j, hvs, I₁⟩) s rfl) (fun vs s' q => by
      obtain ⟨S, ps, ds, j, hvs, I₂⟩ := q
      exact ⟨hfk ps ds _ j I₂, (hc ps ds vs _ j hvs I₂ G k).on S⟩) fun _ _ e => e) hq hp) hn
end
theorem fnAt_exp {hb h : Heap} {cs : List Cell} {f sc c' : Addr} {q : Str} (O : Own hb h cs) (hf : (f, ExpFn sc c' q) ∈ cs) : FnAt f h := by
  obtain ⟨o, ho, hoe⟩ := O.get hf
  replace hoe : ∃ doc pm ctv, o = fnMade _ q _ _ _ [("self", sc)] doc pm c' ctv := hoe
  obtain ⟨doc, pm, ctv, rfl⟩ := hoe
  exact ⟨_, _, _, _, ho⟩
section
variable {w : World} {A : Around} {hb h : Heap} {cs T : List Cell} {fd : FuncData} {d u : Nat} {F : Value → Heap → Prop} {K : Frag}
/-- the comprehension that fills one list of lines -/
theorem fill_turn {B : Base} {pl : Names} {D : List Cell} {x dx f sc c' ce : Addr} {q : Str} {size : Nat} {L : List Line} {src : Addr} {scope : Scope} {elt : Expr} {xp : Pos} (X : K.In B.hb) (H : HdK K) (hA : AOk B.A (d + 1) (u + 3)) (G : Gd B.hb Globs Blts)
    (hf : (f, ExpFn sc c' q) ∈ D) (hc : (c', CO q) ∈ D) (hs : (sc, CV (some (.O x))) ∈ D) (he : (ce, CV (some (.O f))) ∈ D) (hx : (x, IO 154 dx) ∈ D) (hdx : (dx, DN (HdNames size)) ∈ D) (h0 : 0 < size) (h1 : size ≤ 100) (hL : ∀ l ∈ L, LineOk l)
    (helt : ∃ fp np cp, elt = .Call (.Name "expand_tabs" fp) [.Name "line" np] [] cp) (hcl : ∀ C, (compEnvC scope (closOf scope.names (fun y => if y = ("self" : Str) then sc else ce)) C B.env).cells.lookup ("expand_tabs" : Str) = some ce) :
    CompTurn B eKinds pl scope (fun y => if y = ("self" : Str) then sc else ce) elt (.Name "line" xp) (L.map lineP).length (fun i => (L.map lineP).getD i .N) (LIt src) (fun i rs ds => rs = (L.take i).map (typP size) ∧ ds = D) := by
  rintro i rs ds C acc it hi ⟨rfl, rfl⟩
  rw [List.length_map] at hi
  obtain ⟨fp, np, cp, rfl⟩ := helt
  have hli : L[i]? = some L[i] := List.getElem?_eq_getElem hi
  have hval : (L.map lineP).getD i .N = .T (S (L[i].1 ++ nls L[i].2)) := by rw [List.getD_eq_getElem?_getD, List.getElem?_map, hli]; rfl
  obtain ⟨o1, o2⟩ := hL L[i] (List.getElem_mem hi)
  refine ⟨[("line", (L.map lineP).getD i .N)], .name rfl, ?_⟩
  rw [hval]
  have me : ∀ {c : Cell}, c ∈ ds → c ∈ (acc, LP ((L.take i).map (typP size))) :: (it, LIt src (i + 1)) :: (B.L, NP pl) :: ds := fun h => .tail _ (.tail _ (.tail _ h))
  refine EvP.fnCall (f := f) (R := fun ps E => ps = [.T (S (L[i].1 ++ nls L[i].2))] ∧ E = (acc, LP ((L.take i).map (typP size))) :: (it, LIt src (i + 1)) :: (B.L, NP pl) :: ds) (Ev.cell rfl (hcl C) (me he)) (EvsP.of (Evs.cons (Ev.name rfl rfl) Evs.nil) ⟨rfl, rfl⟩)
    (fun h I => fnAt_exp I.2 (.tail _ (me hf))) (fun ps E h j I => by obtain ⟨rfl, rfl⟩ := j; exact fnAt_exp I.2 (.tail _ (me hf))) (fun ps E vs h j hv I G' kk => ?_)
  obtain ⟨rfl, rfl⟩ := j
  cases hv with | cons a hv => cases hv with | nil =>
  obtain ⟨t, rfl⟩ := a
  refine exp_ok X H.cls H.get hA G I.2 (.tail _ (me hf)) (.tail _ (me hc)) (.tail _ (me hs)) (.tail _ (me hx)) (.tail _ (me hdx)) rfl h0 h1 o1 o2 fun t h' O' => kk (.T (S (typedL size L[i].1))) _ _ _ ⟨ds, Less.refl, ?_, rfl⟩ ⟨t, rfl⟩ ⟨I.1, O'⟩
  rw [List.take_add_one, hli, List.map_append]; rfl

theorem tnr_ok (X : K.In hb) (H : HdK K) (N : NestF hb fd) (D : DefIs hb 101 (methAt 14 7) .none .none fd) {x dx fl tl : Addr} {size : Nat} {L1 L2 : List Line} (hA : AOk A (d + 2) (u + 6)) (G : Gd hb Globs Blts) (O : Own hb h (T ++ cs)) (hT : TabOk (expQ fd) T)
    (hx : (x, IO 154 dx) ∈ cs) (hdx : (dx, DN (HdNames size)) ∈ cs) (m1 : (fl, LP (L1.map lineP)) ∈ cs) (m2 : (tl, LP (L2.map lineP)) ∈ cs) (h0 : 0 < size) (h1 : size ≤ 100) (z1 : L1.length ≤ 100) (z2 : L2.length ≤ 100) (k1 : ∀ l ∈ L1, LineOk l) (k2 : ∀ l ∈ L2, LineOk l)
    (k : ∀ r a b T' h', TabOk (expQ fd) T' → Own hb h' ((r, TP [.O a, .O b]) :: (b, LP (L2.map (typP size))) :: (a, LP (L1.map (typP size))) :: (T' ++ cs)) → F (.ref r) h') :
    Run w A (PySem.call (.ref 101) [.ref x, .ref fl, .ref tl]) h F := by
  refine RunCall.run (RunCall.defC (d := d + 1) (u := u + 3) D hA G O [("self", .ref x), ("fromlines", .ref fl), ("tolines", .ref tl)] [("fromlines", .O fl), ("tolines", .O tl)] [("self", some (.O x)), ("expand_tabs", none)] (fun fd e1 e2 e3 => ?_)
    ⟨⟨_, rfl, rfl⟩, ⟨_, rfl, rfl⟩, trivial⟩ ⟨⟨_, rfl, rfl⟩, rfl, trivial⟩ tKinds rfl (fun n y hy => ?_) (fun n y hy => ?_) (show (["self", "expand_tabs"] : List Str).Nodup by decide) ⟨rfl, rfl, rfl⟩ ?_)
  · cases fd; cases e1; cases e2; cases e3; rfl
  · rcases List.mem_cons.mp hy with rfl | hy
    · exact .inr ⟨rfl, rfl⟩
    rcases List.mem_cons.mp hy with rfl | hy
    · exact .inl rfl
    rw [List.mem_singleton.mp hy]; exact .inl rfl
  · rcases List.mem_cons.mp hy with rfl | hy
    · rfl
    rw [List.mem_singleton.mp hy]; rfl
  intro L env A' ca hA' hca hcode hqual
  have c1 : env.cells.lookup ("self" : Str) = some (ca "self") := hca _ (.head _)
  have c2 : env.cells.lookup ("expand_tabs" : Str) = some (ca "expand_tabs") := hca _ (.tail _ (.head _))
  refine Ex.perm (perm_front [(ca "self", CV (some (.O x))), (ca "expand_tabs", CV none)] T cs) ?_
  intro h I
  refine Run.seq fun s hs => nestDef_K rfl rfl rfl ?_
  have hq : qualnameIn env "expand_tabs" "expand_tabs" = expQ fd := by
    unfold qualnameIn
    rw [I.1.1.kinds "expand_tabs" .cell rfl, hqual]; rfl
  rw [hq]
  refine wpAny_mono (Run.expMake (B := ⟨w, A', hb, env, L⟩) (F := fun (v : Value) (h' : Heap) => ∃ f c' T', v = .ref f ∧ TabOk (expQ fd) T' ∧ (c', CO (expQ fd)) ∈ T' ∧ Is ⟨w, A', hb, env, L⟩ tKinds [("fromlines", .O fl), ("tolines", .O tl)] ((f, ExpFn (ca "self") c' (expQ fd)) :: (T' ++ ([(ca "self", CV (some (.O x))), (ca "expand_tabs", CV none)] ++ cs))) h') N hcode hT I c1 (fun f c' T' h' hT' hc' I' => ⟨f, c', T', rfl, hT', hc', I'⟩) s hs) (fun v s₁ q => ?_) fun _ _ e => e
  obtain ⟨S₁, f, c', T', rfl, hT', hc', I₁⟩ := q
  have I₂ : Is ⟨w, A', hb, env, L⟩ tKinds [("fromlines", .O fl), ("tolines", .O tl)] ([] ++ (ca "expand_tabs", CV none) :: ((f, ExpFn (ca "self") c' (expQ fd)) :: (ca "self", CV (some (.O x))) :: (T' ++ cs))) s₁.heap := I₁.perm (by
    refine List.Perm.trans (.cons _ (perm_front [(ca "self", CV (some (.O x))), (ca "expand_tabs", CV none)] T' cs).symm) ?_
    refine List.Perm.trans (.cons _ (List.Perm.swap ..)) (List.Perm.swap ..))
  refine wpAny_mono ((Run.stC (B := ⟨w, A', hb, env, L⟩) (p := .O f) (G := fun _ h' => Is ⟨w, A', hb, env, L⟩ tKinds [("fromlines", .O fl), ("tolines", .O tl)] ([] ++ (ca "expand_tabs", CV (some (.O f))) :: ((f, ExpFn (ca "self") c' (expQ fd)) :: (ca "self", CV (some (.O x))) :: (T' ++ cs))) h') rfl c2 I₂ rfl fun h₃ I₃ => I₃).on S₁) (fun _ s₂ q => ⟨q.1, ?_⟩) fun _ _ e => e
  refine (?_ : Ex ⟨w, A', hb, env, L⟩ tKinds [("fromlines", .O fl), ("tolines", .O tl)] ([] ++ (ca "expand_tabs", CV (some (.O f))) :: ((f, ExpFn (ca "self") c' (expQ fd)) :: (ca "self", CV (some (.O x))) :: (T' ++ cs))) _ _) s₂.heap q.2
  generalize hD : (ca "expand_tabs", CV (some (.O f))) :: ((f, ExpFn (ca "self") c' (expQ fd)) :: (ca "self", CV (some (.O x))) :: (T' ++ cs)) = DD
  have d1 : (ca "expand_tabs", CV (some (.O f))) ∈ DD := hD ▸ .head _
  have d2 : (f, ExpFn (ca "self") c' (expQ fd)) ∈ DD := hD ▸ .tail _ (.head _)
  have d3 : (ca "self", CV (some (.O x))) ∈ DD := hD ▸ .tail _ (.tail _ (.head _))
  have d4 : ∀ c ∈ cs, c ∈ DD := fun c hc => hD ▸ .tail _ (.tail _ (.tail _ (List.mem_append_right _ hc)))
  have d5 : (c', CO (expQ fd)) ∈ DD := hD ▸ .tail _ (.tail _ (.tail _ (List.mem_append_left _ hc')))
  rw [List.nil_append]
  have clk : ∀ (scope : Scope) C, (closOf scope.names (fun y => if y = ("self" : Str) then ca "self" else ca "expand_tabs")).lookup ("expand_tabs" : Str) = some (ca "expand_tabs") → (compEnvC scope (closOf scope.names (fun y => if y = ("self" : Str) then ca "self" else ca "expand_tabs")) C env).cells.lookup ("expand_tabs" : Str) = some (ca "expand_tabs") := fun _ _ h => h
  refine Ex.assignComp (ca := fun y => if y = ("self" : Str) then ca "self" else ca "expand_tabs") (ks' := eKinds) (Source.list (ps := L1.map lineP) (Ev.name rfl rfl) (d4 _ m1) (fun _ => LP.wl)) ⟨rfl, rfl, ⟨rfl, rfl⟩, rfl, rfl⟩ ⟨trivial, trivial, c2, trivial⟩
    (fun i rs ds => rs = (L1.take i).map (typP size) ∧ ds = DD) (fun it i rs ds j E hE => ⟨_, hE _ (j.2 ▸ d4 _ m1), fun _ => LP.wl⟩) (by rw [List.length_map]; omega) (fun i rs ds j => by rw [j.1, List.length_map, List.length_take]; omega) ⟨by simp, rfl⟩
    (fill_turn (B := ⟨w, A', hb, env, L⟩) X H (d := d) (u := u) hA' G d2 d5 d3 d1 (d4 _ hx) (d4 _ hdx) h0 h1 k1 ⟨_, _, _, rfl⟩ (fun C => clk _ C rfl)) ?_ rfl rfl
  rintro a _ ds ⟨rfl, e⟩
  rw [e, List.length_map, List.take_length]
  refine Ex.assignComp (ca := fun y => if y = ("self" : Str) then ca "self" else ca "expand_tabs") (ks' := eKinds) (Source.list (ps := L2.map lineP) (Ev.name rfl rfl) (.tail _ (d4 _ m2)) (fun _ => LP.wl)) ⟨rfl, rfl, ⟨rfl, rfl⟩, rfl, rfl⟩ ⟨trivial, trivial, c2, trivial⟩
    (fun i rs ds => rs = (L2.take i).map (typP size) ∧ ds = (a, LP (L1.map (typP size))) :: DD) (fun it i rs ds j E hE => ⟨_, hE _ (j.2 ▸ .tail _ (d4 _ m2)), fun _ => LP.wl⟩) (by rw [List.length_map]; omega) (fun i rs ds j => by rw [j.1, List.length_map, List.length_take]; omega) ⟨by simp, rfl⟩
    (fill_turn (B := ⟨w, A', hb, env, L⟩) X H (d := d) (u := u) hA' G (.tail _ d2) (.tail _ d5) (.tail _ d3) (.tail _ d1) (.tail _ (d4 _ hx)) (.tail _ (d4 _ hdx)) h0 h1 k2 ⟨_, _, _, rfl⟩ (fun C => clk _ C rfl)) ?_ rfl rfl
  rintro b _ ds ⟨rfl, e⟩
  rw [e, List.length_map, List.take_length]
  refine Ex.retP (EvP.tuple (Q := fun p ds => ∃ r, p = .O r ∧ ds = (r, TP [.O a, .O b]) :: (b, LP (L2.map (typP size))) :: (a, LP (L1.map (typP size))) :: DD) (EvsP.of (Evs.cons (Ev.name rfl rfl) (Evs.cons (Ev.name rfl rfl) Evs.nil)) ⟨by simp, fun r => ⟨r, rfl, rfl⟩⟩)) ?_
  rintro _ v h _ ⟨r, rfl, rfl⟩ hv I
  cases hv
  subst hD
  exact k r a b T' h hT' (I.2.tail.sub (.cons_cons _ (.cons_cons _ (.cons_cons _ (.cons _ (.cons _ (.cons _ (List.Sublist.refl _))))))))
end

/-! T13plain -/
/-! ## plain laws of the columns -/
/-- tabs and blanks alone -/
def Ws (l : List Nat) : Prop := ∀ c ∈ l, c = 9 ∨ c = 32
theorem ilAt_all (size : Nat) (h0 : 0 < size) (cnt : List Int) : ilAt size cnt (cnt.length - size) = ((List.range cnt.length).map fun i => ((i / size : Nat) : Int) * cnt.getD i 0).sum := by
  have key : ∀ k, ((List.range (size + k)).map fun i => ((i / size : Nat) : Int) * cnt.getD i 0).sum = ilAt size cnt k := by
    intro k
    induction k with
    | zero =>
      have hz : ∀ n, n ≤ size → ((List.range n).map fun i => ((i / size : Nat) : Int) * cnt.getD i 0).sum = 0 := by
        intro n hn
        induction n with
        | zero => rfl
        | succ n ih =>
          rw [List.range_succ, List.map_append, List.sum_append, ih (by omega)]
          have hd : n / size = 0 := Nat.div_eq_of_lt (by omega)
          simp only [List.map_cons, List.map_nil, List.sum_cons, List.sum_nil]
          rw [hd]; simp
      exact hz _ (Nat.le_refl _)
    | succ k ih =>
      rw [← Nat.add_assoc, List.range_succ, List.map_append, List.sum_append, ih]
      unfold ilAt
      have : ((size : Int) + k).fdiv size = (((size + k) / size : Nat) : Int) := by rw [← Int.natCast_add]; exact (Int.ofNat_fdiv ..).symm
      rw [this]
      cases k with
      | zero => simp [ilAt]
      | succ k => simp [ilAt]
  rcases Nat.le_total size cnt.length with h | h
  · rw [← key, Nat.add_sub_cancel' h]
  · rw [Nat.sub_eq_zero_of_le h]
    show (0 : Int) = _
    have hz : ∀ n, n ≤ size → ((List.range n).map fun i => ((i / size : Nat) : Int) * cnt.getD i 0).sum = 0 := by
      intro n hn
      induction n with
      | zero => rfl
      | succ n ih =>
        rw [List.range_succ, List.map_append, List.sum_append, ih (by omega)]
        have hd : n / size = 0 := Nat.div_eq_of_lt (by omega)
        simp only [List.map_cons, List.map_nil, List.sum_cons, List.sum_nil]
        rw [hd]; simp
    exact (hz _ h).symm
def wSum (size : Nat) (cnt : List Int) : Int := ((List.range cnt.length).map fun i => ((i / size : Nat) : Int) * cnt.getD i 0).sum
theorem wSum_nil (size : Nat) : wSum size [] = 0 := rfl
theorem wSum_snoc (size : Nat) (cnt : List Int) (v : Int) : wSum size (cnt ++ [v]) = wSum size cnt + ((cnt.length / size : Nat) : Int) * v := by
  unfold wSum
  rw [List.length_append, List.length_singleton, List.range_succ, List.map_append, List.sum_append]
  congr 1
  · congr 1
    apply List.map_congr_left
    intro i hi
    have : i < cnt.length := List.mem_range.mp hi
    simp [List.getD_eq_getElem?_getD, List.getElem?_append_left this]
  · simp
theorem wSum_zeros (size : Nat) (cnt : List Int) : ∀ k, wSum size (cnt ++ List.replicate k 0) = wSum size cnt := by
  intro k
  induction k with
  | zero => simp
  | succ k ih => rw [List.replicate_succ', ← List.append_assoc, wSum_snoc, ih]; simp
theorem wSum_set (size : Nat) : ∀ (cnt : List Int) (b : Nat), b < cnt.length → wSum size (cnt.set b (cnt.getD b 0 + 1)) = wSum size cnt + ((b / size : Nat) : Int) := by
  intro cnt b hb
  unfold wSum
  rw [List.length_set]
  have : ∀ n, n ≤ cnt.length → ((List.range n).map fun i => ((i / size : Nat) : Int) * (cnt.set b (cnt.getD b 0 + 1)).getD i 0).sum = ((List.range n).map fun i => ((i / size : Nat) : Int) * cnt.getD i 0).sum + (if b < n then ((b / size : Nat) : Int) else 0) := by
    intro n
    induction n with
    | zero => intro _; rfl
    | succ n ih =>
      intro hn
      rw [List.range_succ, List.map_append, List.map_append, List.sum_append, List.sum_append, ih (by omega)]
      have hs : ((List.map (fun i => ((i / size : Nat) : Int) * (cnt.set b (cnt.getD b 0 + 1)).getD i 0) [n]).sum) = ((n / size : Nat) : Int) * (cnt.set b (cnt.getD b 0 + 1)).getD n 0 := by simp
      have hs2 : ((List.map (fun i => ((i / size : Nat) : Int) * cnt.getD i 0) [n]).sum) = ((n / size : Nat) : Int) * cnt.getD n 0 := by simp
      rw [hs, hs2]
      by_cases e : b = n
      · subst e
        have : (cnt.set b (cnt.getD b 0 + 1)).getD b 0 = cnt.getD b 0 + 1 := by simp [List.getD_eq_getElem?_getD, hb]
        rw [this, if_neg (by omega), if_pos (by omega), Int.mul_add, Int.mul_one]
        omega
      · have : (cnt.set b (cnt.getD b 0 + 1)).getD n 0 = cnt.getD n 0 := by simp [List.getD_eq_getElem?_getD, List.getElem?_set_ne e]
        rw [this]
        by_cases h2 : b < n
        · rw [if_pos h2, if_pos (by omega)]; omega
        · rw [if_neg h2, if_neg (by omega)]; omega
  rw [this _ (Nat.le_refl _), if_pos hb]
theorem wSum_bump (size : Nat) (cnt : List Int) (b : Nat) : wSum size (bump cnt b) = wSum size cnt + ((b / size : Nat) : Int) := by
  unfold bump
  dsimp only
  split
  · rename_i h
    rw [wSum_set size _ b (by simp; omega), wSum_zeros]
  · rename_i h
    exact wSum_set size cnt b (by omega)
/-- where the walk stands: whole tab stops and what is behind the last -/
theorem ws_typed {size : Nat} (h0 : 0 < size) : ∀ (l : List Nat), Ws l → ∀ (r : List Nat) (st : WsSt) (t : List Nat), (t.length : Int) = st.2.1 + size * (wSum size st.1 + st.2.2) →
    ∃ st', wsRun (l ++ r) st = wsRun r st' ∧ ((l.foldl (typedStep size) t).length : Int) = st'.2.1 + size * (wSum size st'.1 + st'.2.2) := by
  intro l
  induction l with
  | nil => intro _ r st t h; exact ⟨st, rfl, h⟩
  | cons c l ih =>
    intro hw r st t h
    obtain ⟨cnt, b, nt⟩ := st
    dsimp only at h
    have hc := hw c (.head _)
    rw [List.cons_append, wsRun_cons, if_pos hc.symm, List.foldl_cons]
    refine ih (fun a ha => hw a (.tail _ ha)) r _ _ ?_
    rcases hc with rfl | rfl
    · rw [show wsStep (cnt, b, nt) 9 = (bump cnt b, 0, nt + 1) from rfl, show typedStep size t 9 = t ++ List.replicate (size - t.length % size) 9 from rfl]
      dsimp only
      rw [wSum_bump, List.length_append, List.length_replicate]
      obtain ⟨z, hz⟩ : ∃ z : Int, wSum size cnt + (nt : Int) = z := ⟨_, rfl⟩
      rw [hz] at h
      have hlm : ((t.length % size : Nat) : Int) = ((b % size : Nat) : Int) := by
        rw [Int.natCast_emod, h, Int.add_mul_emod_self_left, ← Int.natCast_emod]
      have hlm' : t.length % size = b % size := by exact_mod_cast hlm
      have hlt := Nat.mod_lt b h0
      have hdm := Nat.div_add_mod b size
      rw [hlm', Int.natCast_add, h, Int.natCast_sub (Nat.le_of_lt hlt)]
      have hdm' : (size : Int) * ((b / size : Nat) : Int) + ((b % size : Nat) : Int) = (b : Int) := by exact_mod_cast hdm
      have e1 : wSum size cnt + ((b / size : Nat) : Int) + ((nt + 1 : Nat) : Int) = z + ((b / size : Nat) : Int) + 1 := by rw [← hz]; push_cast; omega
      rw [e1, Int.mul_add, Int.mul_add, Int.mul_one]
      omega
    · rw [show wsStep (cnt, b, nt) 32 = (cnt, b + 1, nt) from rfl, show typedStep size t 32 = t ++ [32] from rfl]
      dsimp only
      rw [List.length_append, List.length_singleton]
      push_cast
      omega
/-- the column as indent_level tells it -/
theorem indent_typed {size : Nat} (h0 : 0 < size) (l r : List Nat) (hw : Ws l) : indentOf size (wsRun (l ++ 120 :: r) ([], 0, 0)) = (typedL size l).length := by
  obtain ⟨st', e1, e2⟩ := ws_typed h0 l hw (120 :: r) ([], 0, 0) [] (by simp [wSum_nil])
  rw [e1, wsRun_cons, if_neg (by decide)]
  unfold indentOf
  rw [ilAt_all size h0]
  exact e2.symm
theorem typedL_app (size : Nat) (l r : List Nat) : typedL size (l ++ r) = r.foldl (typedStep size) (typedL size l) := by unfold typedL; rw [List.foldl_append]
theorem typed_ext (size : Nat) : ∀ (r t : List Nat), ∃ post, r.foldl (typedStep size) t = t ++ post := by
  intro r
  induction r with
  | nil => intro t; exact ⟨[], by simp⟩
  | cons c r ih =>
    intro t
    rw [List.foldl_cons]
    obtain ⟨post, h⟩ := ih (typedStep size t c)
    rw [h]
    unfold typedStep
    split
    · exact ⟨_, List.append_assoc ..⟩
    · exact ⟨_, List.append_assoc ..⟩
/-- the place of the x in the filled line -/
theorem typed_x {size : Nat} (l r : List Nat) (hw : Ws l) : ∃ post, typedL size (l ++ 120 :: r) = typedL size l ++ 120 :: post ∧ (120 : Nat) ∉ typedL size l := by
  obtain ⟨post, h⟩ := typed_ext size r (typedL size l ++ [120])
  refine ⟨post, ?_, ?_⟩
  · rw [typedL_app, List.foldl_cons]
    rw [show typedStep size (typedL size l) 120 = typedL size l ++ [120] from rfl, h]; simp
  · have : ∀ l : List Nat, Ws l → (120 : Nat) ∉ typedL size l := by
      intro l
      induction l using snocInd with
      | nil => intro _ h; cases h
      | append_singleton l c ih =>
        intro hw h
        rw [typedL_snoc] at h
        have hi := ih fun a ha => hw a (List.mem_append_left _ ha)
        unfold typedStep at h
        split at h
        · rcases List.mem_append.mp h with h | h
          · exact hi h
          · have := List.eq_of_mem_replicate h; omega
        · rcases List.mem_append.mp h with h | h
          · exact hi h
          · have := List.mem_singleton.mp h
            have := hw c (by simp)
            omega
    exact this l hw
/-- behind a whole tab stop -/
theorem typed_lead {size : Nat} (h0 : 0 < size) (t : List Nat) (hm : t.length % size = 0) : ∀ tabs blanks : Nat, ((List.replicate tabs 9 ++ List.replicate blanks 32).foldl (typedStep size) t).length = t.length + size * tabs + blanks := by
  intro tabs blanks
  rw [List.foldl_append]
  have h1 : ∀ n, ((List.replicate n 9).foldl (typedStep size) t).length = t.length + size * n := by
    intro n
    induction n with
    | zero => simp
    | succ n ih =>
      rw [List.replicate_succ', List.foldl_append, List.foldl_cons, List.foldl_nil]
      unfold typedStep
      rw [if_pos rfl, List.length_append, List.length_replicate]
      unfold typedStep at ih
      rw [ih, Nat.add_mul_mod_self_left, hm, Nat.mul_add, Nat.mul_one]
      omega
  have h2 : ∀ n (t : List Nat), ((List.replicate n 32).foldl (typedStep size) t).length = t.length + n := by
    intro n
    induction n with
    | zero => intro t; simp
    | succ n ih =>
      intro t
      rw [List.replicate_succ, List.foldl_cons, ih]
      unfold typedStep
      rw [if_neg (by decide), List.length_append, List.length_singleton]
      omega
  rw [h2, h1]
theorem typed_tab {size : Nat} (h0 : 0 < size) (l : List Nat) : (typedL size (l ++ [9])).length % size = 0 := by
  rw [typedL_snoc]
  unfold typedStep
  rw [if_pos rfl, List.length_append, List.length_replicate]
  have := Nat.mod_lt (typedL size l).length h0
  have hd := Nat.div_add_mod (typedL size l).length size
  rw [show (typedL size l).length + (size - (typedL size l).length % size) = size * ((typedL size l).length / size + 1) by rw [Nat.mul_add, Nat.mul_one]; omega]
  exact Nat.mul_mod_right ..
theorem ws_len' : ∀ (l : List Nat) (st : WsSt), (wsRun l st).1.length ≤ max st.1.length (st.2.1 + l.length) ∧ True := by
  intro l
  induction l with
  | nil => intro st; exact ⟨Nat.le_max_left _ _, trivial⟩
  | cons c r ih =>
    intro st
    refine ⟨?_, trivial⟩
    rw [wsRun_cons]
    split
    · refine Nat.le_trans (ih _).1 ?_
      unfold wsStep
      split
      · dsimp only; rw [List.length_cons]; omega
      · dsimp only; rw [bump_len, List.length_cons]; omega
    · exact Nat.le_max_left _ _
theorem ws_len (l : List Nat) (_n : Nat) (h : l.length ≤ 200) : (wsRun l ([], 0, 0)).1.length ≤ 200 := Nat.le_trans (ws_len' l ([], 0, 0)).1 (by simp; omega)

/-! T14col -/
theorem AOk.weaken {A : Around} {d u d' u' : Nat} (x : AOk A d u) (h1 : d' ≤ d) (h2 : u' ≤ u) : AOk A d' u' := ⟨x.hand, by have := x.depth; omega, by have := x.units; omega, x.frames⟩
section
variable {M : Model} {A : Around} {E : Value → Shared → Prop} {s : Shared}
theorem evalArgs_kw0 {f : Value} {keywords : List (Option Str × Sem Value)} {Q : Args → Shared → Prop} (hall : keywords.all (·.1.isSome) = true)
    (h : wpAny M A (evalAll (keywords.map (·.2))) (fun kvs s₂ => Q ⟨[], (keywords.filterMap (·.1)).zip kvs⟩ s₂) E s) : wpAny M A (evalArgs f true [] keywords) Q E s := by
  unfold evalArgs
  show wpAny M A (spliced [] >>= _) Q E s
  refine wpAny_bind (spliced_nil (wpAny_bind (wpAny_pure ?_)))
  refine wpAny_holding ?_
  rw [if_pos hall]
  refine wpAny_bind (wpAny_mono h (fun kvs s₂ h₂ => ?_) fun _ _ x => x)
  exact wpAny_bind (wpAny_pure (wpAny_pure h₂))
end
section
variable {B : Base} {ks : Kinds} {pl : Names} {cs : List Cell} {e : Expr} {pos fp kp : Pos} {p : PV} {f : Addr} {x n : Str} {K : Frag} {Q : PV → List Cell → Prop}
/-- C(n=e) -/
theorem EvP.kw1 (X : K.In B.hb) (hk' : keepIn K (.ref f) = true) (he : Ev B ks pl cs e p) (hc : ∀ v h, p.is v → Is B ks pl cs h → ∀ G : Value → Heap → Prop, (∀ q v h' cs', Q q cs' → q.is v → Is B ks pl cs' h' → G v h') → Run B.w B.A (PySem.call (.ref f) [] [(n, v)]) h G)
    (hk : ks.lookup x = some .globalImplicit := by rfl) (hg : Globs.lookup x = some (.ref f) := by rfl) (hd : (x == ("__debug__" : Str)) = false := by decide)
    (hn : eval (.Call (.Name x fp) [] [⟨some n, e, kp⟩] pos) B.env = (do callWith pos (← eval (.Name x fp) B.env) [] (backTo pos (starEach [] B.env)) (backToKw pos (keywordEach [⟨some n, e, kp⟩] B.env))) := by rfl) : EvP B ks pl cs (.Call (.Name x fp) [] [⟨some n, e, kp⟩] pos) Q := fun h I G k s hs => by
  rw [hn]
  refine wpAny_bind (wpAny_mono (Run.global (pos := fp) (F := fun v h' => v = .ref f ∧ h' = h) I.1.1 I.1.2.1 I.2 hk hg ⟨rfl, rfl⟩ hd s hs) (fun v s₁ q => ?_) fun _ _ e => e)
  obtain ⟨S₁, rfl, hh⟩ := q
  refine callWith_of (P := fun h => K.In h) rfl (keeps_K hk') (evalArgs_kw0 rfl (kws_cons (wpAny_mono (he h I (fun v h' => p.is v ∧ Is B ks pl cs h') (fun v h' hv I' => ⟨hv, I'⟩) s₁ hh) (fun v s₂ q => kws_nil ?_) fun _ _ e => e)))
  obtain ⟨S₂, hv, I₂⟩ := q
  exact ⟨X.keeps I₂.2.keep, (hc v _ hv I₂ G k).on (S₁.trans S₂)⟩
end

/-! ## _law_columns -/
abbrev tail3 : List Nat := [120, 32, 9]
theorem sign_text {w : List Nat} (h : Ws w) : ∀ c ∈ w ++ tail3, SignOk c := fun c hc => by
  rcases List.mem_append.mp hc with hc | hc
  · rcases h c hc with rfl | rfl
    · exact .inl rfl
    · exact .inr (.inl rfl)
  · rcases List.mem_cons.mp hc with rfl | hc
    · exact .inr (.inr rfl)
    rcases List.mem_cons.mp hc with rfl | hc
    · exact .inr (.inl rfl)
    · rw [List.mem_singleton.mp hc]; exact .inl rfl
abbrev cKinds : List (Str × NameKind) := [("texts", .local), ("size", .cell), ("filled", .local), ("row", .local), ("text", .local), ("lines", .local), ("turned", .local), ("line", .local), ("insort_left", .globalImplicit), ("Whitespace", .globalImplicit), ("HtmlDiff", .globalImplicit), ("insort_right", .globalImplicit)]
/-- what the top's run left, as the columns need it -/
structure ColF (hb : Heap) (K : Frag) (fd : FuncData) : Prop where
  X : K.In hb
  ws : WsK K
  hd : HdK K
  df : DfltH hb
  nest : NestF hb fd
  d101 : DefIs hb 101 (methAt 14 7) .none .none fd
  d175 : ∃ fd, DefIs hb 175 (methAt 16 1) .none .none fd
  d189 : ∃ fd, DefIs hb 189 (methAt 16 3) .none .none fd
  d87 : ∃ fd, DefIs hb 87 (methAt 14 5) (.ref 80) .none fd
  d55 : ∃ fd, DefIs hb 55 (stmtAt 6) (.ref 47) (.ref 48) fd
  d64 : ∃ fd, DefIs hb 64 (stmtAt 7) (.ref 56) (.ref 57) fd
  d37 : ∃ fd, DefIs hb 37 (stmtAt 4) (.ref 29) (.ref 30) fd
  d46 : ∃ fd, DefIs hb 46 (stmtAt 5) (.ref 38) (.ref 39) fd
  d238 : ∃ fd, DefIs hb 238 (stmtAt 19) .none .none fd
  f29 : Dfl hb 29 30
  f38 : Dfl hb 38 39
  f47 : Dfl hb 47 48
  f56 : Dfl hb 56 57
section
variable {w : World} {A : Around} {hb h : Heap} {cs T : List Cell} {fd fd2 : FuncData} {d u : Nat} {F : Value → Heap → Prop} {K : Frag}
theorem columns_ok (C : ColF hb K fd) (D : DefIs hb 257 (stmtAt 22) .none .none fd2) {tx : Addr} {size : Nat} {fi : Int} {W : List (List Nat)} {t1 t2 : Tok} (hA : AOk A (d + 6) (u + 100)) (G : Gd hb Globs Blts) (O : Own hb h (T ++ cs)) (hT : TabOk (expQ fd) T)
    (hx : (tx, LP (W.map fun w => .T (S (w ++ tail3)))) ∈ cs) (h0 : 0 < size) (h1 : size ≤ 100) (hW : W.length = 4) (hw : ∀ w ∈ W, Ws w ∧ w.length ≤ 90)
    (k : ∀ a T' h' (ms : List Int), TabOk (expQ fd) T' → ms.Perm (W.map fun w => ((typedL size w).length : Int)) → ms.Pairwise (· ≤ ·) → Own hb h' ((a, LI ms) :: (T' ++ cs)) → F (.ref a) h') :
    Run w A (PySem.call (.ref 257) [.ref tx, .int size t1, .int fi t2]) h F := by
  refine RunCall.run (RunCall.defC (d := d + 5) (u := u + 97) D hA G O [("texts", .ref tx), ("size", .int size t1), ("filled", .int fi t2)] [("texts", .O tx), ("filled", .I fi)] [("size", some (.I size))] (fun fd e1 e2 e3 => ?_)
    ⟨⟨_, rfl, rfl⟩, ⟨_, rfl, _, rfl⟩, trivial⟩ ⟨⟨_, rfl, _, rfl⟩, trivial⟩ cKinds rfl (fun n y hy => ?_) (fun n y hy => ?_) (show (["size"] : List Str).Nodup by decide) ⟨rfl, rfl, rfl⟩ ?_)
  · cases fd; cases e1; cases e2; cases e3; rfl
  · rcases List.mem_cons.mp hy with rfl | hy
    · exact .inl rfl
    rcases List.mem_cons.mp hy with rfl | hy
    · exact .inr ⟨rfl, rfl⟩
    rw [List.mem_singleton.mp hy]; exact .inl rfl
  · rw [List.mem_singleton.mp hy]; rfl
  intro L env A' ca hA' hca hcode hqual
  have c1 : env.cells.lookup ("size" : Str) = some (ca "size") := hca _ (.head _)
  refine Ex.assignP (EvP.list (Q := fun p ds => ∃ a, p = .O a ∧ ds = (a, LP (([] : List Int).map .I)) :: (ca "size", CV (some (.I size))) :: (T ++ cs)) (EvsP.of Evs.nil ⟨by simp, fun a => ⟨a, rfl, rfl⟩⟩)) ?_
  rintro _ _ ⟨a, rfl, rfl⟩
  refine Ex.weak (l₁ := []) (fun _ => LP.ints) ?_
  refine Ex.ite (Ts.not (Ts.int (Ev.name rfl rfl))) (fun _ => ?_) (fun _ => Ex.go ?_)
  · -- told by Whitespace
    obtain ⟨fd175, d175⟩ := C.d175
    obtain ⟨fd189, d189⟩ := C.d189
    obtain ⟨fd55, d55⟩ := C.d55
    obtain ⟨fd64, d64⟩ := C.d64
    refine Ex.forList (ps := W.map fun w => .T (S (w ++ tail3))) (Ev.name rfl rfl) (fun i pl ds => ∃ ms : List Int, ms.Perm ((W.take i).map fun w => ((typedL size w).length : Int)) ∧ ms.Pairwise (· ≤ ·) ∧ ds = (a, LI ms) :: (ca "size", CV (some (.I size))) :: (T ++ cs) ∧ PicksQ pl [("row", .O a), ("texts", .O tx)]) ?_ ⟨[], by simp, .nil, rfl, rfl, rfl, trivial⟩ ?_ ?_
    · rintro i pl _ ⟨ms, _, _, rfl, _⟩; exact .tail _ (.tail _ (List.mem_append_right _ hx))
    · rintro i p it pl _ hi ⟨ms, hp, hs, rfl, hpl⟩
      rw [List.getElem?_map, Option.map_eq_some_iff] at hi
      obtain ⟨w', hi, rfl⟩ := hi
      obtain ⟨ww, wl⟩ := hw w' (List.mem_of_getElem? hi)
      refine Ex.names [("text", .T (S (w' ++ tail3))), ("row", .O a), ("texts", .O tx)] ⟨rfl, hpl.1, hpl.2.1, trivial⟩ ?_
      have hlen : ms.length ≤ 4 := by rw [hp.length_eq, List.length_map, List.length_take]; omega
      refine Ex.iteP (TsP.isNotNone (Q := fun ds => ∃ ms' : List Int, ms'.Perm (((typedL size w').length : Int) :: ms) ∧ ms'.Pairwise (· ≤ ·) ∧ ds = (it, LIt tx (i + 1)) :: (a, LI ms') :: (ca "size", CV (some (.I size))) :: (T ++ cs))
        (EvP.defP (R := fun ps ds => ps = [.O a, .I ((typedL size w').length : Nat)] ∧ ds = (it, LIt tx (i + 1)) :: (a, LI ms) :: (ca "size", CV (some (.I size))) :: (T ++ cs))
          (Q := fun p ds => p = .N ∧ ∃ ms' : List Int, ms'.Perm (((typedL size w').length : Int) :: ms) ∧ ms'.Pairwise (· ≤ ·) ∧ ds = (it, LIt tx (i + 1)) :: (a, LI ms') :: (ca "size", CV (some (.I size))) :: (T ++ cs)) d55.fn
          (EvsP.cons (P := fun p ds => p = .O a ∧ ds = (it, LIt tx (i + 1)) :: (a, LI ms) :: (ca "size", CV (some (.I size))) :: (T ++ cs)) (EvP.of (Ev.name rfl rfl) ⟨rfl, rfl⟩) ?_) (fun ps ds vs h j hv I G' kk => ?_)) (fun _ _ j => j)) (fun q => by cases q) (fun _ ds j => ?_)
      · rintro _ _ ⟨rfl, rfl⟩
        refine EvsP.cons (P := fun p ds => p = .I ((typedL size w').length : Nat) ∧ ds = (it, LIt tx (i + 1)) :: (a, LI ms) :: (ca "size", CV (some (.I size))) :: (T ++ cs)) ?_ (fun p ds j => EvsP.of Evs.nil ⟨by rw [j.1], j.2⟩)
        refine EvP.methP (K := K) (C := 220) (f := 189) (P := fun p ds => ∃ x dx nrm tc n sm, p = .O x ∧ ds = (dx, DN (WsNames (w' ++ tail3) nrm (wsRun (w' ++ tail3) ([], 0, 0)).2.2 n sm)) :: (x, IO 220 dx) :: (nrm, TP [.O tc, .I (wsRun (w' ++ tail3) ([], 0, 0)).2.1]) :: (tc, TP ((wsRun (w' ++ tail3) ([], 0, 0)).1.map .I)) :: (it, LIt tx (i + 1)) :: (a, LI ms) :: (ca "size", CV (some (.I size))) :: (T ++ cs))
          (R := fun ps ds => ∃ x dx nrm tc n sm, ps = [.O x, .I size] ∧ ds = (dx, DN (WsNames (w' ++ tail3) nrm (wsRun (w' ++ tail3) ([], 0, 0)).2.2 n sm)) :: (x, IO 220 dx) :: (nrm, TP [.O tc, .I (wsRun (w' ++ tail3) ([], 0, 0)).2.1]) :: (tc, TP ((wsRun (w' ++ tail3) ([], 0, 0)).1.map .I)) :: (it, LIt tx (i + 1)) :: (a, LI ms) :: (ca "size", CV (some (.I size))) :: (T ++ cs))
          C.X C.ws.cls C.ws.meth C.ws.methFn C.ws.methKeep
          (EvP.refP (K := K) (f := 220) (R := fun ps ds => ps = [.T (S (w' ++ tail3))] ∧ ds = (it, LIt tx (i + 1)) :: (a, LI ms) :: (ca "size", CV (some (.I size))) :: (T ++ cs)) C.X C.ws.cls.keep (EvsP.of (Evs.cons (Ev.name rfl rfl) Evs.nil) ⟨rfl, rfl⟩) (fun ps ds vs h j hv I G' kk => ?_)) ?_ (fun ps ds vs h j hv I G' kk => ?_) rfl
        · obtain ⟨rfl, rfl⟩ := j
          cases hv with | cons y hv => cases hv with | nil =>
          obtain ⟨t, rfl⟩ := y
          refine wsNew_ok (d := d) (u := u) C.X C.ws d175 (hA'.weaken (by omega) (by omega)) G I.2 (by simp [tail3]; omega) fun x dx nrm tc n sm h' O' => kk (.O x) _ _ _ ⟨x, dx, nrm, tc, n, sm, rfl, rfl⟩ rfl ⟨I.1, O'.perm ?_⟩
          exact (List.perm_middle (l₁ := [_, _, _, _])).trans (List.Perm.refl _)
        · rintro _ _ ⟨x, dx, nrm, tc, n, sm, rfl, rfl⟩
          exact ⟨x, dx, _, rfl, .tail _ (.head _), .head _, rfl, EvsP.of (Evs.cons (Ev.cell rfl c1 (.tail _ (.tail _ (.tail _ (.tail _ (.tail _ (.tail _ (.head _)))))))) Evs.nil) ⟨x, dx, nrm, tc, n, sm, rfl, rfl⟩⟩
        · obtain ⟨x, dx, nrm, tc, n, sm, rfl, rfl⟩ := j
          cases hv with | cons y hv => cases hv with | cons z hv => cases hv with | nil =>
          cases y
          obtain ⟨t, rfl⟩ := z
          have hcl : (wsRun (w' ++ tail3) ([], 0, 0)).1.length ≤ 200 := ws_len _ 0 (by simp [tail3]; omega)
          refine indent_ok (d := d) (u := u) C.X C.ws d189 (hA'.weaken (by omega) (by omega)) G I.2 (.tail _ (.head _)) (.tail _ (.tail _ (.head _))) (.tail _ (.tail _ (.tail _ (.head _)))) (.tail _ (.tail _ (.tail _ (.tail _ (.head _))))) h0 h1 hcl fun t h' O' => kk (.I ((typedL size w').length : Nat)) _ _ _ ⟨rfl, rfl⟩ ⟨t, by rw [indent_typed h0 w' [32, 9] ww]⟩ ⟨I.1, O'.sub (.cons_cons _ (.cons _ (.cons _ (.cons _ (.cons _ (List.Sublist.refl _))))))⟩
      · obtain ⟨rfl, rfl⟩ := j
        cases hv with | cons y hv => cases hv with | cons z hv => cases hv with | nil =>
        cases y
        obtain ⟨t, rfl⟩ := z
        exact insL_ok (d := d) (u := u) d55 d64 C.f47 C.f56 (hA'.weaken (by omega) (by omega)) G (I.at (l₁ := [_])) (by omega) hs fun ms' h' h5 h6 O' => kk _ _ _ _ ⟨rfl, ms', h5, h6, rfl⟩ rfl (I.back (l₁ := [_]) O')
      · obtain ⟨ms', h5, h6, rfl⟩ := j
        refine Ex.go (Turn.next ⟨ms', ?_, h6, rfl, rfl, rfl, trivial⟩ (pl' := [("row", .O a), ("texts", .O tx)]) ⟨rfl, rfl, trivial⟩)
        rw [List.take_add_one, hi, List.map_append]
        exact h5.trans ((hp.cons _).trans (List.perm_append_comm (l₁ := [((typedL size w').length : Int)])))
    · rintro pl _ ⟨ms, hp, hs, rfl, hpl⟩
      refine Ex.ret (Ev.name rfl hpl.1) fun v h hv I => ?_
      cases hv
      refine k a T h ms hT ?_ hs (I.2.tail.sub (.cons_cons _ (.cons _ (List.Sublist.refl _))))
      rwa [List.length_map, List.take_length] at hp
  · -- told by HtmlDiff
    obtain ⟨fd87, d87⟩ := C.d87
    obtain ⟨fd238, d238⟩ := C.d238
    obtain ⟨fd37, d37⟩ := C.d37
    obtain ⟨fd46, d46⟩ := C.d46
    obtain ⟨w0, w1, w2, w3, rfl⟩ : ∃ w0 w1 w2 w3, W = [w0, w1, w2, w3] := by
      match W, hW with
      | [w0, w1, w2, w3], _ => exact ⟨w0, w1, w2, w3, rfl⟩
    have okw : ∀ w ∈ [w0, w1, w2, w3], LineOk (w ++ tail3, true) ∧ LineOk (w ++ tail3, false) := fun w hm => by
      obtain ⟨a, b⟩ := hw w hm
      have : (w ++ tail3).length ≤ 100 := by simp [tail3]; omega
      exact ⟨⟨this, sign_text a⟩, ⟨this, sign_text a⟩⟩
    have ok0 := okw w0 (by simp)
    have ok1 := okw w1 (by simp)
    have ok2 := okw w2 (by simp)
    have ok3 := okw w3 (by simp)
    refine Ex.assignTup (es := _) (P := fun p ds => ∃ r la ta T', TabOk (expQ fd) T' ∧ p = .O r ∧ ds = (r, TP [.O la, .O ta]) :: (ta, LP [.T (S (typedL size (w3 ++ tail3))), .T (S (typedL size (w2 ++ tail3))), .T (S (typedL size (w1 ++ tail3))), .T (S (typedL size (w0 ++ tail3)))]) :: (la, LP [.T (S (typedL size (w0 ++ tail3))), .T (S (typedL size (w1 ++ tail3))), .T (S (typedL size (w2 ++ tail3))), .T (S (typedL size (w3 ++ tail3)))]) :: (a, LI []) :: (ca "size", CV (some (.I size))) :: (T' ++ cs))
      (EvP.methP (K := K) (C := 154) (f := 101) (P := fun p ds => ∃ x dx, p = .O x ∧ ds = (dx, DN (HdNames size)) :: (x, IO 154 dx) :: (a, LI []) :: (ca "size", CV (some (.I size))) :: (T ++ cs))
        (R := fun ps ds => ∃ x dx fl tl, ps = [.O x, .O fl, .O tl] ∧ ds = (tl, LP ([(w3 ++ tail3, false), (w2 ++ tail3, false), (w1 ++ tail3, false), (w0 ++ tail3, false)].map lineP)) :: (fl, LP ([(w0 ++ tail3, true), (w1 ++ tail3, true), (w2 ++ tail3, true), (w3 ++ tail3, true)].map lineP)) :: (dx, DN (HdNames size)) :: (x, IO 154 dx) :: (a, LI []) :: (ca "size", CV (some (.I size))) :: (T ++ cs))
        C.X C.hd.cls C.hd.meth C.hd.methFn C.hd.methKeep (EvP.kw1 (K := K) (f := 154) C.X C.hd.cls.keep (Ev.cell rfl c1 (.tail _ (.head _))) fun v h hv I G' kk => ?_) ?_ (fun ps ds vs h j hv I G' kk => ?_) rfl) ?_
    · obtain ⟨t, rfl⟩ := hv
      exact hdNew_ok (d := d) (u := u) C.X C.hd C.df d87 (hA'.weaken (by omega) (by omega)) G I.2 fun x dx h' O' => kk (.O x) _ _ _ ⟨x, dx, rfl, rfl⟩ rfl ⟨I.1, O'.perm (List.perm_middle (l₁ := [_, _]))⟩
    · rintro _ _ ⟨x, dx, rfl, rfl⟩
      refine ⟨x, dx, _, rfl, .tail _ (.head _), .head _, rfl, ?_⟩
      refine EvsP.cons (P := fun p ds => ∃ fl, p = .O fl ∧ ds = (fl, LP ([(w0 ++ tail3, true), (w1 ++ tail3, true), (w2 ++ tail3, true), (w3 ++ tail3, true)].map lineP)) :: (dx, DN (HdNames size)) :: (x, IO 154 dx) :: (a, LI []) :: (ca "size", CV (some (.I size))) :: (T ++ cs))
        (EvP.compMap (ca := ca) (ks' := [("text", .local)]) (Source.list (ps := [w0, w1, w2, w3].map fun w => .T (S (w ++ tail3))) (Ev.name rfl rfl) (.tail _ (.tail _ (.tail _ (.tail _ (List.mem_append_right _ hx))))) (fun _ => LP.wl)) ⟨rfl, rfl, ⟨rfl, rfl⟩, rfl, rfl⟩ ⟨trivial, trivial, trivial⟩
          (fun it D hD => ⟨_, hD _ (.tail _ (.tail _ (.tail _ (.tail _ (List.mem_append_right _ hx))))), fun _ => LP.wl⟩) (by simp) (fun i => .T (S (([w0, w1, w2, w3].getD i [] ++ tail3) ++ [10]))) (fun i C' acc it rs hi => ?_) fun acc => ⟨acc, rfl, rfl⟩) ?_
      · have hi' : i < 4 := hi
        have hv : ([w0, w1, w2, w3].map fun w => PV.T (S (w ++ tail3))).getD i .N = .T (S ([w0, w1, w2, w3].getD i [] ++ tail3)) := by
          match i, hi' with
          | 0, _ => rfl
          | 1, _ => rfl
          | 2, _ => rfl
          | 3, _ => rfl
        have hl : ([w0, w1, w2, w3].getD i []).length ≤ 90 := (hw _ (by rw [List.getD_eq_getElem?_getD, List.getElem?_eq_getElem (by simpa using hi')]; exact List.getElem_mem _)).2
        refine ⟨_, .name rfl, EvP.of (p := .T (S (([w0, w1, w2, w3].getD i [] ++ tail3) ++ [10]))) ?_ ⟨rfl, Less.refl⟩⟩
        rw [hv, ← S_append ([w0, w1, w2, w3].getD i [] ++ tail3) [10]]
        exact Ev.bin (Ev.name rfl rfl) (Ev.txt (i := S [10])) (Bin.addT (p := S ([w0, w1, w2, w3].getD i [] ++ tail3)) (q := S [10]) (by rw [S_len, S_len, List.length_append, show sizeLine = 16777216 from rfl]; simp only [tail3, List.length_cons, List.length_nil]; omega))
      · rintro _ _ ⟨fl, rfl, rfl⟩
        refine EvsP.cons (P := fun p ds => ∃ tl, p = .O tl ∧ ds = (tl, LP ([(w3 ++ tail3, false), (w2 ++ tail3, false), (w1 ++ tail3, false), (w0 ++ tail3, false)].map lineP)) :: (fl, LP ([(w0 ++ tail3, true), (w1 ++ tail3, true), (w2 ++ tail3, true), (w3 ++ tail3, true)].map lineP)) :: (dx, DN (HdNames size)) :: (x, IO 154 dx) :: (a, LI []) :: (ca "size", CV (some (.I size))) :: (T ++ cs))
          (EvP.sliceStep (i := -1) (ps := [.T (S (w0 ++ tail3)), .T (S (w1 ++ tail3)), .T (S (w2 ++ tail3)), .T (S (w3 ++ tail3))]) (Ev.name rfl rfl) (.tail _ (.tail _ (.tail _ (.tail _ (.tail _ (List.mem_append_right _ hx)))))) (by simp) (Ev.neg Ev.int) (by decide) fun b => ⟨b, rfl, ?_⟩) (fun p ds j => ?_)
        · rw [pick_rev]
          simp only [List.map_cons, List.map_nil, lineP, nls, List.append_nil]
        · obtain ⟨tl, rfl, rfl⟩ := j
          exact EvsP.of Evs.nil ⟨x, dx, fl, tl, rfl, rfl⟩
    · obtain ⟨x, dx, fl, tl, rfl, rfl⟩ := j
      cases hv with | cons y hv => cases hv with | cons z hv => cases hv with | cons q hv => cases hv with | nil =>
      cases y; cases z; cases q
      refine tnr_ok (d := d) (u := u) (T := T) (cs := (L, NP _) :: (tl, LP ([(w3 ++ tail3, false), (w2 ++ tail3, false), (w1 ++ tail3, false), (w0 ++ tail3, false)].map lineP)) :: (fl, LP ([(w0 ++ tail3, true), (w1 ++ tail3, true), (w2 ++ tail3, true), (w3 ++ tail3, true)].map lineP)) :: (dx, DN (HdNames size)) :: (x, IO 154 dx) :: (a, LI []) :: (ca "size", CV (some (.I size))) :: cs) C.X C.hd C.nest C.d101 (hA'.weaken (by omega) (by omega)) G (I.2.perm (perm_front [_, _, _, _, _, _, _] T cs)) hT
        (.tail _ (.tail _ (.tail _ (.tail _ (.head _))))) (.tail _ (.tail _ (.tail _ (.head _)))) (.tail _ (.tail _ (.head _))) (.tail _ (.head _)) h0 h1 (by simp) (by simp) (by simp [ok0.1, ok1.1, ok2.1, ok3.1]) (by simp [ok0.2, ok1.2, ok2.2, ok3.2])
        fun r la ta T' h' hT' O' => kk (.O r) _ _ _ ⟨r, la, ta, T', hT', rfl, rfl⟩ rfl ⟨I.1, ?_⟩
      have O2 := O'.perm (.cons _ (.cons _ (.cons _ (perm_front [(L, NP _), _, _, _, _, _, _] T' cs).symm)))
      refine (O2.sub (.cons_cons _ (.cons_cons _ (.cons_cons _ (.cons_cons _ (.cons _ (.cons _ (.cons _ (.cons _ (List.Sublist.refl _)))))))))).perm ?_
      exact (List.perm_middle (l₁ := [_, _, _]))
    rintro _ _ ⟨r, la, ta, T', hT', rfl, rfl⟩
    refine ⟨r, _, _, rfl, .head _, .cons rfl (.cons rfl .nil), Ex.sub (.cons _ (List.Sublist.refl _)) ?_⟩
    have lay : ∀ ls : List (List Nat), (∀ l ∈ ls, ∀ c ∈ l, SignOk c) → (PyData.list ((ls.map S).map .str)).canLay0 = true := fun ls hls => by
      unfold PyData.canLay0
      refine lay_strs fun s hs => ?_
      obtain ⟨l, hl, rfl⟩ := List.mem_map.mp hs
      unfold PyData.canLay0 PyData.strOk
      rw [← Array.all_toList, S_toList, List.all_eq_true]
      intro c hc
      rcases hls l hl c hc with rfl | rfl | rfl <;> decide
    have dep : ∀ ls : List (List Nat), (PyData.list ((ls.map S).map .str)).depth ≤ 8 := fun ls => by
      unfold PyData.depth
      rw [depth_flat .str (fun _ => rfl)]
      decide
    have sg : ∀ w ∈ [w0, w1, w2, w3], ∀ c ∈ typedL size (w ++ tail3), SignOk c := fun w hm => typed_signs _ (sign_text (hw w hm).1)
    refine Ex.iteP (c := false) (Q := fun ds => List.Sublist ((la, LP [.T (S (typedL size (w0 ++ tail3))), .T (S (typedL size (w1 ++ tail3))), .T (S (typedL size (w2 ++ tail3))), .T (S (typedL size (w3 ++ tail3)))]) :: (a, LI []) :: (ca "size", CV (some (.I size))) :: (T' ++ cs)) ds)
      (TsP.or2 (T₁ := fun ds => ∃ c, ds = (c, LP [.T (S (typedL size (w0 ++ tail3))), .T (S (typedL size (w1 ++ tail3))), .T (S (typedL size (w2 ++ tail3))), .T (S (typedL size (w3 ++ tail3)))]) :: (ta, LP [.T (S (typedL size (w3 ++ tail3))), .T (S (typedL size (w2 ++ tail3))), .T (S (typedL size (w1 ++ tail3))), .T (S (typedL size (w0 ++ tail3)))]) :: (la, LP [.T (S (typedL size (w0 ++ tail3))), .T (S (typedL size (w1 ++ tail3))), .T (S (typedL size (w2 ++ tail3))), .T (S (typedL size (w3 ++ tail3)))]) :: (a, LI []) :: (ca "size", CV (some (.I size))) :: (T' ++ cs))
        (TsP.neSame (d := d) (u := u) (P := fun p ds => p = .O la ∧ ds = (ta, LP [.T (S (typedL size (w3 ++ tail3))), .T (S (typedL size (w2 ++ tail3))), .T (S (typedL size (w1 ++ tail3))), .T (S (typedL size (w0 ++ tail3)))]) :: (la, LP [.T (S (typedL size (w0 ++ tail3))), .T (S (typedL size (w1 ++ tail3))), .T (S (typedL size (w2 ++ tail3))), .T (S (typedL size (w3 ++ tail3)))]) :: (a, LI []) :: (ca "size", CV (some (.I size))) :: (T' ++ cs)) (hA'.weaken (by omega) (by omega)) (EvP.of (Ev.name rfl rfl) ⟨rfl, rfl⟩) ?_) ?_) (fun q => by cases q) (fun _ ds j => Ex.go (Ex.sub j ?_))
    · rintro _ _ ⟨rfl, rfl⟩
      refine EvP.compMap (ca := ca) (ks' := [("text", .local), ("_law_typed", .globalImplicit), ("size", .cell)]) (Source.list (ps := [w0, w1, w2, w3].map fun w => .T (S (w ++ tail3))) (Ev.name rfl rfl) (.tail _ (.tail _ (.tail _ (.tail _ (List.mem_append_right _ hx))))) (fun _ => LP.wl)) ⟨rfl, rfl, ⟨rfl, rfl⟩, rfl, rfl⟩ ⟨trivial, trivial, trivial, c1, trivial⟩
        (fun it D hD => ⟨_, hD _ (.tail _ (.tail _ (.tail _ (.tail _ (List.mem_append_right _ hx))))), fun _ => LP.wl⟩) (by simp) (fun i => .T (S (typedL size ([w0, w1, w2, w3].getD i [] ++ tail3)))) (fun i C' acc it rs hi => ?_) fun acc => ⟨la, acc, .list (([w0, w1, w2, w3].map fun w => typedL size (w ++ tail3)).map S |>.map .str), rfl, rfl, lay _ ?_, dep _, fun h O => ⟨O.strs (.tail _ (.tail _ (.head _))), O.strs (.head _)⟩, acc, rfl⟩
      · have hi' : i < 4 := hi
        have hv : ([w0, w1, w2, w3].map fun w => PV.T (S (w ++ tail3))).getD i .N = .T (S ([w0, w1, w2, w3].getD i [] ++ tail3)) := by
          match i, hi' with
          | 0, _ => rfl
          | 1, _ => rfl
          | 2, _ => rfl
          | 3, _ => rfl
        have hl : ([w0, w1, w2, w3].getD i []).length ≤ 90 := (hw _ (by rw [List.getD_eq_getElem?_getD, List.getElem?_eq_getElem (by simpa using hi')]; exact List.getElem_mem _)).2
        refine ⟨_, .name rfl, ?_⟩
        rw [hv]
        refine EvP.of (Ev.def_ d238.fn (Evs.cons (Ev.name rfl rfl) (Evs.cons (Ev.cell rfl (show _ = some (ca "size") from rfl) (.tail _ (.tail _ (.tail _ (.tail _ (.tail _ (.tail _ (.head _)))))))) Evs.nil)) fun vs h hv I G' kk => ?_) ⟨rfl, Less.refl⟩
        cases hv with | cons y hv => cases hv with | cons z hv => cases hv with | nil =>
        obtain ⟨t, rfl⟩ := y
        obtain ⟨t', rfl⟩ := z
        exact typed_ok (d := d) (u := u) d238 (hA'.weaken (by omega) (by omega)) G I.2 h0 h1 (by simp only [tail3, List.length_append, List.length_cons, List.length_nil]; omega) fun t h' O' => kk _ _ ⟨t, rfl⟩ ⟨I.1, O'⟩
      · intro l hl
        obtain ⟨w, hm, rfl⟩ := List.mem_map.mp hl
        exact sg w hm
    · rintro _ ⟨c, rfl⟩
      refine TsP.neSame (d := d) (u := u) (P := fun p ds => p = .O ta ∧ ds = (c, LP [.T (S (typedL size (w0 ++ tail3))), .T (S (typedL size (w1 ++ tail3))), .T (S (typedL size (w2 ++ tail3))), .T (S (typedL size (w3 ++ tail3)))]) :: (ta, LP [.T (S (typedL size (w3 ++ tail3))), .T (S (typedL size (w2 ++ tail3))), .T (S (typedL size (w1 ++ tail3))), .T (S (typedL size (w0 ++ tail3)))]) :: (la, LP [.T (S (typedL size (w0 ++ tail3))), .T (S (typedL size (w1 ++ tail3))), .T (S (typedL size (w2 ++ tail3))), .T (S (typedL size (w3 ++ tail3)))]) :: (a, LI []) :: (ca "size", CV (some (.I size))) :: (T' ++ cs)) (hA'.weaken (by omega) (by omega)) (EvP.of (Ev.name rfl rfl) ⟨rfl, rfl⟩) ?_
      rintro _ _ ⟨rfl, rfl⟩
      refine EvP.sliceStep (i := -1) (ps := [.T (S (typedL size (w0 ++ tail3))), .T (S (typedL size (w1 ++ tail3))), .T (S (typedL size (w2 ++ tail3))), .T (S (typedL size (w3 ++ tail3)))]) (Ev.name rfl rfl) (.tail _ (.tail _ (.head _))) (by simp) (Ev.neg Ev.int) (by decide) ?_
      rw [pick_rev]
      refine fun b => ⟨ta, b, .list (([w3, w2, w1, w0].map fun w => typedL size (w ++ tail3)).map S |>.map .str), rfl, rfl, lay _ ?_, dep _, fun h O => ⟨O.strs (.tail _ (.tail _ (.head _))), O.strs (.head _)⟩, ?_⟩
      · intro l hl
        obtain ⟨w, hm, rfl⟩ := List.mem_map.mp hl
        exact sg w (by simp at hm ⊢; rcases hm with h | h | h | h <;> simp [h])
      · exact .cons _ (.cons _ (.cons _ (List.Sublist.refl _)))
    · refine Ex.forList (ps := [w0, w1, w2, w3].map fun w => .T (S (typedL size (w ++ tail3)))) (Ev.name rfl rfl) (fun i pl ds => ∃ ms : List Int, ms.Perm (([w0, w1, w2, w3].take i).map fun w => ((typedL size w).length : Int)) ∧ ms.Pairwise (· ≤ ·) ∧ ds = (la, LP [.T (S (typedL size (w0 ++ tail3))), .T (S (typedL size (w1 ++ tail3))), .T (S (typedL size (w2 ++ tail3))), .T (S (typedL size (w3 ++ tail3)))]) :: (a, LI ms) :: (ca "size", CV (some (.I size))) :: (T' ++ cs) ∧ PicksQ pl [("row", .O a), ("lines", .O la)]) ?_ ⟨[], by simp, .nil, rfl, rfl, rfl, trivial⟩ ?_ ?_
      · rintro i pl _ ⟨ms, _, _, rfl, _⟩; exact .head _
      · rintro i p it pl _ hi ⟨ms, hp, hs, rfl, hpl⟩
        rw [List.getElem?_map, Option.map_eq_some_iff] at hi
        obtain ⟨w', hi, rfl⟩ := hi
        obtain ⟨ww, wl⟩ := hw w' (List.mem_of_getElem? hi)
        obtain ⟨post, e1, e2⟩ := typed_x (size := size) w' [32, 9] ww
        rw [show w' ++ tail3 = w' ++ 120 :: [32, 9] from rfl, e1]
        refine Ex.names [("line", .T (S (typedL size w' ++ 120 :: post))), ("row", .O a), ("lines", .O la)] ⟨rfl, hpl.1, hpl.2.1, trivial⟩ ?_
        have hlen : ms.length ≤ 4 := by rw [hp.length_eq, List.length_map, List.length_take]; simp; omega
        refine Ex.exprP (EvP.defP (R := fun ps ds => ps = [.O a, .I ((typedL size w').length : Nat)] ∧ ds = (it, LIt la (i + 1)) :: (la, LP [.T (S (typedL size (w0 ++ tail3))), .T (S (typedL size (w1 ++ tail3))), .T (S (typedL size (w2 ++ tail3))), .T (S (typedL size (w3 ++ tail3)))]) :: (a, LI ms) :: (ca "size", CV (some (.I size))) :: (T' ++ cs))
          (Q := fun p ds => p = .N ∧ ∃ ms' : List Int, ms'.Perm (((typedL size w').length : Int) :: ms) ∧ ms'.Pairwise (· ≤ ·) ∧ ds = (it, LIt la (i + 1)) :: (la, LP [.T (S (typedL size (w0 ++ tail3))), .T (S (typedL size (w1 ++ tail3))), .T (S (typedL size (w2 ++ tail3))), .T (S (typedL size (w3 ++ tail3)))]) :: (a, LI ms') :: (ca "size", CV (some (.I size))) :: (T' ++ cs)) d37.fn
          (EvsP.of (Evs.cons (Ev.name rfl rfl) (Evs.cons (Ev.index (Ev.name rfl rfl) e2) Evs.nil)) ⟨rfl, rfl⟩) (fun ps ds vs h j hv I G' kk => ?_)) (fun p cs' j => j.1) (fun ds j => ?_)
        · obtain ⟨rfl, rfl⟩ := j
          cases hv with | cons y hv => cases hv with | cons z hv => cases hv with | nil =>
          cases y
          obtain ⟨t, rfl⟩ := z
          exact insR_ok (d := d) (u := u) d37 d46 C.f29 C.f38 (hA'.weaken (by omega) (by omega)) G (I.at (l₁ := [_, _])) (by omega) hs fun ms' h' h5 h6 O' => kk _ _ _ _ ⟨rfl, ms', h5, h6, rfl⟩ rfl (I.back (l₁ := [_, _]) O')
        · obtain ⟨_, ms', h5, h6, rfl⟩ := j
          refine Turn.next ⟨ms', ?_, h6, rfl, rfl, rfl, trivial⟩ (pl' := [("row", .O a), ("lines", .O la)]) ⟨rfl, rfl, trivial⟩
          rw [List.take_add_one, hi, List.map_append]
          exact h5.trans ((hp.cons _).trans (List.perm_append_comm (l₁ := [((typedL size w').length : Int)])))
      · rintro pl _ ⟨ms, hp, hs, rfl, hpl⟩
        refine Ex.ret (Ev.name rfl hpl.1) fun v h hv I => ?_
        cases hv
        exact k a T' h ms hT' hp hs (I.2.tail.sub (.cons _ (.cons_cons _ (.cons _ (List.Sublist.refl _)))))
end

/-! T15plain -/
/-! ## the least of the five counts -/
/-- a look, but for what stands in front -/
def bareLook (turn s0 : Nat) (w : Nat) (x : Lead) : Int := if w = 0 then hueL turn x.1 x.2 else ((s0 + w : Nat) : Int) * x.1 + x.2
def shares (turn s0 : Nat) (x y : Lead) : Nat := ((List.range 5).map fun w => if bareLook turn s0 w x = bareLook turn s0 w y then 1 else 0).sum
def allShare : Bool := (List.range 3).all fun t => (List.range 3).all fun s => (List.range 4).all fun a => (List.range 5).all fun b => (List.range 4).all fun a' => (List.range 5).all fun b' => (a == a' && b == b') || decide (shares t s (a, b) (a', b') ≤ 1)
set_option maxRecDepth 1000000 in
theorem allShare_ok : allShare = true := by decide +kernel
theorem share_le {t s : Nat} {x y : Lead} (h1 : t < 3) (h2 : s < 3) (hx : x.1 < 4 ∧ x.2 < 5) (hy : y.1 < 4 ∧ y.2 < 5) (hne : x ≠ y) : shares t s x y ≤ 1 := by
  have h := allShare_ok
  unfold allShare at h
  have h := List.all_eq_true.mp h t (List.mem_range.mpr h1)
  have h := List.all_eq_true.mp h s (List.mem_range.mpr h2)
  have h := List.all_eq_true.mp h x.1 (List.mem_range.mpr hx.1)
  have h := List.all_eq_true.mp h x.2 (List.mem_range.mpr hx.2)
  have h := List.all_eq_true.mp h y.1 (List.mem_range.mpr hy.1)
  have h := List.all_eq_true.mp h y.2 (List.mem_range.mpr hy.2)
  rcases Bool.or_eq_true_iff.mp h with h | h
  · rw [Bool.and_eq_true] at h
    exact absurd (Prod.ext (by simpa using h.1) (by simpa using h.2)) hne
  · simpa using h
def cntW (turn s0 : Nat) (ls : List Lead) (y : Lead) (w : Nat) : Nat := ls.countP fun x => decide (bareLook turn s0 w x = bareLook turn s0 w y)
theorem cnt_ge (turn s0 : Nat) (ls : List Lead) (y : Lead) (w : Nat) : ls.count y ≤ cntW turn s0 ls y w := by
  unfold cntW List.count
  refine List.countP_mono_left fun x _ h => ?_
  have : x = y := by simpa using h
  rw [this]; simp
theorem cnt_sum {turn s0 : Nat} (h1 : turn < 3) (h2 : s0 < 3) {y : Lead} (hy : y.1 < 4 ∧ y.2 < 5) : ∀ ls : List Lead, leadsOk ls →
    cntW turn s0 ls y 0 + cntW turn s0 ls y 1 + cntW turn s0 ls y 2 + cntW turn s0 ls y 3 + cntW turn s0 ls y 4 ≤ 5 * ls.count y + (ls.length - ls.count y) := by
  intro ls
  induction ls with
  | nil => intro _; simp [cntW]
  | cons x r ih =>
    intro hl
    have ih := ih fun z hz => hl z (.tail _ hz)
    have hcl : r.count y ≤ r.length := List.count_le_length
    have e : ∀ w, cntW turn s0 (x :: r) y w = cntW turn s0 r y w + (if bareLook turn s0 w x = bareLook turn s0 w y then 1 else 0) := fun w => by
      unfold cntW
      rw [List.countP_cons]
      by_cases q : bareLook turn s0 w x = bareLook turn s0 w y <;> simp [q]
    rw [e, e, e, e, e, List.length_cons]
    by_cases hxy : x = y
    · subst hxy
      rw [List.count_cons_self]
      simp only [if_true]
      omega
    · have hs := share_le h1 h2 (hl x (.head _)) hy hxy
      unfold shares at hs
      simp only [show List.range 5 = [0, 1, 2, 3, 4] from rfl, List.map_cons, List.map_nil, List.sum_cons, List.sum_nil] at hs
      rw [List.count_cons_of_ne (fun h => hxy h)]
      omega
theorem least_is {turn s0 : Nat} (h1 : turn < 3) (h2 : s0 < 3) {y : Lead} (hy : y.1 < 4 ∧ y.2 < 5) {ls : List Lead} (hl : leadsOk ls) (h4 : ls.length = 4) {rs : List (List Int)} {looks : List Int} (hc : ∀ w, w < 5 → (rs.getD w []).count (looks.getD w 0) = cntW turn s0 ls y w) :
    leastAt rs looks 5 = ls.count y := by
  have s := cnt_sum h1 h2 hy ls hl
  have g := cnt_ge turn s0 ls y
  have g0 := g 0; have g1 := g 1; have g2 := g 2; have g3 := g 3; have g4 := g 4
  have hle : ls.count y ≤ 4 := h4 ▸ List.count_le_length
  unfold leastAt leastAt leastAt leastAt leastAt leastAt
  rw [hc 0 (by omega), hc 1 (by omega), hc 2 (by omega), hc 3 (by omega), hc 4 (by omega)]
  omega

/-! F20 -/
theorem cellsFrom_filter : ∀ (names : List (Str × NameKind)) (n : Nat) (acc : List (Str × Addr)), cellsFrom n names acc = cellsFrom n (names.filter fun y => y.2 == .cell) acc
  | [], _, _ => rfl
  | (y, k) :: r, n, acc => by
    by_cases h : (k == NameKind.cell) = true
    · rw [List.filter_cons_of_pos (by exact h)]
      unfold cellsFrom
      rw [if_pos h, if_pos h, cellsFrom_filter r]
    · rw [List.filter_cons_of_neg (by exact h)]
      conv => lhs; unfold cellsFrom
      rw [if_neg h, cellsFrom_filter r]
theorem pushCells_filter : ∀ (names : List (Str × NameKind)) (h : Heap), pushCells h names = pushCells h (names.filter fun y => y.2 == .cell)
  | [], _ => rfl
  | (y, k) :: r, hh => by
    by_cases h : (k == NameKind.cell) = true
    · rw [List.filter_cons_of_pos (by exact h)]
      unfold pushCells
      rw [if_pos h, if_pos h, pushCells_filter r]
    · rw [List.filter_cons_of_neg (by exact h)]
      conv => lhs; unfold pushCells
      rw [if_neg h, pushCells_filter r]
theorem newEnv_cell1 {M : Model} {A : Around} {E : Value → Shared → Prop} {s : Shared} {scope : Scope} {globals : Addr} {cl : List (Str × Addr)} {qual : Str} {outer : Env} {x : Str} {Q : Env → Shared → Prop} (hone : (scope.names.filter fun y => y.2 == .cell) = [(x, .cell)])
    (h : Q { scope, locals := s.heap.objs.size, globals, cells := (x, s.heap.objs.size + 1) :: cl, qual, func := none, code := outer.code, frame := outer.frame, builtins := outer.builtins } { s with heap := (s.heap.push { cls := .type "dict", data := .dict #[] }).push { cls := .type "cell", data := .cell none } }) :
    wpAny M A (newFunctionEnv scope globals cl [] qual none .none (some outer)) Q E s := by
  simp only [newFunctionEnv, Option.isSome_some, if_true]
  refine wpAny_bind (wpAny_alloc ?_)
  refine wpAny_bind (wpAny_layCells _ (fun name kind cells => by cases hkc : kind == NameKind.cell <;> simp) _ _ _ _ ?_)
  rw [cellsFrom_filter, pushCells_filter, hone]
  rw [List.forIn_nil]
  refine wpAny_bind (wpAny_pure (wpAny_pure ?_))
  have e1 : cellsFrom ({ s with heap := s.heap.push { cls := .type "dict", data := .dict #[] } } : Shared).heap.objs.size [(x, NameKind.cell)] cl = (x, s.heap.objs.size + 1) :: cl := by
    show (x, (s.heap.push { cls := .type "dict", data := .dict #[] }).objs.size) :: cl = _
    rw [Heap.size_push]
  rw [e1]
  exact h

section
variable {B : Base} {ks ks' : Kinds} {pl : Names} {cs : List Cell} {elt iter : Expr} {scope : Scope} {pos xp : Pos} {Q : PV → List Cell → Prop} {n : Nat} {val : Nat → PV} {J : Nat → List PV → List Cell → Prop} {ca : Str → Addr} {need : Addr → List Cell → Prop} {P : Nat → Obj → Prop} {x : Str}
/-- a cell, of whatever holds -/
def CVany (o : Obj) : Prop := ∃ v, o.data = .cell v
/-- as CompTurn, the name of the turn's item being a cell -/
def CompTurnC (B : Base) (ks' : Kinds) (pl : Names) (scope : Scope) (ca : Str → Addr) (x : Str) (elt : Expr) (n : Nat) (val : Nat → PV) (P : Nat → Obj → Prop) (J : Nat → List PV → List Cell → Prop) : Prop :=
  ∀ i rs ds C acc it xc, i < n → J i rs ds → EvP ⟨B.w, B.A, B.hb, compEnvC scope ((x, xc) :: closOf scope.names ca) C B.env, C⟩ ks' [] ((xc, CV (some (val i))) :: (acc, LP rs) :: (it, P (i + 1)) :: (B.L, NP pl) :: ds) elt
    (fun q D => ∃ ds', Less ((xc, CV (some (val i))) :: (acc, LP rs) :: (it, P (i + 1)) :: (B.L, NP pl) :: ds') D ∧ J (i + 1) (rs ++ [q]) ds')
theorem comp_blockC {s₂ : Shared} {E : Value → Shared → Prop} {it : Addr} {RR : Value → Addr → Result → Shared → Prop} (I : Is B ks pl ((it, P 0) :: cs) s₂.heap) (W : Walk B.hb it (need it) P n val)
    (hneed : ∀ i rs ds, J i rs ds → ∀ D, (∀ c ∈ ds, c ∈ D) → need it D) (hz : n ≤ 900) (hJ : ∀ i rs ds, J i rs ds → rs.length ≤ i)
    (hk : compKinds ks ks' scope.names = true) (hf : scope.kind = .function) (hp : scope.isGenerator = false ∧ scope.isCoroutine = false) (hone : (scope.names.filter fun y => y.2 == .cell) = [(x, .cell)]) (hxk : ks'.lookup x = some .cell)
    (h0 : J 0 [] cs) (turn : CompTurnC B ks' pl scope ca x elt n val P J)
    (hRR : ∀ acc C rs ds m s', J n rs ds → Same s₂ s' → s'.heap.Ns C m → Own B.hb s'.heap ((C, fun _ => True) :: (acc, LP rs) :: (B.L, NP pl) :: ds) → RR (.ref acc) C (.ok .next) s') :
    wpAny (model PG B.w) B.A (newList []) (fun acc s₃ => wpAny (model PG B.w) B.A (newFunctionEnv scope B.env.globals (closOf scope.names ca) [] B.env.qual none .none (some B.env)) (fun cenv s₄ =>
      codeAny (model PG B.w) B.A (.compStart (.ListComp elt [⟨.Name x xp, iter, [], 0⟩] scope pos) 0 (.ref it) acc { cenv with scope := relabel scope B.env }) (RR acc cenv.locals) s₄) E s₃) E s₂ := by
  refine wpAny_newObj_type (newEnv_cell1 hone ?_)
  dsimp only
  have O2 := I.2.push (P := LP []) { cls := .type "list", dict := none, data := .seq ([] : List Value).toArray } ⟨[], ⟨_, rfl⟩, .nil⟩
  generalize hH2 : s₂.heap.push { cls := .type "list", dict := none, data := .seq ([] : List Value).toArray } = H2 at O2 ⊢
  generalize hacc : s₂.heap.objs.size = acc at O2 ⊢
  have O3 := O2.push (P := NP []) { cls := .type "dict", data := .dict #[] } ⟨#[], _, rfl, fun e he => absurd he (by simp), fun x p q => nomatch q⟩
  have O4 := O3.push (P := CVany) { cls := .type "cell", data := .cell none } ⟨none, rfl⟩
  rw [Heap.size_push] at O4
  generalize hh₁ : (H2.push { cls := .type "dict", data := .dict #[] }).push { cls := .type "cell", data := .cell none } = h₁ at O4 ⊢
  generalize hC : H2.objs.size = C at O4 ⊢
  generalize hxc : C + 1 = xc at O4 ⊢
  have EI : EnvIs (compEnvC scope ((x, xc) :: closOf scope.names ca) C B.env) C ks' := comp_env I.1.1 hk hf hp
  have hcx : (compEnvC scope ((x, xc) :: closOf scope.names ca) C B.env).cells.lookup x = some xc := List.lookup_cons_self
  have loop : ∀ s₃ : Shared, Same s₂ s₃ → s₃.heap = h₁ → codeAny (model PG B.w) B.A (.compLoop (.ListComp elt [⟨.Name x xp, iter, [], 0⟩] scope pos) 0 (.ref it) (.ref acc) (compEnvC scope ((x, xc) :: closOf scope.names ca) C B.env)) (RR (.ref acc) C) s₃ := by
    intro s₃ S hs₃
    have L := Run.compLoop (w := B.w) (A := B.A) (env := compEnvC scope ((x, xc) :: closOf scope.names ca) C B.env) (elt := elt) (target := .Name x xp) (iter := iter) (scope := scope) (pos := pos) (it := .ref it) (acc := .ref acc)
      (F := fun h' => ∃ rs ds, J n rs ds ∧ Own B.hb h' ((C, NP []) :: (xc, CVany) :: (acc, LP rs) :: (B.L, NP pl) :: ds)) n
      (fun i h' => ∃ rs ds, J i rs ds ∧ Own B.hb h' ((C, NP []) :: (xc, CVany) :: (acc, LP rs) :: (it, P i) :: (B.L, NP pl) :: ds)) (fun i h' hi j => ?_) (h := h₁) ⟨[], cs, h0, O4.perm (.trans (List.Perm.swap ..) (.cons _ (.cons _ (.cons _ (List.Perm.swap ..)))))⟩ s₃ hs₃
    · refine codeAny_mono L fun r s' q => ?_
      cases r with
      | error e => exact q.elim
      | ok f => cases f with
        | next =>
          obtain ⟨S', rs, ds, j, O⟩ := q
          obtain ⟨m, hm, _⟩ := np_of (O.get (.head _))
          exact hRR acc C rs ds m s' j (S.trans S') hm ((O.weak fun _ _ => trivial).sub (.cons_cons _ (.cons _ (List.Sublist.refl _))))
        | _ => exact q.elim
    · obtain ⟨rs, ds, j, O⟩ := j
      have Oi : Own B.hb h' ((it, P i) :: (C, NP []) :: (xc, CVany) :: (acc, LP rs) :: (B.L, NP pl) :: ds) := O.perm (List.perm_middle (l₁ := [(C, NP []), (xc, CVany), (acc, LP rs)]))
      refine W.next B.w B.A i h' _ I.1.2.2 hi Oi (hneed i rs ds j _ fun c hc => .tail _ (.tail _ (.tail _ (.tail _ hc)))) _ (fun v h₂ hlt hv O₂ => ?_) (fun h₂ hn O₂ => ⟨rs, ds, hn ▸ j, O₂⟩)
      refine ⟨hlt, ?_⟩
      have he := turn i rs ds C acc it xc hlt j
      have I' : Is ⟨B.w, B.A, B.hb, compEnvC scope ((x, xc) :: closOf scope.names ca) C B.env, C⟩ ks' [] ((xc, CVany) :: (acc, LP rs) :: (it, P (i + 1)) :: (B.L, NP pl) :: ds) h₂ := ⟨⟨EI, I.1.2.1, I.1.2.2⟩, O₂.perm (List.perm_middle (l₁ := [(C, NP []), (xc, CVany), (acc, LP rs)])).symm⟩
      have fin : ∀ h₃, Is ⟨B.w, B.A, B.hb, compEnvC scope ((x, xc) :: closOf scope.names ca) C B.env, C⟩ ks' [] ((xc, CV (some (val i))) :: (acc, LP rs) :: (it, P (i + 1)) :: (B.L, NP pl) :: ds) h₃ → Run B.w B.A (eval elt (compEnvC scope ((x, xc) :: closOf scope.names ca) C B.env)) h₃ (fun y h₄ => Run B.w B.A (PySem.call (.builtin "list.append") [.ref acc, y]) h₄ (fun _ h₅ => ∃ rs ds, J (i + 1) rs ds ∧ Own B.hb h₅ ((C, NP []) :: (xc, CVany) :: (acc, LP rs) :: (it, P (i + 1)) :: (B.L, NP pl) :: ds))) := fun h₃ I₃ =>
        he h₃ I₃ _ fun q y h₄ D j' hy I₄ => by
          obtain ⟨ds', hless, j'⟩ := j'
          have O₄ := (I₄.less hless).2.perm (List.perm_middle (l₁ := [(C, NP []), (xc, CV (some (val i)))]))
          obtain ⟨ob, e1, ws, lv, iv⟩ := O₄.get (.head _)
          have hw := iv.len
          have hr := hJ i rs ds j
          refine Run.append (O₄.fix e1 (P' := LV ws) lv) (by omega) fun h₅ O₅ => ⟨rs ++ [q], ds', j', ?_⟩
          have O₆ := (O₅.weak (P' := LP (rs ++ [q])) fun o z => ⟨_, z, iv.app (.cons hy .nil)⟩).perm (List.perm_middle (l₁ := [(C, NP []), (xc, CV (some (val i)))])).symm
          exact (O₆.swap.weak (P' := CVany) fun o z => let ⟨v, e, _⟩ := z; ⟨_, e⟩).swap
      refine Run.noTuple (Run.assName fun s hs => ?_)
      subst hs
      obtain ⟨o, eo, v₀, hd⟩ := I'.2.get (.tail _ (.head _))
      refine wpAny_storeName_cell EI.fn (EI.kinds _ _ hxk) hcx ⟨o, eo, hd⟩ fun h₃ hc' hs' => ⟨⟨rfl, rfl, rfl⟩, fin h₃ ?_⟩
      exact I'.back (l₁ := []) ((I'.at (l₁ := [])).change hs' (let ⟨o, e, d⟩ := hc'; ⟨o, e, v, d, hv⟩))
  refine codeAny_compStart_list (loop _ ⟨rfl, rfl, rfl⟩ rfl) ?_
  refine wpAny_mono (W.self B.w B.A h₁ _ (O4.perm (List.perm_middle (l₁ := [_, _, _, _]))) (fun v h' => v = .ref it ∧ h' = h₁) ⟨rfl, rfl⟩ _ rfl) (fun v s' q => ?_) fun _ _ e => e.elim
  obtain ⟨S, rfl, hh⟩ := q
  exact loop s' ⟨S.1, S.2, S.3⟩ hh
/-- [elt for x in ..], x being looked at by a comprehension within -/
theorem EvP.compC {P : Nat → Obj → Prop} (src : Source B ks pl cs iter P need n val) (hk : compKinds ks ks' scope.names = true) (hf : scope.kind = .function) (hp : scope.isGenerator = false ∧ scope.isCoroutine = false) (hone : (scope.names.filter fun y => y.2 == .cell) = [(x, .cell)]) (hxk : ks'.lookup x = some .cell)
    (hnm : (scope.names.all fun y => y.2 != .local || scope.names.lookup y.1 == some .local) = true) (hfree : freeOk scope.names B.env ca scope.names)
    (J : Nat → List PV → List Cell → Prop) (hneed : ∀ it i rs ds, J i rs ds → ∀ D, (∀ c ∈ ds, c ∈ D) → need it D) (hz : n ≤ 900) (hJ : ∀ i rs ds, J i rs ds → rs.length ≤ i) (h0 : J 0 [] cs) (turn : CompTurnC B ks' pl scope ca x elt n val P J)
    (k : ∀ acc rs ds, J n rs ds → Q (.O acc) ((acc, LP rs) :: ds)) (hs : ∀ x, foldedSetIterable iter B.env x = Pure.pure x := by intro _; rfl) : EvP B ks pl cs (.ListComp elt [⟨.Name x xp, iter, [], 0⟩] scope pos) Q := fun h I G kk s hh => by
  rw [eval_ListComp]
  refine wpAny_comprehension_free (use := none) rfl hs (closure_of ca hfree.get) hf (fun y hy e => by
    have := List.all_eq_true.mp hnm y hy
    rw [e] at this
    simpa using this) (wpAny_mono (src.2 h I (fun v h' => ∃ it, v = .ref it ∧ Is B ks pl ((it, P 0) :: cs) h') (fun it h' I' => ⟨it, rfl, I'⟩) s hh) (fun xv s₁ q₁ => wpAny_mono (q₁.2.on q₁.1) (fun itv s₂ q₂ => ?_) fun _ _ e => e) fun _ _ e => e)
  obtain ⟨S₂, it, rfl, I₂⟩ := q₂
  refine comp_blockC (need := need) (RR := fun acc C => compPost (model PG B.w) B.A (fun _ _ => False) none (fun v s' => Same s s' ∧ G v s'.heap) acc C) I₂ (src.1 it) (hneed it) hz hJ hk hf hp hone hxk h0 turn ?_
  intro acc C rs ds m s' j S' hn O
  exact ⟨m, hn, fun h' hs' => ⟨⟨(S₂.trans S').1, (S₂.trans S').2, (S₂.trans S').3⟩, kk _ _ _ _ (k acc rs ds j) rfl ⟨I.1, (O.extTail hs'.extBut).swap⟩⟩⟩
/-- sorted(e), of a list of ints -/
theorem EvP.sortedE {e : Expr} {fp : Pos} {R : PV → List Cell → Prop} (he : EvP B ks pl cs e R) (hr : ∀ p ds, R p ds → ∃ a ns, p = .O a ∧ (a, LI ns) ∈ ds ∧ ns.length < 64 ∧ ∀ b ms, ms.Perm ns → ms.Pairwise (· ≤ ·) → Q (.O b) ((b, LI ms) :: ds)) (hk : ks.lookup ("sorted" : Str) = some .globalImplicit := by rfl)
    (hq : starEach [e] B.env = (false, eval e B.env) :: starEach [] B.env := by rfl)
    (hn : eval (.Call (.Name "sorted" fp) [e] [] pos) B.env = (do callWith pos (← eval (.Name "sorted" fp) B.env) [] (backTo pos (starEach [e] B.env)) (backToKw pos (keywordEach [] B.env))) := by rfl) : EvP B ks pl cs (.Call (.Name "sorted" fp) [e] [] pos) Q :=
  EvP.blt (R := fun ps ds => ∃ p, ps = [p] ∧ R p ds) (EvsP.cons he (fun p ds j => EvsP.of Evs.nil ⟨p, rfl, j⟩) hq) (fun ps ds vs h j hv I G kk => by
    obtain ⟨p, rfl, j⟩ := j
    obtain ⟨a, ns, rfl, hm, hz, q⟩ := hr p ds j
    cases hv with | cons x hv => cases hv with | nil =>
    cases x
    intro s hs
    subst hs
    obtain ⟨ob, e1, vs, lv, iv⟩ := I.2.get (.tail _ hm)
    have hl := ints_len iv
    refine sorted_ints (lv_at ⟨ob, e1, lv⟩) iv (by omega) fun out ns' hi hp hs => ⟨⟨rfl, rfl, rfl⟩, ?_⟩
    obtain ⟨ep, eo⟩ := sortedAll_at s.heap vs out
    have hnone : s.heap.get? (s.heap.objs.size + 1) = none := Heap.get?_none_of_le (Nat.le_succ _)
    exact kk _ _ _ _ (q _ ns' hp hs) rfl (I.add (I.2.add (fun b o e => sortedAll_old e) hnone ⟨_, eo, out.toList, ⟨ep, rfl⟩, hi⟩))) hk rfl (by decide) hq rfl hn
end

/-! F21 -/
/-- tuples of two ints, by their lead -/
abbrev leadT (x : Lead) : Obj → Prop := TP [.I x.1, .I x.2]
/-- the tuples of these leads are at hand -/
def TupsAt (ts : List Addr) (ls : List Lead) (cs : List Cell) : Prop := ts.length = ls.length ∧ ∀ (i : Nat) (t : Addr) (x : Lead), ts[i]? = some t → ls[i]? = some x → (t, leadT x) ∈ cs
theorem TupsAt.mono {ts : List Addr} {ls : List Lead} {cs ds : List Cell} (x : TupsAt ts ls cs) (h : ∀ c ∈ cs, c ∈ ds) : TupsAt ts ls ds := ⟨x.1, fun i t y a b => h _ (x.2 i t y a b)⟩
theorem TupsAt.snoc {ts : List Addr} {ls : List Lead} {cs : List Cell} {t : Addr} {y : Lead} (x : TupsAt ts ls cs) (h : (t, leadT y) ∈ cs) : TupsAt (ts ++ [t]) (ls ++ [y]) cs := by
  refine ⟨by simp [x.1], fun i t' y' a b => ?_⟩
  by_cases hi : i < ts.length
  · rw [List.getElem?_append_left hi] at a
    rw [List.getElem?_append_left (by rw [← x.1]; exact hi)] at b
    exact x.2 i t' y' a b
  · have h1 := (List.getElem?_eq_some_iff.mp a).1
    rw [List.length_append, List.length_singleton] at h1
    have hi' : i = ts.length := by omega
    subst hi'
    rw [List.getElem?_append_right (Nat.le_refl _), Nat.sub_self] at a
    rw [x.1, List.getElem?_append_right (Nat.le_refl _), Nat.sub_self] at b
    cases a; cases b; exact h
def isLead (h : Heap) (y : Lead) (v : Value) : Bool := match v with
  | .ref a => (match h.get? a with
    | some o => (match o.data with
      | .seq vs _ => (match vs.toList with
        | [.int i _, .int j _] => i == (y.1 : Int) && j == (y.2 : Int)
        | _ => false)
      | _ => false)
    | none => false)
  | _ => false
theorem isLead_of {h : Heap} {a : Addr} {x y : Lead} (hx : ∃ o, h.get? a = some o ∧ leadT x o) : isLead h y (.ref a) = decide (x = y) := by
  obtain ⟨o, e, vs, ⟨n, rfl⟩, iv⟩ := hx
  cases iv with | cons p iv => cases iv with | cons q iv => cases iv with | nil =>
  obtain ⟨t, rfl⟩ := p
  obtain ⟨u, rfl⟩ := q
  unfold isLead
  simp only [e]
  by_cases hxy : x = y
  · subst hxy; simp
  · rw [decide_eq_false hxy]
    by_cases h1 : x.1 = y.1
    · have h2 : ¬ x.2 = y.2 := fun h2 => hxy (Prod.ext h1 h2)
      have : ¬ (x.2 : Int) = y.2 := by omega
      simp [this]
    · have : ¬ (x.1 : Int) = y.1 := by omega
      simp [this]
theorem count_leads {h : Heap} {y : Lead} : ∀ {ts : List Addr} {ls : List Lead} {vs : List Value}, Ares (ts.map .O) vs → ts.length = ls.length → (∀ (i : Nat) (t : Addr) (x : Lead), ts[i]? = some t → ls[i]? = some x → ∃ o, h.get? t = some o ∧ leadT x o) → vs.countP (isLead h y) = ls.count y
  | [], [], _, hv, _, _ => by cases hv; rfl
  | [], _ :: _, _, _, hl, _ => by cases hl
  | _ :: _, [], _, _, hl, _ => by cases hl
  | t :: ts, x :: ls, _, hv, hl, ht => by
    cases hv with | cons a b =>
    cases a
    rw [List.countP_cons, List.count_cons, count_leads b (by simpa using hl) fun i t x h1 h2 => ht (i + 1) t x (by simpa using h1) (by simpa using h2), isLead_of (ht 0 t x rfl rfl)]
    by_cases h : x = y <;> simp [h]
section
variable {B : Base} {ks : Kinds} {pl : Names} {cs : List Cell} {o e : Expr} {pos apos : Pos} {P Q : PV → List Cell → Prop} {Dw : Addr} {ts : List Addr} {ls : List Lead} {y : Lead} {d u : Nat}
/-- o.count(e), o holding tuples of two -/
theorem EvP.countT (hA : AOk B.A d (u + 64)) (ho : Ev B ks pl cs o (.O Dw)) (hm : (Dw, LP (ts.map .O)) ∈ cs) (hz : ts.length ≤ 100) (he : EvP B ks pl cs e P) (hq : ∀ p ds, P p ds → ∃ c, p = .O c ∧ (c, leadT y) ∈ ds ∧ (Dw, LP (ts.map .O)) ∈ ds ∧ TupsAt ts ls ds ∧ Q (.I (ls.count y : Nat)) ds)
    (hbase : attributeBase o "count" B.env (eval o B.env) = eval o B.env := by rfl) (hline : (apos.endLine == pos.line) = true := by rfl)
    (hs : starEach [e] B.env = (false, eval e B.env) :: starEach [] B.env := by rfl) : EvP B ks pl cs (.Call (.Attribute o "count" apos) [e] [] pos) Q := fun h I G k => by
  refine Run.meth PySem.F.plainAttrs_list PySem.F.slot_list_count PySem.F.type_list_count (ho h I _ fun ov h₁ hov I₁ => ?_) hbase hline (by rw [hs]; rfl) hs rfl
  cases hov
  refine ⟨fun s e => ?_, ?_⟩
  · obtain ⟨ob, e1, vs, lv, iv⟩ := I₁.2.get (.tail _ hm); exact lv_type ⟨ob, e1, lv⟩ s e
  · refine Run.args (he h₁ I₁ _ fun p v h₂ ds j hv I₂ => Run.args0 ?_) hs
    obtain ⟨c, rfl, hc, hD, hT, q⟩ := hq p ds j
    cases hv
    intro s hs'
    subst hs'
    obtain ⟨ob, e1, vs, ⟨n, rfl⟩, iv⟩ := I₂.2.get (.tail _ hD)
    have hat : ∀ (i : Nat) (t : Addr) (x : Lead), ts[i]? = some t → ls[i]? = some x → ∃ o, s.heap.get? t = some o ∧ leadT x o := fun i t x h1 h2 => I₂.2.get (.tail _ (hT.2 i t x h1 h2))
    have rd : ∀ {t : Addr} {x : Lead}, (∃ o, s.heap.get? t = some o ∧ leadT x o) → ∃ as, Reads s.heap (.ref t) (.tuple [.int x.1, .int x.2]) as := fun {t x} hx => by
      obtain ⟨o, e, vs, tv, iv⟩ := hx
      exact reads_tuple ⟨o, e, tv⟩ (reads_ints (ns := [(x.1 : Int), (x.2 : Int)]) iv)
    refine call_meets (T := "list") PySem.F.slot_list_count ⟨_, e1, rfl⟩ PySem.F.entry_list_count (PySem.F.args_list_count_2 _ _) (SeqAt.list_countAt Dw vs.toArray n none #[] (.ref c) (isLead s.heap y)) ⟨e1, fun v hv => ?_, ?_⟩
    · have hv' : v ∈ vs := by simpa using hv
      obtain ⟨i, hi⟩ := List.mem_iff_getElem?.mp hv'
      have hlt := (List.getElem?_eq_some_iff.mp hi).1
      rw [iv.len, List.length_map] at hlt
      obtain ⟨v', h1, h2⟩ := iv.get i (.O ts[i]) (by rw [List.getElem?_map, List.getElem?_eq_getElem hlt]; rfl)
      rw [hi] at h1; cases h1
      cases h2
      have hl2 : ls[i]? = some (ls[i]'(by rw [← hT.1]; exact hlt)) := List.getElem?_eq_getElem _
      have hx := hat i ts[i] _ (List.getElem?_eq_getElem hlt) hl2
      obtain ⟨as, r1⟩ := rd hx
      obtain ⟨bs, r2⟩ := rd (I₂.2.get (.tail _ hc))
      have E := SeqAt.eqAt_reads _ _ B.A.in1 s _ _ as bs r1 r2 rfl rfl (by
        show B.A.units + 1 + min 1 1 < _
        have := hA.units
        omega)
      rw [isLead_of hx]
      have e : PyData.eqv (.tuple [.int ((ls[i]'(by rw [← hT.1]; exact hlt)).1 : Int), .int ((ls[i]'(by rw [← hT.1]; exact hlt)).2 : Int)]) (.tuple [.int (y.1 : Int), .int (y.2 : Int)]) = decide ((ls[i]'(by rw [← hT.1]; exact hlt)) = y) := by
        generalize (ls[i]'(by rw [← hT.1]; exact hlt)) = x
        simp only [PyData.eqv, PyData.eqvAll, Bool.and_true]
        by_cases hxy : x = y
        · subst hxy; simp
        · rw [decide_eq_false hxy]
          by_cases h1 : x.1 = y.1
          · have h2 : ¬ x.2 = y.2 := fun h2 => hxy (Prod.ext h1 h2)
            have : ¬ (x.2 : Int) = y.2 := by omega
            simp [this]
          · have : ¬ (x.1 : Int) = y.1 := by omega
            simp [this]
      rw [← e]; exact E
    · have e : vs.toArray.toList.countP (isLead s.heap y) = ls.count y := count_leads iv hT.1 hat
      rw [e]
      exact ⟨⟨rfl, rfl, rfl⟩, k _ _ _ _ q ⟨_, rfl⟩ I₂⟩
end

/-! F22 -/
section
variable {B : Base} {ks : Kinds} {pl : Names} {cs : List Cell} {e : Expr} {pos : Pos} {a : Addr}
theorem Ev.sumW {fp : Pos} {ns : List Int} (he : Ev B ks pl cs e (.O a)) (hm : (a, WL (ns.map .I)) ∈ cs) (hk : ks.lookup ("sum" : Str) = some .globalImplicit := by rfl) (hq : starEach [e] B.env = (false, eval e B.env) :: starEach [] B.env := by rfl)
    (hn : eval (.Call (.Name "sum" fp) [e] [] pos) B.env = (do callWith pos (← eval (.Name "sum" fp) B.env) [] (backTo pos (starEach [e] B.env)) (backToKw pos (keywordEach [] B.env))) := by rfl) : Ev B ks pl cs (.Call (.Name "sum" fp) [e] [] pos) (.I ns.sum) :=
  Ev.bltN (Evs.cons he Evs.nil hq) (fun vs s Z hv k I => by
    cases hv with | cons x hv => cases hv with | nil =>
    cases x
    obtain ⟨vs, lv, iv⟩ := wl_at (I.2.get (.tail _ hm))
    replace iv := iv.ints
    obtain ⟨ts, hts⟩ : ∃ xs : Array (Int × Tok), intItems xs = vs.toArray ∧ xs.toList.map (·.1) = ns := by
      clear lv I k hm
      induction iv with
      | nil => exact ⟨#[], by simp [intItems], rfl⟩
      | cons n t _ ih =>
        obtain ⟨xs, h1, h2⟩ := ih
        refine ⟨#[(n, t)] ++ xs, ?_, by simp [h2]⟩
        have h3 := congrArg Array.toList h1
        simp only [intItems, Array.toList_map] at h3
        apply Array.toList_inj.mp
        simp [intItems, h3]
    obtain ⟨h1, h2⟩ := hts
    refine sum_intListG (xs := ts) I.1.2.2 (h1 ▸ lv) fun h' tk t' kk => k _ h' tk kk ⟨t', ?_⟩
    have hsz : ts.size = ns.length := by rw [← h2]; simp
    rw [preSum_ints ns _ (fun i n hi => ?_) _ (Nat.le_of_eq hsz), hsz, List.take_length]
    rw [← h2] at hi
    simp at hi
    obtain ⟨z, hz⟩ := hi
    simp [numAt, hz]) hk rfl (by decide) hq rfl hn
end
/-! ## the law's own ints and texts -/
theorem mulS_ok {l : List Nat} {n : Int} (h0 : 0 ≤ n) (h1 : n < 4) (hl : l.length ≤ 100) : MulOk (S l) n :=
  mulOk_of 100 4 (by rw [S_len]; exact hl) (by omega) (by omega) (by decide) (by decide)
theorem mulS_one (l : List Nat) : Txt.mul (S l) 1 = S l := rfl
theorem mulS_zero (l : List Nat) : Txt.mul (S l) 0 = S [] := rfl
abbrev blk (n : Int) : List Nat := List.replicate ((n.fdiv 2).fmod 3).toNat 32 ++ [9] ++ List.replicate ((n.fdiv 6).fmod 4).toNat 32 ++ [9]
/-- what stands in front of each text -/
def frontL (n : Int) : List Nat := if (n.fdiv 24).fmod 2 = 0 then [] else blk n
theorem fmod_lo (n : Int) {m : Int} (h : 0 < m) : 0 ≤ n.fmod m := Int.fmod_nonneg_of_pos _ h
theorem fmod_hi (n : Int) {m : Int} (h : 0 < m) : n.fmod m < m := Int.fmod_lt_of_pos _ h
theorem blk_len (n : Int) : (blk n).length ≤ 8 := by
  have h1 := fmod_hi (n.fdiv 2) (m := 3) (by decide)
  have h2 := fmod_hi (n.fdiv 6) (m := 4) (by decide)
  simp only [List.length_append, List.length_replicate, List.length_cons, List.length_nil]; omega
theorem frontL_len (n : Int) : (frontL n).length ≤ 8 := by unfold frontL; split; · simp
                                                           · exact blk_len n
theorem blk_ws (n : Int) : Ws (blk n) := by
  intro c hc
  simp only [List.mem_append, List.mem_replicate, List.mem_singleton] at hc
  rcases hc with ((⟨_, rfl⟩ | rfl) | ⟨_, rfl⟩) | rfl <;> simp
theorem frontL_ws (n : Int) : Ws (frontL n) := by unfold frontL; split; · intro c hc; cases hc
                                                  · exact blk_ws n
theorem front_mul (n : Int) : Txt.mul (S (blk n)) ((n.fdiv 24).fmod 2) = S (frontL n) := by
  have h1 := fmod_lo (n.fdiv 24) (m := 2) (by decide)
  have h2 := fmod_hi (n.fdiv 24) (m := 2) (by decide)
  have : (n.fdiv 24).fmod 2 = 0 ∨ (n.fdiv 24).fmod 2 = 1 := by omega
  unfold frontL
  rcases this with e | e
  · rw [e]; rfl
  · rw [e]; rfl

/-! T16a -/
abbrev lKinds : List (Str × NameKind) := [("script", .local), ("cells", .local), ("drawn", .local), ("tabs", .local), ("blanks", .local), ("texts", .local), ("rows", .local), ("size", .local), ("total", .cell), ("front", .cell), ("sizes", .cell), ("turn", .cell), ("starts", .cell), ("seen", .cell),
  ("_law_cells", .globalImplicit), ("sum", .globalImplicit), ("range", .globalImplicit), ("_law_hues", .globalImplicit), ("_law_columns", .globalImplicit), ("_law_least", .globalImplicit), ("_law_looks", .globalImplicit)]
/-- what the top's run left, as the law needs it -/
structure LawF (hb : Heap) (K : Frag) (fd : FuncData) : Prop extends ColF hb K fd where
  d28 : ∃ fd, DefIs hb 28 (stmtAt 2) .none .none fd
  d231 : ∃ fd, DefIs hb 231 (stmtAt 18) .none .none fd
  d245 : ∃ fd, DefIs hb 245 (stmtAt 20) .none .none fd
  d252 : ∃ fd, DefIs hb 252 (stmtAt 21) .none .none fd
  d257 : ∃ fd, DefIs hb 257 (stmtAt 22) .none .none fd
  d264 : ∃ fd, DefIs hb 264 (stmtAt 23) .none .none fd
theorem addS {l m : List Nat} (h : l.length + m.length ≤ 200) : Bin .Add (.T (S l)) (.T (S m)) (.T (S (l ++ m))) := by
  rw [← S_append]; exact Bin.addT (by rw [S_len, S_len]; have : 200 ≤ sizeLine := by decide
                                      omega)
theorem mulC {c n : Nat} (h : n < 5) : Bin .Mult (.T (S [c])) (.I n) (.T (S (List.replicate n c))) := by
  have := Bin.mulT (p := S [c]) (y := (n : Int)) (mulOk_of 100 5 (by rw [S_len]; simp) (by omega) (by omega) (by decide) (by decide))
  rw [S_mul] at this
  exact this
abbrev sz0 (n : Int) : Int := (n.fdiv 7).fmod 3
abbrev sizesL (n : Int) : List Int := [sz0 n + 1, sz0 n + 2, sz0 n + 3, sz0 n + 4]
theorem sizes_eq (n : Int) : ((List.range 4).map fun (i : Nat) => PV.I (sz0 n + (1 + (i : Int)))) = (sizesL n).map .I := rfl
def leadOf (c : Int) : Lead := ((c.fmod 4).toNat, ((c.fdiv 4).fmod 5).toNat)
theorem leadOf_ok (ns : List Int) : leadsOk (ns.map leadOf) := by
  intro x hx
  obtain ⟨c, _, rfl⟩ := List.mem_map.mp hx
  have h1 := fmod_lo c (m := 4) (by decide)
  have h2 := fmod_hi c (m := 4) (by decide)
  have h3 := fmod_lo (c.fdiv 4) (m := 5) (by decide)
  have h4 := fmod_hi (c.fdiv 4) (m := 5) (by decide)
  unfold leadOf
  constructor <;> dsimp only <;> omega
theorem leadOf_1 (c : Int) : ((leadOf c).1 : Int) = c.fmod 4 := by
  have h1 := fmod_lo c (m := 4) (by decide)
  unfold leadOf; dsimp only; omega
theorem leadOf_2 (c : Int) : ((leadOf c).2 : Int) = (c.fdiv 4).fmod 5 := by
  have h1 := fmod_lo (c.fdiv 4) (m := 5) (by decide)
  unfold leadOf; dsimp only; omega
/-- a text, but for its end -/
def wordAt (n c : Int) : List Nat := frontL n ++ List.replicate (leadOf c).1 9 ++ List.replicate (leadOf c).2 32
/-- the rows of ints are at hand -/
def RowsAt (as : List Addr) (rs : List (List Int)) (cs : List Cell) : Prop := as.length = rs.length ∧ ∀ (i : Nat) (r : Addr) (m : List Int), as[i]? = some r → rs[i]? = some m → (r, LI m) ∈ cs
theorem RowsAt.mono {as : List Addr} {rs : List (List Int)} {cs ds : List Cell} (x : RowsAt as rs cs) (h : ∀ c ∈ cs, c ∈ ds) : RowsAt as rs ds := ⟨x.1, fun i t y a b => h _ (x.2 i t y a b)⟩
theorem RowsAt.snoc {as : List Addr} {rs : List (List Int)} {cs : List Cell} {r : Addr} {m : List Int} (x : RowsAt as rs cs) (h : (r, LI m) ∈ cs) : RowsAt (as ++ [r]) (rs ++ [m]) cs := by
  refine ⟨by simp [x.1], fun i t' y' a b => ?_⟩
  by_cases hi : i < as.length
  · rw [List.getElem?_append_left hi] at a
    rw [List.getElem?_append_left (by rw [← x.1]; exact hi)] at b
    exact x.2 i t' y' a b
  · have h1 := (List.getElem?_eq_some_iff.mp a).1
    rw [List.length_append, List.length_singleton] at h1
    have hi' : i = as.length := by omega
    subst hi'
    rw [List.getElem?_append_right (Nat.le_refl _), Nat.sub_self] at a
    rw [x.1, List.getElem?_append_right (Nat.le_refl _), Nat.sub_self] at b
    cases a; cases b; exact h
/-- what the row of this way holds, in some order -/
def rowL (n : Int) (ns : List Int) (tn z0 : Nat) : Nat → List Int
  | 0 => (ns.map leadOf).map fun (x : Lead) => hueL tn x.1 x.2
  | w + 1 => (ns.map (wordAt n)).map fun l => ((typedL (z0 + (w + 1)) l).length : Int)
theorem LI.wl {ns : List Int} {o : Obj} (x : LI ns o) : WL (ns.map .I) o := by
  obtain ⟨vs, ⟨n, rfl⟩, iv⟩ := x
  exact ⟨rfl, vs, n, rfl, Ares.ofInts iv⟩
def startsL (n : Int) (z0 : Nat) : List Int := (List.range 4).map fun (i : Nat) => ((typedL (z0 + (i + 1)) (frontL n)).length : Int)
theorem starts_eq (n : Int) (z0 : Nat) : ((List.range 4).map fun (i : Nat) => PV.I ((typedL (z0 + (i + 1)) (frontL n)).length : Nat)) = (startsL n z0).map .I := rfl
/-- the law's six cells ahead of the rest -/
abbrev LC (ca : Str → Addr) (p1 p2 p3 p4 p5 p6 : Option PV) (T : List Cell) : List Cell := (ca "total", CV p1) :: (ca "front", CV p2) :: (ca "sizes", CV p3) :: (ca "turn", CV p4) :: (ca "starts", CV p5) :: (ca "seen", CV p6) :: T
theorem wordAt_ok {n : Int} {ns : List Int} {w : List Nat} (hw : w ∈ ns.map (wordAt n)) : Ws w ∧ w.length ≤ 90 := by
  obtain ⟨c, hc, rfl⟩ := List.mem_map.mp hw
  have h := leadOf_ok ns _ (List.mem_map_of_mem hc)
  have hf := frontL_len n
  refine ⟨fun x hx => ?_, ?_⟩
  · simp only [wordAt, List.mem_append, List.mem_replicate] at hx
    rcases hx with (hx | ⟨_, rfl⟩) | ⟨_, rfl⟩
    · exact frontL_ws n x hx
    · simp
    · simp
  · simp only [wordAt, List.length_append, List.length_replicate]; omega
theorem texts_eq (n : Int) (ns : List Int) : ((List.range ns.length).map fun i => PV.T (S (wordAt n (ns.getD i 0) ++ tail3))) = (ns.map (wordAt n)).map fun w => .T (S (w ++ tail3)) := by
  refine List.ext_getElem (by simp) fun i a b => ?_
  simp at a
  simp [List.getD_eq_getElem?_getD, a]

/-! T16b -/
/-! ## what the rows hold, by looks -/
abbrev lkL (n : Int) (tn z0 : Nat) (x : Lead) : List Int := looksL (startsL n z0) (sizesL n) tn x.1 x.2
theorem startsL_get (n : Int) (z0 : Nat) {w : Nat} (h : w < 4) : (startsL n z0).getD w 0 = ((typedL (z0 + (w + 1)) (frontL n)).length : Int) := by
  unfold startsL
  rw [List.getD_eq_getElem?_getD, List.getElem?_map, List.getElem?_range h]; rfl
theorem sizesL_get {n : Int} {z0 : Nat} (hz : (z0 : Int) = sz0 n) {w : Nat} (h : w < 4) : (sizesL n).getD w 0 = ((z0 + (w + 1) : Nat) : Int) := by
  rw [sizesL, ← hz]
  match w, h with
  | 0, _ => rfl
  | 1, _ => rfl
  | 2, _ => rfl
  | 3, _ => rfl
theorem looks_get0 {st sz : List Int} {t a b : Int} : (looksL st sz t a b).getD 0 0 = hueL t a b := rfl
theorem looks_getS {st sz : List Int} {t a b : Int} {w : Nat} (h : w < 4) : (looksL st sz t a b).getD (w + 1) 0 = wayL st sz a b w := by
  unfold looksL
  rw [List.getD_eq_getElem?_getD, List.getElem?_cons_succ, List.getElem?_map, List.getElem?_range h]; rfl
theorem front_mod (n : Int) {size : Nat} (h : 0 < size) : (typedL size (frontL n)).length % size = 0 := by
  unfold frontL
  split
  · simp [typedL]
  · exact typed_tab h _
theorem word_len (n c : Int) {size : Nat} (h : 0 < size) : (typedL size (wordAt n c)).length = (typedL size (frontL n)).length + size * (leadOf c).1 + (leadOf c).2 := by
  unfold wordAt
  rw [List.append_assoc, typedL_app]
  exact typed_lead h _ (front_mod n h) _ _
theorem rowL_is {n : Int} {ns : List Int} {tn z0 : Nat} (hz : (z0 : Int) = sz0 n) {w : Nat} (h : w < 5) : rowL n ns tn z0 w = (ns.map leadOf).map fun x => (lkL n tn z0 x).getD w 0 := by
  cases w with
  | zero => rfl
  | succ w =>
    have h4 : w < 4 := by omega
    show ((ns.map (wordAt n)).map fun l => ((typedL (z0 + (w + 1)) l).length : Int)) = _
    rw [List.map_map, List.map_map]
    refine List.map_congr_left fun c _ => ?_
    show ((typedL (z0 + (w + 1)) (wordAt n c)).length : Int) = (lkL n tn z0 (leadOf c)).getD (w + 1) 0
    rw [word_len n c (by omega), lkL, looks_getS h4, wayL, startsL_get n z0 h4, sizesL_get hz h4]
    simp only [Int.natCast_add, Int.natCast_mul]
/-- a look is a bare look behind what is the same for all -/
theorem look_bare {n : Int} {tn z0 : Nat} (hz : (z0 : Int) = sz0 n) {w : Nat} (h : w < 5) (x y : Lead) : (lkL n tn z0 x).getD w 0 = (lkL n tn z0 y).getD w 0 ↔ bareLook tn z0 w x = bareLook tn z0 w y := by
  cases w with
  | zero => exact Iff.rfl
  | succ w =>
    have h4 : w < 4 := by omega
    simp only [lkL]
    rw [looks_getS h4, looks_getS h4, wayL, wayL, sizesL_get hz h4]
    unfold bareLook
    rw [if_neg (by omega), if_neg (by omega)]
    omega
theorem count_map {ls : List Lead} {f : Lead → Int} {v : Int} : (ls.map f).count v = ls.countP fun x => decide (f x = v) := by
  rw [List.count, List.countP_map]
  congr 1
theorem rows_count {n : Int} {tn z0 : Nat} (hz : (z0 : Int) = sz0 n) {ls : List Lead} {y : Lead} {w : Nat} (h : w < 5) {m : List Int} (hp : m.Perm (ls.map fun x => (lkL n tn z0 x).getD w 0)) :
    m.count ((lkL n tn z0 y).getD w 0) = cntW tn z0 ls y w := by
  rw [hp.count_eq, count_map]
  unfold cntW
  congr 1
  funext x
  exact decide_eq_decide.mpr (look_bare hz h x y)
theorem sorted_unique {l m : List Int} (hp : l.Perm m) (h1 : l.Pairwise (· ≤ ·)) (h2 : m.Pairwise (· ≤ ·)) : l = m :=
  hp.eq_of_pairwise (fun a b _ _ h h' => Int.le_antisymm h h') h1 h2

/-! T16c -/
section
variable {B : Base} {ks : Kinds} {pl : Names} {cs : List Cell} {l r : Expr} {pos : Pos} {P : PV → List Cell → Prop} {T : List Cell → Prop} {c : Bool} {cop : CmpOp}
theorem TsP.cmpP (hl : EvP B ks pl cs l P) (hr : ∀ p ds, P p ds → EvP B ks pl ds r (fun q ds' => Cmp cop p q c ∧ T ds')) (hm : behindInMarks cop r = false := by with_unfolding_all rfl) : TsP B ks pl cs (.Compare l [cop] [r] pos) c T := fun h I G k =>
  Run.isCmp (hl h I _ fun p va h₁ ds j ha I₁ => hr p ds j h₁ I₁ _ fun q vb h₂ ds' j' hb I₂ => j'.1 _ _ _ _ _ _ ha hb (Run.truthB (k h₂ ds' j'.2 I₂))) hm
theorem EvP.weakO {e : Expr} {D : List Cell} {R R' : Obj → Prop} (x : EvP B ks pl cs e (fun p ds => ∃ a, p = .O a ∧ ds = (a, R) :: D)) (w : ∀ o, R o → R' o) : EvP B ks pl cs e (fun p ds => ∃ a, p = .O a ∧ ds = (a, R') :: D) :=
  fun h I G k => x h I G fun p v h' ds ⟨a, e1, e2⟩ hv I' => by
    subst e1; subst e2
    exact k _ v h' _ ⟨a, rfl, rfl⟩ hv (I'.weak (l₁ := []) w)
end
def lawRest : List Stmt := match stmtAt 24 with | .FunctionDef _ _ b .. => b.drop 11 | _ => []
theorem RowsAt.get {as : List Addr} {rs : List (List Int)} {cs : List Cell} (x : RowsAt as rs cs) {i : Nat} (h : i < as.length) : (as.getD i 0, LI (rs.getD i [])) ∈ cs := by
  have h2 : i < rs.length := x.1 ▸ h
  refine x.2 i _ _ ?_ ?_
  · rw [List.getD_eq_getElem?_getD, List.getElem?_eq_getElem h]; rfl
  · rw [List.getD_eq_getElem?_getD, List.getElem?_eq_getElem h2]; rfl
theorem col_eq {f : Lead → List Int} {ls : List Lead} {i : Nat} (h : ls.length = 4) : ((List.range 4).map fun (j : Nat) => PV.I (((ls.map f).getD j []).getD i 0)) = (ls.map fun x => (f x).getD i 0).map .I := by
  match ls, h with
  | [a, b, c, d], _ => rfl
section
variable {w : World} {A : Around} {hb h : Heap} {fd fd2 fd3 fd4 : FuncData} {d u : Nat} {env : Env} {L : Addr} {cs : List Cell} {ca : Str → Addr} {R Dw Sn St Z : Addr} {as ks ts : List Addr} {rs : List (List Int)} {ls : List Lead} {n : Int} {tn z0 : Nat} {F : Flow → Heap → Prop}
theorem law_tail (D : DefIs hb 264 (stmtAt 23) .none .none fd) (D2 : DefIs hb 46 (stmtAt 5) (.ref 38) (.ref 39) fd2) (df2 : Dfl hb 38 39) (D3 : DefIs hb 64 (stmtAt 7) (.ref 56) (.ref 57) fd3) (df3 : Dfl hb 56 57) (D4 : DefIs hb 245 (stmtAt 20) .none .none fd4)
    (hA : AOk A (d + 2) (u + 64)) (G : Gd hb Globs Blts)
    (c3 : env.cells.lookup ("sizes" : Str) = some (ca "sizes")) (c4 : env.cells.lookup ("turn" : Str) = some (ca "turn")) (c5 : env.cells.lookup ("starts" : Str) = some (ca "starts")) (c6 : env.cells.lookup ("seen" : Str) = some (ca "seen"))
    (mR : (R, LP (as.map .O)) ∈ cs) (hR : RowsAt as rs cs) (l5 : as.length = 5)
    (mD : (Dw, LP (ts.map .O)) ∈ cs) (hT : TupsAt ts ls cs) (hl : leadsOk ls) (h4 : ls.length = 4)
    (mSn : (Sn, LP (ks.map .O)) ∈ cs) (hE : RowsAt ks (ls.map (lkL n tn z0)) cs)
    (mSt : (St, LI (startsL n z0)) ∈ cs) (mZ : (Z, LI (sizesL n)) ∈ cs)
    (m3 : (ca "sizes", CV (some (.O Z))) ∈ cs) (m4 : (ca "turn", CV (some (.I tn))) ∈ cs) (m5 : (ca "starts", CV (some (.O St))) ∈ cs) (m6 : (ca "seen", CV (some (.O Sn))) ∈ cs)
    (hz : (z0 : Int) = sz0 n) (hS : ∀ (j : Nat) (m : List Int), rs[j]? = some m → m.Perm (ls.map fun x => (lkL n tn z0 x).getD j 0) ∧ m.Pairwise (· ≤ ·)) (htn : tn < 3) (hz0 : z0 < 3)
    (k : ∀ h, Own hb h cs → F (.ret (.bool true)) h) :
    Ex ⟨w, A, hb, env, L⟩ lKinds [("rows", .O R), ("drawn", .O Dw)] cs lawRest F := by
  have lr : rs.length = 5 := by rw [← hR.1]; exact l5
  have lk : ks.length = 4 := by rw [hE.1, List.length_map]; exact h4
  have hrow : ∀ j, j < 5 → rs[j]? = some (rs.getD j []) := fun j hj => by rw [List.getD_eq_getElem?_getD, List.getElem?_eq_getElem (by omega)]; rfl
  -- rows != [..]
  refine Ex.iteP (c := false) (Q := fun ds => Less cs ds) (TsP.neSame (d := d) (u := u) (P := fun p ds => p = .O R ∧ cs = ds) (hA.weaken (by omega) (by omega)) (EvP.of (Ev.name rfl rfl) ⟨rfl, rfl⟩) ?_) (fun q => by cases q) (fun _ ds j => Ex.go (Ex.less j ?_))
  · rintro _ _ ⟨rfl, rfl⟩
    refine EvP.compC (ca := ca) (x := "way") (ks' := [("way", .cell), ("seen", .cell), ("sorted", .globalImplicit)]) (Source.range (m := 0) (k := 5) (c := 5) rfl (EvP.range1 Ev.int fun a => ⟨a, rfl, rfl⟩) rfl) rfl rfl ⟨rfl, rfl⟩ rfl rfl rfl (by repeat' first | exact trivial | exact c6 | refine ⟨?_, ?_⟩)
      (fun i vs ds => ∃ (bs : List Addr) (E : List Cell), bs.length = i ∧ vs = bs.map .O ∧ RowsAt bs (rs.take i) E ∧ ds = E ++ cs) (fun _ _ _ _ _ _ _ => trivial) (by decide) (fun i vs ds j => ?_) ⟨[], [], rfl, rfl, ⟨by simp, by simp⟩, rfl⟩ (fun i vs ds C' acc it xc hi j => ?_) (fun acc vs ds j => ?_)
    · obtain ⟨bs, E, h1, rfl, _⟩ := j
      simp [h1]
    · obtain ⟨bs, E, h1, rfl, hB, rfl⟩ := j
      rw [Int.zero_add]
      generalize hC1 : ((xc, CV (some (PV.I i))) :: (acc, LP (List.map PV.O bs)) :: (it, RIt (0 + ((i + 1 : Nat) : Int)) (((5 : Nat) : Int) - ((i + 1 : Nat) : Int)) 1) :: (L, NP [("rows", PV.O R), ("drawn", PV.O Dw)]) :: (E ++ cs) : List Cell) = C1
      have mW : (xc, CV (some (.I i))) ∈ C1 := hC1 ▸ .head _
      have mm : ∀ c ∈ cs, c ∈ C1 := fun c hc => hC1 ▸ .tail _ (.tail _ (.tail _ (.tail _ (List.mem_append_right _ hc))))
      refine EvP.sortedE (R := fun p ds => ∃ la, p = .O la ∧ ds = (la, LI (ls.map fun x => (lkL n tn z0 x).getD i 0)) :: C1)
        (EvP.weakO (R := LP ((ls.map fun x => (lkL n tn z0 x).getD i 0).map .I)) (EvP.compMap (ca := fun _ => xc) (ks' := [("looks", .local), ("way", .cell)]) (Source.list (ps := ks.map .O) (Ev.cell rfl (show _ = some (ca "seen") from rfl) (mm _ m6)) (mm _ mSn) (fun _ => LP.wl)) ⟨rfl, rfl, ⟨rfl, rfl⟩, rfl, rfl⟩ (by repeat' first | exact trivial | exact rfl | refine ⟨?_, ?_⟩)
          (fun it D hD => ⟨_, hD _ (mm _ mSn), fun _ => LP.wl⟩) (by simp [lk]) (fun j => .I (((ls.map (lkL n tn z0)).getD j []).getD i 0)) (fun j C2 acc2 it2 vs2 hj => ?_) fun acc2 => ⟨acc2, rfl, ?_⟩) fun _ => LP.ints) (fun p ds j => ?_)
      · rw [List.length_map] at hj
        have hm := hE.get hj
        have hlen : ((ls.map (lkL n tn z0)).getD j []).length = 5 := by
          rw [List.getD_eq_getElem?_getD, List.getElem?_map, List.getElem?_eq_getElem (by omega)]; rfl
        have hc : (ks.map PV.O).getD j .N = .O (ks.getD j 0) := by simp [List.getD_eq_getElem?_getD, hj]
        rw [hc]
        exact ⟨_, .name rfl, EvP.of (Ev.item (Ev.name rfl rfl) (Ev.cell rfl rfl (.tail _ (.tail _ (.tail _ mW)))) (.tail _ (.tail _ (.tail _ (mm _ hm)))) (by omega) (by rw [Int.toNat_natCast]; exact getD_some (by omega)) (by omega)) ⟨rfl, Less.refl⟩⟩
      · rw [List.length_map, lk]
        rw [col_eq h4]
      · obtain ⟨la, rfl, rfl⟩ := j
        obtain ⟨p1, p2⟩ := hS i _ (hrow i hi)
        refine ⟨la, _, rfl, .head _, by rw [List.length_map]; omega, fun b ms q1 q2 => ?_⟩
        have e := sorted_unique (q1.trans p1.symm) q2 p2
        subst e
        subst hC1
        refine ⟨((b, LI (rs.getD i [])) :: E) ++ cs, ⟨_, List.perm_append_comm_assoc [_, _] [_, _, _, _] (E ++ cs), .cons_cons _ (.cons_cons _ (.cons_cons _ (.cons_cons _ (.cons_cons _ (.cons _ (List.Sublist.refl _))))))⟩, bs ++ [b], (b, LI (rs.getD i [])) :: E, by simp [h1], by simp, ?_, rfl⟩
        rw [List.take_add_one, hrow i hi]
        exact (hB.mono fun c hc => .tail _ hc).snoc (.head _)
    · obtain ⟨bs, E, h1, rfl, hB, rfl⟩ := j
      rw [List.take_of_length_le (by omega)] at hB
      refine ⟨R, acc, .list (rs.map fun r => .list (r.map .int)), rfl, rfl, ?_, ?_, fun h O => ⟨O.rows (as := as) (rs := rs) (.tail _ (List.mem_append_right _ mR)) hR.1 fun i b r e1 e2 => .tail _ (List.mem_append_right _ (hR.2 i b r e1 e2)), O.rows (as := bs) (rs := rs) (.head _) hB.1 fun i b r e1 e2 => .tail _ (List.mem_append_left _ (hB.2 i b r e1 e2))⟩, ?_⟩
      · unfold PyData.canLay0
        exact lay_rows rs
      · have := depth_rows rs
        unfold PyData.depth
        omega
      · exact ⟨_, List.Perm.refl _, .cons _ (List.sublist_append_right _ _)⟩
  -- for tabs, for blanks
  refine Ex.forRng (m := 0) (n := 4) 4 rfl (EvP.range1 Ev.int fun a => ⟨a, rfl, rfl⟩) rfl (fun i pl ds => cs = ds ∧ PicksQ pl [("rows", .O R), ("drawn", .O Dw)]) ⟨rfl, rfl, rfl, trivial⟩ ?_ ?_
  · rintro a it pl _ ha ⟨rfl, hpl⟩
    rw [Int.zero_add]
    generalize hcell : (it, RIt ((a : Int) + 1) (((4 : Nat) : Int) - a - 1) 1) = c0
    refine Ex.names [("tabs", .I a), ("rows", .O R), ("drawn", .O Dw)] ⟨rfl, hpl.1, hpl.2.1, trivial⟩ ?_
    refine Ex.forRng (m := 0) (n := 5) 5 rfl (EvP.range1 Ev.int fun a => ⟨a, rfl, rfl⟩) rfl (fun i pl ds' => c0 :: cs = ds' ∧ PicksQ pl [("tabs", .I a), ("rows", .O R), ("drawn", .O Dw)]) ⟨rfl, rfl, rfl, rfl, trivial⟩ ?_ ?_
    · rintro b it2 pl2 _ hb ⟨rfl, hpl2⟩
      rw [Int.zero_add]
      generalize hcell2 : (it2, RIt ((b : Int) + 1) (((5 : Nat) : Int) - b - 1) 1) = c1
      refine Ex.names [("blanks", .I b), ("tabs", .I a), ("rows", .O R), ("drawn", .O Dw)] ⟨rfl, hpl2.1, hpl2.2.1, hpl2.2.2.1, trivial⟩ ?_
      have hls : leastAt rs (lkL n tn z0 (a, b)) 5 = ls.count (a, b) := least_is htn hz0 (y := (a, b)) ⟨ha, hb⟩ hl h4 fun w hw => rows_count hz hw (hS w _ (hrow w hw)).1
      refine Ex.iteP (c := false) (Q := fun ds => Less (c1 :: c0 :: cs) ds) (TsP.cmpP (P := fun p ds => ∃ K, p = .I (ls.count (a, b) : Nat) ∧ ds = (K, LI (lkL n tn z0 (a, b))) :: c1 :: c0 :: cs)
        (EvP.defP (R := fun ps ds => ∃ K, ps = [.O R, .O K] ∧ ds = (K, LI (lkL n tn z0 (a, b))) :: c1 :: c0 :: cs) D.fn (EvsP.cons (P := fun p ds => p = .O R ∧ c1 :: c0 :: cs = ds) (EvP.of (Ev.name rfl rfl) ⟨rfl, rfl⟩) fun p ds j => ?_) fun ps ds vs h j hv I G' kk => ?_)
        (fun p ds j => ?_)) (fun q => by cases q) (fun _ ds j => Ex.go (Ex.less j (Turn.next (pl' := [("tabs", .I a), ("rows", .O R), ("drawn", .O Dw)]) ⟨rfl, rfl, rfl, rfl, trivial⟩ ⟨rfl, rfl, rfl, trivial⟩)))
      · obtain ⟨rfl, rfl⟩ := j
        refine EvsP.cons (P := fun p ds => ∃ K, p = .O K ∧ ds = (K, LI (lkL n tn z0 (a, b))) :: c1 :: c0 :: cs) (EvP.defP (R := fun ps ds => ps = [.O St, .O Z, .I tn, .I a, .I b] ∧ c1 :: c0 :: cs = ds) D4.fn
          (EvsP.of (Evs.cons (Ev.cell rfl c5 (.tail _ (.tail _ m5))) (Evs.cons (Ev.cell rfl c3 (.tail _ (.tail _ m3))) (Evs.cons (Ev.cell rfl c4 (.tail _ (.tail _ m4))) (Evs.cons (Ev.name rfl rfl) (Evs.cons (Ev.name rfl rfl) Evs.nil))))) ⟨rfl, rfl⟩) fun ps ds vs h j hv I G' kk => ?_) fun p ds j => ?_
        · obtain ⟨rfl, rfl⟩ := j
          cases hv with | cons y1 hv => cases hv with | cons y2 hv => cases hv with | cons y3 hv => cases hv with | cons y4 hv => cases hv with | cons y5 hv => cases hv with | nil =>
          cases y1
          cases y2
          obtain ⟨t3, rfl⟩ := y3
          obtain ⟨t4, rfl⟩ := y4
          obtain ⟨t5, rfl⟩ := y5
          exact looks_ok (d := d) (u := u) D4 (hA.weaken (by omega) (by omega)) G I.2 (.tail _ (.tail _ (.tail _ mSt))) (.tail _ (.tail _ (.tail _ mZ))) rfl rfl htn ha hb fun K h' O' => kk (.O K) _ h' _ ⟨K, rfl, rfl⟩ rfl ⟨I.1, O'.swap⟩
        · obtain ⟨K, rfl, rfl⟩ := j
          exact EvsP.of Evs.nil ⟨K, rfl, rfl⟩
      · obtain ⟨K, rfl, rfl⟩ := j
        cases hv with | cons y1 hv => cases hv with | cons y2 hv => cases hv with | nil =>
        cases y1
        cases y2
        refine least_ok (d := d) (u := u) (as := as) (rs := rs) (looks := lkL n tn z0 (a, b)) D D2 df2 D3 df3 (hA.weaken (by omega) (by omega)) G I.2 (.tail _ (.tail _ (.tail _ (.tail _ mR)))) (.tail _ (.head _)) l5 rfl lr (fun w hw => ⟨.tail _ (.tail _ (.tail _ (.tail _ (hR.get (by omega))))), ?_, (hS w _ (hrow w hw)).2⟩) fun t h' O' => kk _ _ h' _ ⟨K, rfl, rfl⟩ ⟨t, by rw [hls]⟩ ⟨I.1, O'⟩
        rw [(hS w _ (hrow w hw)).1.length_eq, List.length_map]; omega
      · obtain ⟨K, rfl, rfl⟩ := j
        refine EvP.countT (d := d) (u := u) (Dw := Dw) (ts := ts) (ls := ls) (y := (a, b)) (P := fun p ds => ∃ c, p = .O c ∧ ds = (c, leadT (a, b)) :: (K, LI (lkL n tn z0 (a, b))) :: c1 :: c0 :: cs) (hA.weaken (by omega) (by omega)) (Ev.name rfl rfl) (.tail _ (.tail _ (.tail _ mD))) (by rw [hT.1]; omega)
          (EvP.tuple (EvsP.of (Evs.cons (Ev.name rfl rfl) (Evs.cons (Ev.name rfl rfl) Evs.nil)) ⟨by simp, fun t => ⟨t, rfl, rfl⟩⟩)) fun p ds j => ?_
        obtain ⟨c, rfl, rfl⟩ := j
        refine ⟨c, rfl, .head _, .tail _ (.tail _ (.tail _ (.tail _ mD))), hT.mono fun c hc => .tail _ (.tail _ (.tail _ (.tail _ hc))), ?_, ⟨_, List.Perm.refl _, .cons _ (.cons _ (List.Sublist.refl _))⟩⟩
        have := Cmp.neI (x := ((ls.count (a, b) : Nat) : Int)) (y := ((ls.count (a, b) : Nat) : Int))
        rwa [bne_self_eq_false] at this
    · rintro pl2 _ ⟨rfl, hpl2⟩
      exact Ex.nil fun h I => ⟨pl2, cs, ⟨rfl, hpl2.2.1, hpl2.2.2.1, trivial⟩, I⟩
  · rintro pl _ ⟨rfl, hpl⟩
    exact Ex.ret Ev.bool fun v h hv I => by cases hv; exact k h I.2.tail
end

/-! T16law -/
section
variable {w : World} {A : Around} {hb h : Heap} {T : List Cell} {fd fd2 : FuncData} {d u : Nat} {F : Value → Heap → Prop} {K : Frag}
theorem law_ok (C : LawF hb K fd) (D : DefIs hb 269 (stmtAt 24) .none .none fd2) {l : Addr} {vs : List Value} {script : List Int} (hA : AOk A (d + 8) (u + 120)) (G : Gd hb Globs Blts) (O : Own hb h T) (hT : TabOk (expQ fd) T)
    (hl : hb.IsList l vs.toArray) (hi : IntsAre vs script) (hz : script.length < 1000)
    (k : ∀ T' h', TabOk (expQ fd) T' → Own hb h' T' → F (.bool true) h') :
    RunCall w A (.ref 269) ⟨[.ref l], []⟩ h F := by
  refine RunCall.defC (d := d + 7) (u := u + 117) D hA G O [("script", .ref l)] [("script", .O l)] [("total", none), ("front", none), ("sizes", none), ("turn", none), ("starts", none), ("seen", none)] (fun fd e1 e2 e3 => ?_)
    ⟨⟨_, rfl, rfl⟩, trivial⟩ ⟨rfl, rfl, rfl, rfl, rfl, rfl, trivial⟩ lKinds rfl (fun n y hy => ?_) (fun n y hy => ?_) (show (["total", "front", "sizes", "turn", "starts", "seen"] : List Str).Nodup by decide) ⟨rfl, rfl, rfl⟩ ?_
  · cases fd; cases e1; cases e2; cases e3; rfl
  · rw [List.mem_singleton.mp hy]; exact .inl rfl
  · rcases List.mem_cons.mp hy with rfl | hy
    · rfl
    rcases List.mem_cons.mp hy with rfl | hy
    · rfl
    rcases List.mem_cons.mp hy with rfl | hy
    · rfl
    rcases List.mem_cons.mp hy with rfl | hy
    · rfl
    rcases List.mem_cons.mp hy with rfl | hy
    · rfl
    rw [List.mem_singleton.mp hy]; rfl
  intro L env A' ca hA' hca _ _
  have c1 : env.cells.lookup ("total" : Str) = some (ca "total") := hca _ (.head _)
  have c2 : env.cells.lookup ("front" : Str) = some (ca "front") := hca _ (.tail _ (.head _))
  have c3 : env.cells.lookup ("sizes" : Str) = some (ca "sizes") := hca _ (.tail _ (.tail _ (.head _)))
  have c4 : env.cells.lookup ("turn" : Str) = some (ca "turn") := hca _ (.tail _ (.tail _ (.tail _ (.head _))))
  have c5 : env.cells.lookup ("starts" : Str) = some (ca "starts") := hca _ (.tail _ (.tail _ (.tail _ (.tail _ (.head _)))))
  have c6 : env.cells.lookup ("seen" : Str) = some (ca "seen") := hca _ (.tail _ (.tail _ (.tail _ (.tail _ (.tail _ (.head _))))))
  obtain ⟨fd231, d231⟩ := C.d231
  show Ex _ _ _ (LC ca none none none none none none T) _ _
  -- cells
  refine Ex.assignP (EvP.defP (R := fun ps ds => ps = [.O l] ∧ ds = LC ca none none none none none none T) (Q := fun p ds => ∃ (a : Addr) (ns : List Int), ns.length = 4 ∧ p = .O a ∧ ds = (a, WL (ns.map .I)) :: LC ca none none none none none none T) d231.fn (EvsP.of (Evs.cons (Ev.name rfl rfl) Evs.nil) ⟨rfl, rfl⟩) (fun ps ds vs h j hv I G' kk => ?_)) ?_
  · obtain ⟨rfl, rfl⟩ := j
    cases hv with | cons y hv => cases hv with | nil =>
    cases y
    exact cells_ok (d := d) (u := u) d231 (hA'.weaken (by omega) (by omega)) G I.2 hl hi hz fun a h' ns hn O' => kk (.O a) _ _ _ ⟨a, ns, hn, rfl, rfl⟩ rfl ⟨I.1, O'.swap⟩
  rintro _ _ ⟨a, ns, hn, rfl, rfl⟩
  -- total
  refine Ex.assignC (P := fun p ds => p = .I ns.sum ∧ ds = (a, WL (ns.map .I)) :: LC ca none none none none none none T) (EvP.of (Ev.sumW (Ev.name rfl rfl) (.head _)) ⟨rfl, rfl⟩) ?_
  rintro _ _ ⟨rfl, rfl⟩
  refine ⟨[_], _, _, _, c1, rfl, ?_⟩
  generalize ns.sum = tot
  have g1 := fmod_lo (tot.fdiv 2) (m := 3) (by decide)
  have g2 := fmod_hi (tot.fdiv 2) (m := 3) (by decide)
  have g3 := fmod_lo (tot.fdiv 6) (m := 4) (by decide)
  have g4 := fmod_hi (tot.fdiv 6) (m := 4) (by decide)
  have g5 := fmod_lo (tot.fdiv 24) (m := 2) (by decide)
  have g6 := fmod_hi (tot.fdiv 24) (m := 2) (by decide)
  -- front
  refine Ex.assignC (P := fun p ds => p = .T (S (frontL tot)) ∧ ds = (a, WL (ns.map .I)) :: LC ca (some (.I tot)) none none none none none T) (EvP.of (p := .T (S (frontL tot))) ?_ ⟨rfl, rfl⟩) ?_
  · have et : ∀ {pos}, Ev ⟨w, A', hb, env, L⟩ lKinds [("cells", .O a), ("script", .O l)] ((a, WL (ns.map .I)) :: LC ca (some (.I tot)) none none none none none T) (.Name "total" pos) (.I tot) := fun {pos} => Ev.cell rfl c1 (.tail _ (.head _))
    rw [← front_mul]
    refine Ev.bin (Ev.bin (p := .T (S (blk tot))) (Ev.bin (p := .T (S (List.replicate ((tot.fdiv 2).fmod 3).toNat 32 ++ [9] ++ List.replicate ((tot.fdiv 6).fmod 4).toNat 32))) (Ev.bin (p := .T (S (List.replicate ((tot.fdiv 2).fmod 3).toNat 32 ++ [9])))
      (Ev.bin (p := .T (S (List.replicate ((tot.fdiv 2).fmod 3).toNat 32))) (Ev.txt) (Ev.bin (Ev.bin et Ev.int (Bin.divI (by decide) (by decide))) Ev.int (Bin.modI (by decide))) (by rw [← S_mul]; exact Bin.mulT (p := S [32]) (mulS_ok g1 (by omega) (by simp)))) (Ev.txt) ?_)
      (Ev.bin (p := .T (S (List.replicate ((tot.fdiv 6).fmod 4).toNat 32))) (Ev.txt) (Ev.bin (Ev.bin et Ev.int (Bin.divI (by decide) (by decide))) Ev.int (Bin.modI (by decide))) (by rw [← S_mul]; exact Bin.mulT (p := S [32]) (mulS_ok g3 (by omega) (by simp)))) ?_) Ev.txt ?_)
      (Ev.bin (Ev.bin et Ev.int (Bin.divI (by decide) (by decide))) Ev.int (Bin.modI (by decide))) (Bin.mulT (mulS_ok g5 (by omega) (by have := blk_len tot; omega)))
    · exact addS (l := List.replicate ((tot.fdiv 2).fmod 3).toNat 32) (m := [9]) (by simp; omega)
    · exact addS (l := List.replicate ((tot.fdiv 2).fmod 3).toNat 32 ++ [9]) (m := List.replicate ((tot.fdiv 6).fmod 4).toNat 32) (by simp; omega)
    · exact addS (l := List.replicate ((tot.fdiv 2).fmod 3).toNat 32 ++ [9] ++ List.replicate ((tot.fdiv 6).fmod 4).toNat 32) (m := [9]) (by simp; omega)
  rintro _ _ ⟨rfl, rfl⟩
  refine ⟨[_, _], _, _, _, c2, rfl, ?_⟩
  -- sizes
  refine Ex.assignC (P := fun p ds => ∃ Z, p = .O Z ∧ ds = (Z, LP ((List.range 4).map fun (i : Nat) => .I (sz0 tot + (1 + (i : Int))))) :: (a, WL (ns.map .I)) :: LC ca (some (.I tot)) (some (.T (S (frontL tot)))) none none none none T)
    (EvP.compMap (ca := ca) (ks' := [("step", .local), ("total", .cell)]) (Source.range (m := 1) (k := 5) (c := 4) rfl (EvP.range2 Ev.int Ev.int fun a => ⟨a, rfl, rfl⟩) rfl) ⟨rfl, rfl, ⟨rfl, rfl⟩, rfl, rfl⟩ (by repeat' first | exact trivial | exact c1 | refine ⟨?_, ?_⟩) (fun _ _ _ => trivial) (by decide) _ (fun i C' acc it rs hi => ⟨_, .name rfl, ?_⟩) fun acc => ⟨acc, rfl, rfl⟩) ?_ rfl (fun E => swaps_cell E rfl)
  · exact EvP.of (Ev.bin (Ev.bin (Ev.bin (Ev.cell rfl (show _ = some (ca "total") from rfl) (.tail _ (.tail _ (.tail _ (.tail _ (.head _)))))) Ev.int (Bin.divI (by decide) (by decide))) Ev.int (Bin.modI (by decide))) (Ev.name rfl rfl) Bin.addI) ⟨rfl, Less.refl⟩
  rintro _ _ ⟨Z, rfl, rfl⟩
  refine ⟨[_, _, _, _], _, _, _, c3, rfl, ?_⟩
  rw [sizes_eq]
  -- drawn
  refine Ex.assignComp (ca := ca) (ks' := [("cell", .local)]) (Source.list (ps := ns.map .I) (Ev.name rfl rfl) (.tail _ (.head _)) (fun _ h => h)) ⟨rfl, rfl, ⟨rfl, rfl⟩, rfl, rfl⟩ (by repeat' first | exact trivial | refine ⟨?_, ?_⟩)
    (fun i rs ds => ∃ (ts : List Addr) (D : List Cell), ts.length = i ∧ rs = ts.map .O ∧ TupsAt ts ((ns.map leadOf).take i) D ∧ ds = D ++ ([(Z, LP ((sizesL tot).map .I)), (a, WL (ns.map .I)), (ca "total", CV (some (.I tot))), (ca "front", CV (some (.T (S (frontL tot))))), (ca "sizes", CV (some (.O Z))), (ca "turn", CV none), (ca "starts", CV none), (ca "seen", CV none)] ++ T))
    (fun it i rs ds j D hD => ?_) (by simp [hn]) (fun i rs ds j => ?_) ⟨[], [], rfl, rfl, ⟨by simp, by simp⟩, rfl⟩ (fun i rs ds C' acc it hi j => ?_) (fun Dw rs ds j => ?_) rfl rfl
  · obtain ⟨ts, D', _, _, _, rfl⟩ := j
    exact ⟨_, hD _ (List.mem_append_right _ (.tail _ (.head _))), fun _ h => h⟩
  · obtain ⟨ts, D', h1, rfl, _⟩ := j
    simp [h1]
  · obtain ⟨ts, D', h1, rfl, hT', rfl⟩ := j
    rw [List.length_map] at hi
    have hc : (ns.map PV.I).getD i .N = .I (ns[i]'hi) := by simp [List.getD_eq_getElem?_getD, hi]
    refine ⟨_, .name rfl, ?_⟩
    rw [hc]
    refine EvP.tuple (EvsP.of (Evs.cons (Ev.bin (Ev.name rfl rfl) Ev.int (Bin.modI (by decide))) (Evs.cons (Ev.bin (Ev.bin (Ev.name rfl rfl) Ev.int (Bin.divI (by decide) (by decide))) Ev.int (Bin.modI (by decide))) Evs.nil)) ⟨by simp, fun t => ?_⟩)
    rw [← leadOf_1, ← leadOf_2]
    refine ⟨(t, leadT (leadOf (ns[i]'hi))) :: (D' ++ _), ⟨_, (List.perm_middle (l₁ := [_, _, _])).symm, List.Sublist.refl _⟩, ts ++ [t], (t, leadT (leadOf (ns[i]'hi))) :: D', by simp [h1], by simp, ?_, rfl⟩
    have e : (ns.map leadOf).take (i + 1) = (ns.map leadOf).take i ++ [leadOf (ns[i]'hi)] := by rw [List.take_add_one, List.getElem?_map, List.getElem?_eq_getElem hi]; rfl
    rw [e]
    exact (hT'.mono fun c hc => .tail _ hc).snoc (.head _)
  obtain ⟨ts, D', h1, rfl, hT', rfl⟩ := j
  rw [List.length_map] at h1
  rw [List.length_map, List.take_of_length_le (by simp)] at hT'
  refine Ex.perm (List.Perm.cons _ (List.perm_append_comm_assoc _ _ _)) ?_
  -- texts
  refine Ex.assignCompMap (ca := ca) (ks' := [("tabs", .local), ("blanks", .local), ("front", .cell)]) (Source.list (ps := ts.map .O) (Ev.name rfl rfl) (.head _) (fun _ => LP.wl)) ⟨rfl, rfl, ⟨rfl, rfl⟩, rfl, rfl⟩ (by repeat' first | exact trivial | exact c2 | refine ⟨?_, ?_⟩)
    (fun it D hD => ⟨_, hD _ (.head _), fun _ => LP.wl⟩) (by simp [h1, hn]) (fun i => .T (S (wordAt tot (ns.getD i 0) ++ tail3))) (fun i C' acc it rs hi => ?_) (fun tx => ?_) rfl rfl
  · rw [List.length_map, h1] at hi
    have hc : (ts.map PV.O).getD i .N = .O (ts[i]'(by omega)) := by simp [List.getD_eq_getElem?_getD, h1, hi]
    have hm := hT'.2 i (ts[i]'(by omega)) (leadOf (ns[i]'hi)) (List.getElem?_eq_getElem _) (by rw [List.getElem?_map, List.getElem?_eq_getElem hi]; rfl)
    have hg : ns.getD i 0 = ns[i]'hi := by simp [List.getD_eq_getElem?_getD, hi]
    rw [hc]
    refine ⟨_, .two rfl rfl (.tail _ (List.mem_append_right _ (List.mem_append_left _ hm))), ?_⟩
    have b1 := leadOf_ok ns _ (List.mem_map_of_mem (List.getElem_mem hi))
    have hf := frontL_len tot
    refine EvP.of (p := .T (S (frontL tot ++ List.replicate (leadOf (ns[i]'hi)).1 9 ++ List.replicate (leadOf (ns[i]'hi)).2 32 ++ tail3))) ?_ ⟨by dsimp only; rw [hg]; rfl, Less.refl⟩
    generalize leadOf (ns[i]'hi) = x at b1 ⊢
    exact Ev.bin (Ev.bin (Ev.bin (Ev.cell rfl (show _ = some (ca "front") from rfl) (.tail _ (.tail _ (.tail _ (.tail _ (.tail _ (.tail _ (.tail _ (.head _))))))))) (Ev.bin Ev.txt (Ev.name rfl rfl) (mulC (c := 9) (by omega))) (addS (by simp; omega)))
      (Ev.bin Ev.txt (Ev.name rfl rfl) (mulC (c := 32) (by omega))) (addS (by simp; omega))) Ev.txt (addS (m := tail3) (by simp [tail3]; omega))
  rw [List.length_map, h1, ← hn, texts_eq tot ns, hn]
  -- turn
  obtain ⟨tn, htn⟩ : ∃ tn : Nat, (tn : Int) = (tot.fdiv 13).fmod 3 := ⟨((tot.fdiv 13).fmod 3).toNat, by have := fmod_lo (tot.fdiv 13) (m := 3) (by decide); omega⟩
  obtain ⟨gr, hgr⟩ : ∃ gr : Nat, (gr : Int) = (tot.fdiv 11).fmod 13 := ⟨((tot.fdiv 11).fmod 13).toNat, by have := fmod_lo (tot.fdiv 11) (m := 13) (by decide); omega⟩
  obtain ⟨z0, hz0⟩ : ∃ z0 : Nat, (z0 : Int) = sz0 tot := ⟨(sz0 tot).toNat, Int.toNat_of_nonneg (fmod_lo (tot.fdiv 7) (m := 3) (by decide))⟩
  have htn3 : tn < 3 := by have := fmod_hi (tot.fdiv 13) (m := 3) (by decide); omega
  have hgr3 : gr < 13 := by have := fmod_hi (tot.fdiv 11) (m := 13) (by decide); omega
  have hz3 : z0 < 3 := by have : sz0 tot < 3 := fmod_hi (tot.fdiv 7) (m := 3) (by decide); omega
  refine Ex.assignC (P := fun p ds => p = .I tn ∧ ds = _) (EvP.of (by rw [htn]; exact Ev.bin (Ev.bin (Ev.cell rfl c1 (.tail _ (.tail _ (.tail _ (.tail _ (.head _)))))) Ev.int (Bin.divI (by decide) (by decide))) Ev.int (Bin.modI (by decide))) ⟨rfl, rfl⟩) ?_
  rintro _ _ ⟨rfl, rfl⟩
  refine ⟨[_, _, _, _, _, _, _], _, _, _, c4, rfl, ?_⟩
  refine Ex.perm (List.perm_append_comm_assoc [_, _] [_] _) ?_
  refine Ex.perm (ds := (Z, LP ((sizesL tot).map .I)) :: (ca "starts", CV none) :: (ca "seen", CV none) :: (((tx, LP ((ns.map (wordAt tot)).map fun w => .T (S (w ++ tail3)))) :: (Dw, LP (ts.map .O)) :: (a, WL (ns.map .I)) :: (ca "total", CV (some (.I tot))) :: (ca "front", CV (some (.T (S (frontL tot))))) :: (ca "sizes", CV (some (.O Z))) :: (ca "turn", CV (some (.I tn))) :: D') ++ T))
    (.cons _ (List.perm_append_comm_assoc [_, _, _, _, _, _, _] [_, _] (D' ++ T))) ?_
  generalize hX : ((tx, LP ((ns.map (wordAt tot)).map fun w => .T (S (w ++ tail3)))) :: (Dw, LP (ts.map .O)) :: (a, WL (ns.map .I)) :: (ca "total", CV (some (.I tot))) :: (ca "front", CV (some (.T (S (frontL tot))))) :: (ca "sizes", CV (some (.O Z))) :: (ca "turn", CV (some (.I tn))) :: D') = X
  have mTx : (tx, LP ((ns.map (wordAt tot)).map fun w => .T (S (w ++ tail3)))) ∈ X := hX ▸ .head _
  have mD : (Dw, LP (ts.map .O)) ∈ X := hX ▸ .tail _ (.head _)
  have mTot : (ca "total", CV (some (.I tot))) ∈ X := hX ▸ .tail _ (.tail _ (.tail _ (.head _)))
  have mFr : (ca "front", CV (some (.T (S (frontL tot))))) ∈ X := hX ▸ .tail _ (.tail _ (.tail _ (.tail _ (.head _))))
  have mSz : (ca "sizes", CV (some (.O Z))) ∈ X := hX ▸ .tail _ (.tail _ (.tail _ (.tail _ (.tail _ (.head _)))))
  have mTn : (ca "turn", CV (some (.I tn))) ∈ X := hX ▸ .tail _ (.tail _ (.tail _ (.tail _ (.tail _ (.tail _ (.head _))))))
  have hTX : TupsAt ts (ns.map leadOf) X := hT'.mono fun c hc => hX ▸ .tail _ (.tail _ (.tail _ (.tail _ (.tail _ (.tail _ (.tail _ hc))))))
  clear hX hT'
  have hW : (ns.map (wordAt tot)).length = 4 := by simp [hn]
  have hWw : ∀ w ∈ ns.map (wordAt tot), Ws w ∧ w.length ≤ 90 := fun w hw => wordAt_ok hw
  -- rows
  obtain ⟨fd28, d28⟩ := C.d28
  obtain ⟨fd37, d37⟩ := C.d37
  obtain ⟨fd46, d46⟩ := C.d46
  obtain ⟨fd252, d252⟩ := C.d252
  refine Ex.assignP (EvP.list (Q := fun p ds => ∃ (R r0 : Addr) (m0 : List Int), m0.Perm ((ns.map leadOf).map fun (x : Lead) => hueL tn x.1 x.2) ∧ m0.Pairwise (· ≤ ·) ∧ p = .O R ∧ ds = (R, LP [.O r0]) :: (r0, LI m0) :: (Z, LP ((sizesL tot).map .I)) :: (ca "starts", CV none) :: (ca "seen", CV none) :: (X ++ T))
    (EvsP.cons (P := fun p ds => ∃ (r0 : Addr) (m0 : List Int), m0.Perm ((ns.map leadOf).map fun (x : Lead) => hueL tn x.1 x.2) ∧ m0.Pairwise (· ≤ ·) ∧ p = .O r0 ∧ ds = (r0, LI m0) :: (Z, LP ((sizesL tot).map .I)) :: (ca "starts", CV none) :: (ca "seen", CV none) :: (X ++ T))
      (EvP.defP (R := fun ps ds => ps = [.O Dw, .I tn, .I gr] ∧ ds = (Z, LP ((sizesL tot).map .I)) :: (ca "starts", CV none) :: (ca "seen", CV none) :: (X ++ T)) d252.fn
        (EvsP.of (Evs.cons (Ev.name rfl rfl) (Evs.cons (Ev.cell rfl c4 (.tail _ (.tail _ (.tail _ (List.mem_append_left _ mTn))))) (Evs.cons (by rw [hgr]; exact Ev.bin (Ev.bin (Ev.cell rfl c1 (.tail _ (.tail _ (.tail _ (List.mem_append_left _ mTot))))) Ev.int (Bin.divI (by decide) (by decide))) Ev.int (Bin.modI (by decide))) Evs.nil))) ⟨rfl, rfl⟩)
        (fun ps ds vs h j hv I G' kk => ?_))
      (fun p ds j => EvsP.of Evs.nil ?_))) ?_
  · obtain ⟨rfl, rfl⟩ := j
    cases hv with | cons y hv => cases hv with | cons y2 hv => cases hv with | cons y3 hv => cases hv with | nil =>
    cases y
    obtain ⟨t2, rfl⟩ := y2
    obtain ⟨t3, rfl⟩ := y3
    exact hues_ok (d := d) (u := u) d252 d28 d37 d46 C.f29 C.f38 (hA'.weaken (by omega) (by omega)) G I.2 (.tail _ (.tail _ (.tail _ (.tail _ (List.mem_append_left _ mD))))) (by simp [hTX.1]) (by simp [hn]) (leadOf_ok ns) (fun i t x e1 e2 => .tail _ (.tail _ (.tail _ (.tail _ (List.mem_append_left _ (hTX.2 i t x e1 e2)))))) htn3 hgr3
      fun r0 h' m0 p1 p2 O' => kk (.O r0) _ _ _ ⟨r0, m0, p1, p2, rfl, rfl⟩ rfl ⟨I.1, O'.swap⟩
  · obtain ⟨r0, m0, p1, p2, rfl, rfl⟩ := j
    exact ⟨by simp, fun R => ⟨R, r0, m0, p1, p2, rfl, rfl⟩⟩
  rintro _ _ ⟨R, r0, m0, p1, p2, rfl, rfl⟩
  obtain ⟨fd257, d257⟩ := C.d257
  refine Ex.forList (ps := (sizesL tot).map .I) (Ev.cell rfl c3 (.tail _ (.tail _ (.tail _ (.tail _ (.tail _ (List.mem_append_left _ mSz))))))) (fun i pl ds => ∃ (as : List Addr) (rs : List (List Int)) (D : List Cell) (T' : List Cell), as.length = i + 1 ∧ RowsAt as rs D ∧ (∀ (j : Nat) (m : List Int), rs[j]? = some m → m.Perm (rowL tot ns tn z0 j) ∧ m.Pairwise (· ≤ ·)) ∧ TabOk (expQ fd) T' ∧
      ds = (R, LP (as.map .O)) :: (D ++ ((Z, LP ((sizesL tot).map .I)) :: (ca "starts", CV none) :: (ca "seen", CV none) :: (X ++ T'))) ∧ PicksQ pl [("rows", .O R), ("texts", .O tx), ("drawn", .O Dw)]) ?_ ?_ ?_ ?_
  · rintro i pl _ ⟨as, rs, D', T', _, _, _, _, rfl, _⟩
    exact .tail _ (List.mem_append_right _ (.head _))
  · refine ⟨[r0], [m0], [(r0, LI m0)], T, rfl, ⟨rfl, fun i r m e1 e2 => ?_⟩, fun j m e => ?_, hT, rfl, rfl, rfl, rfl, trivial⟩
    · match i with
      | 0 => cases e1; cases e2; exact .head _
      | i + 1 => simp at e1
    · match j with
      | 0 => cases e; exact ⟨p1, p2⟩
      | j + 1 => simp at e
  · rintro i p it pl _ hi ⟨as, rs, D1, T1, e1, hR, hS, hT1, rfl, hpl⟩
    have hi4 : i < 4 := by have := (List.getElem?_eq_some_iff.mp hi).1; simpa using this
    have hp : p = .I ((z0 + (i + 1) : Nat) : Int) := by
      rw [sizesL, ← hz0] at hi
      match i, hi4 with
      | 0, _ => cases hi; rfl
      | 1, _ => cases hi; rfl
      | 2, _ => cases hi; rfl
      | 3, _ => cases hi; rfl
    subst hp
    refine Ex.names [("size", .I ((z0 + (i + 1) : Nat) : Int)), ("rows", .O R), ("texts", .O tx), ("drawn", .O Dw)] ⟨rfl, hpl.1, hpl.2.1, hpl.2.2.1, trivial⟩ ?_
    refine Ex.exprP (EvP.append (ps := as.map .O) (P := fun p ds => ∃ (r : Addr) (m : List Int) (T2 : List Cell), m.Perm (rowL tot ns tn z0 (i + 1)) ∧ m.Pairwise (· ≤ ·) ∧ TabOk (expQ fd) T2 ∧ p = .O r ∧ ds = (it, LIt Z (i + 1)) :: (R, LP (as.map .O)) :: ((r, LI m) :: (D1 ++ ((Z, LP ((sizesL tot).map .I)) :: (ca "starts", CV none) :: (ca "seen", CV none) :: (X ++ T2)))))
      (Q := fun p ds => p = .N ∧ ∃ (r : Addr) (m : List Int) (T2 : List Cell), m.Perm (rowL tot ns tn z0 (i + 1)) ∧ m.Pairwise (· ≤ ·) ∧ TabOk (expQ fd) T2 ∧ ds = (it, LIt Z (i + 1)) :: (R, LP (as.map .O ++ [.O r])) :: ((r, LI m) :: (D1 ++ ((Z, LP ((sizesL tot).map .I)) :: (ca "starts", CV none) :: (ca "seen", CV none) :: (X ++ T2))))) (Ev.name rfl rfl) (.tail _ (.head _))
      (EvP.defP (R := fun ps ds => ps = [.O tx, .I ((z0 + (i + 1) : Nat) : Int), .I ((((z0 + (i + 1) : Nat) : Int) + tot.fdiv 5).fmod 2)] ∧ ds = (it, LIt Z (i + 1)) :: (R, LP (as.map .O)) :: (D1 ++ ((Z, LP ((sizesL tot).map .I)) :: (ca "starts", CV none) :: (ca "seen", CV none) :: (X ++ T1)))) d257.fn
        (EvsP.of (Evs.cons (Ev.name rfl rfl) (Evs.cons (Ev.name rfl rfl) (Evs.cons (Ev.bin (Ev.bin (Ev.name rfl rfl) (Ev.bin (Ev.cell rfl c1 (.tail _ (.tail _ (List.mem_append_right _ (.tail _ (.tail _ (.tail _ (List.mem_append_left _ mTot)))))))) Ev.int (Bin.divI (by decide) (by decide))) Bin.addI) Ev.int (Bin.modI (by decide))) Evs.nil))) ⟨rfl, rfl⟩)
        (fun ps ds vs h j hv I G' kk => ?_)) ?_) (fun p cs' j => j.1) (fun ds j => ?_)
    · obtain ⟨rfl, rfl⟩ := j
      cases hv with | cons y hv => cases hv with | cons y2 hv => cases hv with | cons y3 hv => cases hv with | nil =>
      cases y
      obtain ⟨t2, rfl⟩ := y2
      obtain ⟨t3, rfl⟩ := y3
      have O1 := I.2
      refine columns_ok (d := d) (u := u) (T := T1) (cs := (L, NP _) :: (it, LIt Z (i + 1)) :: (R, LP (as.map .O)) :: (D1 ++ ((Z, LP ((sizesL tot).map .I)) :: (ca "starts", CV none) :: (ca "seen", CV none) :: X))) C.toColF d257 (hA'.weaken (by omega) (by omega)) G
        (O1.perm (by rw [show ∀ Y : List Cell, D1 ++ ((Z, LP ((sizesL tot).map .I)) :: (ca "starts", CV none) :: (ca "seen", CV none) :: (X ++ Y)) = (D1 ++ ((Z, LP ((sizesL tot).map .I)) :: (ca "starts", CV none) :: (ca "seen", CV none) :: X)) ++ Y from fun Y => by simp]; exact List.perm_append_comm (l₁ := _ :: _ :: _ :: _))) hT1
        (.tail _ (.tail _ (.tail _ (List.mem_append_right _ (.tail _ (.tail _ (.tail _ mTx))))))) (by omega) (by omega) hW hWw fun r T2 h' m hT2 q1 q2 O' => kk (.O r) _ h' _ ⟨r, m, T2, q1, q2, hT2, rfl, rfl⟩ rfl ⟨I.1, O'.perm ?_⟩
      rw [show ∀ Y : List Cell, D1 ++ ((Z, LP ((sizesL tot).map .I)) :: (ca "starts", CV none) :: (ca "seen", CV none) :: (X ++ Y)) = (D1 ++ ((Z, LP ((sizesL tot).map .I)) :: (ca "starts", CV none) :: (ca "seen", CV none) :: X)) ++ Y from fun Y => by simp]
      exact (List.Perm.cons _ (List.perm_append_comm (l₂ := _ :: _ :: _ :: _))).trans (List.perm_middle (l₁ := [_, _, _])).symm
    · rintro _ _ ⟨r, m, T2, q1, q2, q3, rfl, rfl⟩
      exact ⟨[_], _, _, rfl, by simp [e1]; omega, rfl, r, m, T2, q1, q2, q3, rfl⟩
    · obtain ⟨_, r, m, T2, q1, q2, q3, rfl⟩ := j
      refine Turn.next ⟨as ++ [r], rs ++ [m], (r, LI m) :: D1, T2, by simp [e1], (hR.mono fun c hc => .tail _ hc).snoc (.head _), fun j m' e => ?_, q3, by simp, rfl, rfl, rfl, trivial⟩ (pl' := [("rows", .O R), ("texts", .O tx), ("drawn", .O Dw)]) ⟨rfl, rfl, rfl, trivial⟩
      have hrs := hR.1
      by_cases hj : j < rs.length
      · rw [List.getElem?_append_left hj] at e; exact hS j m' e
      · have hlt := (List.getElem?_eq_some_iff.mp e).1
        rw [List.length_append, List.length_singleton] at hlt
        have hj' : j = i + 1 := by omega
        subst hj'
        rw [List.getElem?_append_right (by omega), show i + 1 - rs.length = 0 by omega] at e
        cases e
        exact ⟨q1, q2⟩
  rintro pl _ ⟨as, rs, D1, T1, e1, hR, hS, hT1, rfl, hpl⟩
  rw [List.length_map] at e1
  have e5 : as.length = 5 := e1
  clear e1
  refine Ex.names [("rows", .O R), ("drawn", .O Dw)] ⟨hpl.1, hpl.2.2.1, trivial⟩ ?_
  -- the cells in their order: starts, seen, Z ahead
  refine Ex.perm (ds := (ca "starts", CV none) :: (ca "seen", CV none) :: (Z, LP ((sizesL tot).map .I)) :: (R, LP (as.map .O)) :: (D1 ++ (X ++ T1)))
    ((List.Perm.cons _ (List.perm_append_comm_assoc D1 [_, _, _] (X ++ T1))).trans ((List.perm_append_comm_assoc [_] [_, _, _] _).trans (List.perm_append_comm_assoc [_] [_, _] _))) ?_
  refine Ex.weak (l₁ := [_, _]) (fun _ => LP.ints) ?_
  obtain ⟨fd238, d238⟩ := C.d238
  obtain ⟨fd245, d245⟩ := C.d245
  -- starts
  have hf8 := frontL_len tot
  refine Ex.assignC (P := fun p ds => ∃ St, p = .O St ∧ ds = (St, LP ((List.range 4).map fun (i : Nat) => .I ((typedL (z0 + (i + 1)) (frontL tot)).length : Nat))) :: (ca "starts", CV none) :: (ca "seen", CV none) :: (Z, LI (sizesL tot)) :: (R, LP (as.map .O)) :: (D1 ++ (X ++ T1)))
    (EvP.compMap (ca := ca) (ks' := [("size", .local), ("front", .cell), ("len", .globalImplicit), ("_law_typed", .globalImplicit)]) (Source.list (R := LI (sizesL tot)) (ps := (sizesL tot).map .I) (Ev.cell rfl c3 (.tail _ (.tail _ (.tail _ (.tail _ (List.mem_append_right _ (List.mem_append_left _ mSz))))))) (.tail _ (.tail _ (.head _))) (fun _ h => LI.wl h)) ⟨rfl, rfl, ⟨rfl, rfl⟩, rfl, rfl⟩ (by repeat' first | exact trivial | exact c2 | refine ⟨?_, ?_⟩)
      (fun it D hD => ⟨_, hD _ (.tail _ (.tail _ (.head _))), fun _ h => LI.wl h⟩) (by simp) (fun (i : Nat) => .I ((typedL (z0 + (i + 1)) (frontL tot)).length : Nat)) (fun i C' acc it rs hi => ?_) fun acc => ⟨acc, rfl, rfl⟩) ?_ rfl (fun E => swaps_cell E rfl)
  · have hi4 : i < 4 := by simpa using hi
    have hp : ((sizesL tot).map PV.I).getD i .N = .I ((z0 + (i + 1) : Nat) : Int) := by
      rw [sizesL, ← hz0]
      match i, hi4 with
      | 0, _ => rfl
      | 1, _ => rfl
      | 2, _ => rfl
      | 3, _ => rfl
    refine ⟨_, .name rfl, ?_⟩
    rw [hp]
    have hlen : (typedL (z0 + (i + 1)) (frontL tot)).length ≤ (z0 + (i + 1)) * (frontL tot).length := typedL_len (by omega) _
    have hlen2 : (z0 + (i + 1)) * (frontL tot).length ≤ 10 * 8 := Nat.mul_le_mul (by omega) hf8
    refine EvP.of (Ev.lenT (t := S (typedL (z0 + (i + 1)) (frontL tot))) (Ev.def_ d238.fn (Evs.cons (Ev.cell rfl (show _ = some (ca "front") from rfl) (.tail _ (.tail _ (.tail _ (.tail _ (.tail _ (.tail _ (.tail _ (List.mem_append_right _ (List.mem_append_left _ mFr)))))))))) (Evs.cons (Ev.name rfl rfl) Evs.nil)) fun vs h hv I G' kk => ?_) (by rw [S_len]; omega)) ⟨by rw [S_len], Less.refl⟩
    cases hv with | cons y hv => cases hv with | cons z hv => cases hv with | nil =>
    obtain ⟨t, rfl⟩ := y
    obtain ⟨t', rfl⟩ := z
    exact typed_ok (d := d) (u := u) d238 (hA'.weaken (by omega) (by omega)) G I.2 (by omega) (by omega) (by omega) fun t h' O' => kk _ _ ⟨t, rfl⟩ ⟨I.1, O'⟩
  rintro _ _ ⟨St, rfl, rfl⟩
  refine ⟨[_], _, _, _, c5, rfl, ?_⟩
  rw [starts_eq]
  refine Ex.weak (l₁ := []) (fun _ => LP.ints) ?_
  -- seen
  refine Ex.assignC (P := fun p ds => ∃ (Sn : Addr) (ls : List Addr) (E : List Cell), RowsAt ls ((ns.map leadOf).map fun (x : Lead) => looksL (startsL tot z0) (sizesL tot) tn x.1 x.2) E ∧ p = .O Sn ∧ ds = (Sn, LP (ls.map .O)) :: (E ++ ((St, LI (startsL tot z0)) :: (ca "starts", CV (some (.O St))) :: (ca "seen", CV none) :: (Z, LI (sizesL tot)) :: (R, LP (as.map .O)) :: (D1 ++ (X ++ T1)))))
    (EvP.comp (ca := ca) (ks' := [("tabs", .local), ("blanks", .local), ("starts", .cell), ("sizes", .cell), ("turn", .cell), ("_law_looks", .globalImplicit)]) (Source.list (ps := ts.map .O) (Ev.name rfl rfl) (.tail _ (.tail _ (.tail _ (.tail _ (.tail _ (List.mem_append_right _ (List.mem_append_left _ mD))))))) (fun _ => LP.wl)) ⟨rfl, rfl, ⟨rfl, rfl⟩, rfl, rfl⟩ (by repeat' first | exact trivial | exact c3 | exact c4 | exact c5 | refine ⟨?_, ?_⟩)
      (fun i rs ds => ∃ (ls : List Addr) (E : List Cell), ls.length = i ∧ RowsAt ls (((ns.map leadOf).take i).map fun (x : Lead) => looksL (startsL tot z0) (sizesL tot) tn x.1 x.2) E ∧ rs = ls.map .O ∧ ds = E ++ ((St, LI (startsL tot z0)) :: (ca "starts", CV (some (.O St))) :: (ca "seen", CV none) :: (Z, LI (sizesL tot)) :: (R, LP (as.map .O)) :: (D1 ++ (X ++ T1))))
      (fun it i rs ds j D hD => ?_) (by simp [hTX.1, hn]) (fun i rs ds j => ?_) ⟨[], [], rfl, ⟨by simp, by simp⟩, rfl, rfl⟩ (fun i rs ds C' acc it hi j => ?_) (fun Sn rs ds j => ?_)) ?_ rfl (fun E => swaps_cell E rfl)
  · obtain ⟨ls, E, _, _, _, rfl⟩ := j
    exact ⟨_, hD _ (List.mem_append_right _ (.tail _ (.tail _ (.tail _ (.tail _ (.tail _ (List.mem_append_right _ (List.mem_append_left _ mD)))))))), fun _ => LP.wl⟩
  · obtain ⟨ls, E, h1, _, rfl, _⟩ := j
    simp [h1]
  · obtain ⟨ls, E, h1, h2, rfl, rfl⟩ := j
    rw [List.length_map, hTX.1, List.length_map] at hi
    have hti : i < ts.length := by rw [hTX.1, List.length_map]; exact hi
    have hc : (ts.map PV.O).getD i .N = .O (ts[i]'hti) := by simp [List.getD_eq_getElem?_getD, hti]
    have hm := hTX.2 i (ts[i]'hti) (leadOf (ns[i]'hi)) (List.getElem?_eq_getElem _) (by rw [List.getElem?_map, List.getElem?_eq_getElem hi]; rfl)
    have b1 := leadOf_ok ns _ (List.mem_map_of_mem (List.getElem_mem hi))
    have ex : ((ns.map leadOf).take (i + 1)).map (fun (x : Lead) => looksL (startsL tot z0) (sizesL tot) tn x.1 x.2) = ((ns.map leadOf).take i).map (fun (x : Lead) => looksL (startsL tot z0) (sizesL tot) tn x.1 x.2) ++ [looksL (startsL tot z0) (sizesL tot) tn (leadOf (ns[i]'hi)).1 (leadOf (ns[i]'hi)).2] := by
      rw [List.take_add_one, List.getElem?_map, List.getElem?_eq_getElem hi, List.map_append]; rfl
    rw [hc]
    refine ⟨_, .two rfl rfl (List.mem_append_right _ (.tail _ (.tail _ (.tail _ (.tail _ (.tail _ (List.mem_append_right _ (List.mem_append_left _ hm)))))))), ?_⟩
    have b2 := b1.2
    have b1 := b1.1
    refine EvP.defP (R := fun ps ds => ps = [.O St, .O Z, .I tn, .I (leadOf (ns[i]'hi)).1, .I (leadOf (ns[i]'hi)).2] ∧ ds = (acc, LP (ls.map .O)) :: (it, LIt Dw (i + 1)) :: (L, NP _) :: (E ++ ((St, LI (startsL tot z0)) :: (ca "starts", CV (some (.O St))) :: (ca "seen", CV none) :: (Z, LI (sizesL tot)) :: (R, LP (as.map .O)) :: (D1 ++ (X ++ T1))))) d245.fn
      (EvsP.of (Evs.cons (Ev.cell rfl (show _ = some (ca "starts") from rfl) (.tail _ (.tail _ (.tail _ (List.mem_append_right _ (.tail _ (.head _))))))) (Evs.cons (Ev.cell rfl (show _ = some (ca "sizes") from rfl) (.tail _ (.tail _ (.tail _ (List.mem_append_right _ (.tail _ (.tail _ (.tail _ (.tail _ (.tail _ (List.mem_append_right _ (List.mem_append_left _ mSz))))))))))))  (Evs.cons (Ev.cell rfl (show _ = some (ca "turn") from rfl) (.tail _ (.tail _ (.tail _ (List.mem_append_right _ (.tail _ (.tail _ (.tail _ (.tail _ (.tail _ (List.mem_append_right _ (List.mem_append_left _ mTn))))))))))))  (Evs.cons (Ev.name rfl rfl) (Evs.cons (Ev.name rfl rfl) Evs.nil))))) ⟨rfl, rfl⟩)
      (fun ps ds vs h j hv I G' kk => ?_)
    obtain ⟨rfl, rfl⟩ := j
    cases hv with | cons y1 hv => cases hv with | cons y2 hv => cases hv with | cons y3 hv => cases hv with | cons y4 hv => cases hv with | cons y5 hv => cases hv with | nil =>
    cases y1
    cases y2
    obtain ⟨t3, rfl⟩ := y3
    obtain ⟨t4, rfl⟩ := y4
    obtain ⟨t5, rfl⟩ := y5
    refine looks_ok (d := d) (u := u) d245 (hA'.weaken (by omega) (by omega)) G I.2 (.tail _ (.tail _ (.tail _ (.tail _ (List.mem_append_right _ (.head _)))))) (.tail _ (.tail _ (.tail _ (.tail _ (List.mem_append_right _ (.tail _ (.tail _ (.tail _ (.head _))))))))) rfl rfl htn3 b1 b2 fun K h' O' => kk (.O K) _ h' _ ⟨(K, LI _) :: E ++ _, ⟨_, List.perm_append_comm_assoc [_] [_, _, _] _, List.Sublist.refl _⟩, ls ++ [K], (K, LI _) :: E, by simp [h1], ?_, by simp, rfl⟩ rfl ⟨I.1, O'.swap⟩
    rw [ex]
    exact (h2.mono fun c hc => .tail _ hc).snoc (.head _)
  · obtain ⟨ls, E, h1, h2, rfl, rfl⟩ := j
    rw [List.length_map, hTX.1, List.take_length] at h2
    exact ⟨Sn, ls, E, h2, rfl, rfl⟩
  rintro _ _ ⟨Sn, ls, E, hE, rfl, rfl⟩
  refine ⟨(Sn, LP (ls.map .O)) :: (E ++ [(St, LI (startsL tot z0)), (ca "starts", CV (some (.O St)))]), _, none, (Z, LI (sizesL tot)) :: (R, LP (as.map .O)) :: (D1 ++ (X ++ T1)), c6, by simp, ?_⟩
  obtain ⟨fd264, d264⟩ := C.d264
  obtain ⟨fd64, d64⟩ := C.d64
  have lr : rs.length = 5 := by rw [← hR.1]; exact e5
  have mX : ∀ c ∈ X, c ∈ (Sn, LP (ls.map .O)) :: (E ++ [(St, LI (startsL tot z0)), (ca "starts", CV (some (.O St)))]) ++ (ca "seen", CV (some (.O Sn))) :: (Z, LI (sizesL tot)) :: (R, LP (as.map .O)) :: (D1 ++ (X ++ T1)) := fun c hc => List.mem_append_right _ (.tail _ (.tail _ (.tail _ (List.mem_append_right _ (List.mem_append_left _ hc)))))
  refine law_tail (d := d) (u := u) (n := tot) (z0 := z0) (tn := tn) (ts := ts) (ls := ns.map leadOf) (as := as) (ks := ls) (rs := rs) (St := St) (Z := Z) (Sn := Sn) (ca := ca) d264 d46 C.f38 d64 C.f56 d245 (hA'.weaken (by omega) (by omega)) G c3 c4 c5 c6
    (List.mem_append_right _ (.tail _ (.tail _ (.head _)))) (hR.mono fun c hc => List.mem_append_right _ (.tail _ (.tail _ (.tail _ (List.mem_append_left _ hc))))) e5 (mX _ mD) (hTX.mono mX) (leadOf_ok ns) (by simp [hn])
    (List.mem_append_left _ (.head _)) (hE.mono fun c hc => List.mem_append_left _ (.tail _ (List.mem_append_left _ hc))) (List.mem_append_left _ (.tail _ (List.mem_append_right _ (.head _)))) (List.mem_append_right _ (.tail _ (.head _)))
    (mX _ mSz) (mX _ mTn) (List.mem_append_left _ (.tail _ (List.mem_append_right _ (.tail _ (.head _))))) (List.mem_append_right _ (.head _)) hz0 (fun j m e => ?_) htn3 hz3 (fun h O => ?_)
  · obtain ⟨q1, q2⟩ := hS j m e
    have hj : j < 5 := by rw [← lr]; exact (List.getElem?_eq_some_iff.mp e).1
    rw [rowL_is hz0 hj] at q1
    exact ⟨q1, q2⟩
  · exact k T1 h hT1 (O.sub ((((((List.sublist_append_right X T1).trans (List.sublist_append_right D1 _)).cons _).cons _).cons _).trans (List.sublist_append_right _ _)))
end

/-! T17said -/
/-! ## the law is well said: look by look -/
abbrev LW : OpenLaw := PySem.Challenge.rw_wy0060_01
abbrev lkF : Look := { strict := false, foot := none, bare := [] }
theorem noRoad_app (lk : Look) : ∀ l r : List Stmt, noRoadLSs lk (l ++ r) = (noRoadLSs lk l && noRoadLSs lk r)
  | [], r => rfl
  | s :: l, r => by
    show (noRoadLS lk s && noRoadLSs lk (l ++ r)) = ((noRoadLS lk s && noRoadLSs lk l) && noRoadLSs lk r)
    rw [noRoad_app lk l r, Bool.and_assoc]
theorem ofString_mk (cs : List Char) : Str.ofString (String.ofList cs) = ⟨⟨cs.map Char.toNat⟩⟩ := by
  exact Fast.ofString_ofList cs
theorem noRoad_long {lk : Look} {x : Str} {p p2 pos : Pos} {k : Nat} {cs : List Char} (h : noRoadLSs lk [.Assign [.Name x p] (.Constant (.str ⟨⟨cs.map Char.toNat⟩⟩) k p2) pos] = true) :
    noRoadLSs lk [.Assign [.Name x p] (.Constant (.str (Str.ofString (String.ofList cs))) k p2) pos] = true := by
  rw [ofString_mk]; exact h
theorem roadStr_list (l : List Nat) : roadStr ⟨⟨l⟩⟩ = (l.any (fun c => c == 123 || c == 125) || (l.any (· == 46) && !l.any (· ≤ 32))) := by
  unfold roadStr
  simp only [← Array.any_toList]
/-- a long text that is no road, by its list of signs -/
theorem noRoad_text {lk : Look} {x : Str} {p p2 pos : Pos} {k : Nat} {cs : List Char} (h0 : (lk.stores [.Name x p] && noRoadLs lk [.Name x p]) = true) (h1 : (underscores ⟨⟨cs.map Char.toNat⟩⟩ || lk.word ⟨⟨cs.map Char.toNat⟩⟩) = true)
    (h2 : ((cs.map Char.toNat).any (fun c => c == 123 || c == 125) || ((cs.map Char.toNat).any (· == 46) && !(cs.map Char.toNat).any (· ≤ 32))) = false) : noRoadLSs lk [.Assign [.Name x p] (.Constant (.str (Str.ofString (String.ofList cs))) k p2) pos] = true := by
  refine noRoad_long ?_
  show (((lk.stores [.Name x p] && noRoadLs lk [.Name x p]) && ((underscores ⟨⟨cs.map Char.toNat⟩⟩ || lk.word ⟨⟨cs.map Char.toNat⟩⟩) && (!roadStr ⟨⟨cs.map Char.toNat⟩⟩ || _))) && true) = true
  rw [h0, h1, roadStr_list, h2]
  rfl
set_option maxRecDepth 100000
theorem said1 : sreFenced LW.row.prog.main = true := by kernel_rfl
theorem said2 : ((moduleNames LW.row.prog.main.body).isEmpty || lookedIntoSs (moduleNames LW.row.prog.main.body) LW.row.prog.main.body) = true := by kernel_rfl
theorem said3 : namesResolve LW.row.prog = true := by kernel_rfl
theorem said4 : (LW.row.prog.boundNames.all (fun n => !worldNames.contains n)) = true := by kernel_rfl
theorem said5a : (!(importedModules LW.row.prog.main.body).all cThrough.contains) = false := by kernel_rfl
theorem said5b : (["vars", "dir", "locals"] : List Str).filter (readsOut LW.row.prog LW.row.prog.main.body) = [] := by kernel_rfl
theorem said5c : noRoadLSs lkF (PG.main.body.take 10) = true := by rw [Fast.te8326940854005059898]; kernel_rfl
theorem said5d : noRoadLSs lkF (PG.main.body.drop 14) = true := by rw [Fast.te8326940854005059898]; kernel_rfl
theorem said5e : noRoadLSs lkF [stmtAt 10] = true := noRoad_text (by kernel_rfl) (by kernel_rfl) (by kernel_rfl)
theorem said5f : noRoadLSs lkF [stmtAt 11] = true := noRoad_long (by rw [Fast.te8326940854005059898]; kernel_rfl)
theorem said5g : noRoadLSs lkF [stmtAt 12] = true := noRoad_text (by kernel_rfl) (by kernel_rfl) (by kernel_rfl)
theorem said5h : noRoadLSs lkF [stmtAt 13] = true := noRoad_text (by kernel_rfl) (by kernel_rfl) (by kernel_rfl)
theorem said5 : noRoadLSs lkF PG.main.body = true := by
  have e : PG.main.body = PG.main.body.take 10 ++ ([stmtAt 10] ++ ([stmtAt 11] ++ ([stmtAt 12] ++ ([stmtAt 13] ++ PG.main.body.drop 14)))) := rfl
  rw [e, noRoad_app, noRoad_app, noRoad_app, noRoad_app, noRoad_app, said5c, said5d, said5e, said5f, said5g, said5h]
  rfl
theorem said5' : noRoadLSs { strict := false, foot := none, bare := [] } LW.row.prog.main.body = true := said5
theorem said6 : (namesMeet LW.row.prog LW.row.prog.main.body fun _ n => attrL n) = true := by
  rw [Fast.te17119622794617984870, Fast.te17868728402115742887]
  kernel_rfl
theorem said5'' : noRoadLSs { strict := !(importedModules LW.row.prog.main.body).all cThrough.contains, foot := none, bare := (["vars", "dir", "locals"] : List Str).filter (readsOut LW.row.prog LW.row.prog.main.body) } LW.row.prog.main.body = true := by
  rw [said5a, said5b]; exact said5'
theorem saidLooks : looksOpen LW.row.prog = true := look_both (look_both (look_both (look_both (look_both said1 said2) said3) said4) said5'') said6
theorem saidPart : LW.row.partSaid = true := by
  unfold OpenRow.partSaid
  rw [saidLooks]
  kernel_rfl
theorem said20 : LW.row.prog.boundNames.contains LW.row.name = true := by kernel_rfl
theorem said21 : (!startupNames.contains LW.row.name) = true := by kernel_rfl
theorem saidRow : LW.row.wellSaid = true := by
  unfold OpenRow.wellSaid
  rw [saidPart, said20, said21]; rfl
theorem said22 : decide (LW.foot ≤ (behindTheImports LW.prog).length) = true := by kernel_rfl
theorem said23 : LW.footing.all footLine = true := by kernel_rfl
theorem said24 : noClassBlock LW.prog LW.footing = true := by kernel_rfl
theorem said25 : LW.most.all (fun n => decide (63 ≤ n)) = true := by kernel_rfl
theorem said26 : LW.bound.all (fun n => decide (2 ^ 63 ≤ n)) = true := by kernel_rfl
theorem said27 : noRoadLSs { strict := true, foot := some LW.bound', writes := LW.writes, may := LW.may } LW.footing = true := by
  rw [Fast.te8326940854005059898]
  kernel_rfl
theorem said28 : defStands LW.about LW.above = true := by kernel_rfl
theorem said29 : LW.namesIt = true := by kernel_rfl
theorem said30 : ((["type", "isinstance", "issubclass", "getattr", "hasattr"] : List Str).all (fun n => LW.about != [n])) = true := by kernel_rfl
theorem said31 : (LW.bound'.all (fun n => !builtinNamed n || LW.about == [n] || !LW.reads n)) = true := by kernel_rfl
theorem said32 : (!LW.writes || (LW.prog.main.body.flatMap importedNames).all fun n => !LW.reads n) = true := by kernel_rfl
theorem said33 : ((LW.prog.main.body.flatMap importedNames).all (fun n => !LW.reads n || (drawsOf n LW.prog.main.body).all fun mn => mn.2 != ("attrgetter" : Str) && mn.2 != ("methodcaller" : Str))) = true := by kernel_rfl
theorem said34 : (namesMeet LW.prog LW.footing (fun sc n => (!(["type", "isinstance", "issubclass", "getattr", "hasattr"] : List Str).contains n || sc.names.lookup n == some .globalImplicit) &&
    (LW.may != some n || sc.kind == .module || sc.names.lookup n == some .globalImplicit))) = true := by
  rw [Fast.te17119622794617984870]
  kernel_rfl
theorem said35 : LW.own.contains LW.name = true := by kernel_rfl
theorem said36 : (LW.own.eraseDups.length == LW.own.length) = true := by kernel_rfl
theorem said37 : (LW.own.all (fun n => !builtinNamed n)) = true := by kernel_rfl
theorem said38 : (namesMeet LW.prog LW.above (fun _ n => !LW.own.contains n)) = true := by
  rw [Fast.te17119622794617984870]
  kernel_rfl
theorem said39 : (namesMeet LW.prog LW.footing fun sc n => sc.kind == .module || sc.names.lookup n != some .globalExplicit) = true := by
  rw [Fast.te17119622794617984870]
  kernel_rfl
theorem said : LW.wellSaid = true := by
  unfold OpenLaw.wellSaid
  rw [saidRow, said22, said23, said24, said25, said26, said27, said28, said29, said30, said31, said32, said33, said34, said35, said36, said37, said38, said39]
  rfl

/-! T17top -/
/-! ## what the top's run leaves -/
def QV : Program := view PG [24]
def loose : List Str := ["_wall", "rgb_to_hls", "insort_right", "bisect_right", "insort_left", "bisect_left", "IS_CHARACTER_JUNK", "file_template_difflib", "styles_difflib", "table_template_difflib", "legend_difflib", "HtmlDiff", "Whitespace", "_law_cells", "_law_typed", "_law_looks", "_law_hues", "_law_columns", "_law_least"]
def XtF : Shared → Bool := fun s => xlAt QV [] s && recOk [] s
def fobj (st : Stmt) (qual : Str) (dV kV pm : Value) (c : Addr) : Obj := match st with
  | .FunctionDef name params body _ _ _ scope _ _ _ => { cls := .type "function", data := .func { name := name, qualname := qual, params := params, body := .stmts body, scope := scope, globals := 3, closure := [], defaults := dV, kwdefaults := kV, pyModule := pm, code := .ref c } }
  | _ => default
def kE (P : Params) (x : Str) (t : Tok) (v : Value) : DictEntry := ⟨PyData.keyHash P x, .str x t, v⟩
def textAt (n : Nat) : Str := match stmtAt n with | .Assign _ (.Constant (.str x) _ _) _ => x | _ => ""
def kAddrs : List Addr := [2, 28, 29, 30, 37, 38, 39, 46, 47, 48, 55, 56, 57, 64, 80, 87, 100, 101, 153, 154, 175, 189, 219, 220, 231, 238, 245, 252, 257, 264, 269]
def KF (P : Params) : Frag := [
  (2, ⟨.none, none, .dict #[] 0, #[]⟩),
  (28, fobj (stmtAt 2) "rgb_to_hls" (.none) (.none) (.str "cpy313.colorsys" 194) 27),
  (29, ⟨.type "tuple", none, .seq #[.int 0 217, .none] 0, #[]⟩),
  (30, ⟨.type "dict", none, .dict #[kE P "key" 218 .none] 1, #[]⟩),
  (37, fobj (stmtAt 4) "insort_right" (.ref 29) (.ref 30) (.str "cpy313.bisect" 215) 36),
  (38, ⟨.type "tuple", none, .seq #[.int 0 230, .none] 0, #[]⟩),
  (39, ⟨.type "dict", none, .dict #[kE P "key" 231 .none] 1, #[]⟩),
  (46, fobj (stmtAt 5) "bisect_right" (.ref 38) (.ref 39) (.str "cpy313.bisect" 215) 45),
  (47, ⟨.type "tuple", none, .seq #[.int 0 244, .none] 0, #[]⟩),
  (48, ⟨.type "dict", none, .dict #[kE P "key" 245 .none] 1, #[]⟩),
  (55, fobj (stmtAt 6) "insort_left" (.ref 47) (.ref 48) (.str "cpy313.bisect" 215) 54),
  (56, ⟨.type "tuple", none, .seq #[.int 0 257, .none] 0, #[]⟩),
  (57, ⟨.type "dict", none, .dict #[kE P "key" 258 .none] 1, #[]⟩),
  (64, fobj (stmtAt 7) "bisect_left" (.ref 56) (.ref 57) (.str "cpy313.bisect" 215) 63),
  (80, ⟨.type "tuple", none, .seq #[.int 8 308, .none, .none, .ref 72] 0, #[]⟩),
  (87, fobj (methAt 14 5) "HtmlDiff.__init__" (.ref 80) (.none) (.str "cpy313.difflib" 271) 86),
  (100, ⟨.type "code", none, .fields #[.str "_tab_newline_replace" 339, .str "HtmlDiff._tab_newline_replace" 340, .str "/claim/cut.py" 341, .int 104 0, .int 3 0, .int 0 0, .int 0 0, .int 3 0, .ref 97, .bool true, .int 181 0, .ref 98, .none, .none, .none, .ref 99, .int 342 0, .int 104 0, .str "/claim/cut.py" 343], #[]⟩),
  (101, fobj (methAt 14 7) "HtmlDiff._tab_newline_replace" (.none) (.none) (.str "cpy313.difflib" 271) 100),
  (153, ⟨.type "dict", none, .dict #[kE P "__module__" 297 (.str "cpy313.difflib" 271), kE P "__firstlineno__" 301 (.int 88 300), kE P "_file_template" 302 (.str (textAt 10) 282), kE P "_styles" 303 (.str (textAt 11) 284), kE P "_table_template" 304 (.str (textAt 12) 286), kE P "_legend" 305 (.str (textAt 13) 288), kE P "_default_prefix" 307 (.int 0 306), kE P "__init__" 319 (.ref 87), kE P "make_file" 338 (.ref 96), kE P "_tab_newline_replace" 344 (.ref 101), kE P "_split_line" 354 (.ref 108), kE P "_line_wrapper" 362 (.ref 115), kE P "_collect_lines" 370 (.ref 122), kE P "_format_line" 381 (.ref 129), kE P "_make_prefix" 388 (.ref 136), kE P "_convert_flags" 400 (.ref 143), kE P "make_table" 416 (.ref 151), kE P "__static_attributes__" 421 (.ref 152), kE P "__dict__" 423 (.ref 155), kE P "__weakref__" 425 (.ref 156), kE P "__doc__" 426 (.none)] 4, #[]⟩),
  (154, ⟨.type "type", none, .cls { name := "HtmlDiff", bases := [.type "object"], mro := [.ref 154, .type "object"], ns := 153, qualname := "HtmlDiff" }, #[some (.ref 73), none, some (.str "HtmlDiff" 290), some (.str "HtmlDiff" 298), some (.builtin "object.__new__"), some (.bool true)]⟩),
  (175, fobj (methAt 16 1) "Whitespace.__init__" (.none) (.none) (.str "cpy313.tabnanny" 429) 174),
  (189, fobj (methAt 16 3) "Whitespace.indent_level" (.none) (.none) (.str "cpy313.tabnanny" 429) 188),
  (219, ⟨.type "dict", none, .dict #[kE P "__module__" 438 (.str "cpy313.tabnanny" 429), kE P "__firstlineno__" 442 (.int 136 441), kE P "S" 446 (.str " " 444), kE P "T" 447 (.str "\t" 445), kE P "__init__" 462 (.ref 175), kE P "longest_run_of_spaces" 469 (.ref 182), kE P "indent_level" 481 (.ref 189), kE P "equal" 489 (.ref 196), kE P "not_equal_witness" 497 (.ref 203), kE P "less" 505 (.ref 210), kE P "not_less_witness" 513 (.ref 217), kE P "__static_attributes__" 519 (.ref 218), kE P "__dict__" 521 (.ref 221), kE P "__weakref__" 523 (.ref 222), kE P "__doc__" 524 (.none)] 4, #[]⟩),
  (220, ⟨.type "type", none, .cls { name := "Whitespace", bases := [.type "object"], mro := [.ref 220, .type "object"], ns := 219, qualname := "Whitespace" }, #[none, none, some (.str "Whitespace" 431), some (.str "Whitespace" 439), some (.builtin "object.__new__"), some (.bool true)]⟩),
  (231, fobj (stmtAt 18) "_law_cells" (.none) (.none) (.str "law_wy0060_01" 527) 230),
  (238, fobj (stmtAt 19) "_law_typed" (.none) (.none) (.str "law_wy0060_01" 527) 237),
  (245, fobj (stmtAt 20) "_law_looks" (.none) (.none) (.str "law_wy0060_01" 527) 244),
  (252, fobj (stmtAt 21) "_law_hues" (.none) (.none) (.str "law_wy0060_01" 527) 251),
  (257, fobj (stmtAt 22) "_law_columns" (.none) (.none) (.str "law_wy0060_01" 527) 256),
  (264, fobj (stmtAt 23) "_law_least" (.none) (.none) (.str "law_wy0060_01" 527) 263),
  (269, fobj (stmtAt 24) "law" (.none) (.none) (.str "law_wy0060_01" 527) 268)]
def codesF : List (Addr × Str) := [(27, "rgb_to_hls"), (36, "insort_right"), (45, "bisect_right"), (54, "insort_left"), (63, "bisect_left"), (86, "HtmlDiff.__init__"), (100, "HtmlDiff._tab_newline_replace"), (174, "Whitespace.__init__"), (188, "Whitespace.indent_level"), (230, "_law_cells"), (237, "_law_typed"), (244, "_law_looks"), (251, "_law_hues"), (256, "_law_columns"), (263, "_law_least"), (268, "law")]

theorem kAddrs_is : ∀ P, kAddrs = (KF P).map (·.1) := fun _ => rfl
def codeOk (h : Heap) (c : Addr) (q : Str) : Bool := match h.get? c with
  | some o => (match o.data with
    | .fields vs => (match (vs[1]? : Option Value) with
      | some (.str q' _) => q' == q
      | _ => false)
    | _ => false)
  | none => false
theorem codeOk_rec {h : Heap} {c : Addr} {q : Str} (e : codeOk h c q = true) : h.CodeRec (.ref c) q := by
  unfold codeOk at e
  split at e
  · rename_i o ho
    split at e
    · rename_i vs hd
      split at e
      · rename_i q' t hv
        have : q' = q := by simpa using e
        exact ⟨c, o, vs, t, rfl, ho, hd, this ▸ hv⟩
      · cases e
    · cases e
  · cases e
def tabOk98 (h : Heap) : Bool := match h.get? 98 with
  | some ⟨.none, none, .fields ⟨[]⟩, ⟨[]⟩⟩ => true
  | _ => false
theorem tabOk98_is {h : Heap} (e : tabOk98 h = true) : h.get? 98 = some (tabObj #[]) := by
  unfold tabOk98 at e
  split at e
  · rename_i ho; exact ho
  · cases e
def globOk (h : Heap) (p : Str × Value) : Bool := match p.2, h.nsMap mainGlobals p.1 with
  | .ref a, some (.ref b) => Nat.beq a b
  | _, _ => false
theorem globOk_is {h : Heap} {p : Str × Value} (e : globOk h p = true) : h.nsMap mainGlobals p.1 = some p.2 := by
  unfold globOk at e
  split at e
  · rename_i a b h1 h2
    rw [h1, h2, Nat.eq_of_beq_eq_true e]
  · cases e
abbrev GlobsL : List (Str × Value) := ("law", .ref 269) :: Globs
def chkF (h : Heap) : Bool := codesF.all (fun p => codeOk h p.1 p.2) && tabOk98 h && h.isNs mainGlobals && GlobsL.all (globOk h) && Blts.all fun p => (h.nsMap mainGlobals p.1).isNone
def obsF (s : Shared) : List (Option Obj) × Bool := (kAddrs.map s.heap.get?, chkF s.heap)
def valF (w : World) : List (Option Obj) × Bool := ((KF w.params).map fun p => some p.2, true)
structure TopF (w : World) (h : Heap) : Prop where
  K : (KF w.params).In h
  codes : ∀ p ∈ codesF, h.CodeRec (.ref p.1) p.2
  tab : h.get? 98 = some (tabObj #[])
  names : ∃ mg, h.Ns mainGlobals mg ∧ (∀ x v, GlobsL.lookup x = some v → mg x = some v) ∧ ∀ x v, Blts.lookup x = some v → mg x = none
theorem lookup_mem {l : List (Str × Value)} {x : Str} {v : Value} (h : l.lookup x = some v) : (x, v) ∈ l := by
  induction l with
  | nil => cases h
  | cons p r ih =>
    rw [List.lookup_cons] at h
    split at h
    · rename_i q
      cases h
      have : x = p.1 := by simpa using q
      rw [this]; exact .head _
    · exact .tail _ (ih h)
theorem TopF.of (w : World) (s : Shared) (e : obsF s = valF w) : TopF w s.heap := by
  have e1 := (Prod.mk.inj e).1
  have e2 := (Prod.mk.inj e).2
  simp only [chkF, Bool.and_eq_true] at e2
  obtain ⟨⟨⟨⟨h1, h2⟩, h3⟩, h4⟩, h5⟩ := e2
  refine ⟨InK.of kAddrs_is w s e1, fun p hp => codeOk_rec (List.all_eq_true.mp h1 p hp), tabOk98_is h2, _, .of_isNs h3, fun x v h => globOk_is (List.all_eq_true.mp h4 _ (lookup_mem h)), fun x v h => ?_⟩
  exact Option.isNone_iff_eq_none.mp (List.all_eq_true.mp h5 _ (lookup_mem h))
theorem CodeRec.keep {h h' : Heap} {c : Value} {q : Str} (x : h.CodeRec c q) (k : ∀ b o, h.get? b = some o → h'.get? b = some o) : h'.CodeRec c q := let ⟨a, o, vs, t, e, ho, r⟩ := x; ⟨a, o, vs, t, e, k _ _ ho, r⟩
theorem TopF.keeps (w : World) (h h' : Heap) (x : TopF w h) (k : ∀ b o, h.get? b = some o → h'.get? b = some o) : TopF w h' :=
  ⟨x.K.keeps k, fun p hp => CodeRec.keep (x.codes p hp) k, k _ _ x.tab, let ⟨mg, a, b, c⟩ := x.names; ⟨mg, a.keepsP k, b, c⟩⟩

/-! ## the run of the top -/
set_option maxRecDepth 100000
theorem ran0 (w : World) : (fun os => (topFrom treeTable PG (w.withFollow "special-get-raises" false) 3400 ⟨boot_heap w.params, Array.mk [], boot_drawn, boot_toks, os⟩).map (fun s => (openSeen QV loose (importedModules PG.main.body) XtF true s, obsF s))) = fun _ => some (openGood QV loose, valF (w.withFollow "special-get-raises" false)) := by
  delta topFrom
  rw [Fast.te14082659384304107361, Fast.te14364793385576792824, Fast.te4187177175401517315]
  kernel_rfl
theorem ran1 (w : World) : (fun os => (topFrom treeTable PG (w.withFollow "special-get-raises" true) 3400 ⟨boot_heap w.params, Array.mk [], boot_drawn, boot_toks, os⟩).map (fun s => (openSeen QV loose (importedModules PG.main.body) XtF true s, obsF s))) = fun _ => some (openGood QV loose, valF (w.withFollow "special-get-raises" true)) := by
  delta topFrom
  rw [Fast.te14082659384304107361, Fast.te14364793385576792824, Fast.te4187177175401517315]
  kernel_rfl
theorem opens : ∀ w : World, (fencedOpening treeTable PG w 3400).map (fun s => (s.heap, s.gens, s.drawn, s.toks)) = some (boot_heap w.params, Array.mk [], boot_drawn, boot_toks) := boot_open (by kernel_rfl) rfl (fun _ => rfl)
theorem left : LeftO PG QV loose XtF obsF valF 3400 true := .of_split "special-get-raises" fun w => by
  obtain ⟨⟨h, gs, d, k, os⟩, e, e'⟩ := Option.map_eq_some_iff.mp (opens w)
  cases e'
  rw [e]
  exact congrArg some (Prod.ext (congrFun (ran0 w) os) (congrFun (ran1 w) os))

/-! T18join -/
/-! ## the facts of the top, said of the heap in which table 98 is laid aside -/
abbrev tabs98 : List (Addr × Addr) := [(100, 98)]
abbrev gh (h : Heap) : Heap := ghostOf h tabs98
section
variable {w : World} {h : Heap}
theorem topTabs (T : TopF w h) : TabsAt tabs98 h := List.forall_mem_cons.mpr ⟨⟨codeHd_of_K (c := 100) (P := 98) T.K (by kernel_rfl), T.tab⟩, fun _ x => nomatch x⟩
theorem topK (T : TopF w h) : (KF w.params).In (gh h) := ghost_K (topTabs T) T.K (by kernel_rfl)
theorem codeG {c : Value} {q : Str} (T : TopF w h) (x : h.CodeRec c q) : (gh h).CodeRec c q := by
  obtain ⟨a, o, vs, t, e, ho, hd, hv⟩ := x
  refine ⟨a, o, vs, t, e, ghost_get (topTabs T) ho (fun z => ?_), hd, hv⟩
  subst z
  cases hd
  cases hv
theorem def_of (T : TopF w h) {f c : Addr} {st : Stmt} {q : Str} {dV kV pm : Value} {name bind : Str} {params : Arguments} {body : List Stmt} {decos : List Expr} {ret : Option Expr} {tps : List TypeParam} {scope : Scope} {tsc : Option Scope} {pos : Pos}
    (hs : st = .FunctionDef name params body decos ret tps scope tsc bind pos) (hK : (KF w.params).lookup f = some (fobj st q dV kV pm c)) (hc : (c, q) ∈ codesF) :
    DefIs (gh h) f st dV kV ⟨name, q, params, .stmts body, scope, 3, [], dV, kV, .none, pm, none, .ref c, .none, 0⟩ := by
  subst hs
  exact ⟨⟨⟨_, topK T _ _ hK, rfl⟩, codeG T (T.codes _ hc)⟩, ⟨rfl, rfl, rfl⟩, rfl, rfl, rfl, rfl, rfl⟩
theorem wsK (P : Params) : WsK (KF P) := ⟨⟨by kernel_rfl, by kernel_rfl, by kernel_rfl, by kernel_rfl, by kernel_rfl, by kernel_rfl⟩, by kernel_rfl, ⟨444, by kernel_rfl⟩, ⟨445, by kernel_rfl⟩, by kernel_rfl, by kernel_rfl,
  ⟨by kernel_rfl, by kernel_rfl, by kernel_rfl, by kernel_rfl, by kernel_rfl⟩, ⟨by kernel_rfl, by kernel_rfl, by kernel_rfl⟩, by kernel_rfl, by kernel_rfl, by kernel_rfl⟩
theorem hdK (P : Params) : HdK (KF P) := ⟨⟨by kernel_rfl, by kernel_rfl, by kernel_rfl, by kernel_rfl, by kernel_rfl, by kernel_rfl⟩, by kernel_rfl, by kernel_rfl, ⟨by kernel_rfl, by kernel_rfl, by kernel_rfl, by kernel_rfl⟩, by kernel_rfl, by kernel_rfl, by kernel_rfl, by kernel_rfl⟩
section
variable {p : Program} {l : List Str} {mean : ExcName → Option Value} {mg mb : Str → Option Value}
theorem topGd (T : TopF w h) (TT : Top p l mean mg mb h) (hi : importsNone p = true) : Gd (gh h) Globs Blts where
  lim := let ⟨mc, a, r⟩ := TT.nolimit; ⟨mc, ghost_ns (topTabs T) a, r⟩
  seer := by
    have x := TT.seer hi
    obtain ⟨mc, a1, a2⟩ := x.statics
    obtain ⟨mm, b1, b2⟩ := x.mods
    obtain ⟨mb', c1, c2⟩ := x.imp
    obtain ⟨mg', bm, ob, d1, d2, d3, d4, d5⟩ := x.main
    exact ⟨⟨mc, ghost_ns (topTabs T) a1, a2⟩, ⟨mm, ghost_ns (topTabs T) b1, b2⟩, ⟨mb', ghost_ns (topTabs T) c1, c2⟩, ⟨mg', bm, ob, ghost_ns (topTabs T) d1, d2, ghost_get (topTabs T) d3 (fun q => by rw [q] at d4; cases d4), d4, d5⟩⟩
  ns := by
    obtain ⟨mg', n1, n2, n3⟩ := T.names
    refine ⟨mg', mb, ghost_ns (topTabs T) n1, ghost_ns (topTabs T) TT.b, fun x v e => n2 x v ?_, fun x v e => ⟨n3 x v e, ?_⟩⟩
    · rw [GlobsL, List.lookup_cons]
      have : (x == ("law" : Str)) = false := by
        cases hq : x == ("law" : Str) with
        | false => rfl
        | true =>
          have : x = "law" := by simpa using hq
          subst this
          cases e
      rw [this]; exact e
    · have hm := lookup_mem e
      have hb : Blts.all (fun p => p.1 != ("__name__" : Str) && bootBuiltins p.1 == some p.2) = true := by kernel_rfl
      have := List.all_eq_true.mp hb _ hm
      rw [Bool.and_eq_true] at this
      rw [TT.builtins x (by simpa using this.1)]
      simpa using this.2
theorem topNest (T : TopF w h) (TT : Top p l mean mg mb h) {fd : FuncData} (hc : fd.code = .ref 100) : NestF (gh h) fd where
  code := ⟨100, hc, (ghost_code (topTabs T)).1⟩
  blt := by
    obtain ⟨bm, ob, a1, a2, a3, a4, a5, a6⟩ := TT.bmain
    refine ⟨mg, ghost_ns (topTabs T) TT.g, bm, ob, a1, a2, fun q => ?_, fun q => ?_, ghost_get (topTabs T) a3 (fun q => by rw [q] at a4; cases a4), a4, a5, a6⟩
    · obtain ⟨o, es, ep, e, hd, _⟩ := TT.g
      rw [← q, a3] at e
      cases e
      rw [a6] at hd; cases hd
    · have e := T.tab
      rw [← q, a3] at e
      cases e
      cases a4
theorem topLaw (T : TopF w h) (TT : Top p l mean mg mb h) : ∃ fd fd2, LawF (gh h) (KF w.params) fd ∧ DefIs (gh h) 269 (stmtAt 24) .none .none fd2 := by
  have k := topK T
  refine ⟨_, _, { X := k, ws := wsK _, hd := hdK _, df := ⟨_, _, _, _, _, k 80 _ rfl⟩, nest := topNest T TT rfl, d101 := def_of T (f := 101) rfl rfl (by simp [codesF]), d175 := ⟨_, def_of T (f := 175) rfl rfl (by simp [codesF])⟩, d189 := ⟨_, def_of T (f := 189) rfl rfl (by simp [codesF])⟩, d87 := ⟨_, def_of T (f := 87) rfl rfl (by simp [codesF])⟩, d55 := ⟨_, def_of T (f := 55) rfl rfl (by simp [codesF])⟩, d64 := ⟨_, def_of T (f := 64) rfl rfl (by simp [codesF])⟩, d37 := ⟨_, def_of T (f := 37) rfl rfl (by simp [codesF])⟩, d46 := ⟨_, def_of T (f := 46) rfl rfl (by simp [codesF])⟩, d238 := ⟨_, def_of T (f := 238) rfl rfl (by simp [codesF])⟩, f29 := ⟨⟨_, _, _, _, _, k 29 _ rfl⟩, ⟨_, _, _, _, _, _, k 30 _ rfl⟩⟩, f38 := ⟨⟨_, _, _, _, _, k 38 _ rfl⟩, ⟨_, _, _, _, _, _, k 39 _ rfl⟩⟩, f47 := ⟨⟨_, _, _, _, _, k 47 _ rfl⟩, ⟨_, _, _, _, _, _, k 48 _ rfl⟩⟩, f56 := ⟨⟨_, _, _, _, _, k 56 _ rfl⟩, ⟨_, _, _, _, _, _, k 57 _ rfl⟩⟩, d28 := ⟨_, def_of T (f := 28) rfl rfl (by simp [codesF])⟩, d231 := ⟨_, def_of T (f := 231) rfl rfl (by simp [codesF])⟩, d245 := ⟨_, def_of T (f := 245) rfl rfl (by simp [codesF])⟩, d252 := ⟨_, def_of T (f := 252) rfl rfl (by simp [codesF])⟩, d257 := ⟨_, def_of T (f := 257) rfl rfl (by simp [codesF])⟩, d264 := ⟨_, def_of T (f := 264) rfl rfl (by simp [codesF])⟩ }, def_of T (f := 269) rfl rfl (by simp [codesF])⟩
end
end

/-! T19end -/
set_option maxRecDepth 100000
theorem headOk : (chainsOk QV && opensWell LW.row.prog && (frees LW.row.toRowW && LW.row.within.isEmpty)) = true := by kernel_rfl
theorem bareOk : LW.row.prog.bare := ⟨rfl, rfl, rfl, rfl, rfl, by decide +kernel⟩
theorem promisedOk : LW.row.toRowW.promised := by w_witness2
theorem ns_one {h : Heap} {a : Addr} {m m' : Str → Option Value} (x : h.Ns a m) (y : h.Ns a m') (z : Str) : m z = m' z := by
  obtain ⟨o, es, ep, e, hd, _, hf⟩ := x
  obtain ⟨o', es', ep', e', hd', _, hf'⟩ := y
  rw [e] at e'
  cases e'
  rw [hd] at hd'
  cases hd'
  rw [← hf, ← hf']
theorem grown_of {q : Str} {hb h : Heap} {T : List Cell} (x : TabOk q T) (O : Own hb h T) : GrownAt 98 h := by
  cases x with
  | none => obtain ⟨o, e, rfl⟩ := O.get (.head _); exact ⟨_, e⟩
  | made c' => obtain ⟨o, e, rfl⟩ := O.get (.head _); exact ⟨_, e⟩
theorem law_end {w : World} {s₀ s₁ : Shared} {mg mb : Str → Option Value} {L : List Str} {mean : ExcName → Option Value} (Y : TopF w s₁.heap) (hg : s₁.gens = #[]) (TT : Top QV L mean mg mb s₁.heap) {l : Addr} {vs : List Value} {ns : List Int} {args : List WData} {cl : Str → Option Addr}
    (hL : s₁.heap.IsList l vs.toArray) (hI : IntsAre vs ns) (hn : ns.length ≤ 63) :
    codeAny (model PG w) callerA (.call (.ref 269) ⟨[.ref l], []⟩) (GoodWG LW.row.claim cl mean args s₁) s₁ := by
  obtain ⟨fd, fd2, LF, D⟩ := topLaw Y TT
  have G := topGd Y TT (by kernel_rfl)
  refine kn_post (topTabs Y) (fun _ _ => rfl) ?_
  have O : Own (gh s₁.heap) s₁.heap [(98, fun o => o = tabObj #[])] := by
    refine ⟨fun b o e => of_hideAll _ e, fun c hc => ?_, by simp⟩
    rw [List.mem_singleton.mp hc]
    exact ⟨⟨_, Y.tab, rfl⟩, hideAll_none _ (.head _)⟩
  have hA : AOk callerA (0 + 8) (0 + 120) := ⟨rfl, by decide, by decide, _, rfl⟩
  refine codeAny_mono (law_ok (F := fun v h' => v = .bool true ∧ (∀ b o, (gh s₁.heap).get? b = some o → h'.get? b = some o) ∧ GrownAt 98 h') LF D hA G O .none (ghost_list (topTabs Y) hL) hI (by omega) (fun T' h' hT' O' => ⟨rfl, O'.keep, grown_of hT' O'⟩) s₁ rfl) fun r s' q => ?_
  cases r with
  | error e => exact q.elim
  | ok f => cases f with
    | ret v =>
      obtain ⟨S, rfl, hk, hgr⟩ := q
      exact ⟨⟨.inl ⟨_, .bool true, [], rfl, fun _ => rfl, ReadsW.bool true, by first | kernel_rfl | wrow_post, fun _ => ⟨List.nodup_nil, fun a ha => nomatch ha⟩⟩, hk, S.os, S.gens.trans hg⟩, hgr, trivial⟩
    | _ => exact q.elim
theorem law_walk : LW.row.Holds := by
  refine holds_open (r := LW.row) (q := QV) (loose := loose) (Xt := XtF) (XP := XL QV []) (Yf := obsF) (Ya := valF) (YP := TopF) (N := 3400) left TopF.of TopF.keeps (fun s e => xl_of s (Bool.and_eq_true_iff.mp e).1) XL.keeps (by rfl) (by rfl) (by rfl) (fun s e => recFacts_of (Bool.and_eq_true_iff.mp e).2) rfl saidRow headOk bareOk promisedOk ?_
  intro w s₀ s₁ mg mb G Y fa o pm cd doc dV kV ho hd hcd hD hmg hg args vals as hpre hlay hrd hwl hlo
  clear ho hd hcd hD
  obtain ⟨mg', n1, n2, n3⟩ := Y.names
  have hfa : fa = 269 := by
    have e1 := ns_one G.T.g n1 "law"
    have e2 : mg ("law" : Str) = some (.ref fa) := hmg
    rw [e2, n2 "law" _ rfl] at e1
    cases e1; rfl
  subst hfa
  clear hmg n1 n2 n3 mg'
  have TT := G.T
  clear G
  wrow_args hpre hlay hrd hwl hlo
  rename_i ns _ _ _ _ _ _ _ l vs _ hL _ _ _ hI _ hlen _
  exact enter_call (law_end (s₀ := s₀) Y hg TT hL hI (by omega))
end Mine
theorem PySem.Challenge.cw_wy0060_01_holds : PySem.Challenge.rw_wy0060_01.Holds :=
  PySem.W.holds_law Mine.said fun _ => Mine.law_walk
