import PyProof.Rows.All
import Wide.All
import OpenK.AllK
import Wide.FinOn
import PySem.Challenge.RW_fr0005_01

section
open PySem PySem.Spec PySem.Calls PySem.W PyProof.Rows
set_option Elab.async false
set_option linter.unusedVariables false
namespace Mine

/-- h' has every object of h -/
def Le (h h' : Heap) : Prop := ∀ b o, h.get? b = some o → h'.get? b = some o
theorem Le.refl (h : Heap) : Le h h := fun _ _ e => e
theorem Le.trans {a b c : Heap} (x : Le a b) (y : Le b c) : Le a c := fun _ _ e => y _ _ (x _ _ e)
theorem Le.push (h : Heap) (o : Obj) : Le h (h.push o) := fun _ _ e => Heap.get?_push_of_some _ e
theorem Keeps.refl (s : Shared) : Keeps s s := ⟨s.heap, s.toks, rfl, fun _ _ e => e⟩
theorem Keeps.tr {a b c : Shared} (x : Keeps a b) (y : Keeps b c) : Keeps a c := by
  obtain ⟨h, t, rfl, k⟩ := x
  obtain ⟨h', t', rfl, k'⟩ := y
  exact ⟨h', t', rfl, fun b o e => k' b o (k b o e)⟩
theorem Keeps.le {a b : Shared} (x : Keeps a b) : Le a.heap b.heap := by
  obtain ⟨h, t, rfl, k⟩ := x
  exact k
theorem Keeps.tok (s : Shared) (t : Nat) : Keeps s { s with toks := t } := ⟨s.heap, t, rfl, fun _ _ e => e⟩
theorem Keeps.push (s : Shared) (o : Obj) : Keeps s { s with heap := s.heap.push o } := ⟨_, s.toks, rfl, fun _ _ e => Heap.get?_push_of_some _ e⟩
theorem Keeps.push2 (s : Shared) (o o' : Obj) : Keeps s { s with heap := (s.heap.push o).push o' } := ⟨_, s.toks, rfl, fun _ _ e => Heap.get?_push_of_some _ (Heap.get?_push_of_some _ e)⟩

/-- what stands outside bad stands on -/
def But (bad : List Addr) (h h' : Heap) : Prop := ∀ b o, b ∉ bad → h.get? b = some o → h'.get? b = some o
theorem Le.but {bad : List Addr} {h h' : Heap} (k : Le h h') : But bad h h' := fun b o _ e => k b o e
theorem But.refl (bad : List Addr) (h : Heap) : But bad h h := fun _ _ _ e => e
theorem But.trans {bad : List Addr} {a b c : Heap} (x : But bad a b) (y : But bad b c) : But bad a c := fun _ _ n e => y _ _ n (x _ _ n e)
theorem But.more {bad bad' : List Addr} {h h' : Heap} (x : But bad h h') (k : ∀ b ∈ bad, b ∈ bad') : But bad' h h' := fun b o n e => x b o (fun q => n (k b q)) e
theorem But.same {a : Addr} {h h' : Heap} (x : Heap.SameBut a h h') : But [a] h h' := fun b o n e => (x.2 b (fun q => n (q ▸ List.mem_singleton.mpr rfl))).trans e
theorem But.list {bad : List Addr} {h h' : Heap} (c : But bad h h') {b : Addr} {xs : Array Value} (n : b ∉ bad) (e : h.IsList b xs) : h'.IsList b xs :=
  let ⟨o, ho, hc, m, hd⟩ := e; ⟨o, c b o n ho, hc, m, hd⟩
theorem But.tup {bad : List Addr} {h h' : Heap} (c : But bad h h') {b : Addr} {xs : Array Value} (n : b ∉ bad) (e : IsTup h b xs) : IsTup h' b xs :=
  let ⟨o, ho, hc, m, hd⟩ := e; ⟨o, c b o n ho, hc, m, hd⟩
theorem Le.list {h h' : Heap} (c : Le h h') {b : Addr} {xs : Array Value} (e : h.IsList b xs) : h'.IsList b xs :=
  let ⟨o, ho, hc, n, hd⟩ := e; ⟨o, c _ _ ho, hc, n, hd⟩
theorem Le.tup {h h' : Heap} (c : Le h h') {b : Addr} {xs : Array Value} (e : IsTup h b xs) : IsTup h' b xs :=
  let ⟨o, ho, hc, n, hd⟩ := e; ⟨o, c _ _ ho, hc, n, hd⟩
/-- every address of bad is in use -/
def Al (bad : List Addr) (h : Heap) : Prop := ∀ b ∈ bad, h.get? b ≠ none
theorem Al.le {bad : List Addr} {h h' : Heap} (x : Al bad h) (k : Le h h') : Al bad h' := fun b hb e => by
  cases q : h.get? b with
  | none => exact x b hb q
  | some o => rw [k b o q] at e; cases e
theorem get_size_none (h : Heap) : h.get? h.objs.size = none := by
  cases q : h.get? h.objs.size with
  | none => rfl
  | some o => exact absurd (Heap.lt_size q) (Nat.lt_irrefl _)
theorem Al.fresh {bad : List Addr} {h : Heap} (x : Al bad h) : h.objs.size ∉ bad := fun hb => x _ hb (get_size_none h)
theorem Al.none {bad : List Addr} {h : Heap} (x : Al bad h) {b : Addr} (e : h.get? b = none) : b ∉ bad := fun hb => x _ hb e

mutual
/-- value v reads d in h; no address of bad lies on the way -/
inductive Rd (bad : List Addr) (h : Heap) : Value → PyData → Prop
  | none : Rd bad h .none .none
  | bool (b) : Rd bad h (.bool b) (.bool b)
  | int (i t) : Rd bad h (.int i t) (.int i)
  | str (x t) : Rd bad h (.str x t) (.str x)
  | list {a vs ds} : a ∉ bad → h.IsList a vs → RdAll bad h vs.toList ds → Rd bad h (.ref a) (.list ds)
  | tup {a vs ds} : a ∉ bad → IsTup h a vs → RdAll bad h vs.toList ds → Rd bad h (.ref a) (.tuple ds)
inductive RdAll (bad : List Addr) (h : Heap) : List Value → List PyData → Prop
  | nil : RdAll bad h [] []
  | cons {v vs d ds} : Rd bad h v d → RdAll bad h vs ds → RdAll bad h (v :: vs) (d :: ds)
end
mutual
theorem Rd.but {bad : List Addr} {h h' : Heap} (k : But bad h h') : ∀ {v d}, Rd bad h v d → Rd bad h' v d
  | _, _, .none => .none
  | _, _, .bool b => .bool b
  | _, _, .int i t => .int i t
  | _, _, .str x t => .str x t
  | _, _, .list n b c => .list n (k.list n b) (RdAll.but k c)
  | _, _, .tup n b c => .tup n (k.tup n b) (RdAll.but k c)
theorem RdAll.but {bad : List Addr} {h h' : Heap} (k : But bad h h') : ∀ {vs ds}, RdAll bad h vs ds → RdAll bad h' vs ds
  | _, _, .nil => .nil
  | _, _, .cons a b => .cons (Rd.but k a) (RdAll.but k b)
end
mutual
theorem Rd.bads {bad bad' : List Addr} {h : Heap} (k : ∀ b ∈ bad', b ∈ bad ∨ h.get? b = none) : ∀ {v d}, Rd bad h v d → Rd bad' h v d
  | _, _, .none => .none
  | _, _, .bool b => .bool b
  | _, _, .int i t => .int i t
  | _, _, .str x t => .str x t
  | _, _, .list n b c => .list (fun q => (k _ q).elim n fun e => let ⟨_, ho, _⟩ := b; nomatch (e.symm.trans ho)) b (RdAll.bads k c)
  | _, _, .tup n b c => .tup (fun q => (k _ q).elim n fun e => let ⟨_, ho, _⟩ := b; nomatch (e.symm.trans ho)) b (RdAll.bads k c)
theorem RdAll.bads {bad bad' : List Addr} {h : Heap} (k : ∀ b ∈ bad', b ∈ bad ∨ h.get? b = none) : ∀ {vs ds}, RdAll bad h vs ds → RdAll bad' h vs ds
  | _, _, .nil => .nil
  | _, _, .cons a b => .cons (Rd.bads k a) (RdAll.bads k b)
end
theorem Rd.le {bad : List Addr} {h h' : Heap} (k : Le h h') {v d} (x : Rd bad h v d) : Rd bad h' v d := x.but k.but
theorem RdAll.le {bad : List Addr} {h h' : Heap} (k : Le h h') {vs ds} (x : RdAll bad h vs ds) : RdAll bad h' vs ds := x.but k.but
mutual
theorem Rd.reads {bad : List Addr} {h : Heap} : ∀ {v d}, Rd bad h v d → ∃ as, Reads h v d as
  | _, _, .none => ⟨_, .none⟩
  | _, _, .bool b => ⟨_, .bool b⟩
  | _, _, .int i t => ⟨_, .int i t⟩
  | _, _, .str x t => ⟨_, .str x t⟩
  | _, _, .list _ b c => let ⟨_, hr⟩ := RdAll.reads c; let ⟨_, ho, hc, _, hd⟩ := b; ⟨_, .list ho hc hd hr⟩
  | _, _, .tup _ b c => let ⟨_, hr⟩ := RdAll.reads c; let ⟨_, ho, hc, _, hd⟩ := b; ⟨_, .tuple ho hc hd hr⟩
theorem RdAll.reads {bad : List Addr} {h : Heap} : ∀ {vs ds}, RdAll bad h vs ds → ∃ as, ReadsAll h vs ds as
  | _, _, .nil => ⟨_, .nil⟩
  | _, _, .cons a b => let ⟨_, ha⟩ := Rd.reads a; let ⟨_, hb⟩ := RdAll.reads b; ⟨_, .cons ha hb⟩
end
theorem RdAll.length {bad : List Addr} {h : Heap} : ∀ {vs ds}, RdAll bad h vs ds → vs.length = ds.length
  | _, _, .nil => rfl
  | _, _, .cons _ b => by rw [List.length_cons, List.length_cons, b.length]
theorem RdAll.get {bad : List Addr} {h : Heap} : ∀ {vs : List Value} {ds : List PyData}, RdAll bad h vs ds → ∀ {i : Nat} {d : PyData}, ds[i]? = some d → ∃ v, vs[i]? = some v ∧ Rd bad h v d
  | _, _, .nil, _, _, e => by simp at e
  | _, _, .cons a b, i, d, e => by
    cases i with
    | zero => simp at e; subst e; exact ⟨_, rfl, a⟩
    | succ i => simp at e; obtain ⟨v, hv, r⟩ := b.get e; exact ⟨v, by simpa using hv, r⟩
theorem RdAll.append {bad : List Addr} {h : Heap} : ∀ {vs ds ws es}, RdAll bad h vs ds → RdAll bad h ws es → RdAll bad h (vs ++ ws) (ds ++ es)
  | _, _, _, _, .nil, y => y
  | _, _, _, _, .cons a b, y => .cons a (b.append y)
theorem RdAll.drop {bad : List Addr} {h : Heap} : ∀ {vs ds} (n : Nat), RdAll bad h vs ds → RdAll bad h (vs.drop n) (ds.drop n)
  | _, _, 0, x => x
  | _, _, _ + 1, .nil => .nil
  | _, _, n + 1, .cons _ b => b.drop n
theorem RdAll.take {bad : List Addr} {h : Heap} : ∀ {vs ds} (n : Nat), RdAll bad h vs ds → RdAll bad h (vs.take n) (ds.take n)
  | _, _, 0, _ => by simpa using RdAll.nil
  | _, _, _ + 1, .nil => .nil
  | _, _, n + 1, .cons a b => .cons a (b.take n)
theorem RdAll.reverse {bad : List Addr} {h : Heap} : ∀ {vs ds}, RdAll bad h vs ds → RdAll bad h vs.reverse ds.reverse
  | _, _, .nil => .nil
  | _, _, .cons a b => by
    rw [List.reverse_cons, List.reverse_cons]
    exact b.reverse.append (.cons a .nil)
theorem RdAll.snoc {bad : List Addr} {h : Heap} {vs ds v d} (x : RdAll bad h vs ds) (y : Rd bad h v d) : RdAll bad h (vs ++ [v]) (ds ++ [d]) := x.append (.cons y .nil)

abbrev HP := Value → Heap → Prop
def Mo (P : HP) : Prop := ∀ v h h', Le h h' → P v h → P v h'
/-- it outlives every change at bad -/
def St (bad : List Addr) (P : HP) : Prop := ∀ v h h', But bad h h' → P v h → P v h'
theorem St.mo {bad : List Addr} {P : HP} (x : St bad P) : Mo P := fun v h h' k p => x v h h' k.but p
theorem St.more {bad bad' : List Addr} {P : HP} (x : St bad P) (k : ∀ b ∈ bad', b ∈ bad) : St bad' P := fun v h h' c p => x v h h' (c.more k) p
def isInt (i : Int) : HP := fun v _ => ∃ t, v = .int i t
def isStr (x : Str) : HP := fun v _ => ∃ t, v = .str x t
def isBytes (x : Array UInt8) : HP := fun v _ => ∃ t, v = .bytes x t
def isBool (b : Bool) : HP := fun v _ => v = .bool b
def isVal (x : Value) : HP := fun v _ => v = x
def isRd (bad : List Addr) (d : PyData) : HP := fun v h => Rd bad h v d
/-- a property that asks nothing of the heap -/
def Pure (P : HP) : Prop := ∀ v h h', P v h → P v h'
theorem Pure.mo {P : HP} (x : Pure P) : Mo P := fun v h h' _ p => x v h h' p
theorem Pure.st {bad : List Addr} {P : HP} (x : Pure P) : St bad P := fun v h h' _ p => x v h h' p
theorem pu_int (i) : Pure (isInt i) := fun _ _ _ h => h
theorem pu_str (i) : Pure (isStr i) := fun _ _ _ h => h
theorem pu_bytes (i) : Pure (isBytes i) := fun _ _ _ h => h
theorem pu_bool (i) : Pure (isBool i) := fun _ _ _ h => h
theorem pu_val (i) : Pure (isVal i) := fun _ _ _ h => h
theorem st_rd (bad d) : St bad (isRd bad d) := fun _ _ _ k h => h.but k
theorem mo_rd {bad} (d) : Mo (isRd bad d) := (st_rd bad d).mo

section
variable {prog : Program} {w : World} {A : Around} {env : Env} {h : Heap}

/-- from every state above h the tree ends in a value with P, the heap only grown -/
def Tr (prog : Program) (w : World) (A : Around) (h : Heap) (t : Sem Value) (P : HP) : Prop :=
  ∀ (s : Shared) (E : Value → Shared → Prop), Le h s.heap → wpAny (model prog w) A t (fun v s' => Keeps s s' ∧ P v s'.heap) E s

theorem Tr.up {h' : Heap} {t : Sem Value} {P : HP} (x : Tr prog w A h t P) (k : Le h h') : Tr prog w A h' t P := fun s E l => x s E (k.trans l)
theorem Tr.weak {t : Sem Value} {P P' : HP} (x : Tr prog w A h t P) (k : ∀ v g, Le h g → P v g → P' v g) : Tr prog w A h t P' := fun s E l =>
  wpAny_mono (x s E l) (fun v s' ⟨a, b⟩ => ⟨a, k v _ (l.trans (Keeps.le a)) b⟩) fun _ _ e => e
theorem Tr.use {t : Sem Value} {P : HP} (x : Tr prog w A h t P) {s : Shared} {E : Value → Shared → Prop} {Q : Value → Shared → Prop} (l : Le h s.heap)
    (k : ∀ v s', Keeps s s' → P v s'.heap → Q v s') : wpAny (model prog w) A t Q E s :=
  wpAny_mono (x s E l) (fun v s' ⟨a, b⟩ => k v s' a b) fun _ _ e => e

theorem ev_bin {P1 P2 P : HP} (m1 : Mo P1) {l r : Expr} {op : Operator} {pos : Pos} (h1 : Tr prog w A h (eval l env) P1) (h2 : Tr prog w A h (eval r env) P2)
    (hop : ∀ v1 v2 g, Le h g → P1 v1 g → P2 v2 g → Tr prog w A g (binaryOp op v1 v2) P) : Tr prog w A h (eval (.BinOp l op r pos) env) P := fun s E le => by
  refine wpAny_BinOp (h1.use le fun v1 s1 k1 p1 => h2.use (le.trans (Keeps.le k1)) fun v2 s2 k2 p2 => ?_)
  have le2 := (le.trans (Keeps.le k1)).trans (Keeps.le k2)
  exact (hop v1 v2 s2.heap le2 (m1 _ _ _ (Keeps.le k2) p1) p2).use (Le.refl _) fun v s3 k3 p3 => ⟨Keeps.tr k1 (Keeps.tr k2 k3), p3⟩

theorem ev_cmp {P1 P2 P : HP} (m1 : Mo P1) {l r : Expr} {op : CmpOp} {pos : Pos} (h1 : Tr prog w A h (eval l env) P1) (h2 : Tr prog w A h (eval r env) P2)
    (hop : ∀ v1 v2 g, Le h g → P1 v1 g → P2 v2 g → Tr prog w A g (compareOp op v1 v2) P)
    (hm : behindInMarks op r = false := by with_unfolding_all rfl) : Tr prog w A h (eval (.Compare l [op] [r] pos) env) P := fun s E le => by
  refine wpAny_Compare1 (h1.use le fun v1 s1 k1 p1 => h2.use (le.trans (Keeps.le k1)) fun v2 s2 k2 p2 => ?_) hm
  have le2 := (le.trans (Keeps.le k1)).trans (Keeps.le k2)
  exact (hop v1 v2 s2.heap le2 (m1 _ _ _ (Keeps.le k2) p1) p2).use (Le.refl _) fun v s3 k3 p3 => ⟨Keeps.tr k1 (Keeps.tr k2 k3), p3⟩

theorem ev_int (i : Int) (k pos) : Tr prog w A h (eval (.Constant (.int i) k pos) env) (isInt i) := fun s _ _ => wpAny_Constant_int ⟨Keeps.tok s _, _, rfl⟩
theorem ev_str (x : Str) (k pos) : Tr prog w A h (eval (.Constant (.str x) k pos) env) (isStr x) := fun s _ _ => wpAny_Constant_str ⟨Keeps.tok s _, _, rfl⟩
theorem ev_bool (b : Bool) (k pos) : Tr prog w A h (eval (.Constant (.bool b) k pos) env) (isBool b) := fun s _ _ => wpAny_Constant_bool ⟨Keeps.refl s, rfl⟩

theorem op_add {i j : Int} {v1 v2 : Value} {g g' : Heap} (p1 : isInt i v1 g) (p2 : isInt j v2 g) : Tr prog w A g' (binaryOp .Add v1 v2) (isInt (i + j)) := fun s _ _ => by
  obtain ⟨t, rfl⟩ := p1; obtain ⟨u, rfl⟩ := p2
  exact wpAny_add_int ⟨Keeps.tok s _, _, rfl⟩
theorem op_sub {i j : Int} {v1 v2 : Value} {g g' : Heap} (p1 : isInt i v1 g) (p2 : isInt j v2 g) : Tr prog w A g' (binaryOp .Sub v1 v2) (isInt (i - j)) := fun s _ _ => by
  obtain ⟨t, rfl⟩ := p1; obtain ⟨u, rfl⟩ := p2
  exact sub_int' ⟨Keeps.tok s _, _, rfl⟩
theorem op_mod {i j : Int} {v1 v2 : Value} {g g' : Heap} (hj : j ≠ 0) (p1 : isInt i v1 g) (p2 : isInt j v2 g) : Tr prog w A g' (binaryOp .Mod v1 v2) (isInt (i.fmod j)) := fun s _ _ => by
  obtain ⟨t, rfl⟩ := p1; obtain ⟨u, rfl⟩ := p2
  exact mod_int' hj ⟨Keeps.tok s _, _, rfl⟩
theorem op_lt {i j : Int} {v1 v2 : Value} {g g' : Heap} (p1 : isInt i v1 g) (p2 : isInt j v2 g) : Tr prog w A g' (compareOp .Lt v1 v2) (isBool (decide (i < j))) := fun s _ _ => by
  obtain ⟨t, rfl⟩ := p1; obtain ⟨u, rfl⟩ := p2
  exact lt_int ⟨Keeps.refl s, rfl⟩
theorem op_ge {i j : Int} {v1 v2 : Value} {g g' : Heap} (p1 : isInt i v1 g) (p2 : isInt j v2 g) : Tr prog w A g' (compareOp .GtE v1 v2) (isBool (decide (i ≥ j))) := fun s _ _ => by
  obtain ⟨t, rfl⟩ := p1; obtain ⟨u, rfl⟩ := p2
  exact ge_int ⟨Keeps.refl s, rfl⟩
theorem op_eq {i j : Int} {v1 v2 : Value} {g g' : Heap} (p1 : isInt i v1 g) (p2 : isInt j v2 g) : Tr prog w A g' (compareOp .Eq v1 v2) (isBool (decide (i = j))) := fun s _ _ => by
  obtain ⟨t, rfl⟩ := p1; obtain ⟨u, rfl⟩ := p2
  exact eq_int ⟨Keeps.refl s, rfl⟩
theorem op_ne {i j : Int} {v1 v2 : Value} {g g' : Heap} (p1 : isInt i v1 g) (p2 : isInt j v2 g) : Tr prog w A g' (compareOp .NotEq v1 v2) (isBool (decide (i ≠ j))) := fun s _ _ => by
  obtain ⟨t, rfl⟩ := p1; obtain ⟨u, rfl⟩ := p2
  refine ne_int ⟨Keeps.refl s, ?_⟩
  show Value.bool _ = _
  congr 1
  by_cases e : i = j <;> simp [e]
theorem str_eq_dec (x y : Str) : (x == y) = decide (x = y) := by
  by_cases e : x = y
  · subst e; simp
  · simp [e]
theorem op_eqs {x y : Str} {v1 v2 : Value} {g g' : Heap} (p1 : isStr x v1 g) (p2 : isStr y v2 g) : Tr prog w A g' (compareOp .Eq v1 v2) (isBool (decide (x = y))) := fun s _ _ => by
  obtain ⟨t, rfl⟩ := p1; obtain ⟨u, rfl⟩ := p2
  exact eq_str ⟨Keeps.refl s, congrArg Value.bool (str_eq_dec x y)⟩
theorem op_nes {x y : Str} {v1 v2 : Value} {g g' : Heap} (p1 : isStr x v1 g) (p2 : isStr y v2 g) : Tr prog w A g' (compareOp .NotEq v1 v2) (isBool (decide (x ≠ y))) := fun s _ _ => by
  obtain ⟨t, rfl⟩ := p1; obtain ⟨u, rfl⟩ := p2
  refine ne_str ⟨Keeps.refl s, congrArg Value.bool ?_⟩
  show (!(x == y)) = _
  rw [str_eq_dec x y]
  by_cases e : x = y <;> simp [e]
end
end Mine

end
section
open PySem PySem.Spec PySem.Calls PySem.W PyProof.Rows
set_option Elab.async false
set_option linter.unusedVariables false
namespace Mine
section
variable {prog : Program} {w : World} {A : Around} {env : Env} {h : Heap} {bad : List Addr}

/-- a test: the truth b, the heap only grown -/
def Ts (prog : Program) (w : World) (A : Around) (h : Heap) (t : Sem Bool) (b : Bool) : Prop :=
  ∀ (s : Shared) (E : Value → Shared → Prop), Le h s.heap → wpAny (model prog w) A t (fun v s' => Keeps s s' ∧ v = b) E s
theorem Ts.up {h' : Heap} {t : Sem Bool} {b : Bool} (x : Ts prog w A h t b) (k : Le h h') : Ts prog w A h' t b := fun s E l => x s E (k.trans l)
theorem Ts.use {t : Sem Bool} {b : Bool} (x : Ts prog w A h t b) {s : Shared} {E : Value → Shared → Prop} {Q : Bool → Shared → Prop} (l : Le h s.heap)
    (k : ∀ s', Keeps s s' → Q b s') : wpAny (model prog w) A t Q E s :=
  wpAny_mono (x s E l) (fun v s' ⟨a, b⟩ => b ▸ k s' a) fun _ _ e => e
theorem Ts.eq {t : Sem Bool} {b b' : Bool} (x : Ts prog w A h t b) (e : b = b') : Ts prog w A h t b' := e ▸ x

theorem truthy_bool (b : Bool) : Ts prog w A h (truthy (.bool b)) b := fun s _ _ => wpAny_truthy_bool ⟨Keeps.refl s, rfl⟩
theorem ts_value {e : Expr} {P : HP} {b : Bool} (x : Tr prog w A h (eval e env) P) (ht : ∀ v g, Le h g → P v g → Ts prog w A g (truthy v) b)
    (he : isTrue e env (eval e env) = (do let v ← eval e env; standAt e.pos; holding [v] (truthy v)) := by rfl) : Ts prog w A h (isTrue e env (eval e env)) b := fun s E l => by
  refine wpAny_isTrue_value (x.use l fun v s1 k1 p1 => ?_) he
  exact (ht v s1.heap (l.trans (Keeps.le k1)) p1).use (Le.refl _) fun s2 k2 => ⟨Keeps.tr k1 k2, rfl⟩
theorem ts_bool {e : Expr} {b : Bool} (x : Tr prog w A h (eval e env) (isBool b))
    (he : isTrue e env (eval e env) = (do let v ← eval e env; standAt e.pos; holding [v] (truthy v)) := by rfl) : Ts prog w A h (isTrue e env (eval e env)) b :=
  ts_value x (fun v g _ p => by rw [show v = .bool b from p]; exact truthy_bool b) he
theorem ts_cmp {P1 P2 : HP} (m1 : Mo P1) {l r : Expr} {op : CmpOp} {pos : Pos} {b : Bool} {whole : Sem Value} (h1 : Tr prog w A h (eval l env) P1) (h2 : Tr prog w A h (eval r env) P2)
    (hop : ∀ v1 v2 g, Le h g → P1 v1 g → P2 v2 g → Tr prog w A g (compareOp op v1 v2) (isBool b))
    (hm : behindInMarks op r = false := by with_unfolding_all rfl) : Ts prog w A h (isTrue (.Compare l [op] [r] pos) env whole) b := fun s E le => by
  refine wpAny_isTrue_Compare1 (h1.use le fun v1 s1 k1 p1 => h2.use (le.trans (Keeps.le k1)) fun v2 s2 k2 p2 => ?_) hm
  have le2 := (le.trans (Keeps.le k1)).trans (Keeps.le k2)
  refine (hop v1 v2 s2.heap le2 (m1 _ _ _ (Keeps.le k2) p1) p2).use (Le.refl _) fun v s3 k3 p3 => ?_
  rw [show v = .bool b from p3]
  exact wpAny_truthy_bool ⟨Keeps.tr k1 (Keeps.tr k2 k3), rfl⟩
theorem ts_not {x : Expr} {pos : Pos} {whole : Sem Value} {b : Bool} (t : Ts prog w A h (isTrue x env (eval x env)) b) : Ts prog w A h (isTrue (.UnaryOp .Not x pos) env whole) (!b) := fun s E le =>
  wpAny_isTrue_Not (t.use le fun s1 k1 => ⟨k1, rfl⟩)
theorem ts_all (op : BoolOp) {es : List Expr} {pos : Pos} {whole : Sem Value} {b : Bool} (t : Ts prog w A h (allTrue op es env) b) : Ts prog w A h (isTrue (.BoolOp op es pos) env whole) b := fun s E le =>
  wpAny_isTrue_BoolOp (t s E le)
theorem ts_and_nil : Ts prog w A h (allTrue .And [] env) true := fun s E le => wpAny_allTrue_And_nil ⟨Keeps.refl s, rfl⟩
theorem ts_or_nil : Ts prog w A h (allTrue .Or [] env) false := fun s E le => wpAny_allTrue_Or_nil ⟨Keeps.refl s, rfl⟩
theorem ts_and {x : Expr} {rest : List Expr} {b c : Bool} (t : Ts prog w A h (isTrue x env (eval x env)) b) (r : b = true → Ts prog w A h (allTrue .And rest env) c) :
    Ts prog w A h (allTrue .And (x :: rest) env) (b && c) := fun s E le => by
  refine wpAny_allTrue_And_cons (t.use le fun s1 k1 => ?_)
  cases b with
  | false => exact ⟨k1, rfl⟩
  | true => exact (r rfl).use (le.trans (Keeps.le k1)) fun s2 k2 => ⟨Keeps.tr k1 k2, rfl⟩
theorem ts_or {x : Expr} {rest : List Expr} {b c : Bool} (t : Ts prog w A h (isTrue x env (eval x env)) b) (r : b = false → Ts prog w A h (allTrue .Or rest env) c) :
    Ts prog w A h (allTrue .Or (x :: rest) env) (b || c) := fun s E le => by
  refine wpAny_allTrue_Or_cons (t.use le fun s1 k1 => ?_)
  cases b with
  | true => exact ⟨k1, rfl⟩
  | false => exact (r rfl).use (le.trans (Keeps.le k1)) fun s2 k2 => ⟨Keeps.tr k1 k2, rfl⟩

theorem ev_if {test body orelse : Expr} {pos : Pos} {b : Bool} {P : HP} (t : Ts prog w A h (isTrue test env (eval test env)) b)
    (x : b = true → Tr prog w A h (eval body env) P) (y : b = false → Tr prog w A h (eval orelse env) P) : Tr prog w A h (eval (.IfExp test body orelse pos) env) P := fun s E le => by
  refine wpAny_IfExp (t.use le fun s1 k1 => ?_)
  cases b with
  | true => exact (x rfl).use (le.trans (Keeps.le k1)) fun v s2 k2 p => ⟨Keeps.tr k1 k2, p⟩
  | false => exact (y rfl).use (le.trans (Keeps.le k1)) fun v s2 k2 p => ⟨Keeps.tr k1 k2, p⟩

theorem ev_neg {x : Expr} {pos : Pos} {i : Int} (t : Tr prog w A h (eval x env) (isInt i)) : Tr prog w A h (eval (.UnaryOp .USub x pos) env) (isInt (-i)) := fun s E le => by
  refine wpAny_UnaryOp (t.use le fun v s1 k1 p => ?_)
  obtain ⟨u, rfl⟩ := p
  exact neg_int ⟨Keeps.tr k1 (Keeps.tok s1 _), _, rfl⟩

/-- o[i] -/
theorem ev_sub {P1 P2 P : HP} (m1 : Mo P1) {value slice : Expr} {pos : Pos} (h1 : Tr prog w A h (eval value env) P1) (h2 : Tr prog w A h (eval slice env) P2)
    (hop : ∀ v1 v2 g, Le h g → P1 v1 g → P2 v2 g → Tr prog w A g (subscriptTail value slice v1 v2) P) : Tr prog w A h (eval (.Subscript value slice pos) env) P := fun s E le => by
  refine Subscript_ (h1.use le fun v1 s1 k1 p1 => h2.use (le.trans (Keeps.le k1)) fun v2 s2 k2 p2 => ?_)
  have le2 := (le.trans (Keeps.le k1)).trans (Keeps.le k2)
  exact (hop v1 v2 s2.heap le2 (m1 _ _ _ (Keeps.le k2) p1) p2).use (Le.refl _) fun v s3 k3 p3 => ⟨Keeps.tr k1 (Keeps.tr k2 k3), p3⟩

/-- an item of a list that stands in the heap, by the very value -/
theorem sub_at {value slice : Expr} {l : Addr} {items : Array Value} {k : Int} {v1 v2 x : Value} {g g' : Heap} (hl : g.IsList l items) (h0 : 0 ≤ k) (hfit : k < 2 ^ 63) (hx : items[k.toNat]? = some x)
    (p1 : isVal (.ref l) v1 g') (p2 : isInt k v2 g') (hs : ∀ t, subscripted slice false (.ref l) (.int k t) = operate [.ref l, .int k t] (getItem (.ref l) (.int k t)) := by intro _; rfl) :
    Tr prog w A g (subscriptTail value slice v1 v2) (isVal x) := fun s E le => by
  obtain ⟨t, rfl⟩ := p2
  rw [show v1 = .ref l from p1]
  have hl' := le.list hl
  exact tail_any hl'.typeIs slot_list_getitem.lookup (wpAny_getItem_list hl' h0 hfit hx ⟨Keeps.refl s, rfl⟩) (hs t)
theorem sub_rd {value slice : Expr} {ds : List PyData} {d : PyData} {k : Int} {v1 v2 : Value} {g : Heap} (h0 : 0 ≤ k) (hfit : k < 2 ^ 63) (hx : ds[k.toNat]? = some d)
    (p1 : isRd bad (.list ds) v1 g) (p2 : isInt k v2 g) (hs : ∀ l t, subscripted slice false (.ref l) (.int k t) = operate [.ref l, .int k t] (getItem (.ref l) (.int k t)) := by intro _ _; rfl) :
    Tr prog w A g (subscriptTail value slice v1 v2) (isRd bad d) := by
  obtain ⟨t, rfl⟩ := p2
  cases p1 with
  | list hb hl hr =>
    rename_i a vs
    obtain ⟨v, hv, r⟩ := hr.get hx
    have := sub_at (prog := prog) (w := w) (A := A) (value := value) (slice := slice) hl h0 hfit (by simpa using hv) (p1 := rfl) (p2 := ⟨t, rfl⟩) (hs := fun t => hs _ t) (g' := g)
    exact this.weak fun v' g' le e => by rw [show v' = v from e]; exact r.le le
theorem sub_neg {value slice : Expr} {l : Addr} {items : Array Value} {k : Int} {v1 v2 x : Value} {g g' : Heap} (hl : g.IsList l items) (h0 : k < 0) (h1 : -(items.size : Int) ≤ k) (hfit : -(2 ^ 63) ≤ k) (hx : items[(k + items.size).toNat]? = some x)
    (p1 : isVal (.ref l) v1 g') (p2 : isInt k v2 g') (hs : ∀ t, subscripted slice false (.ref l) (.int k t) = operate [.ref l, .int k t] (getItem (.ref l) (.int k t)) := by intro _; rfl) :
    Tr prog w A g (subscriptTail value slice v1 v2) (isVal x) := fun s E le => by
  obtain ⟨t, rfl⟩ := p2
  rw [show v1 = .ref l from p1]
  have hl' := le.list hl
  exact tail_any hl'.typeIs slot_list_getitem.lookup (wpAny_getItem_list_neg hl' h0 h1 hfit hx ⟨Keeps.refl s, rfl⟩) (hs t)
/-- xs[-1] -/
theorem sub_last {value slice : Expr} {ds : List PyData} {d : PyData} {v1 v2 : Value} {g : Heap} (hx : ds.getLast? = some d) (hn : ds.length ≤ 1000000)
    (p1 : isRd bad (.list ds) v1 g) (p2 : isInt (-1) v2 g) (hs : ∀ l t, subscripted slice false (.ref l) (.int (-1) t) = operate [.ref l, .int (-1) t] (getItem (.ref l) (.int (-1) t)) := by intro _ _; rfl) :
    Tr prog w A g (subscriptTail value slice v1 v2) (isRd bad d) := by
  obtain ⟨t, rfl⟩ := p2
  cases p1 with
  | list hb hl hr =>
    rename_i a vs
    have hlen : vs.size = ds.length := by have := hr.length; simpa using this
    have hpos : 0 < ds.length := by cases ds with
      | nil => simp at hx
      | cons => simp
    have hx' : ds[(-1 + (vs.size : Int)).toNat]? = some d := by
      rw [List.getLast?_eq_getElem?] at hx
      rw [hlen, ← hx]; congr 1; omega
    obtain ⟨v, hv, r⟩ := hr.get hx'
    have := sub_neg (prog := prog) (w := w) (A := A) (value := value) (slice := slice) hl (by omega : (-1 : Int) < 0) (by omega) (by omega) (by simpa using hv) (p1 := rfl) (p2 := ⟨t, rfl⟩) (hs := fun t => hs _ t) (g' := g)
    exact this.weak fun v' g' le e => by rw [show v' = v from e]; exact r.le le
theorem op_addl {xs ys : List PyData} {v1 v2 : Value} {g : Heap} (al : Al bad g) (p1 : isRd bad (.list xs) v1 g) (p2 : isRd bad (.list ys) v2 g) (hsz : xs.length + ys.length ≤ 1000000) :
    Tr prog w A g (binaryOp .Add v1 v2) (isRd bad (.list (xs ++ ys))) := fun s E le => by
  have hal := al.le le
  cases p1 with
  | list hbl hl hr =>
    rename_i l vs
    cases p2 with
    | list hbb hb hr2 =>
      rename_i b ws
      obtain ⟨⟨cls, dd, data, sl⟩, ho, hc, n, hd⟩ := le.list hl
      obtain ⟨⟨cls2, dd2, data2, sl2⟩, ho2, hc2, n2, hd2⟩ := le.list hb
      simp only at hc hd hc2 hd2
      subst hc hd hc2 hd2
      have l1 := hr.length
      have l2 := hr2.length
      simp only [Array.length_toList] at l1 l2
      refine concat_meets ⟨_, ho, rfl⟩ ⟨_, ho2, rfl⟩ noFill_list_add seq_list_add PySem.F.slot_list_add PySem.F.entry_list_add (PySem.F.args_list_add_2 _ _) (list_addW l b vs ws n n2 dd dd2 sl sl2 (by rw [sizeLine_eq]; omega)) ⟨ho, ho2, ?_⟩
      refine ⟨Keeps.push s _, .list hal.fresh ⟨_, Heap.get?_push_size _ rfl, rfl, _, rfl⟩ ?_⟩
      rw [Array.toList_append]
      exact RdAll.append (hr.le (le.trans (Le.push _ _))) (hr2.le (le.trans (Le.push _ _)))
end
end Mine

end
section
open PySem PySem.Spec PySem.Calls PySem.W PyProof.Rows
set_option Elab.async false
set_option linter.unusedVariables false
namespace Mine

/-- the values have the properties, one by one -/
inductive Hs (h : Heap) : List Value → List HP → Prop
  | nil : Hs h [] []
  | cons {v vs P Ps} : P v h → Hs h vs Ps → Hs h (v :: vs) (P :: Ps)
def Mos (Ps : List HP) : Prop := ∀ P ∈ Ps, Mo P
theorem Hs.le {h h' : Heap} (k : Le h h') : ∀ {vs Ps}, Mos Ps → Hs h vs Ps → Hs h' vs Ps
  | _, _, _, .nil => .nil
  | _, _, m, .cons a b => .cons (m _ (.head _) _ _ _ k a) (b.le k fun P hP => m P (.tail _ hP))
theorem Hs.rd {bad : List Addr} {h : Heap} : ∀ {vs ds}, Hs h vs (ds.map (isRd bad)) → RdAll bad h vs ds
  | _, [], .nil => .nil
  | _, _ :: _, .cons a b => .cons a b.rd
theorem Hs.length {h : Heap} : ∀ {vs Ps}, Hs h vs Ps → vs.length = Ps.length
  | _, _, .nil => rfl
  | _, _, .cons _ b => by rw [List.length_cons, List.length_cons, b.length]
theorem mos_nil : Mos [] := fun _ h => nomatch h
theorem mos_cons {P Ps} (a : Mo P) (b : Mos Ps) : Mos (P :: Ps) := fun _ h => by
  rcases List.mem_cons.mp h with rfl | h
  · exact a
  · exact b _ h
theorem mos_rd {bad} (ds : List PyData) : Mos (ds.map (isRd bad)) := fun P hP => by
  obtain ⟨d, _, rfl⟩ := List.mem_map.mp hP
  exact mo_rd d
theorem rd_int {bad i v h} (p : isInt i v h) : isRd bad (.int i) v h := by obtain ⟨t, rfl⟩ := p; exact .int i t
theorem rd_str {bad i v h} (p : isStr i v h) : isRd bad (.str i) v h := by obtain ⟨t, rfl⟩ := p; exact .str i t
theorem int_rd {bad i v h} (p : isRd bad (.int i) v h) : isInt i v h := by cases p; exact ⟨_, rfl⟩
theorem str_rd {bad i v h} (p : isRd bad (.str i) v h) : isStr i v h := by cases p; exact ⟨_, rfl⟩

section
variable {prog : Program} {w : World} {A : Around} {env : Env} {h : Heap} {bad : List Addr}

/-- the items of a display, or a call's arguments -/
def Es (prog : Program) (w : World) (A : Around) (env : Env) (h : Heap) (es : List Expr) (Ps : List HP) : Prop :=
  ∀ (pos : Pos) (s : Shared) (E : Value → Shared → Prop), Le h s.heap → wpAny (model prog w) A (spliced (backTo pos (starEach es env))) (fun vs s' => Keeps s s' ∧ Hs s'.heap vs Ps) E s
theorem es_nil : Es prog w A env h [] [] := fun pos s E l => wpAny_items_nil ⟨Keeps.refl s, .nil⟩
theorem es_cons {e : Expr} {rest : List Expr} {P : HP} {Ps : List HP} (m : Mo P) (x : Tr prog w A h (eval e env) P) (r : Es prog w A env h rest Ps)
    (he : starEach (e :: rest) env = (false, eval e env) :: starEach rest env := by rfl) : Es prog w A env h (e :: rest) (P :: Ps) := fun pos s E l => by
  refine wpAny_items_cons (x.use l fun v s1 k1 p1 => ?_) he
  exact wpAny_mono (r pos s1 E (l.trans (Keeps.le k1))) (fun vs s2 ⟨k2, q⟩ => ⟨Keeps.tr k1 k2, .cons (m _ _ _ (Keeps.le k2) p1) q⟩) fun _ _ e => e

/-- a list of values with the properties Ps -/
def isLs (bad : List Addr) (Ps : List HP) : HP := fun v h => ∃ l vs, v = .ref l ∧ l ∉ bad ∧ h.IsList l vs ∧ Hs h vs.toList Ps
def isTp (bad : List Addr) (Ps : List HP) : HP := fun v h => ∃ l vs, v = .ref l ∧ l ∉ bad ∧ IsTup h l vs ∧ Hs h vs.toList Ps
theorem mo_ls {Ps} (m : Mos Ps) : Mo (isLs bad Ps) := fun _ _ _ k ⟨l, vs, e, n, a, b⟩ => ⟨l, vs, e, n, k.list a, b.le k m⟩
theorem mo_tp {Ps} (m : Mos Ps) : Mo (isTp bad Ps) := fun _ _ _ k ⟨l, vs, e, n, a, b⟩ => ⟨l, vs, e, n, k.tup a, b.le k m⟩
theorem ls_rd {ds v h} (p : isLs bad (ds.map (isRd bad)) v h) : isRd bad (.list ds) v h := by
  obtain ⟨l, vs, rfl, n, a, b⟩ := p
  exact .list n a b.rd
theorem tp_rd {ds v h} (p : isTp bad (ds.map (isRd bad)) v h) : isRd bad (.tuple ds) v h := by
  obtain ⟨l, vs, rfl, n, a, b⟩ := p
  exact .tup n a b.rd
theorem ev_list (al : Al bad h) {es : List Expr} {Ps : List HP} {pos : Pos} (m : Mos Ps) (x : Es prog w A env h es Ps) (hn : Ps.length ≤ 1000000) : Tr prog w A h (eval (.List es pos) env) (isLs bad Ps) := fun s E l => by
  refine wpAny_List (wpAny_mono (x pos s E l) (fun vs s1 ⟨k1, q⟩ => ?_) fun _ _ e => e)
  refine ⟨by rw [q.length, sizeLine_eq]; omega, Keeps.tr k1 (Keeps.push s1 _), _, vs.toArray, rfl, (al.le (l.trans (Keeps.le k1))).fresh, ⟨_, Heap.get?_push_size _ rfl, rfl, _, rfl⟩, ?_⟩
  simpa using q.le (Le.push _ _) m
theorem ev_tuple (al : Al bad h) {es : List Expr} {Ps : List HP} {k : Nat} {pos : Pos} (m : Mos Ps) (x : Es prog w A env h es Ps) (hn : Ps.length ≤ 1000000) : Tr prog w A h (eval (.Tuple es k pos) env) (isTp bad Ps) := fun s E l => by
  refine wpAny_Tuple (wpAny_mono (x pos s E l) (fun vs s1 ⟨k1, q⟩ => ?_) fun _ _ e => e)
  refine ⟨by rw [q.length, sizeLine_eq]; omega, Keeps.tr k1 (Keeps.push s1 _), _, vs.toArray, rfl, (al.le (l.trans (Keeps.le k1))).fresh, ⟨_, Heap.get?_push_size _ rfl, rfl, _, rfl⟩, ?_⟩
  simpa using q.le (Le.push _ _) m

/-- a bound of a slice -/
def Pt (prog : Program) (w : World) (A : Around) (env : Env) (h : Heap) (e : Option Expr) (k : Option Int) : Prop :=
  ∀ (s : Shared) (E : Value → Shared → Prop), Le h s.heap → wpAny (model prog w) A (evalPart e env) (fun v s' => Keeps s s' ∧ IsPart v k) E s
theorem pt_none : Pt prog w A env h none none := fun s E l => evalPart_none_step ⟨Keeps.refl s, .none⟩
theorem pt_some {e : Expr} {i : Int} (x : Tr prog w A h (eval e env) (isInt i)) : Pt prog w A env h (some e) (some i) := fun s E l =>
  evalPart_some_step (x.use l fun v s1 k1 ⟨t, ht⟩ => ⟨k1, ht ▸ .int i t⟩)

theorem sl_raw (al : Al bad h) {value : Expr} {lower upper step : Option Expr} {p pos : Pos} {ds : List PyData} {lo hi st : Option Int} {ds' : List PyData}
    (x : Tr prog w A h (eval value env) (isRd bad (.list ds))) (pl : Pt prog w A env h lower lo) (pu : Pt prog w A env h upper hi) (ps : Pt prog w A env h step st) (h0 : st ≠ some 0) (hn : ds.length ≤ 1000000)
    (hpick : ∀ (g : Heap) (vs : Array Value), RdAll bad g vs.toList ds → RdAll bad g (slicePick vs lo hi st).toList ds')
    (hs : ∀ o i, ∃ ops, subscripted (.Slice lower upper step p) false o i = operate ops (getItem o i)) :
    Tr prog w A h (eval (.Subscript value (.Slice lower upper step p) pos) env) (isRd bad (.list ds')) := fun s E l => by
  refine Subscript_ (x.use l fun v s1 k1 p1 => ?_)
  refine wpAny_Slice (wpAny_mono (pl s1 E (l.trans (Keeps.le k1))) (fun vl s2 ⟨k2, q2⟩ => ?_) fun _ _ e => e)
  refine wpAny_mono (pu s2 E ((l.trans (Keeps.le k1)).trans (Keeps.le k2))) (fun vu s3 ⟨k3, q3⟩ => ?_) fun _ _ e => e
  refine wpAny_mono (ps s3 E (((l.trans (Keeps.le k1)).trans (Keeps.le k2)).trans (Keeps.le k3))) (fun vt s4 ⟨k4, q4⟩ => ?_) fun _ _ e => e
  have le4 := ((Keeps.le k2).trans (Keeps.le k3)).trans (Keeps.le k4)
  cases p1 with
  | list hb hl hr =>
    rename_i a vs
    obtain ⟨ops, hops⟩ := hs (.ref a) (.ref s4.heap.objs.size)
    have hl' := le4.list hl
    have hsz := hr.length
    simp only [Array.length_toList] at hsz
    refine tail_any (hl'.push _).typeIs slot_list_getitem.lookup (wpAny_getItem_list_slice (hl'.push _) (Heap.IsSliceOf.new ..) q2 q3 q4 h0 ?_ (by rw [sizeLine_eq]; omega)) hops
    refine ⟨Keeps.tr k1 (Keeps.tr k2 (Keeps.tr k3 (Keeps.tr k4 (Keeps.push2 s4 _ _)))), .list (((al.le (l.trans (Keeps.le k1))).le le4).le (Le.push _ _)).fresh ⟨_, Heap.get?_push_size _ rfl, rfl, _, rfl⟩ ?_⟩
    exact hpick _ vs (hr.le (le4.trans ((Le.push _ _).trans (Le.push _ _))))
theorem sl_take (al : Al bad h) {value e : Expr} {p pos : Pos} {ds : List PyData} {k : Nat} (x : Tr prog w A h (eval value env) (isRd bad (.list ds))) (hn : ds.length ≤ 1000000) (pe : Tr prog w A h (eval e env) (isInt k)) :
    Tr prog w A h (eval (.Subscript value (.Slice none (some e) none p) pos) env) (isRd bad (.list (ds.take k))) :=
  sl_raw al x pt_none (pt_some pe) pt_none (by simp) hn (fun g vs hr => by rw [slicePick_upto']; simpa using hr.take k) fun o i => ⟨[i, o], rfl⟩
theorem sl_drop (al : Al bad h) {value e : Expr} {p pos : Pos} {ds : List PyData} {k : Nat} (x : Tr prog w A h (eval value env) (isRd bad (.list ds))) (hn : ds.length ≤ 1000000) (pe : Tr prog w A h (eval e env) (isInt k)) :
    Tr prog w A h (eval (.Subscript value (.Slice (some e) none none p) pos) env) (isRd bad (.list (ds.drop k))) :=
  sl_raw al x (pt_some pe) pt_none pt_none (by simp) hn (fun g vs hr => by rw [slicePick_from']; simpa using hr.drop k) fun o i => ⟨[i, o], rfl⟩
theorem sl_butlast (al : Al bad h) {value e : Expr} {p pos : Pos} {ds : List PyData} (x : Tr prog w A h (eval value env) (isRd bad (.list ds))) (hn : ds.length ≤ 1000000) (pe : Tr prog w A h (eval e env) (isInt (-1))) :
    Tr prog w A h (eval (.Subscript value (.Slice none (some e) none p) pos) env) (isRd bad (.list (ds.take (ds.length - 1)))) :=
  sl_raw al x pt_none (pt_some pe) pt_none (by simp) hn (fun g vs hr => by
    have hl := hr.length
    simp only [Array.length_toList] at hl
    have := slicePick_butLast vs 1 (Nat.le_refl _)
    rw [show (-(1 : Nat) : Int) = -1 from rfl] at this
    rw [this, hl]; simpa using hr.take (ds.length - 1)) fun o i => ⟨[i, o], rfl⟩
theorem sl_rev (al : Al bad h) {value e : Expr} {p pos : Pos} {ds : List PyData} (x : Tr prog w A h (eval value env) (isRd bad (.list ds))) (hn : ds.length ≤ 1000000) (pe : Tr prog w A h (eval e env) (isInt (-1))) :
    Tr prog w A h (eval (.Subscript value (.Slice none none (some e) p) pos) env) (isRd bad (.list ds.reverse)) :=
  sl_raw al x pt_none pt_none (pt_some pe) (by simp) hn (fun g vs hr => by rw [krv_pick]; simpa using hr.reverse) fun o i => ⟨[o, i], rfl⟩

/-- f(..) where f is a built-in function or a built-in type -/
theorem ev_callB {func e : Expr} {rest : List Expr} {pos : Pos} {id : String} {Ps : List HP} {P : HP} (hf : Tr prog w A h (eval func env) (isVal (.builtin id))) (ha : Es prog w A env h (e :: rest) Ps)
    (hop : ∀ vs g, Le h g → Hs g vs Ps → Tr prog w A g (call (.builtin id) vs) P)
    (he : eval (.Call func (e :: rest) [] pos) env = (do callWith pos (← eval func env) [] (backTo pos (starEach (e :: rest) env)) (backToKw pos (keywordEach [] env))) := by rfl)
    (hst : starEach (e :: rest) env = (false, eval e env) :: starEach rest env := by rfl) (hplain : (backTo pos (starEach rest env)).any (·.1) = false := by rfl) :
    Tr prog w A h (eval (.Call func (e :: rest) [] pos) env) P := fun s E l => by
  refine Call_ (hf.use l fun v s1 k1 p1 => ?_) he
  rw [show v = .builtin id from p1]
  refine callWith_builtin1 (wpAny_mono (ha pos s1 E (l.trans (Keeps.le k1))) (fun vs s2 ⟨k2, q⟩ => ?_) fun _ _ e => e) hst hplain
  exact (hop vs s2.heap ((l.trans (Keeps.le k1)).trans (Keeps.le k2)) q).use (Le.refl _) fun v s3 k3 p3 => ⟨Keeps.tr k1 (Keeps.tr k2 k3), p3⟩
theorem ev_callT {func e : Expr} {rest : List Expr} {pos : Pos} {id : String} {Ps : List HP} {P : HP} (hf : Tr prog w A h (eval func env) (isVal (.type id))) (ha : Es prog w A env h (e :: rest) Ps)
    (hop : ∀ vs g, Le h g → Hs g vs Ps → Tr prog w A g (call (.type id) vs) P)
    (he : eval (.Call func (e :: rest) [] pos) env = (do callWith pos (← eval func env) [] (backTo pos (starEach (e :: rest) env)) (backToKw pos (keywordEach [] env))) := by rfl)
    (hst : starEach (e :: rest) env = (false, eval e env) :: starEach rest env := by rfl) (hplain : (backTo pos (starEach rest env)).any (·.1) = false := by rfl) :
    Tr prog w A h (eval (.Call func (e :: rest) [] pos) env) P := fun s E l => by
  refine Call_ (hf.use l fun v s1 k1 p1 => ?_) he
  rw [show v = .type id from p1]
  refine PyProof.Rows.callWith_type1 (wpAny_mono (ha pos s1 E (l.trans (Keeps.le k1))) (fun vs s2 ⟨k2, q⟩ => ?_) fun _ _ e => e) hst hplain
  exact (hop vs s2.heap ((l.trans (Keeps.le k1)).trans (Keeps.le k2)) q).use (Le.refl _) fun v s3 k3 p3 => ⟨Keeps.tr k1 (Keeps.tr k2 k3), p3⟩

theorem call_lenL {n : Nat} {P : HP} {vs : List Value} {g : Heap} (hP : ∀ v, P v g → ∃ l items, v = .ref l ∧ g.IsList l items ∧ items.size = n) (hn : n ≤ 1000000) (x : Hs g vs [P]) :
    Tr prog w A g (call (.builtin "len") vs) (isInt n) := fun s E l => by
  cases x with
  | cons p q =>
    cases q
    obtain ⟨a, items, rfl, hl, e⟩ := hP _ p
    refine len_list (l.list hl) (by omega) ⟨Keeps.tok s _, _, by rw [e]⟩
theorem call_lenR {ds : List PyData} {vs : List Value} {g : Heap} (hn : ds.length ≤ 1000000) (x : Hs g vs [isRd bad (.list ds)]) :
    Tr prog w A g (call (.builtin "len") vs) (isInt ds.length) :=
  call_lenL (fun v p => by cases p with | list hb hl hr => exact ⟨_, _, rfl, hl, by simpa using hr.length⟩) hn x
theorem call_lenS {x : Str} {vs : List Value} {g : Heap} (hn : x.length ≤ 1000000) (q : Hs g vs [isStr x]) : Tr prog w A g (call (.builtin "len") vs) (isInt x.length) := fun s E l => by
  cases q with
  | cons p q =>
    cases q
    obtain ⟨t, rfl⟩ := p
    exact PyProof.Rows.len_str (by omega) ⟨Keeps.tok s _, _, rfl⟩
theorem call_max {a b : Int} {vs : List Value} {g : Heap} (hh : A.handled = none) (q : Hs g vs [isInt a, isInt b]) : Tr prog w A g (call (.builtin "max") vs) (isInt (max a b)) := fun s E l => by
  cases q with
  | cons p q =>
    cases q with
    | cons p2 q =>
      cases q
      obtain ⟨t, rfl⟩ := p; obtain ⟨u, rfl⟩ := p2
      refine max_two_ints hh fun h' tk k => ⟨⟨h', tk, rfl, k⟩, ?_⟩
      by_cases c : b > a
      · exact ⟨u, by rw [if_pos c]; congr 1; omega⟩
      · exact ⟨t, by rw [if_neg c]; congr 1; omega⟩
end
end Mine

end
section
open PySem PySem.Spec PySem.Calls PySem.W PyProof.Rows
set_option Elab.async false
set_option linter.unusedVariables false
namespace Mine

/-- a name's value, be it a local or a cell -/
def getv (env : Env) (m cs : Str → Option Value) (x : Str) : Option Value := match env.kindOf x with
  | some .local => m x
  | some .cell => (env.cells.lookup x).bind fun _ => cs x
  | some .free => (env.cells.lookup x).bind fun _ => cs x
  | _ => none
def upd (m : Str → Option Value) (x : Str) (v : Value) : Str → Option Value := fun y => if y = x then some v else m y
theorem upd_self {m x v} : upd m x v x = some v := by simp [upd]
theorem upd_ne {m x v y} (h : y ≠ x) : upd m x v y = m y := by simp [upd, h]

/-- what never turns about an environment -/
structure EnvOk (env : Env) : Prop where
  kind : env.scope.kind = .function
  globals : env.globals = mainGlobals
  builtins : env.builtins = builtinsNs
  keys : (env.cells.map (·.1)).Nodup
  addrs : (env.locals :: env.cells.map (·.2)).Nodup
theorem lookup_of_mem {α : Type} {l : List (Str × α)} {x : Str} {c : α} (hn : (l.map (·.1)).Nodup) (hm : (x, c) ∈ l) : l.lookup x = some c := by
  induction l with
  | nil => cases hm
  | cons p l ih =>
    obtain ⟨y, d⟩ := p
    rw [List.map_cons, List.nodup_cons] at hn
    rcases List.mem_cons.mp hm with e | hm
    · cases e; simp
    · have : x ≠ y := fun e => hn.1 (e ▸ List.mem_map.mpr ⟨_, hm, rfl⟩)
      rw [List.lookup_cons]
      have : (x == y) = false := by simp [this]
      rw [this]; exact ih hn.2 hm
theorem mem_of_lookup' {α : Type} {l : List (Str × α)} {x : Str} {c : α} (h : l.lookup x = some c) : (x, c) ∈ l := by
  induction l with
  | nil => cases h
  | cons p l ih =>
    obtain ⟨y, d⟩ := p
    rw [List.lookup_cons] at h
    cases e : (x == y) with
    | true => rw [e] at h; cases h; have := eq_of_beq e; subst this; exact .head _
    | false => rw [e] at h; exact .tail _ (ih h)

/-- the frame's names: each has its property -/
structure Ctx (env : Env) (fs : List (Str × HP)) (h : Heap) : Prop where
  ex : ∃ m cs, h.Ns env.locals m ∧ (∀ x c, (x, c) ∈ env.cells → h.IsCell c (cs x)) ∧ ∀ x P, fs.lookup x = some P → ∃ v, getv env m cs x = some v ∧ P v h
def Mofs (fs : List (Str × HP)) : Prop := ∀ x P, fs.lookup x = some P → Mo P
theorem Ctx.le {env fs h h'} (x : Ctx env fs h) (k : Le h h') (mo : Mofs fs) : Ctx env fs h' := by
  obtain ⟨m, cs, a, b, c⟩ := x.ex
  exact ⟨m, cs, a.keeps k, fun x d hm => (b x d hm).keeps k, fun x P hm => let ⟨v, e, p⟩ := c x P hm; ⟨v, e, mo x P hm _ _ _ k p⟩⟩
theorem Ctx.weak {env fs fs' h} (x : Ctx env fs h) (k : ∀ p ∈ fs', ∃ P', fs.lookup p.1 = some P' ∧ ∀ v, P' v h → p.2 v h) : Ctx env fs' h := by
  obtain ⟨m, cs, a, b, c⟩ := x.ex
  refine ⟨m, cs, a, b, fun y P hm => ?_⟩
  obtain ⟨P', hm', kk⟩ := k (y, P) (mem_of_lookup' hm)
  obtain ⟨v, e, p⟩ := c y P' hm'
  exact ⟨v, e, kk v p⟩

theorem inj_of_nodup {l : List (Str × Addr)} (h : (l.map (·.2)).Nodup) {p q : Str × Addr} (hp : p ∈ l) (hq : q ∈ l) (e : p.2 = q.2) : p = q := by
  induction l with
  | nil => cases hp
  | cons a l ih =>
    rw [List.map_cons, List.nodup_cons] at h
    rcases List.mem_cons.mp hp with h1 | h1
    · rcases List.mem_cons.mp hq with h2 | h2
      · rw [h1, h2]
      · exact absurd (List.mem_map.mpr ⟨q, h2, by rw [← e, h1]⟩) h.1
    · rcases List.mem_cons.mp hq with h2 | h2
      · exact absurd (List.mem_map.mpr ⟨p, h1, by rw [e, h2]⟩) h.1
      · exact ih h.2 h1 h2
/-- the main module's names and the built-in ones -/
structure Gl (mg mb : Str → Option Value) (h : Heap) : Prop where
  g : h.Ns mainGlobals mg
  b : h.Ns builtinsNs mb
  bb : ∀ x : Str, x ≠ "__name__" → mb x = bootBuiltins x
theorem Gl.le {mg mb h h'} (x : Gl mg mb h) (k : Le h h') : Gl mg mb h' := ⟨x.g.keeps k, x.b.keeps k, x.bb⟩

section
variable {prog : Program} {w : World} {A : Around} {env : Env} {h : Heap} {bad : List Addr} {fs : List (Str × HP)} {mg mb : Str → Option Value}

theorem load_ctx {x : Str} {P : HP} (ok : EnvOk env) (c : Ctx env fs h) (hm : fs.lookup x = some P) (mo : Mo P) (hc : (x == ("__classdict__" : Str)) = false := by decide) : Tr prog w A h (loadName env x) P := fun s E l => by
  obtain ⟨m, cs, a, b, cc⟩ := c.ex
  obtain ⟨v, e, p⟩ := cc x P hm
  have p' := mo _ _ _ l p
  unfold getv at e
  split at e
  · rename_i hk
    exact wpAny_loadName_local ok.kind hk (a.keeps l) e ⟨Keeps.refl s, p'⟩
  · rename_i hk
    cases hl : env.cells.lookup x with
    | some cc =>
      rw [hl, Option.bind_some] at e
      have hcell := (b x cc (mem_of_lookup' hl)).keeps l
      rw [e] at hcell
      exact wpAny_loadName_cell ok.kind hk hl hcell ⟨Keeps.refl s, p'⟩
    | none => rw [hl] at e; cases e
  · rename_i hk
    cases hl : env.cells.lookup x with
    | some cc =>
      rw [hl, Option.bind_some] at e
      have hcell := (b x cc (mem_of_lookup' hl)).keeps l
      rw [e] at hcell
      exact wpAny_loadName_free ok.kind hk hl hcell ⟨Keeps.refl s, p'⟩ hc
    | none => rw [hl] at e; cases e
  · cases e
theorem ev_name {x : Str} {P : HP} {pos : Pos} (ok : EnvOk env) (c : Ctx env fs h) (hm : fs.lookup x = some P) (mo : Mo P) (hc : (x == ("__classdict__" : Str)) = false := by decide) (hd : (x == ("__debug__" : Str)) = false := by decide) :
    Tr prog w A h (eval (.Name x pos) env) P := fun s E l => wpAny_Name (load_ctx ok c hm mo hc s E l) hd
theorem ev_glob {x : Str} {v : Value} {pos : Pos} (ok : EnvOk env) (G : Gl mg mb h) (hv : mg x = some v) (hx : env.kindOf x = some .globalImplicit := by rfl) (hd : (x == ("__debug__" : Str)) = false := by decide) :
    Tr prog w A h (eval (.Name x pos) env) (isVal v) := fun s E l =>
  Name_function_global ok.kind hx (loadGlobal_global (by rw [ok.globals]; exact G.g.keeps l) hv ⟨Keeps.refl s, rfl⟩) hd
theorem ev_built {x : Str} {v : Value} {pos : Pos} (ok : EnvOk env) (G : Gl mg mb h) (hm : mg x = none) (hv : bootBuiltins x = some v) (hn : x ≠ "__name__" := by decide) (hx : env.kindOf x = some .globalImplicit := by rfl) (hd : (x == ("__debug__" : Str)) = false := by decide) :
    Tr prog w A h (eval (.Name x pos) env) (isVal v) := fun s E l =>
  Name_function_global ok.kind hx (loadGlobal_builtin (by rw [ok.globals]; exact G.g.keeps l) hm (by rw [ok.builtins]; exact G.b.keeps l) ((G.bb x hn).trans hv) ⟨Keeps.refl s, rfl⟩) hd

/-- the addresses that the frame's own stores turn -/
def frameAddrs (env : Env) : List Addr := env.locals :: env.cells.map (·.2)
def Stfs (bad : List Addr) (fs : List (Str × HP)) : Prop := ∀ x P, fs.lookup x = some P → St bad P

theorem lookup_cons_ne {α : Type} {l : List (Str × α)} {x y : Str} {p : α} (h : y ≠ x) : ((x, p) :: l).lookup y = l.lookup y := by
  rw [List.lookup_cons]
  have : (y == x) = false := by simp [h]
  rw [this]
theorem lookup_cons_self {α : Type} {l : List (Str × α)} {x : Str} {p : α} : ((x, p) :: l).lookup x = some p := by
  rw [List.lookup_cons]; simp
/-- a store into a name of the frame: what is known of the others stays -/
theorem store_ctx {x : Str} {P : HP} {v : Value} {s : Shared} {E : Value → Shared → Prop} {Q : Unit → Shared → Prop} (ok : EnvOk env) (c : Ctx env fs s.heap)
    (hP : P v s.heap) (st : St (frameAddrs env) P) (hx : env.kindOf x = some .local ∨ (env.kindOf x = some .cell ∧ (env.cells.lookup x).isSome = true))
    (hst : Stfs (frameAddrs env) fs)
    (k : ∀ s' : Shared, (∃ h' tk, s' = { s with heap := h', toks := tk }) → But (frameAddrs env) s.heap s'.heap → Ctx env ((x, P) :: fs) s'.heap → Q () s') :
    wpAny (model prog w) A (storeName env x v) Q E s := by
  obtain ⟨m, cs, a, b, cc⟩ := c.ex
  have hL : env.locals ∉ env.cells.map (·.2) := (List.nodup_cons.mp ok.addrs).1
  rcases hx with hx | ⟨hx, hl⟩
  · refine wpAny_storeName_local hx a (fun h' hn hsb => k _ ⟨h', _, rfl⟩ ?_ ⟨upd m x v, cs, hn, ?_, ?_⟩) (by rw [ok.kind]; rfl)
    · exact (But.same hsb).more fun b hb => List.mem_singleton.mp hb ▸ .head _
    · intro y d hm
      exact (b y d hm).sameBut hsb fun q => hL (q ▸ List.mem_map.mpr ⟨_, hm, rfl⟩)
    · have bt : But (frameAddrs env) s.heap h' := (But.same hsb).more fun b hb => List.mem_singleton.mp hb ▸ .head _
      intro y R hm
      by_cases hne : y = x
      · subst hne
        rw [lookup_cons_self] at hm
        cases hm
        exact ⟨v, by unfold getv; rw [hx]; exact upd_self, st _ _ _ bt hP⟩
      · rw [lookup_cons_ne hne] at hm
        obtain ⟨u, e, p⟩ := cc y R hm
        refine ⟨u, ?_, hst y R hm _ _ _ bt p⟩
        unfold getv at e ⊢
        split at e <;> rename_i hk <;> (try rw [hk])
        · show upd m x v y = _
          rw [upd_ne hne]; exact e
        · exact e
        · exact e
        · cases e
  · obtain ⟨d, hd⟩ := Option.isSome_iff_exists.mp hl
    have hdm := mem_of_lookup' hd
    refine wpAny_storeName_cell ok.kind hx hd (b x d hdm) fun h' hn hsb => ?_
    have hmem : d ∈ env.cells.map (·.2) := List.mem_map.mpr ⟨_, hdm, rfl⟩
    have bt : But (frameAddrs env) s.heap h' := (But.same hsb).more fun b hb => List.mem_singleton.mp hb ▸ List.mem_cons_of_mem _ hmem
    refine k _ ⟨h', s.toks, rfl⟩ bt ⟨m, upd cs x v, a.sameBut hsb (fun q => hL (q ▸ hmem)), ?_, ?_⟩
    · intro y f hm
      by_cases hy : y = x
      · subst hy
        have : f = d := by
          have := lookup_of_mem ok.keys hm
          rw [hd] at this; exact (Option.some.inj this).symm
        subst this
        rw [upd_self]; exact hn
      · rw [upd_ne hy]
        refine (b y f hm).sameBut hsb fun q => hy ?_
        subst q
        exact congrArg Prod.fst (inj_of_nodup (List.nodup_cons.mp ok.addrs).2 hm hdm rfl)
    · intro y R hm
      by_cases hne : y = x
      · subst hne
        rw [lookup_cons_self] at hm
        cases hm
        exact ⟨v, by unfold getv; rw [hx, hd]; exact upd_self, st _ _ _ bt hP⟩
      · rw [lookup_cons_ne hne] at hm
        obtain ⟨u, e, p⟩ := cc y R hm
        refine ⟨u, ?_, hst y R hm _ _ _ bt p⟩
        unfold getv at e ⊢
        split at e <;> rename_i hk <;> (try rw [hk])
        · exact e
        · cases hq : env.cells.lookup y with
          | none => rw [hq] at e; cases e
          | some => rw [hq] at e; show upd cs x v y = _; rw [upd_ne hne]; exact e
        · cases hq : env.cells.lookup y with
          | none => rw [hq] at e; cases e
          | some => rw [hq] at e; show upd cs x v y = _; rw [upd_ne hne]; exact e
        · cases e
end

/-- the frame stands: since s₀ the heap has grown, but for the frame's own addresses; each name has its property, told over the banned addresses B; X -/
structure Inv (B : List Addr) (s₀ : Shared) (env : Env) (fs : List (Str × HP)) (X : Heap → Prop) (s : Shared) : Prop where
  same : ∃ h tk, s = { s₀ with heap := h, toks := tk }
  base : Le s₀.heap s.heap
  ctx : Ctx env fs s.heap
  x : X s.heap
  st : Stfs B fs
  al : Al B s.heap
structure FrOk (B : List Addr) (s₀ : Shared) (env : Env) (X : Heap → Prop) : Prop where
  ok : EnvOk env
  fresh : ∀ b ∈ frameAddrs env, s₀.heap.get? b = none
  sub : ∀ b ∈ frameAddrs env, b ∈ B
  hx : ∀ h h', But (frameAddrs env) h h' → X h → X h'
theorem FrOk.of {B : List Addr} {s₀ : Shared} {env : Env} {X Y : Heap → Prop} (F : FrOk B s₀ env X) (hy : ∀ h h', But (frameAddrs env) h h' → Y h → Y h') : FrOk B s₀ env Y := ⟨F.ok, F.fresh, F.sub, hy⟩
section
variable {prog : Program} {w : World} {A : Around} {env : Env} {h : Heap} {B : List Addr} {fs fs' : List (Str × HP)} {mg mb : Str → Option Value} {s₀ s : Shared} {X : Heap → Prop} {E : Value → Shared → Prop}
theorem Inv.mo (I : Inv B s₀ env fs X s) : Mofs fs := fun x P h => (I.st x P h).mo
theorem Inv.keeps {s' : Shared} (F : FrOk B s₀ env X) (I : Inv B s₀ env fs X s) (k : Keeps s s') : Inv B s₀ env fs X s' := by
  have kl := Keeps.le k
  obtain ⟨h, tk, rfl⟩ := I.same
  obtain ⟨h', tk', rfl, _⟩ := k
  exact ⟨⟨h', tk', rfl⟩, I.base.trans kl, I.ctx.le kl I.mo, F.hx _ _ kl.but I.x, I.st, I.al.le kl⟩
theorem Inv.weak (I : Inv B s₀ env fs X s) (k : ∀ p ∈ fs', ∃ P', fs.lookup p.1 = some P' ∧ (∀ v, P' v s.heap → p.2 v s.heap) ∧ St B p.2) : Inv B s₀ env fs' X s :=
  ⟨I.same, I.base, I.ctx.weak fun p hp => let ⟨P', a, b, _⟩ := k p hp; ⟨P', a, b⟩, I.x, fun x P hl => let ⟨_, _, _, c⟩ := k (x, P) (mem_of_lookup' hl); c, I.al⟩
/-- fewer facts -/
theorem Inv.less (I : Inv B s₀ env fs X s) (k : ∀ p ∈ fs', fs.lookup p.1 = some p.2) : Inv B s₀ env fs' X s :=
  I.weak fun p hp => ⟨p.2, k p hp, fun _ h => h, I.st _ _ (k p hp)⟩
theorem Inv.withX {Y : Heap → Prop} (I : Inv B s₀ env fs X s) (y : Y s.heap) : Inv B s₀ env fs Y s := ⟨I.same, I.base, I.ctx, y, I.st, I.al⟩

theorem st_storeB {x : Str} {P : HP} {v : Value} {Q : Unit → Shared → Prop} (F : FrOk B s₀ env X) (I : Inv B s₀ env fs X s) (hP : P v s.heap) (st : St B P)
    (hx : env.kindOf x = some .local ∨ (env.kindOf x = some .cell ∧ (env.cells.lookup x).isSome = true)) (k : ∀ s', But (frameAddrs env) s.heap s'.heap → Inv B s₀ env ((x, P) :: fs) X s' → Q () s') :
    wpAny (model prog w) A (storeName env x v) Q E s := by
  have hst : Stfs (frameAddrs env) fs := fun y R hl => (I.st y R hl).more F.sub
  refine store_ctx F.ok I.ctx hP (st.more F.sub) hx hst fun s' ⟨h', tk, e⟩ bt c => k s' bt ⟨?_, ?_, c, F.hx _ _ bt I.x, ?_, ?_⟩
  · obtain ⟨h, tk₀, e₀⟩ := I.same
    subst e₀; subst e; exact ⟨h', tk, rfl⟩
  · intro b o e'
    refine bt b o (fun hb => ?_) (I.base b o e')
    rw [F.fresh b hb] at e'; cases e'
  · intro y R hm
    by_cases hne : y = x
    · subst hne; rw [lookup_cons_self] at hm; cases hm; exact st
    · rw [lookup_cons_ne hne] at hm; exact I.st y R hm
  · intro b hb e'
    by_cases hf : b ∈ frameAddrs env
    · obtain ⟨m, cs, a, bb, _⟩ := c.ex
      rcases List.mem_cons.mp hf with rfl | hf
      · obtain ⟨o, _, _, ho, _⟩ := a
        rw [ho] at e'; cases e'
      · obtain ⟨⟨y, d⟩, hm, rfl⟩ := List.mem_map.mp hf
        obtain ⟨o, ho, _⟩ := bb y d hm
        rw [show s'.heap.get? d = some o from ho] at e'; cases e'
    · cases q : s.heap.get? b with
      | none => exact I.al b hb q
      | some o => rw [bt b o hf q] at e'; cases e'
theorem st_store {x : Str} {P : HP} {v : Value} {Q : Unit → Shared → Prop} (F : FrOk B s₀ env X) (I : Inv B s₀ env fs X s) (hP : P v s.heap) (st : St B P)
    (hx : env.kindOf x = some .local ∨ (env.kindOf x = some .cell ∧ (env.cells.lookup x).isSome = true)) (k : ∀ s', Inv B s₀ env ((x, P) :: fs) X s' → Q () s') :
    wpAny (model prog w) A (storeName env x v) Q E s := st_storeB F I hP st hx fun s' _ => k s'

theorem st_assign {x : Str} {P : HP} {value : Expr} {p pos : Pos} {Q : Flow → Shared → Prop} (F : FrOk B s₀ env X) (I : Inv B s₀ env fs X s) (ev : Tr prog w A s.heap (eval value env) P) (st : St B P)
    (k : ∀ s', Inv B s₀ env ((x, P) :: fs) X s' → Q .next s')
    (hx : env.kindOf x = some .local ∨ (env.kindOf x = some .cell ∧ (env.cells.lookup x).isSome = true))
    (hs : swapsWith value (some (.Name x p)) pos.line env = pure false := by rfl) : wpAny (model prog w) A (exec (.Assign [.Name x p] value pos) env) Q E s :=
  wpAny_Assign_Name (ev.use (Le.refl _) fun v s1 k1 p1 => st_store F (I.keeps F k1) p1 st hx k) hs
theorem st_aug {x : Str} {i j : Int} {value : Expr} {p pos : Pos} {Q : Flow → Shared → Prop} (F : FrOk B s₀ env X) (I : Inv B s₀ env fs X s) (hm : fs.lookup x = some (isInt i)) (ev : Tr prog w A s.heap (eval value env) (isInt j))
    (k : ∀ s', Inv B s₀ env ((x, isInt (i + j)) :: fs) X s' → Q .next s')
    (hx : env.kindOf x = some .local ∨ (env.kindOf x = some .cell ∧ (env.cells.lookup x).isSome = true)) (hc : (x == ("__classdict__" : Str)) = false := by decide) :
    wpAny (model prog w) A (exec (.AugAssign (.Name x p) .Add value pos) env) Q E s := by
  refine wpAny_AugAssign_Name ((load_ctx F.ok I.ctx hm (pu_int i).mo hc).use (Le.refl _) fun v s1 k1 p1 => ev.use (Keeps.le k1) fun v2 s2 k2 p2 => ?_)
  obtain ⟨t, rfl⟩ := p1
  obtain ⟨u, rfl⟩ := p2
  exact wpAny_iadd_int (st_store F (I.keeps F (Keeps.tr (Keeps.tr k1 k2) (Keeps.tok s2 _))) ⟨_, rfl⟩ (pu_int _).st hx k)
end
end Mine

end
section
open PySem PySem.Spec PySem.Calls PySem.W PyProof.Rows
set_option Elab.async false
set_option linter.unusedVariables false
namespace Mine

/-- a property that may be asked over any set of banned addresses -/
structure Bp (P : List Addr → HP) : Prop where
  st : ∀ B, St B (P B)
  grow : ∀ B B' v h, (∀ b ∈ B', b ∈ B ∨ h.get? b = none) → P B v h → P B' v h
theorem Bp.of_pure {P : HP} (x : Pure P) : Bp fun _ => P := ⟨fun _ => x.st, fun _ _ _ _ _ p => p⟩
theorem Bp.rd (d : PyData) : Bp fun B => isRd B d := ⟨fun B => st_rd B d, fun _ _ _ _ k p => p.bads k⟩

section
variable {prog : Program} {w : World} {A : Around} {env : Env} {h : Heap} {bad : List Addr} {fs : List (Str × HP)}

/-- an iterator over n items -/
def SrcAt (prog : Program) (w : World) (A : Around) (bad : List Addr) (n : Nat) (Pv : Nat → List Addr → HP) (s s₂ : Shared) (it : Value) : Prop :=
  ∃ I fp wr P0 St, it = .ref I ∧ Walks prog w A I fp wr n P0 St ∧ (∀ i v, i < n → P0 i v → Pv i (wr ++ bad) v s₂.heap) ∧ St 0 s₂.heap ∧ (∀ b ∈ fp, b ∉ bad) ∧ (∀ b ∈ wr, s.heap.get? b = none) ∧ (∀ b ∈ fp, s₂.heap.get? b ≠ none) ∧ ∀ i g, St i g → ∀ b ∈ wr, g.get? b ≠ none
/-- what is gone through in a for, or in a comprehension -/
def Src (prog : Program) (w : World) (A : Around) (env : Env) (bad : List Addr) (h : Heap) (iter : Expr) (n : Nat) (Pv : Nat → List Addr → HP) : Prop :=
  ∀ (s : Shared) (E : Value → Shared → Prop), Le h s.heap → wpAny (model prog w) A (eval iter env) (fun xv s₁ => wpAny (model prog w) A (pyIter xv) (fun it s₂ => Keeps s s₂ ∧ SrcAt prog w A bad n Pv s s₂ it) E s₁) E s

theorem src_rd {iter : Expr} {ds : List PyData} (hh : A.handled = none) (al : Al bad h) (x : Tr prog w A h (eval iter env) (isRd bad (.list ds))) :
    Src prog w A env bad h iter ds.length (fun i B v g => ∃ d, ds[i]? = some d ∧ Rd B g v d) := fun s E l => by
  refine x.use l fun v s1 k1 p1 => ?_
  cases p1 with
  | list hb hl hr =>
    rename_i a vs
    have hlt : a ≠ s1.heap.objs.size := by obtain ⟨o, ho, _⟩ := hl; exact Nat.ne_of_lt (Heap.lt_size ho)
    have hlen : vs.size = ds.length := by simpa using hr.length
    refine wpAny_pyIter_list hl ⟨Keeps.tr k1 (Keeps.push s1 _), s1.heap.objs.size, [s1.heap.objs.size, a], [s1.heap.objs.size], _, _, rfl, hlen ▸ Walks.list hh s1.heap.objs.size a hlt vs, ?_, ⟨⟨_, Heap.get?_push_size _ rfl, rfl, rfl⟩, hl.push _⟩, ?_, ?_, ?_, ?_⟩
    · intro i v hi hv
      obtain ⟨u, hu, r⟩ := hr.get (i := i) (d := ds[i]) (by simp [hi])
      have : u = v := by
        have hv' : vs.toList[i]? = some v := by simpa using hv
        rw [hu] at hv'; exact Option.some.inj hv'
      exact ⟨ds[i], by simp [hi], this ▸ (r.bads (bad' := [s1.heap.objs.size] ++ bad) (fun b hb => (List.mem_append.mp hb).elim (fun q => .inr (List.mem_singleton.mp q ▸ get_size_none _)) .inl)).le (Le.push _ _)⟩
    · intro b hb'
      rcases List.mem_cons.mp hb' with rfl | hb'
      · exact (al.le (l.trans (Keeps.le k1))).fresh
      · rcases List.mem_cons.mp hb' with rfl | hb'
        · exact hb
        · cases hb'
    · intro b hb'
      rw [List.mem_singleton.mp hb']
      cases q : s.heap.get? s1.heap.objs.size with
      | none => rfl
      | some o => exact absurd (Heap.lt_size (Keeps.le k1 _ _ q)) (Nat.lt_irrefl _)
    · intro b hb'
      rcases List.mem_cons.mp hb' with rfl | hb'
      · rw [Heap.get?_push_size _ rfl]; simp
      · rcases List.mem_cons.mp hb' with rfl | hb'
        · obtain ⟨o, ho, _⟩ := hl
          rw [Heap.get?_push_of_some _ ho]; simp
        · cases hb'
    · intro i g hst b hb'
      rw [List.mem_singleton.mp hb']
      obtain ⟨⟨o, ho, _⟩, _⟩ := hst
      rw [ho]; simp

theorem cell_in {sc : Scope} {cl : List (Str × Addr)} {C : Addr} : (compEnvC sc cl C env).cells = cl := rfl

/-- the i-th item of the list that is being made -/
structure Acc (F : Nat → List Addr → HP) (B : List Addr) (ys : Array Value) (h : Heap) : Prop where
  all : ∀ i v, ys[i]? = some v → F i B v h
theorem Acc.push {F : Nat → List Addr → HP} {B : List Addr} {ys : Array Value} {h : Heap} {y : Value} (x : Acc F B ys h) (p : F ys.size B y h) : Acc F B (ys.push y) h := ⟨fun i v e => by
  rw [Array.getElem?_push] at e
  split at e
  · rename_i q; cases e; exact q ▸ p
  · exact x.all i v e⟩
theorem Acc.but {F : Nat → List Addr → HP} {B : List Addr} {ys : Array Value} {h h' : Heap} (hF : ∀ i, Bp (F i)) (x : Acc F B ys h) (k : But B h h') : Acc F B ys h' := ⟨fun i v e => (hF i).st B _ _ _ k (x.all i v e)⟩

/-- the items are addresses, all different, all outside T -/
def Apart (nw : Bool) (T : List Addr) (ys : Array Value) (h : Heap) : Prop := nw = true → ys.toList.Nodup ∧ ∀ v ∈ ys.toList, ∃ r, v = .ref r ∧ r ∉ T ∧ h.get? r ≠ none
theorem Apart.but {nw T ys} {h h' : Heap} (x : Apart nw T ys h) (k : But T h h') : Apart nw T ys h' := fun e => ⟨(x e).1, fun v hv => by
  obtain ⟨r, a, b, c⟩ := (x e).2 v hv
  refine ⟨r, a, b, fun q => ?_⟩
  cases z : h.get? r with
  | none => exact c z
  | some o => rw [k r o b z] at q; cases q⟩
theorem Apart.push {nw T ys y} {h h' : Heap} (x : Apart nw T ys h) (k : But T h h') (hT : ∀ b ∈ T, h.get? b ≠ none) (p : nw = true → ∃ r, y = .ref r ∧ h.get? r = none ∧ h'.get? r ≠ none) : Apart nw T (ys.push y) h' := fun e => by
  obtain ⟨r, rfl, hr, hr'⟩ := p e
  obtain ⟨a, b⟩ := x e
  have hn : Value.ref r ∉ ys.toList := fun hm => by
    obtain ⟨r', e', _, al⟩ := b _ hm
    cases e'; exact al hr
  rw [Array.toList_push]
  refine ⟨List.nodup_append.mpr ⟨a, by simp, fun u hu v hv q => hn (by rw [List.mem_singleton.mp hv] at q; exact q ▸ hu)⟩, fun v hv => ?_⟩
  rcases List.mem_append.mp hv with hv | hv
  · exact ((x.but k) e).2 v hv
  · exact ⟨r, List.mem_singleton.mp hv, fun q => hT r q hr, hr'⟩

theorem comp_loop {elt iter : Expr} {x : Str} {px : Pos} {scope : Scope} {cl : List (Str × Addr)} {pos : Pos} {s₂ s₃ : Shared} {I D C : Addr} {fp wr : List Addr} {n : Nat} {P0 : Nat → Value → Prop} {St : Nat → Heap → Prop} {T B : List Addr}
    {Pv F : Nat → List Addr → HP} {m : Str → Option Value} {R : Result → Shared → Prop} (nw : Bool)
    (W : Walks prog w A I fp wr n P0 St) (hn : n ≤ 1000000) (hF : ∀ i, Bp (F i)) (hP : ∀ i, Bp (Pv i))
    (hx : (compEnvC scope cl C env).kindOf x = some .local) (hk : scope.kind = .function)
    (hD : D ∈ T) (hC : C ∈ T) (hwr : ∀ b ∈ wr, b ∈ T) (hTB : ∀ b ∈ T, b ∈ B) (hDC : D ≠ C) (hDf : D ∉ fp) (hCf : C ∉ fp)
    (hsame : ∃ h tk, s₃ = { s₂ with heap := h, toks := tk }) (hold : But T s₂.heap s₃.heap)
    (hst : St 0 s₃.heap) (hacc : s₃.heap.IsList D #[]) (hns : s₃.heap.Ns C m)
    (hPv : ∀ i v, i < n → P0 i v → Pv i B v s₃.heap)
    (hT : ∀ i g ys m', St i g → g.IsList D ys → g.Ns C m' → ∀ b ∈ T, g.get? b ≠ none)
    (helt : ∀ i v (s : Shared) (m' : Str → Option Value) E, i < n → But T s₂.heap s.heap → (∀ b ∈ T, s.heap.get? b ≠ none) → s.heap.Ns C m' → m' x = some v → Pv i B v s.heap → wpAny (model prog w) A (eval elt (compEnvC scope cl C env)) (fun y s' => Keeps s s' ∧ F i B y s'.heap ∧ (nw = true → ∃ r, y = .ref r ∧ s.heap.get? r = none ∧ s'.heap.get? r ≠ none)) E s)
    (hR : ∀ h' tk m' ys, h'.Ns C m' → h'.IsList D ys → ys.size = n → Acc F B ys h' → Apart nw T ys h' → But T s₂.heap h' → R (.ok .next) { s₂ with heap := h', toks := tk }) :
    codeAny (model prog w) A (.compLoop (.ListComp elt [⟨.Name x px, iter, [], 0⟩] scope pos) 0 (.ref I) (.ref D) (compEnvC scope cl C env)) R s₃ := by
  have butC : ∀ {h h'}, Heap.SameBut C h h' → But T h h' := fun k => (But.same k).more fun b hb => List.mem_singleton.mp hb ▸ hC
  have butD : ∀ {h h'}, Heap.SameBut D h h' → But T h h' := fun k => (But.same k).more fun b hb => List.mem_singleton.mp hb ▸ hD
  have butW : ∀ {h h' : Heap}, (∀ b o, b ∉ wr → h.get? b = some o → h'.get? b = some o) → But T h h' := fun k b o hb e => k b o (fun q => hb (hwr b q)) e
  have hCw : C ∉ wr := fun q => hCf (W.sub _ q)
  have hDw : D ∉ wr := fun q => hDf (W.sub _ q)
  refine codeAny_compLoop_list (fun k s' => ∃ h' tk m' ys, s' = { s₂ with heap := h', toks := tk } ∧ ys.size ≤ n ∧ k = n + 1 - ys.size ∧ St ys.size h' ∧ h'.IsList D ys ∧ h'.Ns C m' ∧ Acc F B ys h' ∧ Apart nw T ys h' ∧ But T s₂.heap h' ∧ But T s₃.heap h') ?_ (n + 1) ?_
  · rintro k s' ⟨h', tk, m', ys, rfl, hi, rfl, hst', hacc', hns', hF', hA', hold', hold3⟩
    by_cases hlt : ys.size < n
    · refine W.item ys.size _ _ _ hlt hst' fun v h₁ tk₁ hPv₁ hst₁ hk₁ => ?_
      refine wpAny_assign_Name (wpAny_storeName_local hx (hns'.at' fun o e => hk₁ _ o hCw e) (fun h₂ hn₂ hs₂ => ?_) (by simp [compEnvC, relabel, hk]))
      have b2 : But T h' h₂ := (butW hk₁).trans (butC hs₂)
      have hst₂ : St (ys.size + 1) h₂ := W.frame _ _ _ hst₁ fun b hb o e => hs₂.extBut b o (by rintro rfl; exact hCf hb) e
      have hacc₂ : h₂.IsList D ys := by
        obtain ⟨o, ho, r⟩ := hacc'
        exact ⟨o, hs₂.extBut _ _ hDC (hk₁ _ _ hDw ho), r⟩
      refine wpAny_mono (helt ys.size v _ _ _ hlt (hold'.trans b2) (hT _ _ _ _ hst₂ hacc₂ hn₂) hn₂ (by simp) ((hP ys.size).st B _ _ _ ((hold3.trans b2).more hTB) (hPv _ _ hlt hPv₁))) (fun y s4 ⟨k4, p4, q4⟩ => ?_) fun _ _ e => e
      obtain ⟨h₄, tk₄, rfl, hk₄⟩ := k4
      refine wpAny_list_append (Le.list (h := h₂) hk₄ hacc₂) (fun h₅ hl₅ hs₅ => ?_) (by rw [sizeLine_eq]; omega)
      refine ⟨n + 1 - (ys.size + 1), by omega, h₅, tk₄, _, ys.push y, rfl, (by rw [Array.size_push]; exact hlt), by rw [Array.size_push], ?_, hl₅, (hn₂.keeps hk₄).sameBut hs₅ (Ne.symm hDC), ?_, ?_, ?_, ?_⟩
      · rw [Array.size_push]
        exact W.frame _ _ _ hst₂ fun b hb o e => hs₅.extBut b o (by rintro rfl; exact hDf hb) (hk₄ b o e)
      · have a4 : Acc F B ys h₄ := hF'.but hF ((b2.trans (Le.but hk₄)).more hTB)
        exact (a4.push p4).but hF ((butD hs₅).more hTB)
      · exact ((hA'.but b2).push (Le.but hk₄) (hT _ _ _ _ hst₂ hacc₂ hn₂) q4).but (butD hs₅)
      · exact (hold'.trans b2).trans ((Le.but hk₄).trans (butD hs₅))
      · exact (hold3.trans b2).trans ((Le.but hk₄).trans (butD hs₅))
    · have hin : ys.size = n := by omega
      refine W.done _ _ _ (hin ▸ hst') fun h₁ tk₁ hk₁ => ?_
      refine hR h₁ tk₁ m' ys (hns'.at' fun o e => hk₁ _ o hCw e) ?_ hin (hF'.but hF ((butW hk₁).more hTB)) (hA'.but (butW hk₁)) (hold'.trans (butW hk₁))
      obtain ⟨o, ho, r⟩ := hacc'
      exact ⟨o, hk₁ _ _ hDw ho, r⟩
  · obtain ⟨h₃, tk₃, rfl⟩ := hsame
    exact ⟨h₃, tk₃, m, #[], rfl, Nat.zero_le _, rfl, hst, hacc, hns, ⟨fun i v e => by simp at e⟩, fun _ => ⟨by simp, fun v hv => by simp at hv⟩, hold, But.refl _ _⟩

/-- what a comprehension knows of the names that it takes from around -/
structure Cap (env : Env) (cl : List (Str × Addr)) (ffs : List Addr → List (Str × HP)) (bad : List Addr) (fs : List (Str × HP)) : Prop where
  sub : ∀ y c, (y, c) ∈ cl → (y, c) ∈ env.cells
  nd1 : (cl.map (·.1)).Nodup
  nd2 : (cl.map (·.2)).Nodup
  names : ∀ B, ∀ p ∈ ffs B, env.kindOf p.1 = some .cell ∧ (cl.lookup p.1).isSome = true
  has : ∀ p ∈ ffs bad, fs.lookup p.1 = some p.2
  grow : ∀ B h, (∀ b ∈ B, b ∈ bad ∨ h.get? b = none) → ∀ y P', (ffs B).lookup y = some P' → ∃ P, (ffs bad).lookup y = some P ∧ ∀ v, P v h → P' v h
  st : ∀ B y P, (ffs B).lookup y = some P → St B P

theorem comp_block {elt iter : Expr} {x : Str} {px : Pos} {scope : Scope} {cl : List (Str × Addr)} {pos : Pos} {s₂ : Shared} {it : Value} {n : Nat} {s : Shared}
    {Pv F : Nat → List Addr → HP} {ffs : List Addr → List (Str × HP)} {RR : Value → Addr → Result → Shared → Prop} {E : Value → Shared → Prop} (nw : Bool)
    (ok : EnvOk env) (c : Ctx env fs s.heap) (al : Al bad s.heap) (cap : Cap env cl ffs bad fs) (k2 : Keeps s s₂) (mo : Mofs fs)
    (src : SrcAt prog w A bad n Pv s s₂ it) (hn : n ≤ 1000000) (hF : ∀ i, Bp (F i)) (hP : ∀ i, Bp (Pv i))
    (hcell : ∀ y ∈ scope.names, y.2 ≠ .cell) (hkind : scope.kind = .function) (hx : scope.names.lookup x = some .local) (hfree : ∀ p ∈ ffs bad, ∀ C, (compEnvC scope cl C env).kindOf p.1 = some .cell)
    (hxf : ∀ p ∈ ffs bad, p.1 ≠ x)
    (helt : ∀ i g C B, i < n → EnvOk (compEnvC scope cl C env) → Le s.heap g → Al B g → (∀ b ∈ bad, b ∈ B) → Ctx (compEnvC scope cl C env) ((x, Pv i B) :: ffs B) g → Tr prog w A g (eval elt (compEnvC scope cl C env)) (fun v h' => F i B v h' ∧ (nw = true → ∃ r, v = .ref r ∧ g.get? r = none ∧ h'.get? r ≠ none)))
    (hRR : ∀ D C h' tk m' ys, s₂.heap.get? D = none → s₂.heap.get? C = none → D ≠ C → h'.Ns C m' → h'.IsList D ys → ys.size = n → Acc F (C :: bad) ys h' → (nw = true → ys.toList.Nodup) → Le s.heap h' → D ∉ bad → RR (.ref D) C (.ok .next) { s₂ with heap := h', toks := tk }) :
    wpAny (model prog w) A (newList []) (fun acc s₃ => wpAny (model prog w) A (newFunctionEnv scope env.globals cl [] env.qual none .none (some env)) (fun cenv s₄ =>
      codeAny (model prog w) A (.compStart (.ListComp elt [⟨.Name x px, iter, [], 0⟩] scope pos) 0 it acc { cenv with scope := relabel scope env }) (RR acc cenv.locals) s₄) E s₃) E s₂ := by
  obtain ⟨I, fp, wr, P0, St, rfl, W, hPv, hst, hfpb, hwrn, hfp, hwal⟩ := src
  refine wpAny_newObj_type (wpAny_newFunctionEnv hcell (by intro y hy; simp at hy) (fun h₁ hns₁ hsb₁ => ?_) hkind)
  dsimp only at hns₁ hsb₁ ⊢
  generalize hH2 : s₂.heap.push { cls := .type "list", dict := none, data := .seq ([] : List Value).toArray } = H2 at hns₁ hsb₁ ⊢
  have hC : H2.objs.size = s₂.heap.objs.size + 1 := by rw [← hH2, Heap.size_push]
  have hDC : s₂.heap.objs.size ≠ H2.objs.size := by rw [hC]; exact Nat.ne_of_lt (Nat.lt_succ_self _)
  have alive : ∀ b, s₂.heap.get? b ≠ none → b ≠ H2.objs.size ∧ b ≠ s₂.heap.objs.size := fun b hb => by
    cases q : s₂.heap.get? b with
    | none => exact absurd q hb
    | some o =>
      have := Heap.lt_size q
      exact ⟨Nat.ne_of_lt (by rw [hC]; exact Nat.lt_succ_of_lt this), Nat.ne_of_lt this⟩
  have hDf : s₂.heap.objs.size ∉ fp := fun hm => (alive _ (hfp _ hm)).2 rfl
  have hCf : H2.objs.size ∉ fp := fun hm => (alive _ (hfp _ hm)).1 rfl
  have old : Le s₂.heap h₁ := fun b o e => hsb₁.extBut b o (alive b (by rw [e]; simp)).1 (Heap.get?_push_of_some _ (hH2 ▸ Heap.get?_push_of_some _ e))
  have hDnone : s₂.heap.get? s₂.heap.objs.size = none := get_size_none _
  have hCnone : s₂.heap.get? H2.objs.size = none := by
    cases q : s₂.heap.get? H2.objs.size with
    | none => rfl
    | some o => exact absurd (Heap.lt_size q) (by rw [hC]; exact Nat.not_lt.mpr (Nat.le_succ _))
  have hDat : h₁.IsList s₂.heap.objs.size #[] := ⟨_, hsb₁.extBut _ _ hDC (Heap.get?_push_of_some _ (hH2 ▸ Heap.get?_push_size _ rfl)), rfl, _, rfl⟩
  have hst₁ : St 0 h₁ := W.frame _ _ _ hst fun b _ o e => old b o e
  have kl := Keeps.le k2
  let T : List Addr := s₂.heap.objs.size :: H2.objs.size :: wr
  have hDT : s₂.heap.objs.size ∈ T := .head _
  have hCT : H2.objs.size ∈ T := .tail _ (.head _)
  have hwT : ∀ b ∈ wr, b ∈ T := fun b hb => .tail _ (.tail _ hb)
  have hTnew : ∀ b ∈ T, s.heap.get? b = none := fun b hb => by
    have dn : ∀ a, s₂.heap.get? a = none → s.heap.get? a = none := fun a e => by
      cases q : s.heap.get? a with
      | none => rfl
      | some o => rw [kl a o q] at e; cases e
    rcases List.mem_cons.mp hb with rfl | hb
    · exact dn _ hDnone
    · rcases List.mem_cons.mp hb with rfl | hb
      · exact dn _ hCnone
      · exact hwrn _ hb
  have hBnew : ∀ b ∈ T ++ bad, b ∈ bad ∨ s.heap.get? b = none := fun b hb => (List.mem_append.mp hb).elim (fun q => .inr (hTnew b q)) .inl
  have lesT : ∀ g, But T s₂.heap g → Le s.heap g := fun g k b o e => k b o (fun q => by rw [hTnew b q] at e; cases e) (kl b o e)
  obtain ⟨m, cs, hns, hcs, hfs⟩ := c.ex
  have okC : EnvOk (compEnvC scope cl H2.objs.size env) := by
    refine ⟨hkind, ok.globals, ok.builtins, cap.nd1, List.nodup_cons.mpr ⟨fun hm => ?_, cap.nd2⟩⟩
    obtain ⟨⟨y, d⟩, hm, e⟩ := List.mem_map.mp hm
    obtain ⟨o, ho, _⟩ := hcs y d (cap.sub y d hm)
    have e' : d = H2.objs.size := e
    have := kl d o ho
    rw [e', hCnone] at this; cases this
  have loop : codeAny (model prog w) A (.compLoop (.ListComp elt [⟨.Name x px, iter, [], 0⟩] scope pos) 0 (.ref I) (.ref s₂.heap.objs.size) (compEnvC scope cl H2.objs.size env))
        (RR (.ref s₂.heap.objs.size) H2.objs.size) { s₂ with heap := h₁, toks := s₂.toks + ([] : List (Str × Value)).length } := by
    refine comp_loop nw (T := T) (B := T ++ bad) (s₂ := s₂) W hn hF hP (lookup_relabel_local hx) hkind hDT hCT hwT (fun b hb => List.mem_append_left _ hb) hDC hDf hCf ⟨_, _, rfl⟩ (Le.but old) hst₁ hDat hns₁ ?_ ?_ ?_ ?_
    · intro i v hi h0
      refine (hP i).st _ _ _ _ (Le.but old) ((hP i).grow _ _ _ _ (fun b hb => ?_) (hPv i v hi h0))
      rcases List.mem_append.mp hb with hb | hb
      · rcases List.mem_cons.mp hb with rfl | hb
        · exact .inr hDnone
        · rcases List.mem_cons.mp hb with rfl | hb
          · exact .inr hCnone
          · exact .inl (List.mem_append_left _ hb)
      · exact .inl (List.mem_append_right _ hb)
    · intro i g ys m' hst' hl hn' b hb
      rcases List.mem_cons.mp hb with rfl | hb
      · obtain ⟨o, ho, _⟩ := hl
        rw [ho]; simp
      · rcases List.mem_cons.mp hb with rfl | hb
        · obtain ⟨o, _, _, ho, _⟩ := hn'
          rw [ho]; simp
        · exact hwal _ _ hst' _ hb
    · intro i v s' m' E' hi hb hal hn' hm' hp
      have les := lesT _ hb
      refine helt i s'.heap _ (T ++ bad) hi okC les (fun b hb => (List.mem_append.mp hb).elim (hal b) (al.le les b)) (fun b hb => List.mem_append_right _ hb) ⟨m', cs, hn', fun y d hm => (hcs y d (cap.sub y d hm)).keeps les, fun y P' hl => ?_⟩ s' E' (Le.refl _)
      by_cases hy : y = x
      · subst hy
        rw [lookup_cons_self] at hl
        cases hl
        exact ⟨v, by unfold getv; rw [show (compEnvC scope cl H2.objs.size env).kindOf y = some .local from lookup_relabel_local hx]; exact hm', hp⟩
      · rw [lookup_cons_ne hy] at hl
        obtain ⟨P, hP', kk⟩ := cap.grow _ _ hBnew y P' hl
        have hmem := mem_of_lookup' hP'
        obtain ⟨u, e, p⟩ := hfs y P (cap.has _ hmem)
        obtain ⟨k1, k2'⟩ := cap.names bad _ hmem
        obtain ⟨d, hd⟩ := Option.isSome_iff_exists.mp k2'
        unfold getv at e
        rw [k1] at e
        have e' : cs y = some u := by
          cases q : env.cells.lookup y with
          | none => rw [q] at e; cases e
          | some => rw [q] at e; exact e
        refine ⟨u, ?_, (cap.st _ y P' hl).mo _ _ _ les (kk u p)⟩
        unfold getv
        rw [hfree _ hmem, show (compEnvC scope cl H2.objs.size env).cells = cl from rfl, hd]
        exact e'
    · intro h' tk m' ys hn' hl hsz hacc hap hb
      exact hRR _ _ h' tk m' ys hDnone hCnone hDC hn' hl hsz ⟨fun i v e => (hF i).grow _ _ _ _ (fun b hb => .inl ((List.mem_cons.mp hb).elim (fun q => List.mem_append_left _ (q ▸ hCT)) (List.mem_append_right _))) (hacc.all i v e)⟩ (fun e => (hap e).1) (lesT _ hb) ((al.le kl).fresh)
  exact codeAny_compStart_list loop (W.self 0 _ _ _ hst₁ loop)
end
end Mine

end
section
open PySem PySem.Spec PySem.Calls PySem.W PyProof.Rows
set_option Elab.async false
set_option linter.unusedVariables false
namespace Mine
/-- the i-th of the data -/
def itm (ds : List PyData) (i : Nat) : List Addr → HP := fun B v g => ∃ d, ds[i]? = some d ∧ Rd B g v d
theorem bp_itm (ds : List PyData) (i : Nat) : Bp (itm ds i) := ⟨fun B v g g' k ⟨d, e, r⟩ => ⟨d, e, r.but k⟩, fun _ _ _ _ k ⟨d, e, r⟩ => ⟨d, e, r.bads k⟩⟩
theorem itm_of {ds : List PyData} {i : Nat} {d : PyData} {B : List Addr} {v : Value} {g : Heap} (e : ds[i]? = some d) (r : isRd B d v g) : itm ds i B v g := ⟨d, e, r⟩
theorem acc_rd {bad : List Addr} {g : Heap} : ∀ (vs : List Value) (ds : List PyData), vs.length = ds.length → (∀ (i : Nat) v, vs[i]? = some v → ∃ d, ds[i]? = some d ∧ Rd bad g v d) → RdAll bad g vs ds
  | [], [], _, _ => .nil
  | v :: vs, d :: ds, h, k => by
    obtain ⟨d', e, r⟩ := k 0 v rfl
    simp at e; subst e
    exact .cons r (acc_rd vs ds (by simpa using h) fun i u hu => by simpa using k (i + 1) u (by simpa using hu))

section
variable {prog : Program} {w : World} {A : Around} {env : Env} {h : Heap} {bad : List Addr} {fs : List (Str × HP)}

theorem ev_comp {elt iter : Expr} {x : Str} {px : Pos} {scope : Scope} {cl : List (Str × Addr)} {pos : Pos} {n : Nat} {Pv : Nat → List Addr → HP} {ds : List PyData} {ffs : List Addr → List (Str × HP)}
    (ok : EnvOk env) (c : Ctx env fs h) (al : Al bad h) (mo : Mofs fs) (hclos : closureFor scope env = pure cl) (cap : Cap env cl ffs bad fs) (src : Src prog w A env bad h iter n Pv) (hn : n ≤ 1000000) (hds : ds.length = n) (hP : ∀ i, Bp (Pv i))
    (hcell : ∀ y ∈ scope.names, y.2 ≠ .cell) (hkind : scope.kind = .function) (hnames : ∀ y ∈ scope.names, y.2 = .local → scope.names.lookup y.1 = some .local) (hx : scope.names.lookup x = some .local)
    (hfree : ∀ p ∈ ffs bad, ∀ C, (compEnvC scope cl C env).kindOf p.1 = some .cell)
    (helt : ∀ i g C B, i < n → EnvOk (compEnvC scope cl C env) → Le h g → Al B g → (∀ b ∈ bad, b ∈ B) → Ctx (compEnvC scope cl C env) ((x, Pv i B) :: ffs B) g → Tr prog w A g (eval elt (compEnvC scope cl C env)) (itm ds i B))
    (hs : ∀ x, foldedSetIterable iter env x = pure x := by intro _; rfl) :
    Tr prog w A h (eval (.ListComp elt [⟨.Name x px, iter, [], 0⟩] scope pos) env) (isRd bad (.list ds)) := fun s E l => by
  rw [eval_ListComp]
  refine wpAny_comprehension_free (use := none) rfl hs hclos hkind hnames (wpAny_mono (src s E l) (fun xv s₁ h₁ => wpAny_mono h₁ (fun it s₂ ⟨k2, at2⟩ => ?_) fun _ _ e => e) fun _ _ e => e)
  refine comp_block false (RR := fun acc C => compPost (model prog w) A E none (fun v s' => Keeps s s' ∧ isRd bad (.list ds) v s'.heap) acc C) ok (c.le l mo) (al.le l) cap k2 mo at2 hn (bp_itm ds) hP hcell hkind hx hfree (fun p hp e => ?_) (fun i g C B hi o hl ha hb hc => (helt i g C B hi o (l.trans hl) ha hb hc).weak fun v g' _ p => ⟨p, fun e => nomatch e⟩) ?_
  · have := hfree p hp 0
    rw [e, show (compEnvC scope cl 0 env).kindOf x = some .local from lookup_relabel_local hx] at this
    cases this
  · intro D C h' tk m' ys hD hC hDC hn' hl hsz hacc _ hle hbad
    refine ⟨m', hn', fun h'' hs'' => ?_⟩
    have e2 : ∀ b o, h'.get? b = some o → b ≠ C → h''.get? b = some o := fun b o e n => hs''.extBut b o n e
    have hCs : s.heap.get? C = none := by
      cases q : s.heap.get? C with
      | none => rfl
      | some o => rw [Keeps.le k2 C o q] at hC; cases hC
    obtain ⟨h2, t2, rfl, _⟩ := k2
    have hl2 : h''.IsList D ys := by
      obtain ⟨o, ho, r⟩ := hl
      exact ⟨o, e2 D o ho hDC, r⟩
    refine ⟨⟨h'', tk, rfl, fun b o e => e2 b o (hle b o e) (by rintro rfl; rw [hCs] at e; cases e)⟩, Rd.list (vs := ys) hbad hl2 ?_⟩
    refine acc_rd _ _ (by rw [Array.length_toList, hsz, hds]) fun i v hv => ?_
    have hv' : ys[i]? = some v := by simpa using hv
    obtain ⟨d, e, r⟩ := hacc.all i v hv'
    exact ⟨d, e, (r.but ((But.same hs'').more fun b hb => List.mem_singleton.mp hb ▸ .head _)).bads fun b hb => .inl (.tail _ hb)⟩

/-- a property as it was while C did not stand yet: it outlives a change at C too -/
def hatP (B : List Addr) (C : Addr) (P : HP) : HP := fun v h => ∃ g, P v g ∧ g.get? C = none ∧ But B g h
def hatX (W : List Addr) (C : Addr) (X : Heap → Prop) : Heap → Prop := fun h => ∃ g, X g ∧ g.get? C = none ∧ But W g h
theorem hat_but {B : List Addr} {C : Addr} {g h h' : Heap} (e : g.get? C = none) (k : But B g h) (k' : But (C :: B) h h') : But B g h' := fun b o n q =>
  k' b o (fun hb => (List.mem_cons.mp hb).elim (fun z => by rw [z, e] at q; cases q) n) (k b o n q)
theorem hatP_st (B C P) : St (C :: B) (hatP B C P) := fun v h h' k ⟨g, p, e, b⟩ => ⟨g, p, e, hat_but e b k⟩
def hatF (B : List Addr) (C : Addr) (fs : List (Str × HP)) : List (Str × HP) := fs.map fun p => (p.1, hatP B C p.2)
theorem lookup_hat {B C x P} : ∀ {fs : List (Str × HP)}, fs.lookup x = some P → (hatF B C fs).lookup x = some (hatP B C P)
  | [], h => nomatch h
  | (y, R) :: fs, h => by
    by_cases hy : x = y
    · subst hy; rw [lookup_cons_self] at h; cases h; exact lookup_cons_self
    · rw [lookup_cons_ne hy] at h
      show List.lookup x ((y, _) :: hatF B C fs) = _
      rw [lookup_cons_ne hy]; exact lookup_hat h
theorem lookup_hat' {B C x P'} : ∀ {fs : List (Str × HP)}, (hatF B C fs).lookup x = some P' → ∃ P, fs.lookup x = some P ∧ P' = hatP B C P
  | [], h => nomatch h
  | (y, R) :: fs, h => by
    by_cases hy : x = y
    · subst hy
      rw [show hatF B C ((x, R) :: fs) = (x, hatP B C R) :: hatF B C fs from rfl, lookup_cons_self] at h
      cases h; exact ⟨R, lookup_cons_self, rfl⟩
    · rw [show hatF B C ((y, R) :: fs) = (y, hatP B C R) :: hatF B C fs from rfl, lookup_cons_ne hy] at h
      rw [lookup_cons_ne hy]; exact lookup_hat' h
theorem Inv.hat {s₀ s s1 : Shared} {X : Heap → Prop} {C : Addr} (I : Inv bad s₀ env fs X s) (I1 : Inv bad s₀ env fs X s1) (k : Keeps s s1) (hC : s.heap.get? C = none) :
    Inv bad s₀ env (hatF bad C fs) (hatX (frameAddrs env) C X) s1 := by
  have kl := Keeps.le k
  obtain ⟨m, cs, a, b, c⟩ := I.ctx.ex
  refine ⟨I1.same, I1.base, ⟨m, cs, a.keeps kl, fun y d hm => (b y d hm).keeps kl, fun y P' hl => ?_⟩, ⟨s.heap, I.x, hC, kl.but⟩, fun y P' hl => ?_, I1.al⟩
  · obtain ⟨P, hP, rfl⟩ := lookup_hat' hl
    obtain ⟨v, e, p⟩ := c y P hP
    exact ⟨v, e, s.heap, p, hC, kl.but⟩
  · obtain ⟨P, hP, rfl⟩ := lookup_hat' hl
    exact (hatP_st bad C P).more fun b hb => .tail _ hb
theorem FrOk.hat {s₀ : Shared} {X : Heap → Prop} {C : Addr} (F : FrOk bad s₀ env X) : FrOk bad s₀ env (hatX (frameAddrs env) C X) := F.of fun h h' k ⟨g, x, e, b⟩ => ⟨g, x, e, hat_but e b (k.more fun b hb => .tail _ hb)⟩
theorem Inv.unhat {s₀ s : Shared} {X : Heap → Prop} {C : Addr} {y : Str} {P P' : HP} {h' : Heap} (F : FrOk bad s₀ env X) (I : Inv bad s₀ env ((y, P) :: hatF bad C fs) (hatX (frameAddrs env) C X) s) (hst : Stfs bad fs) (hs : Heap.SameBut C s.heap h')
    (hC0 : s₀.heap.get? C = none) (hCf : C ∉ bad) (hP : ∀ v, P v s.heap → P' v h') (stP : St bad P') : Inv bad s₀ env ((y, P') :: fs) X { s with heap := h' } := by
  obtain ⟨m, cs, a, b, c⟩ := I.ctx.ex
  have hCf' : C ∉ frameAddrs env := fun q => hCf (F.sub _ q)
  have hCL : env.locals ≠ C := fun e => hCf' (e ▸ .head _)
  have bt : ∀ W, But (C :: W) s.heap h' := fun W => (But.same hs).more fun b hb => List.mem_singleton.mp hb ▸ .head _
  refine ⟨?_, fun d o e => hs.extBut d o (by rintro rfl; rw [hC0] at e; cases e) (I.base d o e), ⟨m, cs, a.sameBut hs hCL, fun x d hm => (b x d hm).sameBut hs fun e => hCf' (e ▸ List.mem_cons_of_mem _ (List.mem_map.mpr ⟨_, hm, rfl⟩)), fun x R hl => ?_⟩, ?_, fun x R hl => ?_, fun b hb e => ?_⟩
  · obtain ⟨h, tk, rfl⟩ := I.same
    exact ⟨h', tk, rfl⟩
  · by_cases hx : x = y
    · subst hx
      rw [lookup_cons_self] at hl; cases hl
      obtain ⟨v, e, p⟩ := c x P lookup_cons_self
      exact ⟨v, e, hP v p⟩
    · rw [lookup_cons_ne hx] at hl
      obtain ⟨v, e, g, p, hg, k⟩ := c x (hatP bad C R) (by rw [lookup_cons_ne hx]; exact lookup_hat hl)
      exact ⟨v, e, hst x R hl _ _ _ (hat_but hg k (bt _)) p⟩
  · obtain ⟨g, x, e, k⟩ := I.x
    exact F.hx _ _ (hat_but e k (bt _)) x
  · by_cases hx : x = y
    · subst hx; rw [lookup_cons_self] at hl; cases hl; exact stP
    · rw [lookup_cons_ne hx] at hl; exact hst x R hl
  · have hne : b ≠ C := fun q => hCf (q ▸ hb)
    exact I.al b hb ((hs.2 b hne).symm.trans e)

theorem Inv.head {s₀ s : Shared} {X : Heap → Prop} {x : Str} {P P' : HP} (I : Inv bad s₀ env ((x, P) :: fs) X s) (k : ∀ v, P v s.heap → P' v s.heap) (st : St bad P') : Inv bad s₀ env ((x, P') :: fs) X s := by
  obtain ⟨m, cs, a, b, c⟩ := I.ctx.ex
  refine ⟨I.same, I.base, ⟨m, cs, a, b, fun y R hl => ?_⟩, I.x, fun y R hl => ?_, I.al⟩
  · by_cases e : y = x
    · subst e; rw [lookup_cons_self] at hl; cases hl
      obtain ⟨v, e, p⟩ := c y P lookup_cons_self
      exact ⟨v, e, k v p⟩
    · rw [lookup_cons_ne e] at hl
      exact c y R (by rw [lookup_cons_ne e]; exact hl)
  · by_cases e : y = x
    · subst e; rw [lookup_cons_self] at hl; cases hl; exact st
    · rw [lookup_cons_ne e] at hl
      exact I.st y R (by rw [lookup_cons_ne e]; exact hl)
/-- a list of data, its items (where nw) addresses that are all different -/
def isNw (nw : Bool) (h0 : Heap) (bad : List Addr) (ds : List PyData) : HP := fun v h => ∃ D ys, v = .ref D ∧ D ∉ bad ∧ h.IsList D ys ∧ RdAll bad h ys.toList ds ∧ (nw = true → ys.toList.Nodup ∧ h0.get? D = none ∧ ∀ v ∈ ys.toList, ∃ r, v = .ref r ∧ h0.get? r = none)
theorem st_nw (nw : Bool) (h0 : Heap) (bad : List Addr) (ds : List PyData) : St bad (isNw nw h0 bad ds) := fun v h h' k ⟨D, ys, e, n, a, b, c⟩ => ⟨D, ys, e, n, k.list n a, b.but k, c⟩
theorem isNw.less {nw h0 C} {bad : List Addr} {ds : List PyData} {v h} (p : isNw nw h0 (C :: bad) ds v h) : isNw nw h0 bad ds v h := by
  obtain ⟨D, ys, e, n, a, b, c⟩ := p
  exact ⟨D, ys, e, fun q => n (.tail _ q), a, b.bads fun b hb => .inl (.tail _ hb), c⟩
def itmN (nw : Bool) (h0 : Heap) (ds : List PyData) (i : Nat) : List Addr → HP := fun B v g => itm ds i B v g ∧ (nw = true → ∃ r, v = .ref r ∧ h0.get? r = none)
theorem bp_itmN (nw : Bool) (h0 : Heap) (ds : List PyData) (i : Nat) : Bp (itmN nw h0 ds i) := ⟨fun B v g g' k ⟨p, q⟩ => ⟨(bp_itm ds i).st B v g g' k p, q⟩, fun B B' v g k ⟨p, q⟩ => ⟨(bp_itm ds i).grow B B' v g k p, q⟩⟩
theorem isNw.rd {nw h0} {bad : List Addr} {ds : List PyData} {v h} (p : isNw nw h0 bad ds v h) : isRd bad (.list ds) v h := by
  obtain ⟨D, ys, rfl, n, a, b, _⟩ := p
  exact .list n a b
/-- x = [..] : the store stands within the comprehension -/
theorem st_compN (nw : Bool) {s₀ s : Shared} {X : Heap → Prop} {elt iter : Expr} {x y : Str} {px py : Pos} {scope : Scope} {cl : List (Str × Addr)} {pos spos : Pos} {n : Nat} {Pv : Nat → List Addr → HP} {ds : List PyData} {ffs : List Addr → List (Str × HP)}
    {Q : Flow → Shared → Prop} {E : Value → Shared → Prop} (F : FrOk bad s₀ env X) (I : Inv bad s₀ env fs X s)
    (hclos : closureFor scope env = pure cl) (cap : Cap env cl ffs bad fs) (src : Src prog w A env bad s.heap iter n Pv) (hn : n ≤ 1000000) (hds : ds.length = n) (hP : ∀ i, Bp (Pv i))
    (hcell : ∀ y ∈ scope.names, y.2 ≠ .cell) (hkind : scope.kind = .function) (hnames : ∀ y ∈ scope.names, y.2 = .local → scope.names.lookup y.1 = some .local) (hx : scope.names.lookup x = some .local)
    (hfree : ∀ p ∈ ffs bad, ∀ C, (compEnvC scope cl C env).kindOf p.1 = some .cell)
    (helt : ∀ i g C B, i < n → EnvOk (compEnvC scope cl C env) → Le s.heap g → Al B g → (∀ b ∈ bad, b ∈ B) → Ctx (compEnvC scope cl C env) ((x, Pv i B) :: ffs B) g → Tr prog w A g (eval elt (compEnvC scope cl C env)) (fun v h' => itm ds i B v h' ∧ (nw = true → ∃ r, v = .ref r ∧ g.get? r = none ∧ h'.get? r ≠ none)))
    (k : ∀ s', Inv bad s₀ env ((y, isNw nw s.heap bad ds) :: fs) X s' → Q .next s')
    (hy : env.kindOf y = some .local)
    (hsw : swapsWith (.ListComp elt [⟨.Name x px, iter, [], 0⟩] scope pos) (some (.Name y py)) spos.line env = pure true)
    (hs : ∀ x, foldedSetIterable iter env x = pure x := by intro _; rfl) :
    wpAny (model prog w) A (exec (.Assign [.Name y py] (.ListComp elt [⟨.Name x px, iter, [], 0⟩] scope pos) spos) env) Q E s := by
  rw [exec_Assign_Name_used _ _ _ _ hsw]
  refine wpAny_bind (wpAny_standAt (wpAny_bind ?_))
  show wpAny _ A (do let _ ← comprehension (.ListComp elt [⟨.Name x px, iter, [], 0⟩] scope pos) scope env _ (newList []) false (eval iter env) (some (assign (.Name y py) env))) _ _ s
  refine wpAny_bind (wpAny_mono (wpAny_comprehension_free (use := some (assign (.Name y py) env)) (Q := fun _ s' => Q .next s') rfl hs hclos hkind hnames
    (wpAny_mono (src s E (Le.refl _)) (fun xv s₁ h₁ => wpAny_mono h₁ (fun it s₂ ⟨k2, at2⟩ => ?_) fun _ _ e => e) fun _ _ e => e)) (fun _ s' hq => wpAny_pure (wpAny_pure hq)) fun _ _ e => e)
  refine comp_block nw (RR := fun acc C => compPost (model prog w) A E (some (assign (.Name y py) env)) (fun _ s' => Q .next s') acc C) F.ok I.ctx I.al cap k2 I.mo at2 hn (bp_itmN nw s.heap ds) hP hcell hkind hx hfree (fun p hp e => ?_) (fun i g C B hi o hl ha hb hc => (helt i g C B hi o hl ha hb hc).weak fun v g' _ ⟨p, q⟩ => ⟨⟨p, fun e => (by
    obtain ⟨r, q1, q2, _⟩ := q e
    refine ⟨r, q1, ?_⟩
    cases z : s.heap.get? r with
    | none => rfl
    | some o => rw [hl _ _ z] at q2; cases q2)⟩, q⟩) ?_
  · have := hfree p hp 0
    rw [e, show (compEnvC scope cl 0 env).kindOf x = some .local from lookup_relabel_local hx] at this
    cases this
  · intro D C h' tk m' ys hD hC hDC hn' hl hsz hacc hnd hle hDbad
    have hCs : s.heap.get? C = none := by
      cases q : s.heap.get? C with
      | none => rfl
      | some o => rw [Keeps.le k2 C o q] at hC; cases hC
    have kk : Keeps s { s₂ with heap := h', toks := tk } := by
      obtain ⟨h2, t2, rfl, _⟩ := k2
      exact ⟨h', tk, rfl, hle⟩
    have r : isNw nw s.heap (C :: bad) ds (.ref D) h' := by
      refine ⟨D, ys, rfl, fun hm => ?_, hl, acc_rd _ _ (by rw [Array.length_toList, hsz, hds]) fun i v hv => (hacc.all i v (by simpa using hv)).1, fun e => ⟨hnd e, ?_, fun v hv => ?_⟩⟩
      · rcases List.mem_cons.mp hm with e | e
        · exact hDC e
        · exact hDbad e
      · cases z : s.heap.get? D with
        | none => rfl
        | some o => rw [Keeps.le k2 D o z] at hD; cases hD
      · obtain ⟨i, hi⟩ := List.getElem?_of_mem hv
        exact (hacc.all i v (by simpa using hi)).2 e
    have hCf : C ∉ bad := I.al.none hCs
    have hC0 : s₀.heap.get? C = none := by
      cases q : s₀.heap.get? C with
      | none => rfl
      | some o => rw [I.base C o q] at hCs; cases hCs
    have I2 := I.keeps F kk
    have IH := I.hat (C := C) I2 kk hCs
    show wpAny _ A (assign (.Name y py) env (.ref D)) _ _ _
    refine wpAny_assign_Name (st_storeB (P := isNw nw s.heap (C :: bad) ds) F.hat IH r ((st_nw nw s.heap (C :: bad) ds).more fun b hb => .tail _ hb) (.inl hy) fun s' bt I' => ?_)
    refine ⟨m', ?_, fun h'' hs'' => k _ (I'.unhat F I.st hs'' hC0 hCf (fun v p => (st_nw _ _ _ _ _ _ _ ((But.same hs'').more fun b hb => List.mem_singleton.mp hb ▸ .head _) p).less) (st_nw _ _ _ _))⟩
    obtain ⟨o, es, ep, ho, r3⟩ := hn'
    exact ⟨o, es, ep, bt C o (fun q => hCf (F.sub _ q)) ho, r3⟩
theorem st_comp {s₀ s : Shared} {X : Heap → Prop} {elt iter : Expr} {x y : Str} {px py : Pos} {scope : Scope} {cl : List (Str × Addr)} {pos spos : Pos} {n : Nat} {Pv : Nat → List Addr → HP} {ds : List PyData} {ffs : List Addr → List (Str × HP)}
    {Q : Flow → Shared → Prop} {E : Value → Shared → Prop} (F : FrOk bad s₀ env X) (I : Inv bad s₀ env fs X s)
    (hclos : closureFor scope env = pure cl) (cap : Cap env cl ffs bad fs) (src : Src prog w A env bad s.heap iter n Pv) (hn : n ≤ 1000000) (hds : ds.length = n) (hP : ∀ i, Bp (Pv i))
    (hcell : ∀ y ∈ scope.names, y.2 ≠ .cell) (hkind : scope.kind = .function) (hnames : ∀ y ∈ scope.names, y.2 = .local → scope.names.lookup y.1 = some .local) (hx : scope.names.lookup x = some .local)
    (hfree : ∀ p ∈ ffs bad, ∀ C, (compEnvC scope cl C env).kindOf p.1 = some .cell)
    (helt : ∀ i g C B, i < n → EnvOk (compEnvC scope cl C env) → Le s.heap g → Al B g → (∀ b ∈ bad, b ∈ B) → Ctx (compEnvC scope cl C env) ((x, Pv i B) :: ffs B) g → Tr prog w A g (eval elt (compEnvC scope cl C env)) (itm ds i B))
    (k : ∀ s', Inv bad s₀ env ((y, isRd bad (.list ds)) :: fs) X s' → Q .next s')
    (hy : env.kindOf y = some .local)
    (hsw : swapsWith (.ListComp elt [⟨.Name x px, iter, [], 0⟩] scope pos) (some (.Name y py)) spos.line env = pure true)
    (hs : ∀ x, foldedSetIterable iter env x = pure x := by intro _; rfl) :
    wpAny (model prog w) A (exec (.Assign [.Name y py] (.ListComp elt [⟨.Name x px, iter, [], 0⟩] scope pos) spos) env) Q E s :=
  st_compN false F I hclos cap src hn hds hP hcell hkind hnames hx hfree (fun i g C B hi o hl ha hb hc => (helt i g C B hi o hl ha hb hc).weak fun v g' _ p => ⟨p, fun e => nomatch e⟩)
    (fun s' I' => k s' (I'.head (fun v q => q.rd) (st_rd _ _))) hy hsw hs
end
end Mine

end
section
open PySem PySem.Spec PySem.Calls PySem.W PyProof.Rows
set_option Elab.async false
set_option linter.unusedVariables false
namespace Mine
section
variable {prog : Program} {w : World} {A : Around} {env : Env} {h : Heap} {bad : List Addr} {fs fs' : List (Str × HP)} {s₀ s : Shared} {X : Heap → Prop} {E : Value → Shared → Prop}

theorem size_not_alive {g g' : Heap} (k : Le g g') : g.get? g'.objs.size = none := by
  cases q : g.get? g'.objs.size with
  | none => rfl
  | some o => exact absurd (Heap.lt_size (k _ _ q)) (Nat.lt_irrefl _)

theorem src_tp {iter : Expr} {Ps : List HP} (hh : A.handled = none) (al : Al bad h) (hP : ∀ P ∈ Ps, Pure P) (x : Tr prog w A h (eval iter env) (isTp bad Ps)) :
    Src prog w A env bad h iter Ps.length (fun i B v g => ∃ P, Ps[i]? = some P ∧ P v g) := fun s E l => by
  refine x.use l fun v s1 k1 ⟨a, vs, e, hb, hl, hr⟩ => ?_
  subst e
  have hlt : a ≠ s1.heap.objs.size := by obtain ⟨o, ho, _⟩ := hl; exact Nat.ne_of_lt (Heap.lt_size ho)
  have hlen : vs.size = Ps.length := by simpa using hr.length
  refine wpAny_pyIter_tuple hl ⟨Keeps.tr k1 (Keeps.push s1 _), s1.heap.objs.size, [s1.heap.objs.size, a], [s1.heap.objs.size], _, _, rfl, hlen ▸ Walks.tuple hh s1.heap.objs.size a hlt vs, ?_, ⟨⟨_, Heap.get?_push_size _ rfl, rfl, rfl⟩, hl.push _⟩, ?_, ?_, ?_, ?_⟩
  · intro i v hi hv
    have : ∀ (vs : List Value) (Ps : List HP) (g g' : Heap), Hs g vs Ps → (∀ P ∈ Ps, Pure P) → ∀ (i : Nat) (v : Value), vs[i]? = some v → ∃ P, Ps[i]? = some P ∧ P v g' := by
      intro vs Ps g g' x
      induction x with
      | nil => intro _ i v e; simp at e
      | cons p q ih =>
        intro hp i v e
        cases i with
        | zero => simp at e; subst e; exact ⟨_, rfl, hp _ (.head _) _ _ _ p⟩
        | succ i => simp at e; simpa using ih (fun P hP => hp P (.tail _ hP)) i v (by simpa using e)
    exact this _ _ _ _ hr hP i v (by simpa using hv)
  · intro b hb'
    rcases List.mem_cons.mp hb' with rfl | hb'
    · exact (al.le (l.trans (Keeps.le k1))).fresh
    · rcases List.mem_cons.mp hb' with rfl | hb'
      · exact hb
      · cases hb'
  · intro b hb'
    rw [List.mem_singleton.mp hb']
    exact size_not_alive (Keeps.le k1)
  · intro b hb'
    rcases List.mem_cons.mp hb' with rfl | hb'
    · rw [Heap.get?_push_size _ rfl]; simp
    · rcases List.mem_cons.mp hb' with rfl | hb'
      · obtain ⟨o, ho, _⟩ := hl
        rw [Heap.get?_push_of_some _ ho]; simp
      · cases hb'
  · intro i g hst b hb'
    rw [List.mem_singleton.mp hb']
    obtain ⟨⟨o, ho, _⟩, _⟩ := hst
    rw [ho]; simp

/-- a value that is a range from a by c, n of them -/
def isRange (a b c : Int) : HP := fun v g => ∃ r t u x, v = .ref r ∧ IsRange g r a b c t u x
theorem src_range {iter : Expr} {a b c : Int} {n : Nat} (hh : A.handled = none) (al : Al bad h) (hsmall : Builtin.Range.small a b c = true) (hsz : Builtin.Range.rangeSize a b c = (n : Int)) (x : Tr prog w A h (eval iter env) (isRange a b c)) :
    Src prog w A env bad h iter n (fun i B => isInt (a + i * c)) := fun s E l => by
  refine x.use l fun v s1 k1 ⟨r, t, u, x, e, hr⟩ => ?_
  subst e
  refine wpAny_pyIter_range hr hsmall ⟨Keeps.tr k1 (Keeps.push s1 _), s1.heap.objs.size, [s1.heap.objs.size], [s1.heap.objs.size], _, _, rfl, Walks.range hh s1.heap.objs.size a c n, ?_, ?_, ?_, ?_, ?_, ?_⟩
  · intro i v hi hv; exact hv
  · show IsRangeIter _ _ _ _ _
    rw [hsz]; simpa using Heap.get?_push_size _ rfl
  · intro b hb'
    rw [List.mem_singleton.mp hb']
    exact (al.le (l.trans (Keeps.le k1))).fresh
  · intro b hb'
    rw [List.mem_singleton.mp hb']
    exact size_not_alive (Keeps.le k1)
  · intro b hb'
    rw [List.mem_singleton.mp hb', Heap.get?_push_size _ rfl]; simp
  · intro i g hst b hb'
    rw [List.mem_singleton.mp hb', show g.get? s1.heap.objs.size = _ from hst]; simp
theorem call_range1 {n : Int} {vs : List Value} {g : Heap} (q : Hs g vs [isInt n]) : Tr prog w A g (call (.type "range") vs) (isRange 0 n 1) := fun s E l => by
  cases q with
  | cons p q =>
    cases q
    obtain ⟨t, rfl⟩ := p
    exact call_range_1 ⟨⟨_, _, rfl, fun b o e => Heap.get?_push_of_some _ e⟩, _, _, _, _, rfl, Heap.get?_push_size _ rfl⟩
theorem call_range3 {a b : Int} {vs : List Value} {g : Heap} (q : Hs g vs [isInt a, isInt b, isInt (-1)]) : Tr prog w A g (call (.type "range") vs) (isRange a b (-1)) := fun s E l => by
  cases q with
  | cons p q =>
    cases q with
    | cons p2 q =>
      cases q with
      | cons p3 q =>
        cases q
        obtain ⟨t, rfl⟩ := p; obtain ⟨u, rfl⟩ := p2; obtain ⟨x, rfl⟩ := p3
        exact call_range_3 (by decide) ⟨⟨_, _, rfl, fun b o e => Heap.get?_push_of_some _ e⟩, _, _, _, _, rfl, Heap.get?_push_size _ rfl⟩ (Or.inl (PyProof.noPylong_of_log2 (by decide +kernel)))

/-- the walk goes on to the next statement, in a state with Q -/
def Nx (Q : Shared → Prop) : Flow → Shared → Prop := fun f s' => f = .next ∧ Q s'
theorem ex_nil {Q : Shared → Prop} (q : Q s) : wpAny (model prog w) A (execs [] env) (Nx Q) E s := wpAny_execs_nil ⟨rfl, q⟩
theorem ex_cons {st : Stmt} {rest : List Stmt} {Q : Flow → Shared → Prop} (x : wpAny (model prog w) A (exec st env) (Nx fun s' => wpAny (model prog w) A (execs rest env) Q E s') E s) : wpAny (model prog w) A (execs (st :: rest) env) Q E s :=
  wpAny_execs_cons (wpAny_mono x (fun f s' ⟨e, q⟩ => by subst e; exact q) fun _ _ e => e)
theorem ex_if {test : Expr} {body orelse : List Stmt} {pos : Pos} {b : Bool} {Q : Flow → Shared → Prop} (t : Ts prog w A s.heap (isTrue test env (eval test env)) b)
    (k : ∀ s', Keeps s s' → wpAny (model prog w) A (execs (if b then body else orelse) env) Q E s') : wpAny (model prog w) A (exec (.If test body orelse pos) env) Q E s := by
  refine wpAny_If (t.use (Le.refl _) fun s1 k1 => ?_)
  have := k s1 k1
  cases b with
  | true => exact this
  | false => exact this

/-- facts that may be told over any set of banned addresses -/
structure BpF (fs : List Addr → List (Str × HP)) : Prop where
  st : ∀ B, Stfs B (fs B)
  grow : ∀ B B' h, (∀ b ∈ B', b ∈ B ∨ h.get? b = none) → ∀ y P', (fs B').lookup y = some P' → ∃ P, (fs B).lookup y = some P ∧ ∀ v, P v h → P' v h
structure BpX (X : List Addr → Heap → Prop) : Prop where
  st : ∀ B h h', But B h h' → X B h → X B h'
  grow : ∀ B B' h, (∀ b ∈ B', b ∈ B ∨ h.get? b = none) → X B h → X B' h
theorem BpF.nil : BpF fun _ => [] := ⟨fun _ _ _ h => (by cases h), fun _ _ _ _ _ _ h => (by cases h)⟩
theorem BpF.cons {x : Str} {P : List Addr → HP} {fs : List Addr → List (Str × HP)} (p : Bp P) (f : BpF fs) : BpF fun B => (x, P B) :: fs B := by
  refine ⟨fun B y R h => ?_, fun B B' g k y R h => ?_⟩
  · by_cases hy : y = x
    · subst hy; rw [lookup_cons_self] at h; cases h; exact p.st B
    · rw [lookup_cons_ne hy] at h; exact f.st B y R h
  · by_cases hy : y = x
    · subst hy; rw [lookup_cons_self] at h; cases h
      exact ⟨P B, lookup_cons_self, fun v q => p.grow B B' v g k q⟩
    · rw [lookup_cons_ne hy] at h
      obtain ⟨S, a, b⟩ := f.grow B B' g k y R h
      exact ⟨S, by rw [lookup_cons_ne hy]; exact a, b⟩
theorem BpX.true : BpX fun _ _ => True := ⟨fun _ _ _ _ _ => trivial, fun _ _ _ _ _ => trivial⟩

theorem Inv.regrow {B B' : List Addr} {fs : List Addr → List (Str × HP)} {X : List Addr → Heap → Prop} {s1 : Shared} {Y : Heap → Prop} (hf : BpF fs) (hX : BpX X) (I : Inv B s₀ env (fs B) (X B) s) (k : Keeps s s1) (hB : ∀ b ∈ B', b ∈ B ∨ s.heap.get? b = none) (al : Al B' s1.heap) (y : Y s1.heap) :
    Inv B' s₀ env (fs B') (fun h => X B' h ∧ Y h) s1 := by
  have kl := Keeps.le k
  obtain ⟨m, cs, a, b, c⟩ := I.ctx.ex
  refine ⟨?_, I.base.trans kl, ⟨m, cs, a.keeps kl, fun y d hm => (b y d hm).keeps kl, fun y P' hl => ?_⟩, ⟨hX.st _ _ _ kl.but (hX.grow _ _ _ hB I.x), y⟩, hf.st B', al⟩
  · obtain ⟨h, tk, rfl⟩ := I.same
    obtain ⟨h', tk', rfl, _⟩ := k
    exact ⟨h', tk', rfl⟩
  · obtain ⟨P, hP, kk⟩ := hf.grow _ _ _ hB y P' hl
    obtain ⟨v, e, p⟩ := c y P hP
    exact ⟨v, e, (hf.st B' y P' hl).mo _ _ _ kl (kk v p)⟩

/-- for x in ..: body, where the body never leaves the loop -/
theorem st_for {iter : Expr} {x : Str} {px pos : Pos} {body : List Stmt} {n : Nat} {Pv : Nat → List Addr → HP} {fsI : Nat → List Addr → List (Str × HP)} {XI : Nat → List Addr → Heap → Prop} {Q : Flow → Shared → Prop}
    (F : FrOk bad s₀ env (XI 0 bad)) (hf : ∀ i, BpF (fsI i)) (hX : ∀ i, BpX (XI i)) (I : Inv bad s₀ env (fsI 0 bad) (XI 0 bad) s) (src : Src prog w A env bad s.heap iter n Pv) (hP : ∀ i, Bp (Pv i))
    (hx : env.kindOf x = some .local ∨ (env.kindOf x = some .cell ∧ (env.cells.lookup x).isSome = true))
    (body_ok : ∀ i B (s : Shared) (Y : Heap → Prop) (E : Value → Shared → Prop), i < n → (∀ b ∈ bad, b ∈ B) → (∀ h h', But bad h h' → Y h → Y h') → Inv B s₀ env ((x, Pv i B) :: fsI i B) (fun h => XI i B h ∧ Y h) s →
      wpAny (model prog w) A (execs body env) (Nx fun s' => Inv B s₀ env (fsI (i + 1) B) (fun h => XI (i + 1) B h ∧ Y h) s') E s)
    (k : ∀ s', Inv bad s₀ env (fsI n bad) (XI n bad) s' → Q .next s')
    (hs : ∀ x, foldedSetIterable iter env x = pure x := by intro _; rfl) :
    wpAny (model prog w) A (exec (.For (.Name x px) iter body [] pos) env) Q E s := by
  refine wpAny_For (wpAny_mono (src s E (Le.refl _)) (fun xv s₁ h₁ => wpAny_mono h₁ (fun it s₂ ⟨k2, I', fp, wr, P0, St', e, W, hPv, hst, hfpb, hwrn, hfp, hwal⟩ => ?_) fun _ _ e => e) fun _ _ e => e) hs
  subst e
  have dead : ∀ b ∈ wr, s₀.heap.get? b = none := fun b hb => by
    cases q : s₀.heap.get? b with
    | none => rfl
    | some o => have := hwrn b hb; rw [I.base b o q] at this; cases this
  have hwf : ∀ b ∈ wr, b ∉ frameAddrs env := fun b hb q => hfpb b (W.sub b hb) (F.sub b q)
  have Jb : ∀ j h h', But bad h h' → (St' j h ∧ ∀ i v, i < n → P0 i v → Pv i (wr ++ bad) v h) → St' j h' ∧ ∀ i v, i < n → P0 i v → Pv i (wr ++ bad) v h' := fun j h h' kb ⟨a, b⟩ =>
    ⟨W.frame _ _ _ a fun b hb o e => kb b o (hfpb b hb) e, fun i v hi h0 => (hP i).st _ _ _ _ (kb.more fun b hb => List.mem_append_right _ hb) (b i v hi h0)⟩
  have Fs : ∀ i j, FrOk (wr ++ bad) s₀ env (fun h => XI i (wr ++ bad) h ∧ (St' j h ∧ ∀ i v, i < n → P0 i v → Pv i (wr ++ bad) v h)) := fun i j => ⟨F.ok, F.fresh, fun b hb => List.mem_append_right _ (F.sub b hb), fun h h' kb ⟨x, y⟩ =>
    ⟨(hX i).st _ _ _ (kb.more fun b hb => List.mem_append_right _ (F.sub b hb)) x, Jb _ _ _ (kb.more F.sub) y⟩⟩
  have I2 : Inv (wr ++ bad) s₀ env (fsI 0 (wr ++ bad)) (fun h => XI 0 (wr ++ bad) h ∧ (St' 0 h ∧ ∀ i v, i < n → P0 i v → Pv i (wr ++ bad) v h)) s₂ :=
    I.regrow (Y := fun h => St' 0 h ∧ ∀ i v, i < n → P0 i v → Pv i (wr ++ bad) v h) (hf 0) (hX 0) k2 (fun b hb => (List.mem_append.mp hb).elim (fun q => .inr (hwrn b q)) .inl) (fun b hb => (List.mem_append.mp hb).elim (hwal 0 _ hst b) (I.al.le (Keeps.le k2) b)) ⟨hst, hPv⟩
  -- a turn of the iterator alone
  have move : ∀ i j (s' : Shared) h₁ tk, Inv (wr ++ bad) s₀ env (fsI i (wr ++ bad)) (fun h => XI i (wr ++ bad) h ∧ (St' i h ∧ ∀ i v, i < n → P0 i v → Pv i (wr ++ bad) v h)) s' → (∀ b o, b ∉ wr → s'.heap.get? b = some o → h₁.get? b = some o) → (∀ b ∈ wr, h₁.get? b ≠ none) → St' j h₁ ∨ j = n →
      (∀ b o, b ∉ wr → s'.heap.get? b = some o → h₁.get? b = some o) → Inv (wr ++ bad) s₀ env (fsI i (wr ++ bad)) (fun h => XI i (wr ++ bad) h ∧ ((St' j h ∨ j = n) ∧ ∀ i v, i < n → P0 i v → Pv i (wr ++ bad) v h)) { s' with heap := h₁, toks := tk } := by
    intro i j s' h₁ tk Ii hk hal hst' _
    have kb : But wr s'.heap h₁ := fun b o hb e => hk b o hb e
    have kB : But (wr ++ bad) s'.heap h₁ := kb.more fun b hb => List.mem_append_left _ hb
    obtain ⟨m, cs, a, b, c⟩ := Ii.ctx.ex
    refine ⟨?_, fun b o e => hk b o (fun q => by rw [dead b q] at e; cases e) (Ii.base b o e), ⟨m, cs, a.at' fun o e => hk _ o (fun q => hwf _ q (.head _)) e, fun y d hm => ?_, fun y P hl => ?_⟩, ⟨(hX i).st _ _ _ kB Ii.x.1, hst', fun i v hi h0 => (hP i).st _ _ _ _ kB (Ii.x.2.2 i v hi h0)⟩, Ii.st, fun b hb e => ?_⟩
    · obtain ⟨h, t, rfl⟩ := Ii.same
      exact ⟨h₁, tk, rfl⟩
    · obtain ⟨o, ho, hd⟩ := b y d hm
      exact ⟨o, hk _ o (fun q => hwf _ q (List.mem_cons_of_mem _ (List.mem_map.mpr ⟨_, hm, rfl⟩))) ho, hd⟩
    · obtain ⟨v, e, p⟩ := c y P hl
      exact ⟨v, e, Ii.st y P hl _ _ _ kB p⟩
    · by_cases hw : b ∈ wr
      · exact hal b hw e
      · cases q : s'.heap.get? b with
        | none => exact Ii.al b hb q
        | some o => rw [show h₁.get? b = some o from hk b o hw q] at e; cases e
  -- the loop: after i turns
  refine codeAny_forLoop (fun m s' => ∃ i, i ≤ n ∧ m = n - i ∧ Inv (wr ++ bad) s₀ env (fsI i (wr ++ bad)) (fun h => XI i (wr ++ bad) h ∧ (St' i h ∧ ∀ i v, i < n → P0 i v → Pv i (wr ++ bad) v h)) s') ?_ n ⟨0, Nat.zero_le _, rfl, I2⟩
  rintro m s' ⟨i, hi, rfl, Ii⟩
  by_cases hlt : i < n
  · refine W.item i _ _ _ hlt Ii.x.2.1 fun v h₁ tk₁ h0 hst₁ hk₁ => ?_
    have I3 := move i (i + 1) s' h₁ tk₁ Ii hk₁ (hwal _ _ hst₁) (.inl hst₁) hk₁
    have I4 : Inv (wr ++ bad) s₀ env (fsI i (wr ++ bad)) (fun h => XI i (wr ++ bad) h ∧ (St' (i + 1) h ∧ ∀ i v, i < n → P0 i v → Pv i (wr ++ bad) v h)) { s' with heap := h₁, toks := tk₁ } := I3.withX ⟨I3.x.1, hst₁, I3.x.2.2⟩
    refine wpAny_assign_Name (st_store (P := Pv i (wr ++ bad)) (Fs i (i + 1)) I4 (I4.x.2.2 i v hlt h0) ((hP i).st _) hx fun s4 I5 => ?_)
    refine wpAny_mono (body_ok i (wr ++ bad) s4 (fun h => St' (i + 1) h ∧ ∀ i v, i < n → P0 i v → Pv i (wr ++ bad) v h) _ hlt (fun b hb => List.mem_append_right _ hb) (Jb (i + 1)) I5) (fun f s5 ⟨e, q⟩ => ?_) fun _ _ e => e
    subst e
    exact ⟨n - (i + 1), by omega, i + 1, hlt, rfl, q⟩
  · have hin : i = n := by omega
    subst hin
    refine W.done _ _ _ Ii.x.2.1 fun h₁ tk₁ hk₁ => wpAny_execs_nil (k _ ?_)
    have kb : But wr s'.heap h₁ := fun b o hb e => hk₁ b o hb e
    have kB : But (wr ++ bad) s'.heap h₁ := kb.more fun b hb => List.mem_append_left _ hb
    have hsub : ∀ b ∈ bad, b ∈ wr ++ bad ∨ h₁.get? b = none := fun b hb => .inl (List.mem_append_right _ hb)
    obtain ⟨m, cs, a, b, c⟩ := Ii.ctx.ex
    refine ⟨?_, fun b o e => hk₁ b o (fun q => by rw [dead b q] at e; cases e) (Ii.base b o e), ⟨m, cs, a.at' fun o e => hk₁ _ o (fun q => hwf _ q (.head _)) e, fun y d hm => ?_, fun y P hl => ?_⟩, (hX i).grow _ _ _ hsub ((hX i).st _ _ _ kB Ii.x.1), (hf i).st bad, fun b hb e => ?_⟩
    · obtain ⟨h, t, rfl⟩ := Ii.same
      exact ⟨h₁, tk₁, rfl⟩
    · obtain ⟨o, ho, hd⟩ := b y d hm
      exact ⟨o, hk₁ _ o (fun q => hwf _ q (List.mem_cons_of_mem _ (List.mem_map.mpr ⟨_, hm, rfl⟩))) ho, hd⟩
    · obtain ⟨P', hP', kk⟩ := (hf i).grow _ _ h₁ hsub y P hl
      obtain ⟨v, e, p⟩ := c y P' hP'
      exact ⟨v, e, kk v (Ii.st y P' hP' _ _ _ kB p)⟩
    · have hbw : b ∉ wr := fun q => hfpb b (W.sub b q) hb
      cases q : s'.heap.get? b with
      | none => exact Ii.al b (List.mem_append_right _ hb) q
      | some o => rw [show h₁.get? b = some o from hk₁ b o hbw q] at e; cases e

/-- while: the state is told by σ -/
theorem st_while {σ : Type} {test : Expr} {body : List Stmt} {pos : Pos} {fs : σ → List (Str × HP)} {XI : σ → Heap → Prop} {go : σ → Bool} {next : σ → σ} {μ : σ → Nat} {ok : σ → Prop} {Q : Flow → Shared → Prop}
    (σ₀ : σ) (hok : ok σ₀) (I : Inv bad s₀ env (fs σ₀) (XI σ₀) s)
    (htest : ∀ σ s, ok σ → Inv bad s₀ env (fs σ) (XI σ) s → Ts prog w A s.heap (isTrue test env (eval test env)) (go σ))
    (hF : ∀ σ, FrOk bad s₀ env (XI σ))
    (hnext : ∀ σ, ok σ → go σ = true → ok (next σ) ∧ μ (next σ) < μ σ)
    (body_ok : ∀ σ (s : Shared) (E : Value → Shared → Prop), ok σ → go σ = true → Inv bad s₀ env (fs σ) (XI σ) s → wpAny (model prog w) A (execs body env) (Nx fun s' => Inv bad s₀ env (fs (next σ)) (XI (next σ)) s') E s)
    (k : ∀ σ s', ok σ → go σ = false → Inv bad s₀ env (fs σ) (XI σ) s' → Q .next s') :
    wpAny (model prog w) A (exec (.While test body [] pos) env) Q E s := by
  refine wpAny_While (codeAny_whileLoop (fun m s' => ∃ σ, ok σ ∧ m = μ σ ∧ Inv bad s₀ env (fs σ) (XI σ) s') ?_ (μ σ₀) ⟨σ₀, hok, rfl, I⟩)
  rintro m s' ⟨σ, ho, rfl, Iσ⟩
  refine (htest σ s' ho Iσ).use (Le.refl _) fun s1 k1 => ?_
  have I1 := Iσ.keeps (hF σ) k1
  cases hg : go σ with
  | true =>
    simp only [if_true]
    refine wpAny_mono (body_ok σ s1 _ ho hg I1) (fun f s2 ⟨e, q⟩ => ?_) fun _ _ e => e
    subst e
    obtain ⟨h1, h2⟩ := hnext σ ho hg
    exact ⟨μ (next σ), h2, next σ, h1, rfl, q⟩
  | false =>
    simp only [Bool.false_eq_true, if_false]
    exact wpAny_execs_nil (k σ s1 ho hg I1)

theorem st_return {e : Expr} {P : HP} {pos : Pos} {Q : Flow → Shared → Prop} (ev : Tr prog w A s.heap (eval e env) P) (k : ∀ v s', Keeps s s' → P v s'.heap → Q (.ret v) s') :
    wpAny (model prog w) A (exec (.Return (some e) pos) env) Q E s := wpAny_Return_some (ev.use (Le.refl _) k)
end
end Mine

end
section
open PySem PySem.Spec PySem.Calls PySem.W PyProof.Rows
set_option Elab.async false
set_option linter.unusedVariables false
namespace Mine
section
variable {prog : Program} {w : World} {A : Around} {env : Env} {h : Heap} {B bad : List Addr} {fs fs' : List (Str × HP)} {s₀ s : Shared} {X : Heap → Prop} {E : Value → Shared → Prop}

theorem Hs.but {bad : List Addr} {h h' : Heap} (k : But bad h h') : ∀ {vs Ps}, (∀ P ∈ Ps, St bad P) → Hs h vs Ps → Hs h' vs Ps
  | _, _, _, .nil => .nil
  | _, _, m, .cons a b => .cons (m _ (.head _) _ _ _ k a) (b.but k fun P hP => m P (.tail _ hP))
theorem Hs.append {h : Heap} : ∀ {vs Ps ws Qs}, Hs h vs Ps → Hs h ws Qs → Hs h (vs ++ ws) (Ps ++ Qs)
  | _, _, _, _, .nil, y => y
  | _, _, _, _, .cons a b, y => .cons a (b.append y)
theorem Hs.reverse {h : Heap} : ∀ {vs Ps}, Hs h vs Ps → Hs h vs.reverse Ps.reverse
  | _, _, .nil => .nil
  | _, _, .cons a b => by rw [List.reverse_cons, List.reverse_cons]; exact b.reverse.append (.cons a .nil)

theorem RdAll.hs {bad : List Addr} {h : Heap} : ∀ {vs ds}, RdAll bad h vs ds → Hs h vs (ds.map (isRd bad))
  | _, _, .nil => .nil
  | _, _, .cons a b => .cons a b.hs
/-- the targets are names -/
inductive Tgt (env : Env) : List (Value → Sem Unit) → List Str → Prop
  | nil : Tgt env [] []
  | cons {t ts x xs} : (∀ {M : Model} {A : Around} {E : Value → Shared → Prop} {v s} {Q : Unit → Shared → Prop}, wpAny M A (storeName env x v) Q E s → wpAny M A (t v) Q E s) → Tgt env ts xs → Tgt env (t :: ts) (x :: xs)
theorem tgt_binds : ∀ xs : List Str, Tgt env (xs.map fun n => bindName env n) xs
  | [] => .nil
  | _ :: xs => .cons (fun h => wpAny_bindName h) (tgt_binds xs)
theorem tgt_name {x : Str} {p : Pos} {rest : List Expr} {xs : List Str} (r : Tgt env ((assignEach rest env).map (·.2)) xs) (he : assignEach (.Name x p :: rest) env = (false, assign (.Name x p) env) :: assignEach rest env := by rfl) :
    Tgt env ((assignEach (.Name x p :: rest) env).map (·.2)) (x :: xs) := by
  rw [he]; exact .cons (fun h => wpAny_assign_Name h) r

theorem store_list {ts : List (Value → Sem Unit)} {xs : List Str} (T : Tgt env ts xs) : ∀ {Ps : List HP} {vs : List Value} {s : Shared} {fs : List (Str × HP)} {Q : Unit → Shared → Prop} {E : Value → Shared → Prop}, FrOk B s₀ env X → Hs s.heap vs Ps → xs.length = Ps.length → (∀ P ∈ Ps, St B P) → Inv B s₀ env fs X s →
    (∀ x ∈ xs, env.kindOf x = some .local ∨ (env.kindOf x = some .cell ∧ (env.cells.lookup x).isSome = true)) →
    (∀ s', Inv B s₀ env ((xs.zip Ps).reverse ++ fs) X s' → Q () s') → wpAny (model prog w) A (assignInOrder ts vs) Q E s := by
  induction T with
  | nil =>
    intro Ps vs s fs Q E F q hl hst I hk k
    cases q with
    | nil => exact wpAny_pure (k s I)
    | cons => simp at hl
  | cons ht T ih =>
    intro Ps vs s fs Q E F q hl hst I hk k
    cases q with
    | nil => simp at hl
    | cons p q =>
      refine wpAny_assignInOrder_more (ht (st_storeB F I p (hst _ (.head _)) (hk _ (.head _)) fun s1 bt I1 => ?_))
      refine ih F (q.but (bt.more F.sub) fun P hP => hst P (.tail _ hP)) (by simpa using hl) (fun P hP => hst P (.tail _ hP)) I1 (fun x hx => hk x (.tail _ hx)) fun s2 I2 => k s2 ?_
      simpa [List.zip_cons_cons, List.reverse_cons, List.append_assoc] using I2

theorem unpack_tp {Ps : List HP} {n : Nat} {v : Value} {Q : List Value → Shared → Prop} (hh : A.handled = none) (p : isTp bad Ps v s.heap) (m : Mos Ps) (hn : n = Ps.length) (k : ∀ vs s', Keeps s s' → Hs s'.heap vs Ps → Q vs s') :
    wpAny (model prog w) A (unpackItems v n none) Q E s := by
  obtain ⟨a, vs, rfl, hb, hl, hr⟩ := p
  have hlen : vs.size = Ps.length := by simpa using hr.length
  rw [hn, ← hlen]
  refine unpackItems_tuple hh hl fun h' he => ?_
  have le : Le s.heap h' := fun b o e => he b o (Nat.ne_of_lt (Heap.lt_size e)) e
  exact k _ _ ⟨h', s.toks, rfl, le⟩ (hr.le le m)
theorem unpack_rd {ds : List PyData} {n : Nat} {v : Value} {Q : List Value → Shared → Prop} (hh : A.handled = none) (p : isRd bad (.list ds) v s.heap) (hn : n = ds.length) (k : ∀ vs s', Keeps s s' → RdAll bad s'.heap vs ds → Q vs s') :
    wpAny (model prog w) A (unpackItems v n none) Q E s := by
  cases p with
  | list hb hl hr =>
    rename_i a vs
    have hlen : vs.size = ds.length := by simpa using hr.length
    rw [hn, ← hlen]
    refine kun_itemsOf hh hl fun h' he => ?_
    have le : Le s.heap h' := fun b o e => he b o (Nat.ne_of_lt (Heap.lt_size e)) e
    exact k _ _ ⟨h', s.toks, rfl, le⟩ (hr.le le)

theorem pt_mos {Ps : List HP} (h : ∀ P ∈ Ps, St B P) : Mos Ps := fun P hP => (h P hP).mo
/-- x, y = (.., ..) by the exchange of the stores -/
theorem st_swapped {elts : List Expr} {k : Nat} {tpos pos : Pos} {value : Expr} {names : List Str} {Ps : List HP} {Q : Flow → Shared → Prop} (hh : A.handled = none) (F : FrOk B s₀ env X) (I : Inv B s₀ env fs X s)
    (ev : Tr prog w A s.heap (eval value env) (isTp bad Ps)) (hst : ∀ P ∈ Ps, St B P) (hn : names.length = Ps.length)
    (hk : ∀ x ∈ names, env.kindOf x = some .local ∨ (env.kindOf x = some .cell ∧ (env.cells.lookup x).isSome = true))
    (kk : ∀ s', Inv B s₀ env ((names.reverse.zip Ps.reverse).reverse ++ fs) X s' → Q .next s')
    (hs : swapsWithSole [.Tuple elts k tpos] value pos.line env = pure false := by rfl) (hw : swappedStores [.Tuple elts k tpos] value env = pure (some names) := by rfl) :
    wpAny (model prog w) A (exec (.Assign [.Tuple elts k tpos] value pos) env) Q E s := by
  refine Assign_Tuple_swapped (ev.use (Le.refl _) fun v s1 k1 p1 => unpack_tp hh p1 (pt_mos hst) hn fun vs s2 k2 q => ?_) hs hw
  exact store_list (tgt_binds names.reverse) F q.reverse (by simp [hn]) (fun P hP => hst P (List.mem_reverse.mp hP)) (I.keeps F (Keeps.tr k1 k2)) (fun x hx => hk x (List.mem_reverse.mp hx)) kk
/-- x, y = .. in order -/
theorem st_unpack {elts : List Expr} {k : Nat} {tpos pos : Pos} {value : Expr} {names : List Str} {Ps : List HP} {Q : Flow → Shared → Prop} (hh : A.handled = none) (F : FrOk B s₀ env X) (I : Inv B s₀ env fs X s)
    (ev : Tr prog w A s.heap (eval value env) (isTp bad Ps)) (hst : ∀ P ∈ Ps, St B P) (hn : names.length = Ps.length) (T : Tgt env ((assignEach elts env).map (·.2)) names)
    (hk : ∀ x ∈ names, env.kindOf x = some .local ∨ (env.kindOf x = some .cell ∧ (env.cells.lookup x).isSome = true))
    (kk : ∀ s', Inv B s₀ env ((names.zip Ps).reverse ++ fs) X s' → Q .next s')
    (hl : (assignEach elts env).length = names.length := by rfl) (hstar : (assignEach elts env).findIdx? (·.1) = none := by rfl)
    (hs : swapsWithSole [.Tuple elts k tpos] value pos.line env = pure false := by rfl) (hw : swappedStores [.Tuple elts k tpos] value env = pure none := by rfl) :
    wpAny (model prog w) A (exec (.Assign [.Tuple elts k tpos] value pos) env) Q E s := by
  refine Assign_Tuple (ev.use (Le.refl _) fun v s1 k1 p1 => ?_) hs hw
  rw [assign_Tuple]
  refine wpAny_bind (wpAny_standAt ?_)
  unfold unpack
  rw [hl, hstar]
  refine wpAny_bind (wpAny_holding (unpack_tp hh p1 (pt_mos hst) hn fun vs s2 k2 q => ?_))
  exact store_list T F q hn hst (I.keeps F (Keeps.tr k1 k2)) hk kk
theorem st_unpackL {elts : List Expr} {k : Nat} {tpos pos : Pos} {value : Expr} {names : List Str} {ds : List PyData} {Q : Flow → Shared → Prop} (hh : A.handled = none) (F : FrOk B s₀ env X) (I : Inv B s₀ env fs X s)
    (ev : Tr prog w A s.heap (eval value env) (isRd B (.list ds))) (hn : names.length = ds.length) (T : Tgt env ((assignEach elts env).map (·.2)) names)
    (hk : ∀ x ∈ names, env.kindOf x = some .local ∨ (env.kindOf x = some .cell ∧ (env.cells.lookup x).isSome = true))
    (kk : ∀ s', Inv B s₀ env ((names.zip (ds.map (isRd B))).reverse ++ fs) X s' → Q .next s')
    (hl : (assignEach elts env).length = names.length := by rfl) (hstar : (assignEach elts env).findIdx? (·.1) = none := by rfl)
    (hs : swapsWithSole [.Tuple elts k tpos] value pos.line env = pure false := by rfl) (hw : swappedStores [.Tuple elts k tpos] value env = pure none := by rfl) :
    wpAny (model prog w) A (exec (.Assign [.Tuple elts k tpos] value pos) env) Q E s := by
  refine Assign_Tuple (ev.use (Le.refl _) fun v s1 k1 p1 => ?_) hs hw
  rw [assign_Tuple]
  refine wpAny_bind (wpAny_standAt ?_)
  unfold unpack
  rw [hl, hstar]
  refine wpAny_bind (wpAny_holding (unpack_rd hh p1 hn fun vs s2 k2 q => ?_))
  have q' : Hs s2.heap vs (ds.map (isRd B)) := q.hs
  exact store_list T F q' (by simpa using hn) (fun P hP => by obtain ⟨d, _, rfl⟩ := List.mem_map.mp hP; exact st_rd B d) (I.keeps F (Keeps.tr k1 k2)) hk kk
end
end Mine

end
section

open PySem PySem.Spec PySem.Calls PySem.W PyProof.Rows
set_option Elab.async false
set_option linter.unusedVariables false
set_option linter.unusedSimpArgs false
namespace Mine
section
variable {prog : Program} {w : World} {A : Around} {env : Env} {h : Heap} {bad : List Addr}

theorem op_floordiv {i j : Int} {v1 v2 : Value} {g g' : Heap} (hj : j ≠ 0) (hs : j.natAbs < 1073741824) (p1 : isInt i v1 g) (p2 : isInt j v2 g) : Tr prog w A g' (binaryOp .FloorDiv v1 v2) (isInt (i.fdiv j)) := fun s _ _ => by
  obtain ⟨t, rfl⟩ := p1; obtain ⟨u, rfl⟩ := p2
  exact floordiv_int hj ⟨Keeps.tok s _, _, rfl⟩ (hp := Or.inl (PyProof.noPylong_small hs))
theorem op_pow {i : Int} {n : Nat} {v1 v2 : Value} {g g' : Heap} (hn : n ≤ 1000000) (hi : i.natAbs < 2 ^ 64) (p1 : isInt i v1 g) (p2 : isInt n v2 g) : Tr prog w A g' (binaryOp .Pow v1 v2) (isInt (i ^ n)) := fun s _ _ => by
  obtain ⟨t, rfl⟩ := p1; obtain ⟨u, rfl⟩ := p2
  exact pow_int_small (by omega) (by omega) hi (by rw [Int.toNat_natCast]; exact ⟨Keeps.tok s _, _, rfl⟩)
theorem op_adds {x y : Str} {v1 v2 : Value} {g g' : Heap} (hn : x.length + y.length ≤ 1000000) (p1 : isStr x v1 g) (p2 : isStr y v2 g) : Tr prog w A g' (binaryOp .Add v1 v2) (isStr (x ++ y)) := fun s _ _ => by
  obtain ⟨t, rfl⟩ := p1; obtain ⟨u, rfl⟩ := p2
  exact PyProof.Rows.add_str (fun t' tk => ⟨Keeps.tok s _, _, rfl⟩) (by rw [sizeLine_eq]; omega)
/-- x[i] of a text -/
theorem sub_str {value slice : Expr} {l : List Nat} {c : Nat} {i : Nat} {v1 v2 : Value} {g g' : Heap} (hc : l[i]? = some c) (hi : i < 2 ^ 63) (p1 : isStr ⟨l.toArray⟩ v1 g) (p2 : isInt i v2 g)
    (hs : ∀ t u, subscripted slice false (.str ⟨l.toArray⟩ t) (.int i u) = operate [.str ⟨l.toArray⟩ t, .int i u] (getItem (.str ⟨l.toArray⟩ t) (.int i u)) := by intro _ _; rfl) :
    Tr prog w A g' (subscriptTail value slice v1 v2) (isStr ⟨#[c]⟩) := fun s E le => by
  obtain ⟨t, rfl⟩ := p1; obtain ⟨u, rfl⟩ := p2
  refine tail_any (typeIs_str s _ t) PySem.F.slot_str_getitem.lookup (PyProof.Rows.getItem_str (c := c) ?_ ?_ ⟨Keeps.tok s _, _, rfl⟩) (hs t u)
  · have h1 : ¬ ((i : Int) < -(2 ^ 63 : Int)) := by omega
    have h2 : ¬ ((i : Int) ≥ 2 ^ 63) := by omega
    simp only [h1, h2, decide_false, Bool.or_self]
  · have hlt : i < l.length := (List.getElem?_eq_some_iff.mp hc).1
    have : seqIndex? (i : Int) (Str.length ⟨l.toArray⟩) = some i := by
      unfold seqIndex?
      have : Str.length ⟨l.toArray⟩ = l.length := by simp [Str.length]
      rw [this]
      have hlt' : (i : Int) < l.length := by omega
      have h0 : ¬ ((i : Int) < 0) := by omega
      simp only [h0, if_false]
      simp [hlt]
    rw [this]
    simpa using hc
theorem ltake {α : Type} (l : List α) (i n : Nat) : (List.range n).filterMap (fun k => l[i + k]?) = (l.drop i).take n := by
  induction n generalizing i with
  | zero => simp
  | succ n ih =>
    rw [List.range_succ_eq_map, List.filterMap_cons, List.filterMap_map]
    have : ((fun k => l[i + k]?) ∘ Nat.succ) = fun k => l[(i + 1) + k]? := by funext k; simp only [Function.comp]; congr 1; omega
    rw [this, ih]
    cases e : l[i]? with
    | none =>
      simp only [Nat.add_zero, e]
      rw [List.getElem?_eq_none_iff] at e
      rw [List.drop_of_length_le e, List.drop_of_length_le (by omega)]; simp
    | some x =>
      simp only [Nat.add_zero, e]
      obtain ⟨hl, hx⟩ := List.getElem?_eq_some_iff.mp e
      rw [List.drop_eq_getElem_cons hl, hx, List.take_succ_cons]
theorem slice_ix (l : List Nat) (i j : Nat) (hij : i ≤ j) (hj : j ≤ l.length) : Builtin.Str.strSliceIndices (some (i : Int)) (some (j : Int)) 1 l.length = (List.range (j - i)).map (i + ·) := by
  unfold Builtin.Str.strSliceIndices
  have a1 : ¬ ((i : Int) < 0) := by omega
  have a2 : ¬ ((j : Int) < 0) := by omega
  have b1 : max (0 : Int) (min (i : Int) (l.length : Int)) = i := by omega
  have b2 : max (0 : Int) (min (j : Int) (l.length : Int)) = j := by omega
  simp only [a1, a2, if_false, b1, b2, show (1 : Int) > 0 from by decide, if_true]
  unfold sliceRange
  simp only [show (1 : Int) > 0 from by decide, if_true]
  have : (if (i : Int) < (j : Int) then ((j : Int) - i + 1 - 1) / 1 else 0).toNat = j - i := by
    split <;> omega
  rw [this]
  refine List.map_congr_left fun k _ => ?_
  omega
/-- x[i:j] of a text -/
theorem sl_str {value e1 e2 : Expr} {p pos : Pos} {l : List Nat} {i j : Nat} (hij : i ≤ j) (hj : j ≤ l.length) (hn : l.length ≤ 1000000) (x : Tr prog w A h (eval value env) (isStr ⟨l.toArray⟩)) (x1 : Tr prog w A h (eval e1 env) (isInt i)) (x2 : Tr prog w A h (eval e2 env) (isInt j))
    (ht : ∀ o r, letTemporaryGo value o r = pure () := by intro _ _; rfl) :
    Tr prog w A h (eval (.Subscript value (.Slice (some e1) (some e2) none p) pos) env) (isStr ⟨((l.drop i).take (j - i)).toArray⟩) := fun s E le => by
  refine wpAny_Subscript_str_slice (x.use le fun v s1 k1 p1 => ?_) ht
  refine evalPart_some_step (x1.use (le.trans (Keeps.le k1)) fun v2 s2 k2 p2 => evalPart_some_step (x2.use ((le.trans (Keeps.le k1)).trans (Keeps.le k2)) fun v3 s3 k3 p3 => ?_))
  obtain ⟨t, rfl⟩ := p1
  obtain ⟨t2, rfl⟩ := p2
  obtain ⟨t3, rfl⟩ := p3
  refine ⟨⟨l.toArray⟩, t, some (i, t2), some (j, t3), rfl, rfl, rfl, ?_⟩
  have hlen : Str.length ⟨l.toArray⟩ = l.length := by simp [Str.length]
  have hp : slicePicked ⟨l.toArray⟩ (some ((i : Int), t2)) (some ((j : Int), t3)) none = (List.range (j - i)).map (i + ·) := by
    unfold slicePicked
    rw [hlen]
    exact slice_ix l i j hij hj
  have hf : ((List.range (j - i)).map (i + ·)).filterMap ((⟨l.toArray⟩ : Str).cps[·]?) = (l.drop i).take (j - i) := by
    rw [List.filterMap_map, ← ltake]
    congr 1
    funext k
    simp
  have kk : ∀ o, Keeps s { s3 with heap := s3.heap.push o } := fun o => Keeps.tr k1 (Keeps.tr k2 (Keeps.tr k3 (Keeps.push s3 o)))
  unfold sliceMade
  rw [hp, hf]
  split
  · rename_i hq
    have : j - i = l.length := by simpa [hlen] using hq
    have e : (l.drop i).take (j - i) = l := by
      have : i = 0 := by omega
      subst this
      rw [List.drop_zero, List.take_of_length_le (by omega)]
    rw [e]
    exact ⟨kk _, t, rfl⟩
  · refine ⟨?_, Keeps.tr (kk _) (Keeps.tok _ _), _, rfl⟩
    show Str.length _ ≤ _
    rw [sizeLine_eq]
    simp only [Str.length, List.size_toArray, List.length_take, List.length_drop]
    omega
/-- [x] * n -/
theorem op_mull {d : PyData} {n : Nat} {v1 v2 : Value} {g : Heap} (al : Al bad g) (hn : n ≤ 1000000) (p1 : isLs bad [isRd bad d] v1 g) (p2 : isInt n v2 g) :
    Tr prog w A g (binaryOp .Mult v1 v2) (fun v h' => isRd bad (.list (List.replicate n d)) v h' ∧ ∃ r, v = .ref r ∧ g.get? r = none ∧ h'.get? r ≠ none) := fun s E le => by
  obtain ⟨l, vs, rfl, hb, hl, hr⟩ := p1
  obtain ⟨u, rfl⟩ := p2
  obtain ⟨⟨cls, dd, data, sl⟩, ho, hc, m, hd⟩ := le.list hl
  simp only at hc hd
  subst hc hd
  obtain ⟨x, hvx, hx⟩ : ∃ x, vs = #[x] ∧ Rd bad g x d := by
    obtain ⟨ws⟩ := vs
    cases hr with
    | cons a b =>
      cases b
      exact ⟨_, rfl, a⟩
  subst hvx
  have hsz : (#[x] : Array Value).size * ((n : Int)).toNat ≤ 2 ^ 24 := by simp; omega
  refine wpAny_binaryOp_repeat_ref (T := "list") (U := "int") (by decide) ⟨_, ho, rfl⟩ (fun s' => typeIs_int s' _ u) noFill_list_mul PySem.F.fills_int_mul PySem.F.slot_int_rmul repeat_list PySem.F.slot_int_index.lookup
    (PySem.call_meets PySem.F.slot_int_rmul (typeIs_int s _ u) PySem.F.entry_int_rmul (PySem.F.args_int_rmul_2 _ _) (lm_int_rmul_list_any _ u l #[x] m dd sl) ⟨ho, rfl, ⟨_, ho, rfl⟩, ?_⟩)
  refine PySem.call_meets PySem.F.slot_list_mul ⟨_, ho, rfl⟩ PySem.F.entry_list_mul (PySem.F.args_list_mul_2 _ _) (lm_list_mul_any l #[x] m dd sl _ u ?_ ?_ ?_) ⟨ho, ?_⟩
  · simp only [Builtin.List.listFitsIndex, Bool.not_eq_true', decide_eq_false_iff_not]; simp; omega
  · have := hsz; omega
  · have := hsz; simp [Builtin.List.listTooLong, sizeLine]; omega
  · have e : List.foldl (fun x1 x2 => x1 ++ x2) #[] (List.replicate (if (#[x] : Array Value).isEmpty = true then 0 else ((n : Int)).toNat) #[x]) = (List.replicate n x).toArray := by
      have : ∀ (k : Nat) (a : Array Value), List.foldl (fun x1 x2 => x1 ++ x2) a (List.replicate k #[x]) = a ++ (List.replicate k x).toArray := by
        intro k
        induction k with
        | zero => intro a; simp
        | succ k ih => intro a; rw [List.replicate_succ, List.foldl_cons, ih, List.replicate_succ]; simp [← Array.toList_inj]
      rw [this]; simp
    rw [e]
    have hdead : g.get? s.heap.objs.size = none := by
      cases q : g.get? s.heap.objs.size with
      | none => rfl
      | some o => exact absurd (Heap.lt_size (le _ _ q)) (Nat.lt_irrefl _)
    refine ⟨Keeps.push s _, .list (vs := (List.replicate n x).toArray) (al.le le).fresh ⟨_, Heap.get?_push_size _ rfl, rfl, _, rfl⟩ ?_, _, rfl, hdead, by rw [Heap.get?_push_size _ rfl]; simp⟩
    have hx' := hx.le (le.trans (Le.push s.heap { cls := Value.type "list", data := Data.seq (List.replicate n x).toArray }))
    show RdAll bad _ (List.replicate n x) _
    have : ∀ k : Nat, RdAll bad (s.heap.push { cls := Value.type "list", data := Data.seq (List.replicate n x).toArray }) (List.replicate k x) (List.replicate k d) := by
      intro k
      induction k with
      | zero => exact .nil
      | succ k ih => exact .cons hx' ih
    exact this n
end
end Mine

end
section
open PySem PySem.Spec PySem.Calls PySem.W PyProof.Rows
set_option Elab.async false
set_option linter.unusedVariables false
set_option linter.unusedSimpArgs false
namespace Mine
section
variable {prog : Program} {w : World} {A : Around} {E : Value → Shared → Prop} {s : Shared}
theorem slot_bytes_eq_refl' : Slot "bytes" (cmpInfo .Eq).2.2 "bytes.__eq__" := FB.slot_bytes_eq
theorem bytes_eq_str (b : Array UInt8) (t : Tok) (y : Str) (u : Tok) : Gives (Builtin.«bytes.__eq__» ⟨[.bytes b t, .str y u], []⟩) (.val (Value.notImplemented)) := by
  refine .of_wp fun M A E s Q hq => ?_
  show wpAny M A (isInstance (.str y u) (.type "bytes") >>= fun r => _) _ E s
  refine wpAny_bind (wpAny_isInstance (typeIs_str s y u) PySem.F.sub_str_bytes ?_)
  show wpAny M A (rule _ >>= fun _ => ret Value.notImplemented) _ E s
  exact wpAny_bind (wpAny_rule (wpAny_pure ⟨_, rfl, hq⟩))
theorem str_eq_bytes (y : Str) (u : Tok) (b : Array UInt8) (t : Tok) : Gives (Builtin.«str.__eq__» ⟨[.str y u, .bytes b t], []⟩) (.val (Value.notImplemented)) :=
  .of_wp fun M A E s Q h => by obtain ⟨hp, g, d, tk, os⟩ := s; wp_walk; exact ⟨_, rfl, h⟩
theorem eqBool_sb {y : Str} {u t : Tok} {b : Array UInt8} {Q : Bool → Shared → Prop} (h : Q false s) : wpAny (model prog w) A (eqBool (.str y u) (.bytes b t)) Q E s := by
  unfold eqBool
  refine wpAny_bind ?_
  show wpAny _ A (richCompare .Eq _ _) _ E s
  exact EqNone.wpAny_richCompare_eq_decline (k := false) (fun s' => typeIs_str s' y u) (fun s' => PySem.W.typeIs_bytes s' b t) (by decide) PySem.F.sub_bytes_str PySem.F.slot_str_eq slot_bytes_eq_refl' rfl
    (call_gives PySem.F.slot_str_eq (typeIs_str s y u) PySem.F.entry_str_eq (PySem.F.args_str_eq_2 _ _) (str_eq_bytes y u b t)
      ⟨rfl, call_gives slot_bytes_eq_refl' (PySem.W.typeIs_bytes s b t) FB.entry_bytes_eq (FB.args_bytes_eq_2 _ _) (bytes_eq_str b t y u) ⟨rfl, wpAny_truthy_bool h⟩⟩)
theorem eqBool_bs {y : Str} {u t : Tok} {b : Array UInt8} {Q : Bool → Shared → Prop} (h : Q false s) : wpAny (model prog w) A (eqBool (.bytes b t) (.str y u)) Q E s := by
  unfold eqBool
  refine wpAny_bind ?_
  show wpAny _ A (richCompare .Eq _ _) _ E s
  exact EqNone.wpAny_richCompare_eq_decline (k := false) (fun s' => PySem.W.typeIs_bytes s' b t) (fun s' => typeIs_str s' y u) (by decide) PySem.F.sub_str_bytes FB.slot_bytes_eq PySem.F.slot_str_eq_refl rfl
    (call_gives FB.slot_bytes_eq (PySem.W.typeIs_bytes s b t) FB.entry_bytes_eq (FB.args_bytes_eq_2 _ _) (bytes_eq_str b t y u)
      ⟨rfl, call_gives PySem.F.slot_str_eq_refl (typeIs_str s y u) PySem.F.entry_str_eq (PySem.F.args_str_eq_2 _ _) (str_eq_bytes y u b t) ⟨rfl, wpAny_truthy_bool h⟩⟩)
end
abbrev KK := Str ⊕ List UInt8
def kkIs : KK → Value → Bool
  | .inl x => Value.isStrOf x
  | .inr b => PySem.W.isBytes b
/-- keys that are texts or octets -/
def kk (prog : Program) (w : World) : KeyKind prog w KK where
  is := kkIs
  hash k := match k with | .inl x => (PySem.strKind prog w).hash x | .inr b => (bytesKind prog w).hash b
  inj v a b ha hb := by
    cases a with
    | inl x =>
      cases b with
      | inl y => exact congrArg _ ((PySem.strKind prog w).inj v x y ha hb)
      | inr y =>
        obtain ⟨t, rfl⟩ := Value.isStrOf_shape ha
        obtain ⟨t', e⟩ := isBytes_shape (show PySem.W.isBytes y (.str x t) = true from hb); cases e
    | inr x =>
      cases b with
      | inl y =>
        obtain ⟨t, rfl⟩ := Value.isStrOf_shape hb
        obtain ⟨t', e⟩ := isBytes_shape (show PySem.W.isBytes x (.str y t) = true from ha); cases e
      | inr y => exact congrArg _ ((bytesKind prog w).inj v x y ha hb)
  byValue k v h := by
    cases k with
    | inl x => exact (PySem.strKind prog w).byValue x v h
    | inr x => exact (bytesKind prog w).byValue x v h
  pyHash := fun {A E s k v Q} hv h => by
    cases k with
    | inl x => exact (PySem.strKind prog w).pyHash hv h
    | inr x => exact (bytesKind prog w).pyHash hv h
  eqBool := fun {A E s a b u v Q} hu hv h => by
    cases a with
    | inl x =>
      cases b with
      | inl y => exact (PySem.strKind prog w).eqBool hu hv (by simpa using h)
      | inr y =>
        obtain ⟨t, rfl⟩ := Value.isStrOf_shape hu
        obtain ⟨t', rfl⟩ := isBytes_shape hv
        exact eqBool_sb (by simpa using h)
    | inr x =>
      cases b with
      | inl y =>
        obtain ⟨t, rfl⟩ := Value.isStrOf_shape hv
        obtain ⟨t', rfl⟩ := isBytes_shape hu
        exact eqBool_bs (by simpa using h)
      | inr y => exact (bytesKind prog w).eqBool hu hv (by simpa using h)
  «strs» k x t v h := by
    cases k with
    | inl y => exact (PySem.strKind prog w).strs y x t v h
    | inr y => obtain ⟨t', e⟩ := isBytes_shape (show PySem.W.isBytes y (.str x t) = true from h); cases e
theorem kk_str (x : Str) (t : Tok) : kkIs (.inl x) (.str x t) = true := by simp [kkIs, Value.isStrOf]
theorem kk_bytes (b : List UInt8) (t : Tok) : kkIs (.inr b) (.bytes b.toArray t) = true := by simp [kkIs, PySem.W.isBytes]

/-- the pairs of a dict: the keys as told, the values with their properties -/
inductive KHs (h : Heap) : List (KK × Value) → List (KK × HP) → Prop
  | nil : KHs h [] []
  | cons {k v P kvs kps} : P v h → KHs h kvs kps → KHs h ((k, v) :: kvs) ((k, P) :: kps)
theorem KHs.mp {h h' : Heap} : ∀ {kvs kps}, (∀ p ∈ kps, ∀ v, p.2 v h → p.2 v h') → KHs h kvs kps → KHs h' kvs kps
  | _, _, _, .nil => .nil
  | _, _, m, .cons a b => .cons (m _ (.head _) _ a) (b.mp fun p hp => m p (.tail _ hp))
theorem KHs.keys {h : Heap} : ∀ {kvs kps}, KHs h kvs kps → kvs.map (·.1) = kps.map (·.1)
  | _, _, .nil => rfl
  | _, _, .cons a b => by rw [List.map_cons, List.map_cons, b.keys]
theorem KHs.get {h : Heap} {k : KK} {P : HP} : ∀ {kvs kps}, KHs h kvs kps → (kps.find? fun p => p.1 = k).map (·.2) = some P → ∃ v, valueAt kvs k = some v ∧ P v h
  | _, _, .nil, e => by simp at e
  | (k', v) :: kvs, (_, P') :: kps, .cons a b, e => by
    by_cases q : k' = k
    · subst q
      simp at e; subst e
      exact ⟨v, by simp [valueAt], a⟩
    · obtain ⟨v', e', p⟩ := b.get (by simpa [q] using e)
      exact ⟨v', by simpa [valueAt, q] using e', p⟩
theorem KHs.miss {h : Heap} {k : KK} : ∀ {kvs kps}, KHs h kvs kps → (kps.find? fun p => p.1 = k) = none → valueAt kvs k = none
  | _, _, .nil, _ => rfl
  | (k', v) :: kvs, (_, P') :: kps, .cons a b, e => by
    by_cases q : k' = k
    · subst q; simp at e
    · have := b.miss (by simpa [q] using e)
      simpa [valueAt, q] using this
theorem DictOf.but {prog w} {bad : List Addr} {h h' : Heap} {d kvs} (k : But bad h h') (n : d ∉ bad) (x : h.DictOf (kk prog w) d kvs) : h'.DictOf (kk prog w) d kvs :=
  let ⟨o, es, ep, ho, r⟩ := x; ⟨o, es, ep, k d o n ho, r⟩
abbrev KPs := List (KK × (List Addr → HP))
def KPs.at (B : List Addr) (kps : KPs) : List (KK × HP) := kps.map fun p => (p.1, p.2 B)
def KPs.Ok (kps : KPs) : Prop := ∀ p ∈ kps, Bp p.2
/-- a dict with these keys, in this order, its values with these properties -/
def isDict (prog : Program) (w : World) (kps : KPs) (bad : List Addr) : HP := fun v h => ∃ d kvs, v = .ref d ∧ d ∉ bad ∧ (d == sysModules) = false ∧ h.DictOf (kk prog w) d kvs ∧ KHs h kvs (kps.at bad)
theorem KHs.grow {h h' : Heap} {B B' : List Addr} : ∀ {kps : KPs} {kvs}, (∀ p ∈ kps, ∀ v, p.2 B v h → p.2 B' v h') → KHs h kvs (kps.at B) → KHs h' kvs (kps.at B')
  | [], _, _, .nil => .nil
  | _ :: _, _, m, .cons a b => .cons (m _ (.head _) _ a) (b.grow fun p hp => m p (.tail _ hp))
theorem bp_dict {prog w kps} (m : KPs.Ok kps) : Bp (isDict prog w kps) := by
  refine ⟨fun B v h h' k ⟨d, kvs, e, n, lo, a, b⟩ => ⟨d, kvs, e, n, lo, DictOf.but k n a, b.grow fun p hp v q => (m p hp).st B v h h' k q⟩, fun B B' v h k ⟨d, kvs, e, n, lo, a, b⟩ => ⟨d, kvs, e, fun q => ?_, lo, a, b.grow fun p hp v q => (m p hp).grow B B' v h k q⟩⟩
  rcases k d q with q | q
  · exact n q
  · obtain ⟨o, es, ep, ho, _⟩ := a
    rw [ho] at q; cases q
section
variable {prog : Program} {w : World} {A : Around} {env : Env} {h : Heap} {bad : List Addr}
theorem sys_ne {g : Heap} (al : Al bad g) (hm : cStatics ∈ bad) : (g.objs.size == sysModules) = false := by
  have h : cStatics < g.objs.size := by
    cases q : g.get? cStatics with
    | none => exact absurd q (al _ hm)
    | some o => exact Heap.lt_size q
  refine beq_eq_false_iff_ne.mpr fun e => ?_
  rw [e] at h
  exact absurd h (by decide)

/-- a key's expression -/
def isKey : KK → HP
  | .inl x => isStr x
  | .inr b => isBytes b.toArray
theorem pu_key (k : KK) : Pure (isKey k) := by cases k <;> exact fun _ _ _ h => h
theorem key_is {k : KK} {v : Value} {h : Heap} (p : isKey k v h) : kkIs k v = true := by
  cases k with
  | inl x => obtain ⟨t, rfl⟩ := p; exact kk_str x t
  | inr b => obtain ⟨t, rfl⟩ := p; exact kk_bytes b t

/-- the pairs of a display -/
def Ds (prog : Program) (w : World) (A : Around) (env : Env) (h : Heap) (ks : List (Option Expr)) (vs : List Expr) (pos : Pos) (kps : List (KK × HP)) : Prop :=
  ∀ (s : Shared) (E : Value → Shared → Prop), Le h s.heap → wpAny (model prog w) A (evalPairs (pairTrees ks vs env pos)) (fun prs s' => Keeps s s' ∧ ∃ kvs, Carries (kk prog w) prs kvs ∧ KHs s'.heap kvs kps) E s
theorem ds_nil {pos : Pos} : Ds prog w A env h [] [] pos [] := fun s E l => pairTrees_nil_walk ⟨Keeps.refl s, [], trivial, .nil⟩
theorem ds_cons {k v : Expr} {ks : List (Option Expr)} {vs : List Expr} {pos : Pos} {key : KK} {P : HP} {kps : List (KK × HP)} (m : Mo P) (x : Tr prog w A h (eval k env) (isKey key)) (y : Tr prog w A h (eval v env) P)
    (r : Ds prog w A env h ks vs pos kps) : Ds prog w A env h (some k :: ks) (v :: vs) pos ((key, P) :: kps) := fun s E l => by
  refine pairTrees_cons_walk (x.use l fun kv s1 k1 p1 => y.use (l.trans (Keeps.le k1)) fun vv s2 k2 p2 => ?_)
  refine wpAny_mono (r s2 E ((l.trans (Keeps.le k1)).trans (Keeps.le k2))) (fun prs s3 ⟨k3, kvs, c, q⟩ => ?_) fun _ _ e => e
  exact ⟨Keeps.tr k1 (Keeps.tr k2 k3), (key, vv) :: kvs, ⟨key_is p1, rfl, c⟩, .cons (m _ _ _ (Keeps.le k3) p2) q⟩
theorem ev_dict (al : Al bad h) (hm : cStatics ∈ bad) {keys : List (Option Expr)} {values : List Expr} {pos : Pos} {kps : KPs} (m : kps.Ok)
    (x : ∀ g B, Le h g → Al B g → (∀ b ∈ B, b ∈ bad ∨ h.get? b = none) → Ds prog w A env g keys values pos (kps.at B)) (hn : (kps.map (·.1)).Nodup)
    (hall : keys.all (·.isSome) = true := by rfl) (hl : keys.length = values.length := by rfl) (h0 : keys ≠ [] := by simp) (hlen : keys.length ≤ 15 := by decide) :
    Tr prog w A h (eval (.Dict keys values pos) env) (isDict prog w kps bad) := fun s E l => by
  have hdead : s.heap.get? s.heap.objs.size = none := get_size_none _
  have hdead0 : h.get? s.heap.objs.size = none := size_not_alive l
  have hb : s.heap.objs.size ∉ bad := (al.le l).fresh
  have alB : Al (s.heap.objs.size :: bad) (s.heap.push { cls := .type "dict", data := .dict #[] }) := fun b hb' => by
    rcases List.mem_cons.mp hb' with rfl | hb'
    · rw [Heap.get?_push_size _ rfl]; simp
    · exact (al.le l).le (Le.push _ _) b hb'
  refine wpAny_Dict_walk (knd := kk prog w) hall hl h0 hlen (wpAny_mono (x _ (s.heap.objs.size :: bad) (l.trans (Le.push _ _)) alB (fun b hb' => (List.mem_cons.mp hb').elim (fun q => .inr (q ▸ hdead0)) .inl) _ E (Le.refl _)) (fun prs s1 ⟨k1, kvs, c, q⟩ => ?_) fun _ _ e => e)
  have k1' : Le (s.heap.push { cls := .type "dict", data := .dict #[] }) s1.heap := Keeps.le k1
  have hnew : s1.heap.DictOf (kk prog w) s.heap.objs.size [] := by
    obtain ⟨o, es, ep, ho, r⟩ := Heap.DictOf.new (knd := kk prog w) s.heap
    exact ⟨o, es, ep, k1' _ _ ho, r⟩
  refine ⟨kvs, c, hnew, fun h' hd hs => ?_⟩
  have hn' : (kvs.map (·.1)).Nodup := by rw [q.keys]; simpa [KPs.at, Function.comp_def] using hn
  rw [merged_nil_of_nodup _ hn'] at hd
  have le' : Le s.heap h' := fun b o e => hs.extBut b o (by rintro rfl; rw [hdead] at e; cases e) (k1' _ _ (Heap.get?_push_of_some _ e))
  refine ⟨?_, s.heap.objs.size, kvs, rfl, hb, sys_ne (al.le l) hm, hd, q.grow fun p hp v pv => ?_⟩
  · obtain ⟨h2, t2, rfl, _⟩ := k1
    exact ⟨h', _, rfl, le'⟩
  · have := (m p hp).st _ _ _ _ ((But.same hs).more fun b hb' => List.mem_singleton.mp hb' ▸ .head _) pv
    exact (m p hp).grow _ _ _ _ (fun b hb' => .inl (.tail _ hb')) this
/-- d.get(key, dflt) -/
theorem dict_get {kps : KPs} {key : KK} {P : HP} {v kv dv : Value} {g : Heap} (p : isDict prog w kps bad v g) (pk : isKey key kv g) (hl : (kps.find? fun p => p.1 = key).map (fun p => p.2 bad) = some P) (mo : Mo P) :
    Tr prog w A g (call (.builtin "dict.get") [v, kv, dv]) P := fun s E l => by
  obtain ⟨d, kvs, rfl, n, lo, hd, q⟩ := p
  have hd' : s.heap.DictOf (kk prog w) d kvs := DictOf.but (bad := bad) l.but n hd
  obtain ⟨x, e, px⟩ := q.get (k := key) (P := P) (by rw [← hl]; simp [KPs.at, List.find?_map, Function.comp_def])
  exact call_meetsIn PySem.F.slot_dict_get hd'.typeIs PySem.F.entry_dict_get (PySem.F.args_dict_get_3 _ _ _) (meets_dict_get_default (kk prog w) d (key_is pk) lo dv) ⟨_, hd'.mapOf, by rw [e]; exact ⟨Keeps.tok s _, mo _ _ _ l px⟩⟩
theorem dict_get_miss {kps : KPs} {key : KK} {P : HP} {v kv dv : Value} {g : Heap} (p : isDict prog w kps bad v g) (pk : isKey key kv g) (hl : (kps.find? fun p => p.1 = key) = none) (pd : P dv g) (mo : Mo P) :
    Tr prog w A g (call (.builtin "dict.get") [v, kv, dv]) P := fun s E l => by
  obtain ⟨d, kvs, rfl, n, lo, hd, q⟩ := p
  have hd' : s.heap.DictOf (kk prog w) d kvs := DictOf.but (bad := bad) l.but n hd
  have e := q.miss (k := key) (by simp only [KPs.at, List.find?_map, Function.comp_def]; rw [hl]; rfl)
  exact call_meetsIn PySem.F.slot_dict_get hd'.typeIs PySem.F.entry_dict_get (PySem.F.args_dict_get_3 _ _ _) (meets_dict_get_default (kk prog w) d (key_is pk) lo dv) ⟨_, hd'.mapOf, by rw [e]; exact ⟨Keeps.tok s _, mo _ _ _ l pd⟩⟩
/-- d[key] -/
theorem sub_dict {value slice : Expr} {kps : KPs} {key : KK} {P : HP} {v kv : Value} {g : Heap} (p : isDict prog w kps bad v g) (pk : isKey key kv g) (hl : (kps.find? fun p => p.1 = key).map (fun p => p.2 bad) = some P) (mo : Mo P)
    (hs : ∀ d : Addr, ∃ ops, subscripted slice false (.ref d) kv = operate ops (getItem (.ref d) kv)) :
    Tr prog w A g (subscriptTail value slice v kv) P := fun s E l => by
  obtain ⟨d, kvs, rfl, n, lo, hd, q⟩ := p
  have hd' : s.heap.DictOf (kk prog w) d kvs := DictOf.but (bad := bad) l.but n hd
  obtain ⟨x, e, px⟩ := q.get (k := key) (P := P) (by rw [← hl]; simp [KPs.at, List.find?_map, Function.comp_def])
  obtain ⟨ops, hops⟩ := hs d
  exact tail_any hd'.typeIs slot_dict_getitem.lookup (wpAny_getItem_of (key_is pk) hd'.mapOf e ⟨Keeps.tok s _, mo _ _ _ l px⟩) hops
end
end Mine

end
section
open PySem PySem.Spec PySem.Calls PySem.W PyProof.Rows
set_option Elab.async false
set_option linter.unusedVariables false
set_option linter.unusedSimpArgs false
namespace Mine
open Builtin
theorem forIn_yield {β : Type} {n : Nat} {f : Nat → β → Sem (ForInStep β)} {g : Nat → β} (h : ∀ i x, i < n → f x (g i) = pure (.yield (g (i + 1)))) : (forIn [:n] (g 0) f : Sem β) = pure (g n) := by
  rw [Std.Legacy.Range.forIn_eq_forIn_range']
  simp only [Std.Legacy.Range.size, Nat.sub_zero, Nat.add_sub_cancel, Nat.div_one]
  have : ∀ (l : List Nat) (i : Nat), i + l.length ≤ n → (forIn l (g i) f : Sem β) = pure (g (i + l.length)) := by
    intro l
    induction l with
    | nil => intro i _; rfl
    | cons x l ih =>
      intro i hi
      rw [List.length_cons] at hi
      rw [List.forIn_cons, h i x (by omega)]
      show (forIn l (g (i + 1)) f : Sem β) = _
      rw [ih (i + 1) (by omega), List.length_cons]
      congr 2; omega
  have := this (List.range' 0 n) 0 (by simp)
  simpa using this
theorem forIn_once {β : Type} {n : Nat} {f : Nat → β → Sem (ForInStep β)} {a b : β} (h : ∀ x, f x a = pure (.yield b)) (h2 : ∀ x, f x b = pure (.done b)) : (forIn [:n + 1] a f : Sem β) = pure b := by
  rw [Std.Legacy.Range.forIn_eq_forIn_range']
  simp only [Std.Legacy.Range.size, Nat.sub_zero, Nat.add_sub_cancel, Nat.div_one]
  rw [List.range'_succ, List.forIn_cons, h]
  show (forIn (List.range' (0 + 1) n) b f : Sem β) = _
  cases n with
  | zero => rfl
  | succ n =>
    rw [List.range'_succ, List.forIn_cons, h2]
    rfl
theorem utf8At_ascii {bs : List UInt8} {p : Nat} {b : UInt8} (e : bs[p]? = some b) (hb : b < 128) : _codecs.utf8Decoder.find true bs.toArray p = .char b.toNat (p + 1) := by
  show (match Bytes.utf8At bs.toArray p with | (.char c, nxt) => _codecs.Found.char c nxt | (.bad _ stop reason, _) => _codecs.Found.bad stop reason _) = _
  have : Bytes.utf8At bs.toArray p = (.char b.toNat, p + 1) := by
    unfold Bytes.utf8At
    have e2 : bs.toArray.getD p 0 = b := by simp [e]
    have hlt : b.toNat < 0x80 := hb
    simp only [e2, hlt, if_true]
  rw [this]
theorem runDec {id : String} {errors : Option Str} {bs : List UInt8} {held : List Value} (hb : ∀ b ∈ bs, b < 128) (hn : bs.length ≤ 1000000) :
    _codecs.runDecoder id _codecs.utf8Decoder errors true bs.toArray 0 held = pure ((bs.map (·.toNat)).toArray, bs.length) := by
  unfold _codecs.runDecoder
  dsimp only
  refine Eq.trans (congrArg (fun z : Sem (Nat × Array Nat × _codecs.Faults) => z >>= fun __s => pure (__s.2.1, __s.1)) (forIn_yield (n := bs.toArray.size) (g := fun i => (i, ((bs.take i).map (·.toNat)).toArray, ({ held := held } : _codecs.Faults))) ?_)) ?_
  · intro i x hi
    have hi' : i < bs.length := by simpa using hi
    have e : bs[i]? = some bs[i] := List.getElem?_eq_getElem hi'
    have hlt := hb _ (List.getElem_mem hi')
    have c1 : ¬ ((bs.take i).map (·.toNat)).toArray.size > sizeLine := by rw [sizeLine_eq]; simp; omega
    have c2 : ¬ i ≥ bs.toArray.size := by simp; omega
    dsimp only
    rw [if_neg c1, if_neg c2, utf8At_ascii e hlt]
    dsimp only [_codecs.Found.char]
    congr 4
    rw [List.take_add_one, e]
    simp only [Option.toList, List.map_append, List.map_cons, List.map_nil]
    rw [← Array.toList_inj]
    simp
  · simp
theorem encN {id : String} {self : Value} {cs : List Nat} (hb : ∀ c ∈ cs, c < 128) (hn : cs.length ≤ 1000000) :
    _codecs.encodeNarrow id _codecs.utf8Codec none self ⟨cs.toArray⟩ = pure (cs.map (·.toUInt8)).toArray := by
  cases cs with
  | nil =>
    unfold _codecs.encodeNarrow
    dsimp only
    exact congrArg (fun z : Sem (Nat × Array UInt8 × _codecs.Faults) => z >>= fun __s => pure __s.2.1) (forIn_yield (n := 0) (g := fun _ => (0, #[], ({} : _codecs.Faults))) (fun i x h => absurd h (Nat.not_lt_zero _)))
  | cons c cs =>
  unfold _codecs.encodeNarrow
  dsimp only
  refine Eq.trans (congrArg (fun z : Sem (Nat × Array UInt8 × _codecs.Faults) => z >>= fun __s => pure __s.2.1) (forIn_once (n := cs.length) (a := (0, #[], ({} : _codecs.Faults))) (b := ((c :: cs).length, ((c :: cs).map (·.toUInt8)).toArray, ({} : _codecs.Faults))) ?_ ?_)) ?_
  · intro x
    have c1 : ¬ (#[] : Array UInt8).size > sizeLine := by simp
    dsimp only
    rw [if_neg c1]
    have e0 : (c :: cs).toArray[0]? = some c := rfl
    rw [e0]
    have nb : ∀ x ∈ c :: cs, _codecs.utf8Codec.bad x = false := fun x hx => by
      have := hb x hx
      show (decide (0xD800 ≤ x) && decide (x ≤ 0xDFFF)) = false
      have : ¬ (0xD800 ≤ x) := by omega
      simp [this]
    dsimp only
    rw [nb c (.head _)]
    have ex : (c :: cs).toArray.extract 0 (c :: cs).toArray.size = (c :: cs).toArray := by simp
    have fi : Array.findIdx? _codecs.utf8Codec.bad (c :: cs).toArray = none := by
      rw [Array.findIdx?_eq_none_iff]
      intro x hx
      exact nb x (by simpa using hx)
    simp only [Bool.not_false, if_true]
    rw [show ((c :: cs).toArray.extract 0) = (c :: cs).toArray from ex, fi]
    dsimp only [Option.getD_none]
    rw [ex]
    have fo : ∀ (l : List Nat) (acc : Array UInt8), (∀ x ∈ l, x < 128) → List.foldl (fun acc y => acc ++ (_codecs.utf8Codec.bytesOf y).toArray) acc l = acc ++ (l.map (·.toUInt8)).toArray := by
      intro l
      induction l with
      | nil => intro acc _; simp
      | cons x l ih =>
        intro acc hl
        rw [List.foldl_cons, ih _ fun y hy => hl y (.tail _ hy)]
        have : _codecs.utf8Codec.bytesOf x = [x.toUInt8] := by
          show Str.utf8Of x = _
          unfold Str.utf8Of
          rw [if_pos (hl x (.head _))]
        rw [this]
        simp [← Array.toList_inj]
    have fo' := fo (c :: cs) #[] hb
    rw [← Array.foldl_toList]
    rw [fo']
    simp
  · intro x
    have c1 : ¬ ((c :: cs).map (·.toUInt8)).toArray.size > sizeLine := by rw [sizeLine_eq]; simp at hn ⊢; omega
    dsimp only
    rw [if_neg c1]
    have : (c :: cs).toArray[(c :: cs).length]? = none := by simp
    rw [this]
  · rfl
set_option maxRecDepth 100000
theorem args_decode_kw (a b c : Value) : argsOk "bytes.decode" ⟨[a, b], [(Str.ofString "errors", c)]⟩ := by
  unfold argsOk; rw [signature?_of (id := "bytes.decode") (n := ['e', 'd', 'o', 'c', 'e', 'd']) (o := ['s', 'e', 't', 'y', 'b']) (by kernel_rfl) FB.owner_bytes]; kernel_rfl
theorem road_kw {id : String} {bs : Array UInt8} {held : List Value} : _codecs.decodeRoad id bs (PySem.Str.ofString "utf-8") (some (PySem.Str.ofString "replace")) held = (_codecs.runDecoder id _codecs.utf8Decoder (some (PySem.Str.ofString "replace")) true bs 0 held >>= fun r => mkStr ⟨r.1⟩) := by kernel_rfl
theorem entry_kw {c : UInt8} {cs : List UInt8} {t t1 t2 : Tok} : «bytes.decode» ⟨[.bytes (c :: cs).toArray t, .str (PySem.Str.ofString "utf-8") t1], [(Str.ofString "errors", .str (PySem.Str.ofString "replace") t2)]⟩ =
    (mkStr (PySem.Str.ofString "utf-8") >>= fun e0 => mkStr (PySem.Str.ofString "utf-8") >>= fun e => mkStr (PySem.Str.ofString "replace") >>= fun r => mkStr (PySem.Str.ofString "bytes.decode") >>= fun d =>
    call (.builtin "_codecs.decode.text") [.bytes (c :: cs).toArray t, e, r, d] >>= fun v => ret v) := by kernel_rfl
theorem entry_kw0 {t t1 t2 : Tok} : «bytes.decode» ⟨[.bytes (#[] : Array UInt8) t, .str (PySem.Str.ofString "utf-8") t1], [(Str.ofString "errors", .str (PySem.Str.ofString "replace") t2)]⟩ =
    (rule "bytes.decode.empty" >>= fun _ => retStr Str.empty) := by kernel_rfl
theorem meets_text_kw {bs : List UInt8} {t t1 t2 t3 : Tok} {d : PySem.Str} (hb : ∀ b ∈ bs, b < 128) (hn : bs.length ≤ 1000000) :
    Meets («_codecs.decode.text» ⟨[.bytes bs.toArray t, .str (PySem.Str.ofString "utf-8") t1, .str (PySem.Str.ofString "replace") t3, .str d t2], []⟩) (fun _ R s => R (.ok (.ret (.str ⟨(bs.map (·.toNat)).toArray⟩ s.toks))) { s with toks := s.toks + 1 }) := by
  refine .of_wp fun prog w A R s h => ?_
  show wpAny _ _ (Bytes.bytesLike _ (.bytes bs.toArray t) >>= fun r => _) _ _ s
  refine wpAny_bind (wpAny_of_eq KBd.like_eq ?_)
  refine wpAny_bind (wpAny_of_eq KBd.held_eq ?_)
  show wpAny _ _ (_codecs.decodeRoad _ bs.toArray (PySem.Str.ofString "utf-8") (some (PySem.Str.ofString "replace")) [] >>= fun v => _) _ _ s
  rw [road_kw, runDec hb hn]
  refine wpAny_bind (wpAny_bind (wpAny_pure ?_))
  exact wpAny_mkStr (wpAny_pure ⟨_, rfl, h⟩) (by rw [sizeLine_eq]; simp [Str.length]; omega)
section
variable {prog : Program} {w : World} {A : Around} {E : Value → Shared → Prop} {s : Shared} {env : Env} {h : Heap}
theorem call_decode {bs : List UInt8} {t t1 t2 : Tok} {Q : Value → Shared → Prop} (hb : ∀ b ∈ bs, b < 128) (hn : bs.length ≤ 1000000) (h : ∀ t' k, Q (.str ⟨(bs.map (·.toNat)).toArray⟩ t') { s with toks := k }) :
    wpAny (model prog w) A (call (.builtin "bytes.decode") [.bytes bs.toArray t, .str (PySem.Str.ofString "utf-8") t1] [(Str.ofString "errors", .str (PySem.Str.ofString "replace") t2)]) Q E s := by
  refine wpAny_call (codeAny_call_builtin FB.slot_bytes_decode.plain FB.entry_bytes_decode (FB.slot_bytes_decode.check _ _ _ _ _ _ _ _ (PySem.W.typeIs_bytes _ _ _) (args_decode_kw _ _ _) ?_))
  cases bs with
  | nil =>
    rw [entry_kw0]
    exact wpAny_bind (wpAny_rule (wpAny_bind (wpAny_mkStr (wpAny_pure (h _ _)) (by decide))))
  | cons c cs =>
    rw [entry_kw]
    refine wpAny_bind (wpAny_mkStr ?_ (by decide))
    refine wpAny_bind (wpAny_mkStr ?_ (by decide))
    refine wpAny_bind (wpAny_mkStr ?_ (by decide))
    refine wpAny_bind (wpAny_mkStr ?_ (by decide))
    exact wpAny_bind (call_function_meets KBd.kind_text KBd.plain_text KBd.entry_text (KBd.args_text _ _ _ _) (meets_text_kw hb hn) (wpAny_pure (h _ _)))
theorem MethodCall_kw {o : Expr} {name : Str} {apos pos : Pos} {args : List Expr} {kws : List Keyword} {pl : Sem Bool} {Q : Value → Shared → Prop} {M : Model}
    (h : wpAny M A (eval o env) (fun ov s₁ => wpAny M A (getMethod ov name pl) (fun fx s₂ => wpAny M A (callWith pos fx.1 fx.2 (backTo pos (starEach args env)) (backToKw pos (keywordEach kws env))) Q E s₂) E s₁) E s)
    (he : eval (.Call (.Attribute o name apos) args kws pos) env = (do
      let ov ← eval o env
      standAt apos.atName
      let (f, first) ← holding [ov] (getMethod ov name pl)
      callWith pos f first (backTo pos (starEach args env)) (backToKw pos (keywordEach kws env))) := by rfl) :
    wpAny M A (eval (.Call (.Attribute o name apos) args kws pos) env) Q E s := by
  rw [he]
  refine wpAny_bind (wpAny_mono h (fun ov s₁ h₁ => wpAny_bind (wpAny_standAt (wpAny_bind (wpAny_holding (wpAny_mono h₁ (fun fx s₂ h₂ => ?_) fun _ _ x => x))))) fun _ _ x => x)
  exact h₂
variable {bad : List Addr}
theorem callWith_methodkw {pos : Pos} {id : String} {first : List Value} {e : Expr} {kws : List Keyword} {Q : Value → Shared → Prop} {M : Model}
    (h : wpAny M A (spliced (backTo pos (starEach [e] env))) (fun vs s₁ => wpAny M A (evalAll ((backToKw pos (keywordEach kws env)).map (·.2)))
      (fun kvs s₂ => wpAny M A (call (.builtin id) (first ++ vs) (((backToKw pos (keywordEach kws env)).filterMap (·.1)).zip kvs)) Q E s₂) E s₁) E s)
    (he : starEach [e] env = (false, eval e env) :: starEach [] env)
    (hall : (backToKw pos (keywordEach kws env)).all (·.1.isSome) = true)
    (hkw : (backToKw pos (keywordEach kws env)).any (·.1.isNone) = false) :
    wpAny M A (callWith pos (.builtin id) first (backTo pos (starEach [e] env)) (backToKw pos (keywordEach kws env))) Q E s := by
  rw [he] at h ⊢
  exact callWith_builtin_kwB rfl hkw (evalArgs_kwB hall h)
/-- value.decode('utf-8', errors='replace') -/
theorem ev_decode {value e1 e2 : Expr} {apos kp pos : Pos} {bs : List UInt8} (hb : ∀ b ∈ bs, b < 128) (hn : bs.length ≤ 1000000) (x : Tr prog w A h (eval value env) (isBytes bs.toArray))
    (x1 : Tr prog w A h (eval e1 env) (isStr (PySem.Str.ofString "utf-8"))) (x2 : Tr prog w A h (eval e2 env) (isStr (PySem.Str.ofString "replace")))
    (he : starEach [e1] env = (false, eval e1 env) :: starEach [] env := by rfl) {pl : Sem Bool}
    (hm : eval (.Call (.Attribute value "decode" apos) [e1] [⟨some "errors", e2, kp⟩] pos) env = (do
      let ov ← eval value env
      standAt apos.atName
      let (f, first) ← holding [ov] (getMethod ov "decode" pl)
      callWith pos f first (backTo pos (starEach [e1] env)) (backToKw pos (keywordEach [⟨some "errors", e2, kp⟩] env))) := by rfl) :
    Tr prog w A h (eval (.Call (.Attribute value "decode" apos) [e1] [⟨some "errors", e2, kp⟩] pos) env) (isStr ⟨(bs.map (·.toNat)).toArray⟩) := fun s E l => by
  refine MethodCall_kw (pl := pl) (x.use l fun v s1 k1 p1 => ?_) hm
  obtain ⟨t, rfl⟩ := p1
  with_reducible refine KBd.method ?_
  refine callWith_methodkw ?_ he (by rfl) (by rfl)
  refine wpAny_items_cons (x1.use (l.trans (Keeps.le k1)) fun v1 s2 k2 p2 => wpAny_items_nil ?_) he
  refine kws_cons (x2.use ((l.trans (Keeps.le k1)).trans (Keeps.le k2)) fun v2 s3 k3 p3 => kws_nil ?_)
  obtain ⟨t1, rfl⟩ := p2
  obtain ⟨t2, rfl⟩ := p3
  exact call_decode hb hn fun t' k => ⟨Keeps.tr k1 (Keeps.tr k2 (Keeps.tr k3 (Keeps.tok s3 k))), _, rfl⟩
theorem entry_encode {x : Str} {t t1 : Tok} : «str.encode» ⟨[.str x t, .str (PySem.Str.ofString "utf-8") t1], []⟩ = (_codecs.encodeRoad "str.encode" (.str x t) x (PySem.Str.ofString "utf-8") none >>= fun v => ret v) := by kernel_rfl
theorem call_encode {cs : List Nat} {t t1 : Tok} {Q : Value → Shared → Prop} (hb : ∀ c ∈ cs, c < 128) (hn : cs.length ≤ 1000000) (h : ∀ t' k, Q (.bytes (cs.map (·.toUInt8)).toArray t') { s with toks := k }) :
    wpAny (model prog w) A (call (.builtin "str.encode") [.str ⟨cs.toArray⟩ t, .str (PySem.Str.ofString "utf-8") t1]) Q E s := by
  refine wpAny_call (codeAny_call_builtin PySem.F.slot_str_encode.plain PySem.F.entry_str_encode (PySem.F.slot_str_encode.check _ _ _ _ _ _ _ _ (typeIs_str _ _ _) (PySem.F.args_str_encode_2 _ _) ?_))
  rw [entry_encode, encodeRoad_utf8, encN hb hn]
  refine wpAny_bind (wpAny_bind (wpAny_pure ?_))
  exact wpAny_mkBytes (wpAny_pure (h _ _)) (by rw [sizeLine_eq]; simp; omega)
/-- value.encode('utf-8') -/
theorem ev_encode {value e1 : Expr} {apos pos : Pos} {cs : List Nat} (hb : ∀ c ∈ cs, c < 128) (hn : cs.length ≤ 1000000) (x : Tr prog w A h (eval value env) (isStr ⟨cs.toArray⟩))
    (x1 : Tr prog w A h (eval e1 env) (isStr (PySem.Str.ofString "utf-8"))) {pl : Sem Bool}
    (hm : eval (.Call (.Attribute value "encode" apos) [e1] [] pos) env = (do
      let ov ← eval value env
      standAt apos.atName
      let (f, first) ← holding [ov] (getMethod ov "encode" pl)
      callWith pos f first (backTo pos (starEach [e1] env)) []) := by rfl)
    (he : starEach [e1] env = (false, eval e1 env) :: starEach [] env := by rfl) :
    Tr prog w A h (eval (.Call (.Attribute value "encode" apos) [e1] [] pos) env) (isBytes (cs.map (·.toUInt8)).toArray) := fun s E l => by
  refine MethodCall_ (pl := pl) (x.use l fun v s1 k1 p1 => ?_) hm
  obtain ⟨t, rfl⟩ := p1
  refine getMethod_builtin (typeIs_str _ _ _) PySem.F.plainAttrs_str PySem.F.slot_str_encode PySem.F.type_str_encode (fun a e => nomatch e) ?_
  refine callWith_method1 (wpAny_items_cons (x1.use (l.trans (Keeps.le k1)) fun v1 s2 k2 p2 => wpAny_items_nil ?_) he) he
  obtain ⟨t1, rfl⟩ := p2
  exact call_encode hb hn fun t' k => ⟨Keeps.tr k1 (Keeps.tr k2 (Keeps.tok s2 k)), _, rfl⟩
/-- sep.join(list of texts) -/
theorem ev_join {value e1 : Expr} {apos pos : Pos} {sep : Str} {xs : List Str} (hn : (xs.map (·.length)).sum + xs.length * sep.length ≤ 16777216) (x : Tr prog w A h (eval value env) (isStr sep))
    (x1 : Tr prog w A h (eval e1 env) (isRd bad (.list (xs.map .str)))) {pl : Sem Bool}
    (hm : eval (.Call (.Attribute value "join" apos) [e1] [] pos) env = (do
      let ov ← eval value env
      standAt apos.atName
      let (f, first) ← holding [ov] (getMethod ov "join" pl)
      callWith pos f first (backTo pos (starEach [e1] env)) []) := by rfl)
    (he : starEach [e1] env = (false, eval e1 env) :: starEach [] env := by rfl) :
    Tr prog w A h (eval (.Call (.Attribute value "join" apos) [e1] [] pos) env) (isStr (Txt.join sep xs)) := fun s E l => by
  refine MethodCall_ (pl := pl) (x.use l fun v s1 k1 p1 => ?_) hm
  obtain ⟨t, rfl⟩ := p1
  refine getMethod_builtin (typeIs_str _ _ _) PySem.F.plainAttrs_str PySem.F.slot_str_join PySem.F.type_str_join (fun a e => nomatch e) ?_
  refine callWith_method1 (wpAny_items_cons (x1.use (l.trans (Keeps.le k1)) fun v1 s2 k2 p2 => wpAny_items_nil ?_) he) he
  cases p2 with
  | list hb hl hr =>
    refine join_list hl ?_ hn fun t' k => ⟨Keeps.tr k1 (Keeps.tr k2 (Keeps.tok s2 k)), _, rfl⟩
    have : ∀ (vs : List Value) (xs : List Str), RdAll bad s2.heap vs (xs.map .str) → StrsAre vs xs := by
      intro vs xs
      induction xs generalizing vs with
      | nil => intro r; cases r; exact .nil
      | cons y ys ih =>
        intro r
        cases r with
        | cons a b =>
          cases a
          exact .cons _ _ (ih _ b)
    exact this _ _ hr
end
end Mine

end
section
open PySem PySem.Spec PySem.Calls PySem.W PyProof.Rows
set_option Elab.async false
set_option linter.unusedVariables false
set_option linter.unusedSimpArgs false
set_option maxRecDepth 100000
namespace Mine
open PySem.Builtin.SmallTypes (nextOf)
theorem map_iter_entry : entryFor table "map.__iter__" = some Builtin.«dict_keyiterator.__iter__» :=
  entryFor_alias (id' := "dict_keyiterator.__iter__") (by kernel_rfl) (by first | rfl | decide +kernel | (unfold String.splitOn; simp +decide [String.splitOnAux])) (by decide +kernel) (by kernel_rfl)
theorem mro_map : mroOf (.type "map") = pure [.type "map", .type "object"] := by rw [mroOf_type]; kernel_rfl
theorem lookup_map_new : typeLookup (.type "map") "__new__" = pure (some (.builtin "map.__new__")) := by rw [typeLookup_type, builtinLookup_eq_fast]; kernel_rfl
theorem slot_map_init : Slot "map" "__init__" "object.__init__" :=
  .of (owner := "object") (n := "__init__") (by rw [typeLookup_type, builtinLookup_eq_fast]; kernel_rfl) (by decide +kernel) (by decide +kernel) (by decide +kernel)
    (by first | exact .inl (by decide +kernel) | exact .inr (by decide +kernel)) (by rw [isSubtype_type]; kernel_rfl)
theorem slot_map_iter : Slot "map" "__iter__" "map.__iter__" :=
  .of (owner := "map") (n := "__iter__") (by rw [typeLookup_type, builtinLookup_eq_fast]; kernel_rfl) (by decide +kernel) (by decide +kernel) (by decide +kernel)
    (by first | exact .inl (by decide +kernel) | exact .inr (by decide +kernel)) (by rw [isSubtype_type]; kernel_rfl)
theorem slot_map_next : Slot "map" "__next__" "map.__next__" :=
  .of (owner := "map") (n := "__next__") (by rw [typeLookup_type, builtinLookup_eq_fast]; kernel_rfl) (by decide +kernel) (by decide +kernel) (by decide +kernel)
    (by first | exact .inl (by decide +kernel) | exact .inr (by decide +kernel)) (by rw [isSubtype_type]; kernel_rfl)
theorem owner_map : Manifest.owners.lookup (String.ofList ['p', 'a', 'm'].reverse) = some Manifest.sig_map := by kernel_rfl
theorem args_map_iter (a : Value) : argsOk "map.__iter__" ⟨[a], []⟩ := by
  unfold argsOk; rw [signature?_of (id := "map.__iter__") (n := ['_', '_', 'r', 'e', 't', 'i', '_', '_']) (o := ['p', 'a', 'm']) (by kernel_rfl) owner_map]; kernel_rfl
theorem args_map_next (a : Value) : argsOk "map.__next__" ⟨[a], []⟩ := by
  unfold argsOk; rw [signature?_of (id := "map.__next__") (n := ['_', '_', 't', 'x', 'e', 'n', '_', '_']) (o := ['p', 'a', 'm']) (by kernel_rfl) owner_map]; kernel_rfl
theorem called_map : TypeCalled "map" "map.__new__" "object.__init__" :=
  ⟨by decide +kernel, by decide +kernel, ⟨_, _, mro_map⟩, madeBy_type mro_map lookup_map_new (by decide +kernel), by decide +kernel, by rw [isSubtype_type]; kernel_rfl, slot_map_init⟩
theorem typeCall_map (a b : Value) : checkTypeCall "map" ⟨[a, b], []⟩ = pure () := by kernel_rfl
theorem newCall_map (a b : Value) : checkBuiltinCall "map.__new__" ⟨[.type "map", a, b], []⟩ = pure () := by kernel_rfl
theorem entry_map_new : entryFor table "map.__new__" = some Builtin.«map.__new__» := entryFor_of_tree (by kernel_rfl)
theorem entry_map_next : entryFor table "map.__next__" = some Builtin.«map.__next__» := entryFor_of_tree (by kernel_rfl)
theorem sub_map : isSubtype (.type "map") (.type "map") = pure true := by rw [isSubtype_type]; kernel_rfl
theorem map_no_len : typeLookup (.type "map") "__len__" = pure none := by rw [typeLookup_type, builtinLookup_eq_fast]; kernel_rfl
theorem map_no_hint : typeLookup (.type "map") "__length_hint__" = pure none := by rw [typeLookup_type, builtinLookup_eq_fast]; kernel_rfl

abbrev mapH1 (h : Heap) (l : Addr) : Heap := h.push { cls := .type "list_iterator", data := .fields #[.ref l, .int 0 0] }
abbrev mapH2 (h : Heap) (l : Addr) : Heap := (mapH1 h l).push { cls := .type "tuple", data := .seq #[.ref h.objs.size] }
abbrev mapH3 (h : Heap) (l : Addr) : Heap := (mapH2 h l).push { cls := .type "map", data := .fields #[.ref (mapH1 h l).objs.size, .type "tuple"] }
theorem meets_map_new (l : Addr) (xs : Array Value) :
    Meets (Builtin.«map.__new__» ⟨[.type "map", .type "tuple", .ref l], []⟩) (fun _ R s => s.heap.IsList l xs ∧
      R (.ok (.ret (.ref (mapH2 s.heap l).objs.size))) { s with heap := mapH3 s.heap l }) :=
  .of_wp fun prog w A R s h => by
    obtain ⟨hp, g, d, tk, os⟩ := s; obtain ⟨hl1, h⟩ := h
    have hsub := sub_map
    have hL1 : Heap.IsList (Shared.heap ⟨hp, g, d, tk, os⟩) l xs := hl1
    wp_walk using wpAny_pyIter_list hL1
    exact ⟨_, rfl, h⟩
/-- a map of tuple over a list, k of its items given -/
structure MapAt (h : Heap) (M T I l : Addr) (k : Nat) (xs : Array Value) : Prop where
  hm : h.get? M = some { cls := .type "map", data := .fields #[.ref T, .type "tuple"] }
  ht : h.get? T = some { cls := .type "tuple", data := .seq #[.ref I] }
  hi : h.IsListIter I l k
  hl : h.IsList l xs
  n1 : M ≠ I
  n2 : T ≠ I
  n3 : l ≠ I
theorem MapAt.le {h h' : Heap} {M T I l k xs} (x : MapAt h M T I l k xs) (k' : Le h h') : MapAt h' M T I l k xs :=
  ⟨k' _ _ x.hm, k' _ _ x.ht, x.hi.at fun o e => k' _ o e, k'.list x.hl, x.n1, x.n2, x.n3⟩
section
variable {prog : Program} {w : World} {A : Around} {E : Value → Shared → Prop} {s : Shared} {bad : List Addr}
theorem call_map {l : Addr} {xs : Array Value} {Q : Value → Shared → Prop} (hl : s.heap.IsList l xs)
    (h : ∀ h' M T I, Le s.heap h' → MapAt h' M T I l 0 xs → s.heap.get? I = none → s.heap.get? M = none → s.heap.get? T = none → Q (.ref M) { s with heap := h' }) :
    wpAny (model prog w) A (call (.type "map") [.type "tuple", .ref l]) Q E s := by
  refine callType_new called_map (by decide) (typeCall_map _ _) (newCall_map _ _) (fun obj => PySem.F.args_object_init_3 obj _ _) entry_map_new (meets_map_new l xs) ⟨hl, ?_⟩
  have z1 : (mapH1 s.heap l).objs.size = s.heap.objs.size + 1 := Heap.size_push ..
  have z2 : (mapH2 s.heap l).objs.size = s.heap.objs.size + 2 := by rw [Heap.size_push, z1]
  have g3 : (mapH3 s.heap l).get? (mapH2 s.heap l).objs.size = some _ := Heap.get?_push_size _ rfl
  have g2 : (mapH3 s.heap l).get? (mapH1 s.heap l).objs.size = some _ := Heap.get?_push_of_some _ (Heap.get?_push_size _ rfl)
  have g1 : (mapH3 s.heap l).get? s.heap.objs.size = some _ := Heap.get?_push_of_some _ (Heap.get?_push_of_some _ (Heap.get?_push_size _ rfl))
  refine ⟨⟨_, g3, rfl⟩, h _ _ (mapH1 s.heap l).objs.size s.heap.objs.size (fun c o x => Heap.get?_push_of_some _ (Heap.get?_push_of_some _ (Heap.get?_push_of_some _ x))) ⟨g3, g2, ⟨_, g1, rfl, rfl⟩, ?_, ?_, ?_, ?_⟩ (get_size_none _) (Heap.get?_none_of_le ?_) (Heap.get?_none_of_le ?_)⟩
  · exact Le.list (fun c o x => Heap.get?_push_of_some _ (Heap.get?_push_of_some _ (Heap.get?_push_of_some _ x))) hl
  · show (mapH2 s.heap l).objs.size ≠ s.heap.objs.size
    rw [z2]; exact Nat.ne_of_gt (Nat.lt_add_of_pos_right (by decide))
  · rw [z1]; exact Nat.ne_of_gt (Nat.lt_succ_self _)
  · obtain ⟨o, ho, _⟩ := hl
    exact Nat.ne_of_lt (Heap.lt_size ho)
  · rw [z2]; exact Nat.le_add_right _ _
  · rw [z1]; exact Nat.le_add_right _ _
theorem map_next_item {M T I l : Addr} {k : Nat} {xs : Array Value} {b : Addr} {ys : Array Value} {Q : Value → Shared → Prop} (m : MapAt s.heap M T I l k xs) (hx : xs[k]? = some (.ref b)) (hy : s.heap.IsList b ys) (hbI : b ≠ I) (hys : ys.size ≤ 1000000)
    (hQ : ∀ h' v, (∀ c o, c ≠ I → s.heap.get? c = some o → h'.get? c = some o) → MapAt h' M T I l (k + 1) xs → s.heap.get? v = none → IsTup h' v ys → Q (.ref v) { s with heap := h' }) :
    wpAny (model prog w) A (Builtin.«map.__next__» ⟨[.ref M], []⟩) (fun fin s' => ∃ v, fin = .done (.ret v) ∧ Q v s') E s := by
  show wpAny _ _ (field (.ref M) 0 >>= _) _ _ _
  refine wpAny_bind (wpAny_field m.hm rfl (x := .ref T) rfl ?_)
  refine wpAny_bind (wpAny_seqItems m.ht rfl ?_)
  refine wpAny_bind ?_
  simp only [List.forIn_toArray, List.forIn_cons, List.forIn_nil]
  refine wpAny_bind (wpAny_bind (wpAny_holding ?_))
  refine wpAny_nextOf_list_item m.hi m.hl hx fun h₂ h1₂ hs₂ => ?_
  refine wpAny_pure (wpAny_pure ?_)
  have m2 : MapAt h₂ M T I l (k + 1) xs := ⟨hs₂.extBut _ _ m.n1 m.hm, hs₂.extBut _ _ m.n2 m.ht, h1₂, m.hl.extBut hs₂.extBut m.n3, m.n1, m.n2, m.n3⟩
  refine wpAny_bind (wpAny_field m2.hm rfl (x := .type "tuple") rfl ?_)
  refine wpAny_bind (wpAny_holding ?_)
  refine call_tuple_list (hy.extBut hs₂.extBut hbI) (fun h' hk => ?_) (by rw [sizeLine_eq]; omega)
  refine wpAny_bind (wpAny_letGo ?_)
  have le2 : Le h₂ (h'.push { cls := .type "tuple", data := .seq ys }) := fun b o e => Heap.get?_push_of_some _ (hk b o e)
  refine wpAny_pure ⟨_, rfl, hQ _ _ (fun c o hc e => le2 _ _ (hs₂.extBut _ _ hc e)) (m2.le le2) ?_ ⟨_, Heap.get?_push_size _ rfl, rfl, _, rfl⟩⟩
  cases q : s.heap.get? h'.objs.size with
  | none => rfl
  | some o =>
    exfalso
    by_cases e : h'.objs.size = I
    · obtain ⟨o', ho', _⟩ := h1₂
      exact absurd (Heap.lt_size (e ▸ hk _ _ ho')) (Nat.lt_irrefl _)
    · exact absurd (Heap.lt_size (hk _ _ (hs₂.extBut _ _ e q))) (Nat.lt_irrefl _)
theorem map_next_end {M T I l : Addr} {k : Nat} {xs : Array Value} {Q : Fin → Shared → Prop} (hh : A.handled = none) (m : MapAt s.heap M T I l k xs) (hx : xs[k]? = none)
    (hE : ∀ h' e, (∀ c o, c ≠ I → s.heap.get? c = some o → h'.get? c = some o) → (∃ o, h'.get? e = some o ∧ o.cls = .type "StopIteration") → E (.ref e) { s with heap := h' }) :
    wpAny (model prog w) A (Builtin.«map.__next__» ⟨[.ref M], []⟩) Q E s := by
  show wpAny _ _ (field (.ref M) 0 >>= _) _ _ _
  refine wpAny_bind (wpAny_field m.hm rfl (x := .ref T) rfl ?_)
  refine wpAny_bind (wpAny_seqItems m.ht rfl ?_)
  refine wpAny_bind ?_
  simp only [List.forIn_toArray, List.forIn_cons, List.forIn_nil]
  refine wpAny_bind (wpAny_bind (wpAny_holding ?_))
  exact wpAny_nextOf_list_end hh m.hi m.hl hx fun h₂ e hs₂ he => hE h₂ e hs₂ he
theorem pyNext_map_item {M T I l : Addr} {k : Nat} {xs : Array Value} {b : Addr} {ys : Array Value} {Q : Option Value → Shared → Prop} (m : MapAt s.heap M T I l k xs) (hx : xs[k]? = some (.ref b)) (hy : s.heap.IsList b ys) (hbI : b ≠ I) (hys : ys.size ≤ 1000000)
    (hQ : ∀ h' v, (∀ c o, c ≠ I → s.heap.get? c = some o → h'.get? c = some o) → MapAt h' M T I l (k + 1) xs → s.heap.get? v = none → IsTup h' v ys → Q (some (.ref v)) { s with heap := h' }) :
    wpAny (model prog w) A (pyNext (.ref M)) Q E s := by
  have hT : s.TypeIs (.ref M) "map" := ⟨_, m.hm, rfl⟩
  unfold pyNext
  exact wpAny_bind (wpAny_attempt (wpAny_callSpecial?_slot (name := Str.ofString "__next__") hT slot_map_next
    (wpAny_call_entry slot_map_next hT entry_map_next (map_next_item m hx hy hbI hys fun h' v a1 a2 a3 a4 => wpAny_pure (hQ h' v a1 a2 a3 a4)) (args_map_next _))))
theorem pyNext_map_end {M T I l : Addr} {k : Nat} {xs : Array Value} {Q : Option Value → Shared → Prop} (hh : A.handled = none) (m : MapAt s.heap M T I l k xs) (hx : xs[k]? = none)
    (hQ : ∀ h', (∀ c o, c ≠ I → s.heap.get? c = some o → h'.get? c = some o) → Q none { s with heap := h' }) : wpAny (model prog w) A (pyNext (.ref M)) Q E s := by
  have hT : s.TypeIs (.ref M) "map" := ⟨_, m.hm, rfl⟩
  unfold pyNext
  refine wpAny_bind (wpAny_attempt (wpAny_callSpecial?_slot (name := Str.ofString "__next__") hT slot_map_next
    (wpAny_call_entry slot_map_next hT entry_map_next (map_next_end hh m hx fun h' e hk he => ?_) (args_map_next _))))
  obtain ⟨o, ho, hc⟩ := he
  refine wpAny_bind (wpAny_isInstance (T := "StopIteration") (b := true) ⟨o, ho, hc⟩ isSubtype_stop ?_)
  exact wpAny_pure (hQ _ hk)
theorem pyIter_map {M T : Addr} {Q : Value → Shared → Prop} (hz : s.heap.get? M = some { cls := .type "map", data := .fields #[.ref T, .type "tuple"] }) (h : Q (.ref M) s) : wpAny (model prog w) A (pyIter (.ref M)) Q E s := by
  have hT : s.TypeIs (.ref M) "map" := ⟨_, hz, rfl⟩
  refine wpAny_pyIter_slot hT slot_map_iter (wpAny_call_entry slot_map_iter hT map_iter_entry ?_ (args_map_iter _))
  show wpAny _ _ (ret (.ref M)) _ _ s
  exact wpAny_pure ⟨_, rfl, "map", _, hT, slot_map_next.lookup, h⟩

def Le' (h h' : Heap) (c : Addr) : Prop := ∀ o, h.get? c = some o → h'.get? c = some o
/-- the lists that a map of tuple goes through, from the k-th on -/
theorem map_loop {R : Result → Shared → Prop} {M T I l S : Addr} {xs : Array Value} {dss : List (List PyData)} {B : List Addr} (hh : A.in1.handled = none) (hS : S ∈ B) (hI : I ∈ B) (hSI : S ≠ I) (hl : l ∉ B) (hM : M ∉ B) (hT : T ∉ B) (hn : xs.size ≤ 1000000) (hd : ∀ ds ∈ dss, ds.length ≤ 1000000)
    (hlen : xs.size = dss.length) :
    ∀ (j k : Nat) (s : Shared) (acc : Array Value) (c : Nat), xs.size - k = j → k ≤ xs.size → Al B s.heap → MapAt s.heap M T I l k xs → RdAll B s.heap xs.toList (dss.map .list) → s.heap.get? S = some { cls := .type "list", dict := none, data := .seq acc c, slots := #[] } →
      acc.size = k → RdAll B s.heap acc.toList ((dss.take k).map .tuple) →
    (∀ h' acc' c', But [S, I] s.heap h' → h'.get? S = some { cls := .type "list", dict := none, data := .seq acc' c', slots := #[] } → RdAll B h' acc'.toList (dss.map .tuple) → R (.ok (.ret .none)) { s with heap := h' }) →
    codeAny (model prog w) A (.builtin "list.extend.loop" ⟨[.ref S, .ref M, .none], []⟩) R s := by
  intro j
  induction j with
  | zero =>
    intro k s acc c hk hi al m hr hS' hac ha hR
    have hin : k = xs.size := by omega
    subst hin
    refine codeAny_builtin PySem.F.entry_extend_loop ?_
    rw [Around.under_plainId PySem.F.plain_extend_loop _]
    show wpAny _ A.in1 (pyNext (.ref M) >>= _) _ _ s
    refine wpAny_bind (pyNext_map_end hh m (Array.getElem?_eq_none (Nat.le_refl _)) fun h' hk' => ?_)
    have bt : But B s.heap h' := fun b o hb e => hk' b o (fun q => hb (q ▸ hI)) e
    refine wpAny_pure (hR h' acc c (fun b o hb e => hk' b o (fun q => hb (by rw [q]; simp)) e) (hk' _ _ hSI hS') ?_)
    have := ha.but bt
    rw [hlen, List.take_length] at this
    exact this
  | succ j ih =>
    intro k s acc c hk hi al m hr hS' hac ha hR
    have hlt : k < xs.size := by omega
    have hlt' : k < dss.length := hlen ▸ hlt
    refine codeAny_builtin PySem.F.entry_extend_loop ?_
    rw [Around.under_plainId PySem.F.plain_extend_loop _]
    show wpAny _ A.in1 (pyNext (.ref M) >>= _) _ _ s
    obtain ⟨v, hv, rv⟩ := hr.get (i := k) (d := .list dss[k]) (by simp [hlt'])
    cases rv with
    | list hb hl' hr' =>
      rename_i b ys
      have hys : ys.size = dss[k].length := by simpa using hr'.length
      have hbI : b ≠ I := fun q => hb (q ▸ hI)
      refine wpAny_bind (pyNext_map_item m (by simpa using hv) hl' hbI (by rw [hys]; exact hd _ (List.getElem_mem _)) fun h' v a1 a2 a3 a4 => ?_)
      have bI : But [I] s.heap h' := fun c o hc e => a1 c o (fun q => hc (by rw [q]; simp)) e
      have bB : But B s.heap h' := bI.more fun b hb' => List.mem_singleton.mp hb' ▸ hI
      have hS2 : h'.get? S = _ := a1 _ _ hSI hS'
      have hvB : v ∉ B := fun q => al v q a3
      have hvS : v ≠ S := fun q => hvB (q ▸ hS)
      show wpAny _ A.in1 (updateSeq S (·.push (.ref v)) >>= _) _ _ _
      refine wpAny_bind ?_
      have bS : But [S] h' (h'.update S (Obj.mapSeq (·.push (.ref v)))) := But.same (Heap.SameBut.update ..)
      have bS' : But B h' (h'.update S (Obj.mapSeq (·.push (.ref v)))) := bS.more fun b hb' => List.mem_singleton.mp hb' ▸ hS
      have lk : ∀ c, c ∉ B → Le' h' (h'.update S (Obj.mapSeq (·.push (.ref v)))) c := fun c hc o e => bS' c o hc e
      refine wpAny_updateSeq hS2 rfl (wpAny_pure ⟨plainId_quiet PySem.F.plain_extend_loop _, ih (k + 1) _ (acc.push (.ref v)) _ (by omega) hlt ?_ ?_ (hr.but (bB.trans bS')) (Heap.get?_update_self _ hS2 rfl) (by simp [hac]) ?_ fun h'' acc' c' b1 b2 b3 => ?_⟩)
        (by rw [hac, sizeLine_eq]; omega) (by show (acc.push _).size ≤ sizeLine + 1; rw [Array.size_push, hac, sizeLine_eq]; omega)
      · intro c hc e
        have h1 : h'.get? c ≠ none := by
          by_cases q : c = I
          · obtain ⟨o, ho, _⟩ := a2.hi
            rw [q, ho]; simp
          · cases z : s.heap.get? c with
            | none => exact absurd z (al c hc)
            | some o => rw [a1 c o q z]; simp
        by_cases q : c = S
        · have := Heap.get?_update_self (Obj.mapSeq (·.push (Value.ref v))) hS2 rfl
          rw [q, this] at e; cases e
        · cases z : h'.get? c with
          | none => exact h1 z
          | some o => rw [bS c o (fun hm => q (List.mem_singleton.mp hm)) z] at e; cases e
      · exact ⟨bS' _ _ hM a2.hm, bS' _ _ hT a2.ht, a2.hi.at fun o e => bS _ o (fun hm => hSI (List.mem_singleton.mp hm).symm) e, bS'.list hl a2.hl, a2.n1, a2.n2, a2.n3⟩
      · rw [List.take_add_one, List.getElem?_eq_getElem hlt', Array.toList_push]
        simp only [Option.toList, List.map_append, List.map_cons, List.map_nil]
        exact (ha.but (bB.trans bS')).snoc (.tup hvB (bS'.tup hvB a4) (hr'.but (bB.trans bS')))
      · refine hR h'' acc' c' (((bI.more fun b hb' => ?_).trans (bS.more fun b hb' => ?_)).trans b1) b2 b3
        · rw [List.mem_singleton.mp hb']; simp
        · rw [List.mem_singleton.mp hb']; simp
set_option maxHeartbeats 2000000 in
/-- list(map over lists) -/
theorem call_list_map {M T I l : Addr} {xs : Array Value} {dss : List (List PyData)} {Q : Value → Shared → Prop} (hh : A.handled = none) (hh' : A.in1.in1.handled = none) (al : Al bad s.heap) (hI : I ∈ bad) (hl : l ∉ bad) (hM : M ∉ bad) (hT : T ∉ bad) (hn : xs.size ≤ 1000000) (hd : ∀ ds ∈ dss, ds.length ≤ 1000000)
    (m : MapAt s.heap M T I l 0 xs) (hr : RdAll bad s.heap xs.toList (dss.map .list))
    (hQ : ∀ h' v, (∀ c o, c ≠ I → s.heap.get? c = some o → h'.get? c = some o) → v ∉ bad → (∃ ys, h'.IsList v ys ∧ RdAll bad h' ys.toList (dss.map .tuple)) → Q (.ref v) { s with heap := h' }) :
    wpAny (model prog w) A (call (.type "list") [.ref M]) Q E s := by
  have hlen : xs.size = dss.length := by simpa using hr.length
  have hdead := get_size_none s.heap
  have hSb : s.heap.objs.size ∉ bad := al.fresh
  have hSI : s.heap.objs.size ≠ I := fun e => hSb (e ▸ hI)
  refine callType_codes (Q₁ := fun obj s₁ => obj = .ref s.heap.objs.size ∧ s₁ = { s with heap := s.heap.push { cls := .type "list", data := .seq #[] } }) PySem.F.called_list (PySem.F.typeCall_list_1 _) PySem.F.entry_list_init
    (code_list_new _ ⟨rfl, rfl⟩) fun obj s₁ h₁ => ?_
  obtain ⟨rfl, rfl⟩ := h₁
  have hS : (s.heap.push { cls := .type "list", data := .seq #[] }).get? s.heap.objs.size = some { cls := .type "list", data := .seq #[] } := Heap.get?_push_size _ rfl
  refine ⟨⟨_, hS, rfl⟩, PySem.F.args_list_init_2 _ _, ?_⟩
  show wpAny _ A.in1.in1 (do let old ← Builtin.List.listItems (.ref s.heap.objs.size); Builtin.List.listUpdate (.ref s.heap.objs.size) (fun _ => #[]); letGo old.toList.reverse; Builtin.List.listExtendWith (.ref s.heap.objs.size) (.ref M) .none) _ _ _
  refine wpAny_bind ?_
  unfold Builtin.List.listItems
  refine wpAny_bind (wpAny_seqItems hS rfl (wpAny_pure ?_))
  show wpAny _ A.in1.in1 (updateSeq s.heap.objs.size (fun _ => #[]) >>= fun _ => letGo (#[] : Array Value).toList.reverse >>= fun _ => Builtin.List.listExtendWith (.ref s.heap.objs.size) (.ref M) .none) _ _ _
  refine wpAny_bind (wpAny_updateSeq hS rfl ?_)
  have hS₂ := Heap.get?_update_self (Obj.mapSeq (fun _ => (#[] : Array Value))) hS rfl
  refine wpAny_bind (wpAny_letGo ?_)
  have le2 : Le s.heap ((s.heap.push { cls := .type "list", data := .seq #[] }).update s.heap.objs.size (Obj.mapSeq (fun _ => (#[] : Array Value)))) := fun b o e => by
    have hne : s.heap.objs.size ≠ b := fun q => by rw [← q, hdead] at e; cases e
    exact (Heap.get?_update_other _ _ hne).trans (Heap.get?_push_of_some _ e)
  generalize hH : (s.heap.push { cls := .type "list", data := .seq #[] }).update s.heap.objs.size (Obj.mapSeq (fun _ => (#[] : Array Value))) = H2 at hS₂ le2 ⊢
  have m2 := m.le le2
  have hTm : ({ s with heap := H2 } : Shared).TypeIs (.ref M) "map" := ⟨_, m2.hm, rfl⟩
  have hMS : s.heap.objs.size ≠ M := fun q => by have := m.hm; rw [← q, hdead] at this; cases this
  have hTS : T ≠ s.heap.objs.size := fun q => by have := m.ht; rw [q, hdead] at this; cases this
  have hlS : l ≠ s.heap.objs.size := fun q => by obtain ⟨o, ho, _⟩ := m.hl; rw [q, hdead] at ho; cases ho
  unfold Builtin.List.listExtendWith
  refine wpAny_bind (wpAny_typeOf hTm ?_)
  have h1 : Builtin.List.listSameRef (.ref s.heap.objs.size) (.ref M) = false := by simp [Builtin.List.listSameRef, hMS]
  have h2 : (Value.type "map" == Value.type "list") = false := by decide
  have h3 : (Value.type "map" == Value.type "tuple") = false := by decide
  simp only [h1, h2, h3, Bool.or_false, Bool.false_eq_true, if_false]
  refine wpAny_bind (pyIter_map m2.hm ?_)
  refine wpAny_bind (wpAny_holding ?_)
  unfold Builtin.List.listLengthHint
  refine wpAny_bind (wpAny_specialOf hTm map_no_len ?_)
  show wpAny _ A.in1.in1 (specialOf (Value.ref M) (Str.ofString "__length_hint__") >>= _) _ _ _
  refine wpAny_bind (wpAny_specialOf hTm map_no_hint ?_)
  refine wpAny_pure ?_
  show wpAny _ A.in1.in1 (rule "list.extend.makes-room" >>= fun _ => Builtin.List.listTouch (.ref s.heap.objs.size) >>= fun _ =>
    again (.builtin "list.extend.loop" ⟨[.ref s.heap.objs.size, .ref M, .none], []⟩)) _ _ _
  refine wpAny_bind (wpAny_rule ?_)
  refine wpAny_bind ?_
  show wpAny _ A.in1.in1 (updateSeq s.heap.objs.size (·.push .none) >>= fun _ => updateSeq s.heap.objs.size (·.pop)) _ _ _
  refine wpAny_bind (wpAny_updateSeq hS₂ rfl ?_)
  have hS3 := Heap.get?_update_self (Obj.mapSeq (·.push Value.none)) hS₂ rfl
  refine wpAny_updateSeq (hz := by seq_fits) hS3 rfl ?_
  have hS4 := Heap.get?_update_self (Obj.mapSeq (·.pop)) hS3 rfl
  have le4 : Le s.heap ((H2.update s.heap.objs.size (Obj.mapSeq (·.push Value.none))).update s.heap.objs.size (Obj.mapSeq (·.pop))) := fun b o e => by
    have hne : s.heap.objs.size ≠ b := fun q => by rw [← q, hdead] at e; cases e
    exact (Heap.get?_update_other _ _ hne).trans ((Heap.get?_update_other _ _ hne).trans (le2 b o e))
  have hnewb : ∀ b ∈ s.heap.objs.size :: bad, b ∈ bad ∨ s.heap.get? b = none := fun b hb => (List.mem_cons.mp hb).elim (fun q => .inr (q ▸ hdead)) .inl
  refine wpAny_pure ⟨plainId_quiet PySem.F.plain_extend_loop _, map_loop (B := s.heap.objs.size :: bad) (dss := dss) hh' (.head _) (.tail _ hI) hSI (fun q => (List.mem_cons.mp q).elim hlS hl) (fun q => (List.mem_cons.mp q).elim hMS.symm hM)
    (fun q => (List.mem_cons.mp q).elim hTS hT) hn hd hlen _ 0 _ #[] _ rfl (Nat.zero_le _) ?_ (m.le le4) ((hr.bads hnewb).le le4) hS4 rfl .nil fun h' acc' c' b1 b2 b3 => ?_⟩
  · intro b hb e
    rcases List.mem_cons.mp hb with q | q
    · rw [q, hS4] at e; cases e
    · exact al.le le4 b q e
  · refine ⟨rfl, hQ h' _ (fun c o hc e => b1 c o (fun q => ?_) (le4 c o e)) hSb ⟨acc', ⟨_, b2, rfl, _, rfl⟩, b3.bads fun b hb => .inl (.tail _ hb)⟩⟩
    rcases List.mem_cons.mp q with q | q
    · rw [q, hdead] at e; cases e
    · exact hc (List.mem_singleton.mp q)
end
end Mine

end
section
open PySem PySem.Spec PySem.Calls PySem.W PyProof.Rows
set_option Elab.async false
set_option linter.unusedVariables false
set_option linter.unusedSimpArgs false
namespace Mine
/-- data that may be compared -/
structure Sm (d : PyData) : Prop where
  lay : d.canLay0 = true
  dep : d.depth ≤ 50
theorem Sm.shaped {d : PyData} (x : Sm d) : SeqAt.shaped d = true := by
  unfold SeqAt.shaped; rw [x.lay, Bool.true_and]; exact decide_eq_true (Nat.le_trans x.dep (by decide))
section
variable {prog : Program} {w : World} {A : Around} {env : Env} {h : Heap} {bad : List Addr} {E : Value → Shared → Prop} {s : Shared}
theorem op_eqd {d e : PyData} {v1 v2 : Value} {g : Heap} (hu : A.units + 100 < cLine) (sd : Sm d) (se : Sm e) (p1 : isRd bad d v1 g) (p2 : isRd bad e v2 g) : Tr prog w A g (compareOp .Eq v1 v2) (isBool (PyData.eqv d e)) := fun s E le => by
  obtain ⟨as, r1⟩ := (p1.le le).reads
  obtain ⟨bs, r2⟩ := (p2.le le).reads
  exact eq_dataH r1 r2 sd.shaped se.shaped (by omega) ⟨Keeps.refl s, rfl⟩
theorem op_ned {d e : PyData} {v1 v2 : Value} {g : Heap} (hu : A.units + 100 < cLine) (sd : Sm d) (se : Sm e) (p1 : isRd bad d v1 g) (p2 : isRd bad e v2 g) : Tr prog w A g (compareOp .NotEq v1 v2) (isBool (!PyData.eqv d e)) := fun s E le => by
  obtain ⟨as, r1⟩ := (p1.le le).reads
  obtain ⟨bs, r2⟩ := (p2.le le).reads
  exact ne_dataH r1 r2 sd.shaped se.shaped (by omega) ⟨Keeps.refl s, rfl⟩
theorem eqat_rd {d : PyData} {v1 v2 : Value} {s : Shared} (hu : A.units + 100 < cLine) (sd : Sm d) (p1 : Rd bad s.heap v1 d) (p2 : Rd bad s.heap v2 d) : SeqAt.EqAt A.in1 s v1 v2 true := by
  obtain ⟨as, r1⟩ := p1.reads
  obtain ⟨bs, r2⟩ := p2.reads
  have := SeqAt.eqAt_reads d d A.in1 s v1 v2 as bs r1 r2 sd.lay sd.lay (by
    have h1 := sd.dep
    have h2 : A.in1.units = A.units + 1 := rfl
    rw [h2]; omega)
  rwa [SeqAt.eqv_refl d sd.lay] at this
/-- two keys, and to each of them data -/
def two (prog : Program) (w : World) (a b : KK) (d e : PyData) : List Addr → HP := isDict prog w [(a, fun B => isRd B d), (b, fun B => isRd B e)]
theorem two_ok {a b d e} : KPs.Ok [(a, fun B => isRd B d), (b, fun B => isRd B e)] := fun p hp => by
  simp only [List.mem_cons, List.not_mem_nil, or_false] at hp
  rcases hp with rfl | rfl
  · exact Bp.rd d
  · exact Bp.rd e
theorem bp_two {a b d e} : Bp (two prog w a b d e) := bp_dict two_ok
theorem hits_two {a b : KK} {d e : PyData} {kvs kvs' : List (KK × Value)} {s : Shared} (hab : a ≠ b) (hu : A.units + 100 < cLine) (sd : Sm d) (se : Sm e) (q : KHs s.heap kvs (KPs.at bad [(a, fun B => isRd B d), (b, fun B => isRd B e)]))
    (q' : KHs s.heap kvs' (KPs.at bad [(a, fun B => isRd B d), (b, fun B => isRd B e)])) : KeqHits A.in1 s kvs' kvs true := by
  cases q with
  | cons p1 q =>
    cases q with
    | cons p2 q =>
      cases q
      cases q' with
      | cons p1' q' =>
        cases q' with
        | cons p2' q' =>
          cases q'
          have := KeqHits.hit (A := A.in1) (s := s) (kb := [(a, _), (b, _)]) (k := a) (e := true) (b := true) (by simp [valueAt]; rfl) (eqat_rd hu sd p1 p1')
            (KeqHits.hit (k := b) (e := true) (b := true) (by simp [valueAt, hab]; rfl) (eqat_rd hu se p2 p2') .nil)
          exact this
theorem op_eqD {a b : KK} {d e : PyData} {v1 v2 : Value} {g : Heap} (hab : a ≠ b) (hu : A.units + 100 < cLine) (sd : Sm d) (se : Sm e) (p1 : two prog w a b d e bad v1 g) (p2 : two prog w a b d e bad v2 g) :
    Tr prog w A g (compareOp .Eq v1 v2) (isBool true) := fun s E le => by
  obtain ⟨x, kvs, rfl, n, lo, hd, q⟩ := bp_two.st bad _ _ _ le.but p1
  obtain ⟨x', kvs', rfl, n', lo', hd', q'⟩ := bp_two.st bad _ _ _ le.but p2
  have hlen : (kvs.length == kvs'.length) = true := by
    have h1 := congrArg List.length q.keys
    have h2 := congrArg List.length q'.keys
    simp only [List.length_map] at h1 h2
    rw [h1, h2]; simp
  refine keq_eq (knd := kk prog w) (r := true) lo lo' hd hd' (by omega) (fun _ => hits_two hab hu sd se q q') ?_
  rw [hlen]
  exact ⟨Keeps.refl s, rfl⟩
theorem op_neD {a b : KK} {d e : PyData} {v1 v2 : Value} {g : Heap} (hab : a ≠ b) (hu : A.units + 100 < cLine) (sd : Sm d) (se : Sm e) (p1 : two prog w a b d e bad v1 g) (p2 : two prog w a b d e bad v2 g) :
    Tr prog w A g (compareOp .NotEq v1 v2) (isBool false) := fun s E le => by
  obtain ⟨x, kvs, rfl, n, lo, hd, q⟩ := bp_two.st bad _ _ _ le.but p1
  obtain ⟨x', kvs', rfl, n', lo', hd', q'⟩ := bp_two.st bad _ _ _ le.but p2
  have hlen : (kvs.length == kvs'.length) = true := by
    have h1 := congrArg List.length q.keys
    have h2 := congrArg List.length q'.keys
    simp only [List.length_map] at h1 h2
    rw [h1, h2]; simp
  refine keq_ne (knd := kk prog w) (r := true) lo lo' hd hd' (by omega) (fun _ => hits_two hab hu sd se q q') ?_
  rw [hlen]
  exact ⟨Keeps.refl s, rfl⟩

/-- isinstance -/
theorem isi_str {x : Str} {vs : List Value} {g : Heap} (q : Hs g vs [isStr x, isVal (.type "bytes")]) : Tr prog w A g (call (.builtin "isinstance") vs) (isBool false) := fun s E l => by
  cases q with
  | cons p q =>
    cases q with
    | cons p2 q =>
      cases q
      obtain ⟨t, rfl⟩ := p
      rw [show _ = Value.type "bytes" from p2]
      exact PySem.IsiPair.str_bytes ⟨Keeps.tok s _, rfl⟩
theorem isi_bytes {x : Array UInt8} {vs : List Value} {g : Heap} (q : Hs g vs [isBytes x, isVal (.type "bytes")]) : Tr prog w A g (call (.builtin "isinstance") vs) (isBool true) := fun s E l => by
  cases q with
  | cons p q =>
    cases q with
    | cons p2 q =>
      cases q
      obtain ⟨t, rfl⟩ := p
      rw [show _ = Value.type "bytes" from p2]
      exact call_isinstance (isinstance_true (Tx := "bytes") PySem.F.isi_meta_bytes PySem.F.sub_bytes_bytes) ⟨rfl, Keeps.refl s, rfl⟩
theorem isi_dict {kps : KPs} {vs : List Value} {g : Heap} (q : Hs g vs [isDict prog w kps bad, isVal (.type "dict")]) : Tr prog w A g (call (.builtin "isinstance") vs) (isBool true) := fun s E l => by
  cases q with
  | cons p q =>
    cases q with
    | cons p2 q =>
      cases q
      obtain ⟨d, kvs, rfl, n, lo, hd, _⟩ := p
      rw [show _ = Value.type "dict" from p2]
      obtain ⟨o, es, ep, ho, hc, _⟩ := DictOf.but (bad := bad) l.but n hd
      exact call_isinstance (isinstance_true (Tx := "dict") PySem.F.isi_meta_dict PySem.F.sub_dict_dict) ⟨⟨o, ho, hc.1⟩, Keeps.refl s, rfl⟩
theorem call_int {i : Int} {vs : List Value} {g : Heap} (q : Hs g vs [isInt i]) : Tr prog w A g (call (.type "int") vs) (isInt i) := fun s E l => by
  cases q with
  | cons p q =>
    cases q
    obtain ⟨t, rfl⟩ := p
    exact call_int_int ⟨Keeps.refl s, _, rfl⟩
theorem keeps_of {s : Shared} {h' : Heap} (k : Le s.heap h') : Keeps s { s with heap := h' } := ⟨h', s.toks, rfl, k⟩
/-- list(x), tuple(x) of a list -/
theorem call_list {ds : List PyData} {vs : List Value} {g : Heap} (al : Al bad g) (hn : ds.length ≤ 1000000) (q : Hs g vs [isRd bad (.list ds)]) : Tr prog w A g (call (.type "list") vs) (isRd bad (.list ds)) := fun s E l => by
  cases q with
  | cons p q =>
    cases q
    cases p with
    | list hb hl hr =>
      rename_i a vs
      obtain ⟨o, ho, hc, n, hd⟩ := l.list hl
      have hsz : vs.size = ds.length := by simpa using hr.length
      exact call_list_seq a (.inl rfl) ho hc hd (fun h' c' k g1 => ⟨keeps_of k, .list (al.le l).fresh ⟨_, g1, rfl, _, rfl⟩ (hr.le (l.trans k))⟩) (by rw [sizeLine_eq]; omega)
theorem call_tuple {ds : List PyData} {vs : List Value} {g : Heap} (al : Al bad g) (hn : ds.length ≤ 1000000) (q : Hs g vs [isRd bad (.list ds)]) : Tr prog w A g (call (.type "tuple") vs) (isRd bad (.tuple ds)) := fun s E l => by
  cases q with
  | cons p q =>
    cases q
    cases p with
    | list hb hl hr =>
      rename_i a vs
      have hsz : vs.size = ds.length := by simpa using hr.length
      refine call_tuple_list (l.list hl) (fun h' k => ?_) (by rw [sizeLine_eq]; omega)
      have k2 : Le s.heap (h'.push { cls := .type "tuple", data := .seq vs }) := fun b o e => Heap.get?_push_of_some _ (k b o e)
      exact ⟨keeps_of k2, .tup (((al.le l).le k).fresh) ⟨_, Heap.get?_push_size _ rfl, rfl, _, rfl⟩ (hr.le (l.trans k2))⟩
/-- a fresh map of tuple over lists -/
def isMap (bad : List Addr) (dss : List (List PyData)) : HP := fun v h => ∃ M T I l xs, v = .ref M ∧ I ∉ bad ∧ M ∉ bad ∧ T ∉ bad ∧ l ∉ bad ∧ MapAt h M T I l 0 xs ∧ RdAll (I :: bad) h xs.toList (dss.map .list)
theorem call_mapT {dss : List (List PyData)} {vs : List Value} {g : Heap} (al : Al bad g) (q : Hs g vs [isVal (.type "tuple"), isRd bad (.list (dss.map .list))]) : Tr prog w A g (call (.type "map") vs) (isMap bad dss) := fun s E l => by
  cases q with
  | cons p q =>
    cases q with
    | cons p2 q =>
      cases q
      rw [show _ = Value.type "tuple" from p]
      cases p2 with
      | list hb hl hr =>
        rename_i a vs
        refine call_map (l.list hl) fun h' M T I k m hI hM hT => ?_
        exact ⟨keeps_of k, M, T, I, a, vs, rfl, (al.le l).none hI, (al.le l).none hM, (al.le l).none hT, hb, m, (((hr.le l).bads fun b hb' => (List.mem_cons.mp hb').elim (fun q => .inr (q ▸ hI)) .inl)).le k⟩
/-- list(map(tuple, ..)) -/
theorem ev_listmap {f1 f2 e1 e2 : Expr} {p1 p2 : Pos} {dss : List (List PyData)} (hh : A.handled = none) (al : Al bad h) (hn : dss.length ≤ 1000000) (hd : ∀ ds ∈ dss, ds.length ≤ 1000000)
    (x1 : Tr prog w A h (eval f1 env) (isVal (.type "list"))) (x2 : Tr prog w A h (eval f2 env) (isVal (.type "map"))) (y1 : Tr prog w A h (eval e1 env) (isVal (.type "tuple"))) (y2 : Tr prog w A h (eval e2 env) (isRd bad (.list (dss.map .list))))
    (he1 : eval (.Call f1 [.Call f2 [e1, e2] [] p2] [] p1) env = (do callWith p1 (← eval f1 env) [] (backTo p1 (starEach [.Call f2 [e1, e2] [] p2] env)) (backToKw p1 (keywordEach [] env))) := by rfl)
    (he2 : eval (.Call f2 [e1, e2] [] p2) env = (do callWith p2 (← eval f2 env) [] (backTo p2 (starEach [e1, e2] env)) (backToKw p2 (keywordEach [] env))) := by rfl)
    (hs : starEach [e1, e2] env = (false, eval e1 env) :: starEach [e2] env := by rfl) (hs' : starEach [e2] env = (false, eval e2 env) :: starEach [] env := by rfl) :
    Tr prog w A h (eval (.Call f1 [.Call f2 [e1, e2] [] p2] [] p1) env) (isRd bad (.list (dss.map .tuple))) := fun s E l => by
  refine Call_ (x1.use l fun v s1 k1 q1 => ?_) he1
  rw [show v = .type "list" from q1]
  refine PyProof.Rows.callWith_type1 (wpAny_items_cons ?_ rfl) rfl rfl
  refine Call_ (x2.use (l.trans (Keeps.le k1)) fun v s2 k2 q2 => ?_) he2
  rw [show v = .type "map" from q2]
  have l2 := (l.trans (Keeps.le k1)).trans (Keeps.le k2)
  refine PyProof.Rows.callWith_type1 (wpAny_items_cons (y1.use l2 fun u1 s3 k3 q3 => wpAny_items_cons (y2.use (l2.trans (Keeps.le k3)) fun u2 s4 k4 q4 => wpAny_items_nil ?_) hs') hs) hs (by rw [hs']; rfl)
  rw [show u1 = .type "tuple" from q3]
  have l4 := (l2.trans (Keeps.le k3)).trans (Keeps.le k4)
  have al4 := al.le l4
  cases q4 with
  | list hb hl hr =>
    rename_i a vs
    refine call_map hl fun h' M T I k m hI hM hT => ?_
    refine wpAny_items_nil ?_
    have hsz : vs.size = dss.length := by simpa using hr.length
    have alI : Al (I :: bad) h' := fun b hb' e => by
      rcases List.mem_cons.mp hb' with q | q
      · obtain ⟨o, ho, _⟩ := m.hi
        rw [q, ho] at e; cases e
      · exact al4.le k b q e
    refine call_list_map (bad := I :: bad) hh hh alI (.head _) ?_ ?_ ?_ (by omega) hd m (((hr.bads fun b hb' => (List.mem_cons.mp hb').elim (fun q => .inr (q ▸ hI)) .inl)).le k) fun h'' v a1 a2 ⟨ys, a3, a4⟩ => ?_
    · exact fun q => (List.mem_cons.mp q).elim (fun q => m.n3 q) hb
    · exact fun q => (List.mem_cons.mp q).elim (fun q => m.n1 q) (al4.none hM)
    · exact fun q => (List.mem_cons.mp q).elim (fun q => m.n2 q) (al4.none hT)
    · have kk : Le s4.heap h'' := fun b o e => a1 b o (fun q => by rw [q, hI] at e; cases e) (k b o e)
      exact ⟨Keeps.tr k1 (Keeps.tr k2 (Keeps.tr k3 (Keeps.tr k4 (keeps_of kk)))), .list (fun q => a2 (.tail _ q)) a3 (a4.bads fun b hb => .inl (.tail _ hb))⟩
end
end Mine

end
section
open PySem PySem.Spec PySem.Calls PySem.W PyProof.Rows
set_option Elab.async false
set_option linter.unusedVariables false
set_option linter.unusedSimpArgs false
namespace Mine
section
variable {prog : Program} {w : World} {A : Around} {env : Env} {h : Heap} {bad : List Addr} {E : Value → Shared → Prop} {s : Shared}
theorem my_nsSet {d : Addr} {es : List DictEntry} {n : Nat} {k : Str} {v : Value} {Q : Unit → Shared → Prop} (D : s.heap.get? d = some (dictOf es n))
    (hs : ∀ e ∈ es, e.key.isStr k = false) (hr : ∀ e ∈ es, e.refKey = false)
    (h : ∀ h', h'.get? d = some (dictOf (es ++ [⟨PyData.keyHash w.params k, .str k s.toks, v⟩]) (n + 1)) → Heap.SameBut d s.heap h' → Q () { s with heap := h', toks := s.toks + 1 }) :
    wpAny (model prog w) A (nsSet d k v) Q E s := by
  have e1 : es.any (·.key.isStr k) = false := by
    cases q : es.any (·.key.isStr k) with
    | false => rfl
    | true => obtain ⟨e, he, z⟩ := List.any_eq_true.mp q; rw [hs e he] at z; cases z
  have e2 : es.any (·.refKey) = false := by
    cases q : es.any (·.refKey) with
    | false => rfl
    | true => obtain ⟨e, he, z⟩ := List.any_eq_true.mp q; rw [hr e he] at z; cases z
  have e : Obj.putName k (PyData.keyHash w.params k) (.str k s.toks) v (dictOf es n) = dictOf (es ++ [⟨PyData.keyHash w.params k, .str k s.toks, v⟩]) (n + 1) := by
    rw [putName_dict, putL_new hs]
    show dictOf _ (if es.any (·.key.isStr k) then n else n + 1) = _
    rw [e1, if_neg Bool.false_ne_true]
  have c : aRefKeyMayBeTheName k es.toArray = false := by
    rw [aRefKeyMayBeTheName_at, ← Array.any_toList, ← Array.any_toList]
    show (!es.any (·.key.isStr k) && es.any (·.refKey)) = false
    rw [e2, Bool.and_false]
  unfold nsSet
  refine wpAny_bind (wpAny_bind (wpAny_askSetting (wpAny_pure (wpAny_bind (wpAny_mkText (wpAny_bind (wpAny_loadPart D ?_)))))))
  dsimp only
  rw [c]
  have U := Heap.get?_update_self (Obj.putName k (PyData.keyHash w.params k) (.str k s.toks) v) D (by rw [e]; rfl)
  rw [e] at U
  exact wpAny_updatePart D (h _ U (Heap.SameBut.update ..))

/-- the keywords of an options dict -/
def optK : Str → KK := fun x => .inl x
theorem opt2 {d : Addr} {g : Heap} {a b : Str} {u v : Value} {t : Tok} {n : Nat} (hab : a ≠ b) (D : g.get? d = some (dictOf [⟨PyData.keyHash w.params a, .str a t, u⟩, ⟨PyData.keyHash w.params b, .str b (t + 1), v⟩] n)) :
    g.DictOf (kk prog w) d [(.inl a, u), (.inl b, v)] := by
  refine ⟨_, #[⟨PyData.keyHash w.params a, .str a t, u⟩, ⟨PyData.keyHash w.params b, .str b (t + 1), v⟩], n, D, ⟨rfl, rfl, rfl⟩, rfl, fun e he => ?_, .cons (kk_str a t) rfl (.cons (kk_str b (t + 1)) rfl .nil), by simp [hab]⟩
  simp at he
  rcases he with rfl | rfl
  · exact ⟨.inl a, kk_str a t, rfl⟩
  · exact ⟨.inl b, kk_str b (t + 1), rfl⟩
theorem opt0 {d : Addr} {g : Heap} {n : Nat} (D : g.get? d = some (dictOf [] n)) : g.DictOf (kk prog w) d [] :=
  ⟨_, #[], n, D, ⟨rfl, rfl, rfl⟩, rfl, fun e he => by simp at he, .nil, List.nodup_nil⟩

/-- a call of a function of the program: its body over a frame of its own -/
theorem call_fun {a : Addr} {o : Obj} {fd : FuncData} {body : List Stmt} {args : Args} {fs : List Addr → List (Str × HP)} {P : HP} (hroom : A.depth < recursionLimit) (ho : h.get? a = some o) (hdata : o.data = .func fd) (hlim : h.NoLimit)
    (hcd : h.CodeRec fd.code fd.qualname) (hbody : fd.body = .stmts body) (al : Al bad h) (hf : BpF fs)
    (hbind : ∀ (s : Shared) (E : Value → Shared → Prop), Le h s.heap → wpAny (model prog w) A.in1 (bindArgs fd args) (fun binds s1 => Keeps s s1 ∧ (∀ x ∈ binds, fd.scope.names.lookup x.1 = some .local) ∧ ∀ x Q, (fs bad).lookup x = some Q → ∃ v, binds.reverse.lookup x = some v ∧ Q v s1.heap) E s)
    (hcell : ∀ x ∈ fd.scope.names, x.2 ≠ .cell) (hclo : fd.closure = []) (hglob : fd.globals = mainGlobals) (hblt : fd.builtins = builtinsNs) (hloc : ∀ x Q, (fs bad).lookup x = some Q → fd.scope.names.lookup x = some .local)
    (hb : ∀ (L : Addr) (s1 s2 : Shared) (E : Value → Shared → Prop), L ∉ bad → Le h s1.heap → FrOk (L :: bad) s1 (callEnv fd L a) (fun _ => True) → Inv (L :: bad) s1 (callEnv fd L a) (fs (L :: bad)) (fun _ => True) s2 →
      wpAny (model prog w) (A.deeper (callEnv fd L a)) (execs body (callEnv fd L a)) (fun f s' => ∃ v, f = .ret v ∧ Keeps s1 s' ∧ P v s'.heap) E s2)
    (hco : fd.scope.isCoroutine = false := by rfl) (hgen : fd.scope.isGenerator = false := by rfl) (hk : fd.scope.kind = .function := by rfl) :
    Tr prog w A h (call (.ref a) args.pos args.kw) P := fun s E le => by
  refine wpAny_call (codeAny_call_function hroom (le _ _ ho) hdata hco hgen hbody (hcd.keeps le) ?_)
  refine wpAny_mono (hbind s _ le) (fun binds s1 ⟨k1, hl, hv⟩ => ?_) fun _ _ e => e
  have le1 := le.trans (Keeps.le k1)
  refine wpAny_newFunctionEnv hcell hl (fun h₀ hns hsb => ?_) hk
  have dead : s1.heap.get? s1.heap.objs.size = none := get_size_none _
  have le0 : Le s1.heap h₀ := fun b o e => hsb.extBut b o (by rintro rfl; rw [dead] at e; cases e) (Heap.get?_push_of_some _ e)
  refine ⟨(hlim.keeps le1).keeps le0, codeAny_func ?_⟩
  rw [hclo]
  have henv : newEnv fd.scope s1.heap.objs.size fd.globals [] (fd.qualname ++ ".<locals>.") (some a) fd.code none fd.builtins = callEnv fd s1.heap.objs.size a := by unfold callEnv; rw [hclo]
  rw [henv]
  generalize s1.heap.objs.size = L at *
  have hkind : ∀ x, fd.scope.names.lookup x = some .local → (callEnv fd L a).kindOf x = some .local := fun x hx => hx
  have ok : EnvOk (callEnv fd L a) := ⟨hk, hglob, hblt, by show ((fd.closure).map (·.1)).Nodup; rw [hclo]; simp, by show (L :: fd.closure.map (·.2)).Nodup; rw [hclo]; simp⟩
  have hfa : frameAddrs (callEnv fd L a) = [L] := by show L :: fd.closure.map (·.2) = [L]; rw [hclo]; rfl
  have hLb : L ∉ bad := (al.le le1).none dead
  have grow : ∀ b ∈ L :: bad, b ∈ bad ∨ s1.heap.get? b = none := fun b hb => (List.mem_cons.mp hb).elim (fun q => .inr (q ▸ dead)) .inl
  have F : FrOk (L :: bad) s1 (callEnv fd L a) (fun _ => True) := ⟨ok, fun b hb => by rw [hfa] at hb; rw [List.mem_singleton.mp hb]; exact dead, fun b hb => by rw [hfa] at hb; rw [List.mem_singleton.mp hb]; exact .head _, fun _ _ _ x => x⟩
  have alB : Al (L :: bad) h₀ := fun b hb e => by
    rcases List.mem_cons.mp hb with q | q
    · obtain ⟨o, _, _, ho, _⟩ := hns
      rw [q, ho] at e; cases e
    · exact (al.le le1).le le0 b q e
  have I : Inv (L :: bad) s1 (callEnv fd L a) (fs (L :: bad)) (fun _ => True) { s1 with heap := h₀, toks := s1.toks + binds.length } := by
    refine ⟨⟨h₀, _, rfl⟩, le0, ⟨fun x => binds.reverse.lookup x, fun _ => none, hns, fun x c hm => ?_, fun x Q hx => ?_⟩, trivial, hf.st _, alB⟩
    · have : (x, c) ∈ fd.closure := hm
      rw [hclo] at this; cases this
    · obtain ⟨Q', hQ', kk⟩ := hf.grow bad (L :: bad) s1.heap grow x Q hx
      obtain ⟨v, e, p⟩ := hv x Q' hQ'
      refine ⟨v, ?_, (hf.st _ x Q hx).mo _ _ _ le0 (kk v p)⟩
      unfold getv
      rw [hkind x (hloc x Q' hQ')]
      exact e
  refine wpAny_mono (hb L s1 _ _ hLb le1 F I) (fun f s' ⟨v, e, k, p⟩ => ?_) fun _ _ e => e
  subst e
  exact ⟨Keeps.tr k1 k, p⟩
/-- f(e, k=.., ..) -/
def Ks (prog : Program) (w : World) (A : Around) (env : Env) (h : Heap) (kws : List Keyword) (Qs : List HP) : Prop :=
  ∀ (pos : Pos) (s : Shared) (E : Value → Shared → Prop), Le h s.heap → wpAny (model prog w) A (evalAll ((backToKw pos (keywordEach kws env)).map (·.2))) (fun vs s' => Keeps s s' ∧ Hs s'.heap vs Qs) E s
theorem ks_nil : Ks prog w A env h [] [] := fun pos s E l => kws_nil ⟨Keeps.refl s, .nil⟩
theorem ks_cons {name : Str} {value : Expr} {kp : Pos} {rest : List Keyword} {P : HP} {Ps : List HP} (m : Mo P) (x : Tr prog w A h (eval value env) P) (r : Ks prog w A env h rest Ps) : Ks prog w A env h (⟨some name, value, kp⟩ :: rest) (P :: Ps) := fun pos s E l => by
  refine kws_cons (x.use l fun v s1 k1 p1 => ?_)
  exact wpAny_mono (r pos s1 E (l.trans (Keeps.le k1))) (fun vs s2 ⟨k2, q⟩ => ⟨Keeps.tr k1 k2, .cons (m _ _ _ (Keeps.le k2) p1) q⟩) fun _ _ e => e
theorem ev_callF {fn e : Expr} {kws : List Keyword} {pos : Pos} {a : Addr} {o : Obj} {fd : FuncData} {P1 P : HP} {Qs : List HP} (ho : h.get? a = some o) (hdata : o.data = .func fd) (m : Mo P1)
    (hf : Tr prog w A h (eval fn env) (isVal (.ref a))) (x : Tr prog w A h (eval e env) P1) (y : Ks prog w A env h kws Qs)
    (hop : ∀ v kvs g, Le h g → P1 v g → Hs g kvs Qs → Tr prog w A g (call (.ref a) [v] (((backToKw pos (keywordEach kws env)).filterMap (·.1)).zip kvs)) P)
    (he : eval (.Call fn [e] kws pos) env = (do callWith pos (← eval fn env) [] (backTo pos (starEach [e] env)) (backToKw pos (keywordEach kws env))) := by rfl)
    (hs : starEach [e] env = (false, eval e env) :: starEach [] env := by rfl) (hall : (backToKw pos (keywordEach kws env)).all (·.1.isSome) = true := by rfl) :
    Tr prog w A h (eval (.Call fn [e] kws pos) env) P := fun s E l => by
  rw [he]
  refine wpAny_bind (hf.use l fun v s1 k1 p1 => ?_)
  rw [show v = .ref a from p1]
  have xs : wpAny (model prog w) A (spliced (backTo pos (starEach [e] env))) (fun vs s₁ => wpAny (model prog w) A (evalAll ((backToKw pos (keywordEach kws env)).map (·.2)))
      (fun kvs s₂ => (s₂.heap.get? a = some o ∧ o.data = .func fd) ∧ wpAny (model prog w) A (call (.ref a) ([] ++ vs) (((backToKw pos (keywordEach kws env)).filterMap (·.1)).zip kvs)) (fun v s' => Keeps s s' ∧ P v s'.heap) E s₂) E s₁) E s1 := by
    refine wpAny_items_cons (x.use (l.trans (Keeps.le k1)) fun v2 s2 k2 p2 => wpAny_items_nil ?_) hs
    have l2 := (l.trans (Keeps.le k1)).trans (Keeps.le k2)
    refine wpAny_mono (y pos s2 E l2) (fun kvs s3 ⟨k3, q⟩ => ?_) fun _ _ e => e
    have l3 := l2.trans (Keeps.le k3)
    refine ⟨⟨l3 _ _ ho, hdata⟩, ?_⟩
    exact (hop v2 kvs s3.heap l3 (m _ _ _ (Keeps.le k3) p2) q).use (Le.refl _) fun v s4 k4 p4 => ⟨Keeps.tr k1 (Keeps.tr k2 (Keeps.tr k3 k4)), p4⟩
  rw [hs] at xs ⊢
  exact callWith_function_kw (evalArgs_kw hall xs)
end
end Mine

end
section
open PySem PySem.Spec PySem.Calls PySem.W PyProof.Rows
set_option Elab.async false
set_option maxRecDepth 100000 in
set_option maxHeartbeats 8000000 in
open_top hd for PySem.Challenge.rw_fr0005_01
namespace Mine
theorem n_parse (p : Params) : nsIn (hd.heap_39 p) mainGlobals "parse_stralgo" = some (some (.ref 26)) := by k_is
theorem n_uni (p : Params) : nsIn (hd.heap_39 p) mainGlobals "parse_stralgo_unified" = some (some (.ref 31)) := by k_is
theorem n_resp (p : Params) : nsIn (hd.heap_39 p) mainGlobals "parse_stralgo_resp3_unified" = some (some (.ref 36)) := by k_is
theorem n_sib (p : Params) : nsIn (hd.heap_39 p) mainGlobals "str_if_bytes" = some (some (.ref 21)) := by k_is
theorem n_max (p : Params) : nsIn (hd.heap_39 p) mainGlobals "max" = some none := by k_is
theorem n_len (p : Params) : nsIn (hd.heap_39 p) mainGlobals "len" = some none := by k_is
theorem n_range (p : Params) : nsIn (hd.heap_39 p) mainGlobals "range" = some none := by k_is
theorem n_zip (p : Params) : nsIn (hd.heap_39 p) mainGlobals "zip" = some none := by k_is
theorem n_map (p : Params) : nsIn (hd.heap_39 p) mainGlobals "map" = some none := by k_is
theorem n_list (p : Params) : nsIn (hd.heap_39 p) mainGlobals "list" = some none := by k_is
theorem n_tuple (p : Params) : nsIn (hd.heap_39 p) mainGlobals "tuple" = some none := by k_is
theorem n_int (p : Params) : nsIn (hd.heap_39 p) mainGlobals "int" = some none := by k_is
theorem n_isi (p : Params) : nsIn (hd.heap_39 p) mainGlobals "isinstance" = some none := by k_is
theorem n_bytes (p : Params) : nsIn (hd.heap_39 p) mainGlobals "bytes" = some none := by k_is
theorem n_dict (p : Params) : nsIn (hd.heap_39 p) mainGlobals "dict" = some none := by k_is
noncomputable def ob (p : Params) (a : Addr) : Obj := ((hd.heap_39 p).lookup a).getD {cls := .none, data := .dict #[]}
def fdo (o : Obj) : FuncData := match o.data with | .func fd => fd | _ => default
noncomputable def fdat (p : Params) (a : Addr) : FuncData := fdo (ob p a)
def bdy (fd : FuncData) : List Stmt := match fd.body with | .stmts b => b | _ => []
theorem l_21 (p : Params) : (hd.heap_39 p).lookup 21 = some (ob p 21) := rfl
theorem l_26 (p : Params) : (hd.heap_39 p).lookup 26 = some (ob p 26) := rfl
theorem l_31 (p : Params) : (hd.heap_39 p).lookup 31 = some (ob p 31) := rfl
theorem l_36 (p : Params) : (hd.heap_39 p).lookup 36 = some (ob p 36) := rfl
theorem d_21 (p : Params) : (ob p 21).data = .func (fdat p 21) := rfl
theorem d_26 (p : Params) : (ob p 26).data = .func (fdat p 26) := rfl
theorem d_31 (p : Params) : (ob p 31).data = .func (fdat p 31) := rfl
theorem d_36 (p : Params) : (ob p 36).data = .func (fdat p 36) := rfl
theorem c_21 (p : Params) : codeIn (hd.heap_39 p) (fdat p 21).code (fdat p 21).qualname = true := by kernel_rfl
theorem c_26 (p : Params) : codeIn (hd.heap_39 p) (fdat p 26).code (fdat p 26).qualname = true := by kernel_rfl
theorem c_31 (p : Params) : codeIn (hd.heap_39 p) (fdat p 31).code (fdat p 31).qualname = true := by kernel_rfl
theorem c_36 (p : Params) : codeIn (hd.heap_39 p) (fdat p 36).code (fdat p 36).qualname = true := by kernel_rfl
theorem b_26 (p : Params) (v x y : Value) : bindArgs (fdat p 26) ⟨[v], [(Str.ofString "idx", x), (Str.ofString "withmatchlen", y)]⟩ = (alloc { cls := .type "dict", data := .dict #[] } >>= fun D => forIn [(Str.ofString "idx", x), (Str.ofString "withmatchlen", y)] PUnit.unit (fun x _ => (nsSet D x.1 x.2 >>= fun _ => pure (ForInStep.yield PUnit.unit))) >>= fun _ => pure [(Str.ofString "response", v), (Str.ofString "options", .ref D)]) := by kernel_rfl
theorem b_26o (p : Params) (v : Value) : bindArgs (fdat p 26) ⟨[v], []⟩ = (alloc { cls := .type "dict", data := .dict #[] } >>= fun D => pure [(Str.ofString "response", v), (Str.ofString "options", .ref D)]) := by kernel_rfl
theorem b_31 (p : Params) (v x y : Value) : bindArgs (fdat p 31) ⟨[v], [(Str.ofString "idx", x), (Str.ofString "withmatchlen", y)]⟩ = (alloc { cls := .type "dict", data := .dict #[] } >>= fun D => forIn [(Str.ofString "idx", x), (Str.ofString "withmatchlen", y)] PUnit.unit (fun x _ => (nsSet D x.1 x.2 >>= fun _ => pure (ForInStep.yield PUnit.unit))) >>= fun _ => pure [(Str.ofString "response", v), (Str.ofString "options", .ref D)]) := by kernel_rfl
theorem b_31o (p : Params) (v : Value) : bindArgs (fdat p 31) ⟨[v], []⟩ = (alloc { cls := .type "dict", data := .dict #[] } >>= fun D => pure [(Str.ofString "response", v), (Str.ofString "options", .ref D)]) := by kernel_rfl
theorem b_36 (p : Params) (v x y : Value) : bindArgs (fdat p 36) ⟨[v], [(Str.ofString "idx", x), (Str.ofString "withmatchlen", y)]⟩ = (alloc { cls := .type "dict", data := .dict #[] } >>= fun D => forIn [(Str.ofString "idx", x), (Str.ofString "withmatchlen", y)] PUnit.unit (fun x _ => (nsSet D x.1 x.2 >>= fun _ => pure (ForInStep.yield PUnit.unit))) >>= fun _ => pure [(Str.ofString "response", v), (Str.ofString "options", .ref D)]) := by kernel_rfl
theorem b_36o (p : Params) (v : Value) : bindArgs (fdat p 36) ⟨[v], []⟩ = (alloc { cls := .type "dict", data := .dict #[] } >>= fun D => pure [(Str.ofString "response", v), (Str.ofString "options", .ref D)]) := by kernel_rfl
theorem b_21 (p : Params) (v : Value) : bindArgs (fdat p 21) ⟨[v], []⟩ = pure [(Str.ofString "value", v)] := by kernel_rfl
end Mine

end
section
open PySem PySem.Spec PySem.Calls PySem.W PyProof.Rows
set_option Elab.async false
set_option linter.unusedVariables false
set_option linter.unusedSimpArgs false
namespace Mine
/-- what stands in the heap of the program, all the law through -/
structure Stc (mg mb : Str → Option Value) (p : Params) (h : Heap) : Prop where
  K : (hd.heap_39 p).In h
  G : Gl mg mb h
  lim : h.NoLimit
theorem Stc.le {mg mb p h h'} (x : Stc mg mb p h) (k : Le h h') : Stc mg mb p h' := ⟨x.K.keeps k, x.G.le k, x.lim.keeps k⟩
theorem nocell {l : List (Str × NameKind)} (h : l.all (fun x => x.2 != .cell) = true) : ∀ x ∈ l, x.2 ≠ .cell := fun x hx e => by
  have := List.all_eq_true.mp h x hx
  rw [e] at this; simp at this
theorem localOnce {l : List (Str × NameKind)} (h : l.all (fun x => x.2 != .local || l.lookup x.1 == some .local) = true) : ∀ x ∈ l, x.2 = .local → l.lookup x.1 = some .local := fun x hx e => by
  have := List.all_eq_true.mp h x hx
  rw [e] at this; simpa using this
theorem bi_isi : bootBuiltins "isinstance" = some (.builtin "isinstance") := by kernel_rfl
theorem bi_len : bootBuiltins "len" = some (.builtin "len") := by kernel_rfl
theorem bi_max : bootBuiltins "max" = some (.builtin "max") := by kernel_rfl
theorem bi_range : bootBuiltins "range" = some (.type "range") := by kernel_rfl
theorem bi_zip : bootBuiltins "zip" = some (.type "zip") := by kernel_rfl
theorem bi_map : bootBuiltins "map" = some (.type "map") := by kernel_rfl
theorem bi_list : bootBuiltins "list" = some (.type "list") := by kernel_rfl
theorem bi_tuple : bootBuiltins "tuple" = some (.type "tuple") := by kernel_rfl
theorem bi_int : bootBuiltins "int" = some (.type "int") := by kernel_rfl
theorem bi_bytes : bootBuiltins "bytes" = some (.type "bytes") := by kernel_rfl
theorem bi_dict : bootBuiltins "dict" = some (.type "dict") := by kernel_rfl
theorem Stc.built {prog : Program} {w : World} {A : Around} {env : Env} {mg mb h} {x : Str} {v : Value} {pos : Pos} (S : Stc mg mb w.params h) (ok : EnvOk env) (hn : nsIn (hd.heap_39 w.params) mainGlobals x = some none) (hb : bootBuiltins x = some v)
    (h1 : x ≠ "__name__" := by decide) (hx : env.kindOf x = some .globalImplicit := by rfl) (hd : (x == ("__debug__" : Str)) = false := by decide) : Tr prog w A h (eval (.Name x pos) env) (isVal v) :=
  ev_built ok S.G (mg_none_of S.K S.G.g hn) hb h1 hx hd
theorem Stc.glob {prog : Program} {w : World} {A : Around} {env : Env} {mg mb h} {x : Str} {v : Value} {pos : Pos} (S : Stc mg mb w.params h) (ok : EnvOk env) (hn : nsIn (hd.heap_39 w.params) mainGlobals x = some (some v))
    (hx : env.kindOf x = some .globalImplicit := by rfl) (hd : (x == ("__debug__" : Str)) = false := by decide) : Tr prog w A h (eval (.Name x pos) env) (isVal v) :=
  ev_glob ok S.G (mg_of S.K S.G.g hn) hx hd
/-- room for n calls more -/
structure AOk (n : Nat) (A : Around) : Prop where
  hh : A.handled = none
  hu : A.units + 100 + 5 * n < cLine
  hd : A.depth + n < recursionLimit
theorem AOk.deeper {n A} (x : AOk (n + 1) A) (env : Env) : AOk n (A.deeper env) := ⟨x.hh, by have := x.hu; show A.units + 3 + 100 + 5 * n < cLine; omega, by have := x.hd; show A.depth + 1 + n < recursionLimit; omega⟩
theorem AOk.u {n A} (x : AOk n A) : A.units + 100 < cLine := by have := x.hu; omega
theorem AOk.room {n A} (x : AOk n A) : A.depth < recursionLimit := by have := x.hd; omega
section
variable {prog : Program} {w : World} {A : Around} {env : Env} {h : Heap} {bad : List Addr} {fs : List (Str × HP)} {s₀ s : Shared} {X : Heap → Prop} {E : Value → Shared → Prop} {mg mb : Str → Option Value}
theorem ex_ret {st : Stmt} {rest : List Stmt} {R : Value → Shared → Prop} (x : wpAny (model prog w) A (exec st env) (fun f s' => ∃ v, f = .ret v ∧ R v s') E s) : wpAny (model prog w) A (execs (st :: rest) env) (fun f s' => ∃ v, f = .ret v ∧ R v s') E s :=
  wpAny_execs_cons (wpAny_mono x (fun f s' ⟨v, e, r⟩ => by subst e; exact ⟨v, rfl, r⟩) fun _ _ e => e)
theorem sub_ls {value slice : Expr} {Ps : List HP} {P : HP} {i : Nat} {v1 v2 : Value} {g : Heap} (hP : Ps[i]? = some P) (m : Mo P) (hi : i < 2 ^ 63) (p1 : isLs bad Ps v1 g) (p2 : isInt i v2 g)
    (hs : ∀ l t, subscripted slice false (.ref l) (.int i t) = operate [.ref l, .int i t] (getItem (.ref l) (.int i t)) := by intro _ _; rfl) : Tr prog w A g (subscriptTail value slice v1 v2) P := fun s E le => by
  obtain ⟨l, vs, rfl, hb, hl, hr⟩ := p1
  obtain ⟨t, rfl⟩ := p2
  have : ∀ (vs : List Value) (Ps : List HP), Hs g vs Ps → ∀ i : Nat, Ps[i]? = some P → ∃ v, vs[i]? = some v ∧ P v g := by
    intro vs Ps x
    induction x with
    | nil => intro i e; simp at e
    | cons p q ih =>
      intro i e
      cases i with
      | zero => simp at e; subst e; exact ⟨_, rfl, p⟩
      | succ i => simp at e; simpa using ih i e
  obtain ⟨v, hv, pv⟩ := this _ _ hr i hP
  have hl' := le.list hl
  refine tail_any hl'.typeIs slot_list_getitem.lookup (wpAny_getItem_list hl' (by omega) (by omega) (x := v) (by simpa using hv) ⟨Keeps.refl s, m _ _ _ le pv⟩) (hs l t)

def opts (prog : Program) (w : World) (b : Bool) : List Addr → HP := isDict prog w [(.inl "idx", fun _ => isBool true), (.inl "withmatchlen", fun _ => isBool b)]
def opt0s (prog : Program) (w : World) : List Addr → HP := isDict prog w []
theorem bp_opts {b} : Bp (opts prog w b) := bp_dict fun p hp => by
  simp only [List.mem_cons, List.not_mem_nil, or_false] at hp
  rcases hp with rfl | rfl <;> exact Bp.of_pure (pu_bool _)
theorem bp_opt0s : Bp (opt0s prog w) := bp_dict fun p hp => by cases hp
theorem lk2 {a b x : Str} {P R Q : HP} (e : List.lookup x [(a, P), (b, R)] = some Q) : (x = a ∧ Q = P) ∨ (x ≠ a ∧ x = b ∧ Q = R) := by
  by_cases h1 : x = a
  · subst h1; rw [lookup_cons_self] at e; cases e; exact .inl ⟨rfl, rfl⟩
  · rw [lookup_cons_ne h1] at e
    by_cases h2 : x = b
    · subst h2; rw [lookup_cons_self] at e; cases e; exact .inr ⟨h1, rfl, rfl⟩
    · rw [lookup_cons_ne h2] at e; cases e
theorem bind_opts {fd : FuncData} {b : Bool} {v : Value} {R : List Addr → HP} (al : Al bad h) (hm : cStatics ∈ bad) (hR : Bp R) (pv : R bad v h)
    (e : bindArgs fd ⟨[v], [(Str.ofString "idx", .bool true), (Str.ofString "withmatchlen", .bool b)]⟩ = (alloc { cls := .type "dict", data := .dict #[] } >>= fun D => forIn [(Str.ofString "idx", Value.bool true), (Str.ofString "withmatchlen", Value.bool b)] PUnit.unit (fun x _ => (nsSet D x.1 x.2 >>= fun _ => pure (ForInStep.yield PUnit.unit))) >>= fun _ => pure [(Str.ofString "response", v), (Str.ofString "options", .ref D)]))
    (l1 : fd.scope.names.lookup ("response" : Str) = some .local) (l2 : fd.scope.names.lookup ("options" : Str) = some .local) :
    ∀ (s : Shared) (E : Value → Shared → Prop), Le h s.heap → wpAny (model prog w) A.in1 (bindArgs fd ⟨[v], [(Str.ofString "idx", .bool true), (Str.ofString "withmatchlen", .bool b)]⟩)
      (fun binds s1 => Keeps s s1 ∧ (∀ x ∈ binds, fd.scope.names.lookup x.1 = some .local) ∧ ∀ x Q, ([("options", opts prog w b bad), ("response", R bad)] : List (Str × HP)).lookup x = some Q → ∃ v, binds.reverse.lookup x = some v ∧ Q v s1.heap) E s := fun s E le => by
  rw [e]
  refine wpAny_bind (wpAny_alloc ?_)
  have dead := get_size_none s.heap
  have D0 : (s.heap.push { cls := .type "dict", data := .dict #[] }).get? s.heap.objs.size = some (dictOf [] 0) := Heap.get?_push_size _ rfl
  rw [List.forIn_cons]
  refine wpAny_bind (wpAny_bind (wpAny_bind (my_nsSet (s := { s with heap := s.heap.push { cls := .type "dict", data := .dict #[] } }) (es := []) (n := 0) D0 (fun _ h => nomatch h) (fun _ h => nomatch h) fun h1 D1 b1 => wpAny_pure ?_)))
  show wpAny _ _ (forIn [(Str.ofString "withmatchlen", Value.bool b)] PUnit.unit _) _ _ _
  rw [List.forIn_cons]
  refine wpAny_bind (wpAny_bind (my_nsSet (s := { s with heap := h1, toks := s.toks + 1 }) D1 (fun e he => ?_) (fun e he => ?_) fun h2 D2 b2 => wpAny_pure ?_))
  · obtain rfl := List.mem_singleton.mp (by simpa using he)
    show (Str.ofString "idx" == Str.ofString "withmatchlen") = false
    decide
  · obtain rfl := List.mem_singleton.mp (by simpa using he)
    rfl
  · show wpAny _ _ (forIn [] PUnit.unit _) _ _ _
    rw [List.forIn_nil]
    have le2 : Le s.heap h2 := fun c o q => by
      have hne : c ≠ s.heap.objs.size := by rintro rfl; rw [dead] at q; cases q
      exact (b2.2 c hne).trans ((b1.2 c hne).trans (Heap.get?_push_of_some _ q))
    refine wpAny_pure (wpAny_pure ⟨⟨h2, _, rfl, le2⟩, fun x hx => ?_, fun x Q hq => ?_⟩)
    · simp only [List.mem_cons, List.not_mem_nil, or_false] at hx
      rcases hx with rfl | rfl
      · exact l1
      · exact l2
    · rcases lk2 hq with ⟨rfl, rfl⟩ | ⟨h1, rfl, rfl⟩
      · refine ⟨.ref s.heap.objs.size, rfl, s.heap.objs.size, _, rfl, (al.le le).fresh, sys_ne (al.le le) hm, opt2 (show Str.ofString "idx" ≠ Str.ofString "withmatchlen" by decide) D2, .cons rfl (.cons rfl .nil)⟩
      · exact ⟨v, rfl, (hR.st bad).mo _ _ _ (le.trans le2) pv⟩
theorem bind_opt0 {fd : FuncData} {v : Value} {R : List Addr → HP} (al : Al bad h) (hm : cStatics ∈ bad) (hR : Bp R) (pv : R bad v h)
    (e : bindArgs fd ⟨[v], []⟩ = (alloc { cls := .type "dict", data := .dict #[] } >>= fun D => pure [(Str.ofString "response", v), (Str.ofString "options", .ref D)]))
    (l1 : fd.scope.names.lookup ("response" : Str) = some .local) (l2 : fd.scope.names.lookup ("options" : Str) = some .local) :
    ∀ (s : Shared) (E : Value → Shared → Prop), Le h s.heap → wpAny (model prog w) A.in1 (bindArgs fd ⟨[v], []⟩)
      (fun binds s1 => Keeps s s1 ∧ (∀ x ∈ binds, fd.scope.names.lookup x.1 = some .local) ∧ ∀ x Q, ([("options", opt0s prog w bad), ("response", R bad)] : List (Str × HP)).lookup x = some Q → ∃ v, binds.reverse.lookup x = some v ∧ Q v s1.heap) E s := fun s E le => by
  rw [e]
  refine wpAny_bind (wpAny_alloc ?_)
  have dead := get_size_none s.heap
  have D0 : (s.heap.push { cls := .type "dict", data := .dict #[] }).get? s.heap.objs.size = some (dictOf [] 0) := Heap.get?_push_size _ rfl
  refine wpAny_pure ⟨Keeps.push s _, fun x hx => ?_, fun x Q hq => ?_⟩
  · simp only [List.mem_cons, List.not_mem_nil, or_false] at hx
    rcases hx with rfl | rfl
    · exact l1
    · exact l2
  · rcases lk2 hq with ⟨rfl, rfl⟩ | ⟨h1, rfl, rfl⟩
    · exact ⟨.ref s.heap.objs.size, rfl, s.heap.objs.size, [], rfl, (al.le le).fresh, sys_ne (al.le le) hm, opt0 D0, .nil⟩
    · exact ⟨v, rfl, (hR.st bad).mo _ _ _ (le.trans (Le.push _ _)) pv⟩

/-- a key as text -/
def ktxt : KK → Str
  | .inl x => x
  | .inr b => ⟨(b.map (·.toNat)).toArray⟩
def kasc : KK → Prop
  | .inl _ => True
  | .inr b => (∀ c ∈ b, c < 128) ∧ b.length ≤ 1000000
/-- str_if_bytes -/
theorem sib {n : Nat} {v : Value} {k : KK} (a : AOk (n + 1) A) (S : Stc mg mb w.params h) (al : Al bad h) (hk : kasc k) (pv : isKey k v h) : Tr prog w A h (call (.ref 21) [v] []) (isStr (ktxt k)) := by
  refine call_fun (fs := fun _ => [("value", isKey k)]) (args := ⟨[v], []⟩) a.room (S.K _ _ (l_21 _)) (d_21 _) S.lim (codeRec_of S.K (c_21 _)) (body := bdy (fdat w.params 21)) rfl al (BpF.nil.cons (Bp.of_pure (pu_key k))) (fun s E le => ?_) (fun x hx => ?_) rfl rfl rfl (fun x Q hx => ?_) fun L s1 s2 E hL le F I => ?_
  · rw [b_21]
    refine wpAny_pure ⟨Keeps.refl s, fun x hx => ?_, fun x Q hq => ?_⟩
    · rw [List.mem_singleton.mp hx]; rfl
    · by_cases e : x = "value"
      · subst e; rw [lookup_cons_self] at hq; cases hq
        exact ⟨v, rfl, (pu_key k) _ _ _ pv⟩
      · rw [lookup_cons_ne e] at hq; cases hq
  · exact nocell (show _ = true by kernel_rfl) x hx
  · by_cases e : x = "value"
    · subst e; rfl
    · rw [lookup_cons_ne e] at hx; cases hx
  · have S2 := S.le (le.trans I.base)
    have ok := F.ok
    refine ex_ret (st_return (P := isStr (ktxt k)) ?_ fun v s' kk p => ⟨v, rfl, (I.keeps F kk).same.elim fun h' ⟨tk, e⟩ => ⟨h', tk, e, by rw [show h' = s'.heap by rw [e]]; exact (I.keeps F kk).base⟩, p⟩)
    have em : ∀ (pos : Pos), Tr prog w (A.deeper (callEnv (fdat w.params 21) L 21)) s2.heap (eval (.Name "value" pos) (callEnv (fdat w.params 21) L 21)) (isKey k) := fun pos => ev_name ok I.ctx (by rfl) (pu_key k).mo
    refine ev_if (b := match k with | .inl _ => false | .inr _ => true) (ts_value (P := isBool (match k with | .inl _ => false | .inr _ => true)) ?_ (fun v g _ p => by rw [show v = .bool _ from p]; exact truthy_bool _)) (fun hb => ?_) (fun hb => ?_)
    · refine ev_callB (Ps := [isKey k, isVal (.type "bytes")]) (S2.built ok (n_isi _) bi_isi) (es_cons (pu_key k).mo (em _) (es_cons (pu_val _).mo (S2.built ok (n_bytes _) bi_bytes) es_nil)) fun vs g lg q => ?_
      cases k with
      | inl x => exact isi_str q
      | inr x => exact isi_bytes q
    · cases k with
      | inl x => cases hb
      | inr x =>
        show Tr _ _ _ _ _ (isStr ⟨(x.map (·.toNat)).toArray⟩)
        exact ev_decode (bs := x) hk.1 hk.2 (em _) (ev_str _ _ _) (ev_str _ _ _)
    · cases k with
      | inl x => exact em _
      | inr x => cases hb
end
end Mine

end
section
open PySem PySem.Spec PySem.Calls PySem.W PyProof.Rows
set_option Elab.async false
set_option linter.unusedVariables false
set_option linter.unusedSimpArgs false
namespace Mine
/-- a piece: its places in either text, its length -/
structure Pc where
  a0 : Int
  a1 : Int
  b0 : Int
  b1 : Int
  k : Int
def Pc.c1 (p : Pc) : List PyData := [.int p.a0, .int p.a1]
def Pc.c2 (p : Pc) : List PyData := [.int p.b0, .int p.b1]
def tl (long : Bool) (k : Int) : List PyData := if long then [.int k] else []
def Pc.sent (long : Bool) (p : Pc) : PyData := .list (([p.c1, p.c2].map .list) ++ tl long p.k)
def Pc.due (long : Bool) (p : Pc) : PyData := .list (tl long p.k ++ [p.c1, p.c2].map .list)
def Pc.eld (long : Bool) (p : Pc) : PyData := .list (tl long p.k ++ [p.c1, p.c2].map .tuple)
section
variable {prog : Program} {w : World} {A : Around} {env : Env} {h : Heap} {bad : List Addr} {fs : List (Str × HP)} {s₀ s : Shared} {X : Heap → Prop} {E : Value → Shared → Prop} {mg mb : Str → Option Value}
theorem cap_none {fs : List (Str × HP)} : Cap env [] (fun _ => []) bad fs where
  sub := fun y c h => by cases h
  nd1 := List.nodup_nil
  nd2 := List.nodup_nil
  names := fun B p h => by cases h
  has := fun p h => by cases h
  grow := fun B h k y P' e => by cases e
  st := fun B y P e => by cases e
theorem st_rows {elt iter : Expr} {x y : Str} {px py : Pos} {scope : Scope} {pos spos : Pos} {α : Type} {pcs : List α} {f g : α → PyData} {Q : Flow → Shared → Prop} (hh : A.handled = none) (F : FrOk bad s₀ env X) (I : Inv bad s₀ env fs X s)
    (hclos : closureFor scope env = pure []) (xi : Tr prog w A s.heap (eval iter env) (isRd bad (.list (pcs.map f)))) (hn : pcs.length ≤ 1000000)
    (hcell : scope.names.all (fun x => x.2 != .cell) = true) (hkind : scope.kind = .function) (hnames : scope.names.all (fun x => x.2 != .local || scope.names.lookup x.1 == some .local) = true) (hx : scope.names.lookup x = some .local)
    (helt : ∀ p ∈ pcs, ∀ G B C, EnvOk (compEnvC scope [] C env) → Ctx (compEnvC scope [] C env) [] G → Le s.heap G → Al B G → (∀ b ∈ bad, b ∈ B) → (∀ pos', Tr prog w A G (eval (.Name x pos') (compEnvC scope [] C env)) (isRd B (f p))) → Tr prog w A G (eval elt (compEnvC scope [] C env)) (isRd B (g p)))
    (k : ∀ s', Inv bad s₀ env ((y, isRd bad (.list (pcs.map g))) :: fs) X s' → Q .next s')
    (hy : env.kindOf y = some .local)
    (hsw : swapsWith (.ListComp elt [⟨.Name x px, iter, [], 0⟩] scope pos) (some (.Name y py)) spos.line env = pure true)
    (hxc : (x == ("__classdict__" : Str)) = false) (hxd : (x == ("__debug__" : Str)) = false)
    (hs : ∀ x, foldedSetIterable iter env x = pure x := by intro _; rfl) :
    wpAny (model prog w) A (exec (.Assign [.Name y py] (.ListComp elt [⟨.Name x px, iter, [], 0⟩] scope pos) spos) env) Q E s := by
  refine st_comp F I hclos cap_none (src_rd hh I.al xi) (by simpa using hn) (ds := pcs.map g) (by simp) (fun i => bp_itm _ i) (nocell hcell) hkind (localOnce hnames) hx (fun _ h => nomatch h) (fun i G C B hi ok le al hb c => ?_) k hy hsw hs
  have hi' : i < pcs.length := by simpa using hi
  refine (helt pcs[i] (List.getElem_mem hi') G B C ok (c.weak fun p hp => by cases hp) le al hb fun pos' => ?_).weak fun v g' _ p => ⟨_, by simp [hi'], p⟩
  exact (ev_name ok c lookup_cons_self (bp_itm (pcs.map f) i |>.st B).mo hxc hxd).weak fun v g' _ ⟨d, e, r⟩ => by
    simp [hi'] at e
    rw [e]; exact r
theorem ev_rows {elt iter : Expr} {x : Str} {px : Pos} {scope : Scope} {pos : Pos} {α : Type} {pcs : List α} {f g : α → PyData} (hh : A.handled = none) (ok : EnvOk env) (c : Ctx env fs h) (mo : Mofs fs) (al : Al bad h)
    (hclos : closureFor scope env = pure []) (xi : Tr prog w A h (eval iter env) (isRd bad (.list (pcs.map f)))) (hn : pcs.length ≤ 1000000)
    (hcell : scope.names.all (fun x => x.2 != .cell) = true) (hkind : scope.kind = .function) (hnames : scope.names.all (fun x => x.2 != .local || scope.names.lookup x.1 == some .local) = true) (hx : scope.names.lookup x = some .local)
    (helt : ∀ p ∈ pcs, ∀ G B C, EnvOk (compEnvC scope [] C env) → Ctx (compEnvC scope [] C env) [] G → Le h G → Al B G → (∀ b ∈ bad, b ∈ B) → (∀ pos', Tr prog w A G (eval (.Name x pos') (compEnvC scope [] C env)) (isRd B (f p))) → Tr prog w A G (eval elt (compEnvC scope [] C env)) (isRd B (g p)))
    (hxc : (x == ("__classdict__" : Str)) = false) (hxd : (x == ("__debug__" : Str)) = false)
    (hs : ∀ x, foldedSetIterable iter env x = pure x := by intro _; rfl) :
    Tr prog w A h (eval (.ListComp elt [⟨.Name x px, iter, [], 0⟩] scope pos) env) (isRd bad (.list (pcs.map g))) := by
  refine ev_comp ok c al mo hclos cap_none (src_rd hh al xi) (by simpa using hn) (by simp) (fun i => bp_itm _ i) (nocell hcell) hkind (localOnce hnames) hx (fun _ h => nomatch h) (fun i G C B hi ok le al hb c => ?_) hs
  have hi' : i < pcs.length := by simpa using hi
  refine (helt pcs[i] (List.getElem_mem hi') G B C ok (c.weak fun p hp => by cases hp) le al hb fun pos' => ?_).weak fun v g' _ p => ⟨_, by simp [hi'], p⟩
  exact (ev_name ok c lookup_cons_self (bp_itm (pcs.map f) i |>.st B).mo hxc hxd).weak fun v g' _ ⟨d, e, r⟩ => by
    simp [hi'] at e
    rw [e]; exact r
/-- the answer that was sent: the names, the pieces, the length -/
def flatP (k0 k2 : KK) (d : PyData) (n : Int) : List Addr → HP := fun B => isLs B [isKey k0, isRd B d, isKey k2, isInt n]
theorem bp_flat {k0 k2 d n} : Bp (flatP k0 k2 d n) := by
  refine ⟨fun B v h h' k ⟨l, vs, e, nb, a, b⟩ => ⟨l, vs, e, nb, k.list nb a, b.but k fun P hP => ?_⟩, fun B B' v h k ⟨l, vs, e, nb, a, b⟩ => ⟨l, vs, e, fun q => ?_, a, ?_⟩⟩
  · simp only [List.mem_cons, List.not_mem_nil, or_false] at hP
    rcases hP with rfl | rfl | rfl | rfl
    · exact (pu_key _).st
    · exact st_rd _ _
    · exact (pu_key _).st
    · exact (pu_int _).st
  · rcases k l q with q | q
    · exact nb q
    · obtain ⟨o, ho, _⟩ := a
      rw [ho] at q; cases q
  · generalize vs.toList = ws at b
    cases b with
    | cons p1 b =>
      cases b with
      | cons p2 b => exact .cons p1 (.cons (p2.bads k) b)
end
end Mine

end
section
open PySem PySem.Spec PySem.Calls PySem.W PyProof.Rows
set_option Elab.async false
set_option linter.unusedVariables false
set_option linter.unusedSimpArgs false
namespace Mine
section
variable {prog : Program} {w : World} {A : Around} {env : Env} {h : Heap} {bad : List Addr} {fs : List (Str × HP)} {s₀ s : Shared} {X : Heap → Prop} {E : Value → Shared → Prop} {mg mb : Str → Option Value}
/-- options.get(key, False) as a test, where it is told -/
theorem ts_opt {kps : KPs} {o e1 e2 : Expr} {apos pos : Pos} {x : Str} {b : Bool} (xo : Tr prog w A h (eval o env) (isDict prog w kps bad)) (x1 : Tr prog w A h (eval e1 env) (isStr x)) (x2 : Tr prog w A h (eval e2 env) (isBool false))
    (hl : (kps.find? fun p => p.1 = (Sum.inl x : KK)).map (fun p => p.2 bad) = some (isBool b) ∨ ((kps.find? fun p => p.1 = (Sum.inl x : KK)) = none ∧ b = false)) (mk : KPs.Ok kps) {pl : Sem Bool}
    (hm : eval (.Call (.Attribute o "get" apos) [e1, e2] [] pos) env = (do
      let ov ← eval o env
      standAt apos.atName
      let (f, first) ← holding [ov] (getMethod ov "get" pl)
      callWith pos f first (backTo pos (starEach [e1, e2] env)) []) := by rfl)
    (ht : isTrue (.Call (.Attribute o "get" apos) [e1, e2] [] pos) env (eval (.Call (.Attribute o "get" apos) [e1, e2] [] pos) env) = (do let v ← eval (.Call (.Attribute o "get" apos) [e1, e2] [] pos) env; standAt (Expr.pos (.Call (.Attribute o "get" apos) [e1, e2] [] pos)); holding [v] (truthy v)) := by rfl)
    (he : starEach [e1, e2] env = (false, eval e1 env) :: starEach [e2] env := by rfl) (he2 : starEach [e2] env = (false, eval e2 env) :: starEach [] env := by rfl) :
    Ts prog w A h (isTrue (.Call (.Attribute o "get" apos) [e1, e2] [] pos) env (eval (.Call (.Attribute o "get" apos) [e1, e2] [] pos) env)) b := by
  refine ts_value (P := isBool b) (fun s E l => ?_) (fun v g _ p => by rw [show v = .bool _ from p]; exact truthy_bool _) ht
  refine MethodCall_ (pl := pl) (xo.use l fun v s1 k1 p1 => ?_) hm
  obtain ⟨d, kvs, rfl, n, lo, hd, q⟩ := id p1
  refine getMethod_builtin hd.typeIs PySem.F.plainAttrs_dict PySem.F.slot_dict_get PySem.F.type_dict_get hd.mapOf.noDict ?_
  refine callWith_method1 (wpAny_items_cons (x1.use (l.trans (Keeps.le k1)) fun v1 s2 k2 p2 => wpAny_items_cons (x2.use ((l.trans (Keeps.le k1)).trans (Keeps.le k2)) fun v2 s3 k3 p3 => wpAny_items_nil ?_) he2) he) he (by rw [he2]; rfl)
  have l3 := (Keeps.le k2).trans (Keeps.le k3)
  have p1' := ((bp_dict mk).st bad).mo _ _ _ l3 p1
  rcases hl with hl | ⟨hl, rfl⟩
  · exact (dict_get (key := .inl x) p1' (show isKey (.inl x) v1 s3.heap from p2) hl (pu_bool b).mo).use (Le.refl _) fun v s4 k4 p4 => ⟨Keeps.tr k1 (Keeps.tr k2 (Keeps.tr k3 k4)), p4⟩
  · exact (dict_get_miss (key := .inl x) p1' (show isKey (.inl x) v1 s3.heap from p2) hl (P := isBool false) (show v2 = .bool false from p3) (pu_bool false).mo).use (Le.refl _) fun v s4 k4 p4 => ⟨Keeps.tr k1 (Keeps.tr k2 (Keeps.tr k3 k4)), p4⟩
theorem Inv.ret {B : List Addr} {s' : Shared} (F : FrOk B s₀ env X) (I : Inv B s₀ env fs X s) (k : Keeps s s') : Keeps s₀ s' := by
  obtain ⟨h', tk, e⟩ := (I.keeps F k).same
  have := (I.keeps F k).base
  subst e
  exact ⟨h', tk, rfl, this⟩

theorem Inv.ctxAt {fs : List Addr → List (Str × HP)} {B : List Addr} {g : Heap} (hf : BpF fs) (I : Inv bad s₀ env (fs bad) X s) (hB : ∀ b ∈ B, b ∈ bad ∨ s.heap.get? b = none) (le : Le s.heap g) : Ctx env (fs B) g := by
  obtain ⟨m, cs, a, b, c⟩ := I.ctx.ex
  refine ⟨m, cs, a.keeps le, fun x d hm => (b x d hm).keeps le, fun x P' hl => ?_⟩
  obtain ⟨P, hP, kk⟩ := hf.grow bad B s.heap hB x P' hl
  obtain ⟨v, e, p⟩ := c x P hP
  exact ⟨v, e, (hf.st B x P' hl).mo _ _ _ le (kk v p)⟩
theorem al_nil {g : Heap} : Al [] g := fun b hb => nomatch hb
theorem ls_int {B : List Addr} {k : Int} {v g} (p : isLs B [isInt k] v g) : isRd B (.list [.int k]) v g := by
  obtain ⟨l, vs, rfl, nb, a, b⟩ := p
  refine .list nb a ?_
  cases vs
  rename_i ws
  cases b with
  | cons p q =>
    cases q
    exact .cons (rd_int p) .nil
theorem ex_mid {st : Stmt} {rest : List Stmt} {R : Shared → Prop} {Q : Flow → Shared → Prop} (x : wpAny (model prog w) A (exec st env) (Nx R) E s) (k : ∀ s', R s' → wpAny (model prog w) A (execs rest env) Q E s') : wpAny (model prog w) A (execs (st :: rest) env) Q E s :=
  ex_cons (wpAny_mono x (fun f s' ⟨e, r⟩ => ⟨e, k s' r⟩) fun _ _ e => e)
theorem small {n m : Nat} (h : Nat.ble n m = true) : n ≤ m := Nat.le_of_ble_eq_true h
theorem two_nd {a b : KK} {P Q : List Addr → HP} (h : a ≠ b) : (([(a, P), (b, Q)] : KPs).map (·.1)).Nodup := by simp [h]
theorem opts_ok {b : Bool} : KPs.Ok [(.inl "idx", fun _ => isBool true), (.inl "withmatchlen", fun _ => isBool b)] := fun p hp => by
  simp only [List.mem_cons, List.not_mem_nil, or_false] at hp
  rcases hp with rfl | rfl <;> exact Bp.of_pure (pu_bool _)
/-- parse_stralgo of the elder wire -/
theorem parse_flat {n : Nat} {v : Value} {k0 k2 : KK} {pcs : List Pc} {long : Bool} {len : Int} (a : AOk (n + 2) A) (S : Stc mg mb w.params h) (al : Al bad h) (hm : cStatics ∈ bad) (h0 : kasc k0) (h2 : kasc k2) (t0 : ktxt k0 = "matches") (t2 : ktxt k2 = "len") (hn : pcs.length ≤ 1000)
    (pv : flatP k0 k2 (.list (pcs.map (Pc.sent long))) len bad v h) :
    Tr prog w A h (call (.ref 26) [v] [(Str.ofString "idx", .bool true), (Str.ofString "withmatchlen", .bool long)]) (two prog w (.inl "matches") (.inl "len") (.list (pcs.map (Pc.eld long))) (.int len) bad) := by
  refine call_fun (fs := fun B => [("options", opts prog w long B), ("response", flatP k0 k2 (.list (pcs.map (Pc.sent long))) len B)]) (args := ⟨[v], [(Str.ofString "idx", .bool true), (Str.ofString "withmatchlen", .bool long)]⟩) a.room (S.K _ _ (l_26 _)) (d_26 _) S.lim (codeRec_of S.K (c_26 _)) (body := bdy (fdat w.params 26)) rfl al
    (BpF.cons bp_opts (BpF.cons bp_flat BpF.nil)) (bind_opts al hm bp_flat pv (b_26 _ _ _ _) (by kernel_rfl) (by kernel_rfl)) (nocell (show _ = true by kernel_rfl)) rfl rfl rfl (fun x Q hx => ?_) fun L s1 s2 E hL le F I => ?_
  · rcases lk2 hx with ⟨rfl, _⟩ | ⟨_, rfl, _⟩ <;> kernel_rfl
  · have a' := a.deeper (callEnv (fdat w.params 26) L 26)
    generalize hA' : A.deeper (callEnv (fdat w.params 26) L 26) = A' at a' ⊢
    have eo : ∀ {s' : Shared} {fs'} (I' : Inv (L :: bad) s1 (callEnv (fdat w.params 26) L 26) fs' (fun _ => True) s') (hl : fs'.lookup ("options" : Str) = some (opts prog w long (L :: bad))) (pos : Pos), Tr prog w A' s'.heap (eval (.Name "options" pos) (callEnv (fdat w.params 26) L 26)) (opts prog w long (L :: bad)) := fun I' hl pos => ev_name F.ok I'.ctx hl (bp_opts.st _).mo
    refine ex_mid (R := fun s' => Inv (L :: bad) s1 (callEnv (fdat w.params 26) L 26) [("options", opts prog w long (L :: bad)), ("response", flatP k0 k2 (.list (pcs.map (Pc.sent long))) len (L :: bad))] (fun _ => True) s') (ex_if (b := false) (ts_opt (x := "len") (eo I (by rfl) _) (ev_str _ _ _) (ev_bool _ _ _) (.inr ⟨by rfl, rfl⟩) opts_ok) fun s3 k3 => ex_nil (I.keeps F k3)) fun s3 I3 => ?_
    refine ex_ret (ex_if (b := true) (ts_opt (x := "idx") (eo I3 (by rfl) _) (ev_str _ _ _) (ev_bool _ _ _) (.inl (by rfl)) opts_ok) fun s4 k4 => ?_)
    have I4 := I3.keeps F k4
    refine ex_mid (R := fun s' => Inv (L :: bad) s1 (callEnv (fdat w.params 26) L 26) [("matches", isRd (L :: bad) (.list (pcs.map (Pc.eld long)))), ("options", opts prog w long (L :: bad)), ("response", flatP k0 k2 (.list (pcs.map (Pc.sent long))) len (L :: bad))] (fun _ => True) s')
      (ex_if (b := long) (ts_opt (x := "withmatchlen") (eo I4 (by rfl) _) (ev_str _ _ _) (ev_bool _ _ _) (.inl (by rfl)) opts_ok) fun s5 k5 => ?_) fun s6 I6 => ?_
    · have I5 := I4.keeps F k5
      have xi : ∀ p1 p2 q1 q2, Tr prog w A' s5.heap (eval (.Subscript (.Name "response" p1) (.Constant (.int 1) q1 p2) q2) (callEnv (fdat w.params 26) L 26)) (isRd (L :: bad) (.list (pcs.map (Pc.sent long)))) := fun p1 p2 q1 q2 =>
        ev_sub (bp_flat.st _).mo (ev_name F.ok I5.ctx (by rfl) (bp_flat.st _).mo) (ev_int _ _ _) fun v1 v2 g _ a b => sub_ls (i := 1) (by rfl) (mo_rd _) (by decide) a b
      cases long with
      | true =>
        refine ex_mid (st_rows (f := Pc.sent true) (g := Pc.eld true) (pcs := pcs) a'.hh F I5 (by rfl) (xi _ _ _ _) (by omega) (by kernel_rfl) (by rfl) (by kernel_rfl) (by kernel_rfl) (fun p hp G B C ok cG lG alB hB em => ?_) (fun s' I' => ⟨rfl, I'⟩) (by kernel_rfl) (by rfl) (by decide) (by decide)) fun s' I' => ex_nil I'
        have SG : Stc mg mb w.params G := S.le (le.trans (I5.base.trans lG))
        refine (ev_bin (mo_rd _) (P1 := isRd B (.list [.int p.k])) ((ev_list alB (Ps := [isInt p.k]) (mos_cons (pu_int _).mo mos_nil) (es_cons (pu_int _).mo
          (ev_callT (Ps := [isInt p.k]) (SG.built ok (n_int _) bi_int) (es_cons (pu_int _).mo ((ev_sub (mo_rd _) (em _) (ev_neg (ev_int _ _ _)) fun v1 v2 g _ a b => sub_last (d := .int p.k) (by rfl) (small rfl) a b).weak fun v g _ r => int_rd r) es_nil) fun vs g _ q => call_int q) es_nil) (small rfl)).weak fun v g _ r => ls_int r)
          (P2 := isRd B (.list ([p.c1, p.c2].map .tuple)))
          (ev_listmap (dss := [p.c1, p.c2]) a'.hh alB (small rfl) (fun ds hds => ?_) (SG.built ok (n_list _) bi_list) (SG.built ok (n_map _) bi_map) (SG.built ok (n_tuple _) bi_tuple) (sl_butlast (ds := [.list p.c1, .list p.c2, .int p.k]) alB (em _) (small rfl) (ev_neg (ev_int _ _ _))))
          fun v1 v2 g lg a b => op_addl (alB.le lg) a b (small rfl))
        simp only [List.mem_cons, List.not_mem_nil, or_false] at hds
        rcases hds with rfl | rfl <;> exact small rfl
      | false =>
        refine ex_mid (st_rows (f := Pc.sent false) (g := Pc.eld false) (pcs := pcs) a'.hh F I5 (by rfl) (xi _ _ _ _) (by omega) (by kernel_rfl) (by rfl) (by kernel_rfl) (by kernel_rfl) (fun p hp G B C ok cG lG alB hB em => ?_) (fun s' I' => ⟨rfl, I'⟩) (by kernel_rfl) (by rfl) (by decide) (by decide)) fun s' I' => ex_nil I'
        have SG : Stc mg mb w.params G := S.le (le.trans (I5.base.trans lG))
        refine (ev_listmap (dss := [p.c1, p.c2]) a'.hh alB (small rfl) (fun ds hds => ?_) (SG.built ok (n_list _) bi_list) (SG.built ok (n_map _) bi_map) (SG.built ok (n_tuple _) bi_tuple) (em _))
        simp only [List.mem_cons, List.not_mem_nil, or_false] at hds
        rcases hds with rfl | rfl <;> exact small rfl
    · refine ex_ret (st_return (P := two prog w (.inl "matches") (.inl "len") (.list (pcs.map (Pc.eld long))) (.int len) (L :: bad)) ?_ fun v s' kk p => ⟨v, rfl, I6.ret F kk, bp_two.grow _ _ _ _ (fun b hb => .inl (.tail _ hb)) p⟩)
      have hfs : BpF (fun B => [(("matches" : Str), isRd B (.list (pcs.map (Pc.eld long)))), ("options", opts prog w long B), ("response", flatP k0 k2 (.list (pcs.map (Pc.sent long))) len B)]) := BpF.cons (Bp.rd _) (BpF.cons bp_opts (BpF.cons bp_flat BpF.nil))
      refine ev_dict I6.al (.tail _ hm) two_ok (fun g B lg alB hB => ?_) (two_nd (by decide))
      have cg := I6.ctxAt hfs hB lg
      have SG : Stc mg mb w.params g := S.le (le.trans (I6.base.trans lg))
      have re : ∀ {i : Nat} {P : HP} (hP : [isKey k0, isRd B (.list (pcs.map (Pc.sent long))), isKey k2, isInt len][i]? = some P) (mP : Mo P) (hi : i < 2 ^ 63) (p1 p2 p3 : Pos) (kd : Nat), Tr prog w A' g (eval (.Subscript (.Name "response" p1) (.Constant (.int i) kd p2) p3) (callEnv (fdat w.params 26) L 26)) P := fun hP mP hi p1 p2 p3 kd =>
        ev_sub (bp_flat.st _).mo (ev_name F.ok cg (by rfl) (bp_flat.st _).mo) (ev_int _ _ _) fun v1 v2 g _ a b => sub_ls hP mP hi a b
      have sb : ∀ {k : KK} (hk : kasc k) {e : Expr} (pos pf : Pos) (x : Tr prog w A' g (eval e (callEnv (fdat w.params 26) L 26)) (isKey k)) (hs : starEach [e] (callEnv (fdat w.params 26) L 26) = (false, eval e (callEnv (fdat w.params 26) L 26)) :: starEach [] (callEnv (fdat w.params 26) L 26)), Tr prog w A' g (eval (.Call (.Name "str_if_bytes" pf) [e] [] pos) (callEnv (fdat w.params 26) L 26)) (isStr (ktxt k)) := fun hk _ pos pf x hs =>
        ev_callF (SG.K _ _ (l_21 _)) (d_21 _) (pu_key _).mo (SG.glob F.ok (n_sib _)) x ks_nil (fun v kvs g' lg' p q => sib a' (SG.le lg') al_nil hk p) rfl hs
      refine ds_cons (mo_rd _) (?_ : Tr prog w A' g _ (isStr "matches")) (ev_name F.ok cg (by rfl) (mo_rd _)) (ds_cons (mo_rd _) (?_ : Tr prog w A' g _ (isStr "len")) ((ev_callT (Ps := [isInt len]) (SG.built F.ok (n_int _) bi_int) (es_cons (pu_int _).mo (re (i := 3) (by rfl) (pu_int _).mo (by decide) _ _ _ _) es_nil) fun vs g _ q => call_int q).weak fun v g _ r => rd_int r) ds_nil)
      · rw [← t0]; exact sb h0 _ _ (re (i := 0) (by rfl) (pu_key _).mo (by decide) _ _ _ _) rfl
      · rw [← t2]; exact sb h2 _ _ (re (i := 2) (by rfl) (pu_key _).mo (by decide) _ _ _ _) rfl
end
end Mine

end
section
open PySem PySem.Spec PySem.Calls PySem.W PyProof.Rows
set_option Elab.async false
set_option linter.unusedVariables false
set_option linter.unusedSimpArgs false
namespace Mine
section
variable {prog : Program} {w : World} {A : Around} {env : Env} {h : Heap} {bad : List Addr} {fs : List (Str × HP)} {s₀ s : Shared} {X : Heap → Prop} {E : Value → Shared → Prop} {mg mb : Str → Option Value}
/-- parse_stralgo of the elder wire, the one form -/
theorem parse_uni {n : Nat} {v : Value} {k0 k2 : KK} {pcs : List Pc} {long : Bool} {len : Int} (a : AOk (n + 2) A) (S : Stc mg mb w.params h) (al : Al bad h) (hm : cStatics ∈ bad) (h0 : kasc k0) (h2 : kasc k2) (t0 : ktxt k0 = "matches") (t2 : ktxt k2 = "len") (hn : pcs.length ≤ 1000)
    (pv : flatP k0 k2 (.list (pcs.map (Pc.sent long))) len bad v h) :
    Tr prog w A h (call (.ref 31) [v] [(Str.ofString "idx", .bool true), (Str.ofString "withmatchlen", .bool long)]) (two prog w (.inl "matches") (.inl "len") (.list (pcs.map (Pc.due long))) (.int len) bad) := by
  refine call_fun (fs := fun B => [("options", opts prog w long B), ("response", flatP k0 k2 (.list (pcs.map (Pc.sent long))) len B)]) (args := ⟨[v], [(Str.ofString "idx", .bool true), (Str.ofString "withmatchlen", .bool long)]⟩) a.room (S.K _ _ (l_31 _)) (d_31 _) S.lim (codeRec_of S.K (c_31 _)) (body := bdy (fdat w.params 31)) rfl al
    (BpF.cons bp_opts (BpF.cons bp_flat BpF.nil)) (bind_opts al hm bp_flat pv (b_31 _ _ _ _) (by kernel_rfl) (by kernel_rfl)) (nocell (show _ = true by kernel_rfl)) rfl rfl rfl (fun x Q hx => ?_) fun L s1 s2 E hL le F I => ?_
  · rcases lk2 hx with ⟨rfl, _⟩ | ⟨_, rfl, _⟩ <;> kernel_rfl
  · have a' := a.deeper (callEnv (fdat w.params 31) L 31)
    generalize hA' : A.deeper (callEnv (fdat w.params 31) L 31) = A' at a' ⊢
    have eo : ∀ {s' : Shared} {fs'} (I' : Inv (L :: bad) s1 (callEnv (fdat w.params 31) L 31) fs' (fun _ => True) s') (hl : fs'.lookup ("options" : Str) = some (opts prog w long (L :: bad))) (pos : Pos), Tr prog w A' s'.heap (eval (.Name "options" pos) (callEnv (fdat w.params 31) L 31)) (opts prog w long (L :: bad)) := fun I' hl pos => ev_name F.ok I'.ctx hl (bp_opts.st _).mo
    refine ex_mid (R := fun s' => Inv (L :: bad) s1 (callEnv (fdat w.params 31) L 31) [("options", opts prog w long (L :: bad)), ("response", flatP k0 k2 (.list (pcs.map (Pc.sent long))) len (L :: bad))] (fun _ => True) s') (ex_if (b := false) (ts_opt (x := "len") (eo I (by rfl) _) (ev_str _ _ _) (ev_bool _ _ _) (.inr ⟨by rfl, rfl⟩) opts_ok) fun s3 k3 => ex_nil (I.keeps F k3)) fun s3 I3 => ?_
    refine ex_ret (ex_if (b := true) (ts_opt (x := "idx") (eo I3 (by rfl) _) (ev_str _ _ _) (ev_bool _ _ _) (.inl (by rfl)) opts_ok) fun s4 k4 => ?_)
    have I4 := I3.keeps F k4
    refine ex_mid (R := fun s' => Inv (L :: bad) s1 (callEnv (fdat w.params 31) L 31) [("matches", isRd (L :: bad) (.list (pcs.map (Pc.due long)))), ("options", opts prog w long (L :: bad)), ("response", flatP k0 k2 (.list (pcs.map (Pc.sent long))) len (L :: bad))] (fun _ => True) s')
      (ex_if (b := long) (ts_opt (x := "withmatchlen") (eo I4 (by rfl) _) (ev_str _ _ _) (ev_bool _ _ _) (.inl (by rfl)) opts_ok) fun s5 k5 => ?_) fun s6 I6 => ?_
    · have I5 := I4.keeps F k5
      have xi : ∀ p1 p2 q1 q2, Tr prog w A' s5.heap (eval (.Subscript (.Name "response" p1) (.Constant (.int 1) q1 p2) q2) (callEnv (fdat w.params 31) L 31)) (isRd (L :: bad) (.list (pcs.map (Pc.sent long)))) := fun p1 p2 q1 q2 =>
        ev_sub (bp_flat.st _).mo (ev_name F.ok I5.ctx (by rfl) (bp_flat.st _).mo) (ev_int _ _ _) fun v1 v2 g _ a b => sub_ls (i := 1) (by rfl) (mo_rd _) (by decide) a b
      cases long with
      | true =>
        refine ex_mid (st_rows (f := Pc.sent true) (g := Pc.due true) (pcs := pcs) a'.hh F I5 (by rfl) (xi _ _ _ _) (by omega) (by kernel_rfl) (by rfl) (by kernel_rfl) (by kernel_rfl) (fun p hp G B C ok cG lG alB hB em => ?_) (fun s' I' => ⟨rfl, I'⟩) (by kernel_rfl) (by rfl) (by decide) (by decide)) fun s' I' => ex_nil I'
        have SG : Stc mg mb w.params G := S.le (le.trans (I5.base.trans lG))
        refine (ev_bin (mo_rd _) (P1 := isRd B (.list [.int p.k])) ((ev_list alB (Ps := [isInt p.k]) (mos_cons (pu_int _).mo mos_nil) (es_cons (pu_int _).mo
          (ev_callT (Ps := [isInt p.k]) (SG.built ok (n_int _) bi_int) (es_cons (pu_int _).mo ((ev_sub (mo_rd _) (em _) (ev_neg (ev_int _ _ _)) fun v1 v2 g _ a b => sub_last (d := .int p.k) (by rfl) (small rfl) a b).weak fun v g _ r => int_rd r) es_nil) fun vs g _ q => call_int q) es_nil) (small rfl)).weak fun v g _ r => ls_int r)
          (P2 := isRd B (.list ([p.c1, p.c2].map .list)))
          (ev_rows (f := .list) (g := .list) (pcs := [p.c1, p.c2]) a'.hh ok cG (fun _ _ h => by cases h) alB (by rfl) (sl_butlast (ds := [.list p.c1, .list p.c2, .int p.k]) alB (em _) (small rfl) (ev_neg (ev_int _ _ _))) (small rfl) (by kernel_rfl) (by rfl) (by kernel_rfl) (by kernel_rfl)
            (fun ds hds G' B' C' ok' cG' lG' alB' hB' em' => ?_) (by decide) (by decide))
          fun v1 v2 g lg a b => op_addl (alB.le lg) a b (small rfl))
        refine ev_callT (Ps := [isRd B' (.list ds)]) ((SG.le lG').built ok' (n_list _) bi_list) (es_cons (mo_rd _) (em' _) es_nil) fun vs g lg q => call_list (alB'.le lg) ?_ q
        simp only [List.mem_cons, List.not_mem_nil, or_false] at hds
        rcases hds with rfl | rfl <;> exact small rfl
      | false =>
        refine ex_mid (st_rows (f := Pc.sent false) (g := Pc.due false) (pcs := pcs) a'.hh F I5 (by rfl) (xi _ _ _ _) (by omega) (by kernel_rfl) (by rfl) (by kernel_rfl) (by kernel_rfl) (fun p hp G B C ok cG lG alB hB em => ?_) (fun s' I' => ⟨rfl, I'⟩) (by kernel_rfl) (by rfl) (by decide) (by decide)) fun s' I' => ex_nil I'
        have SG : Stc mg mb w.params G := S.le (le.trans (I5.base.trans lG))
        refine ev_rows (f := .list) (g := .list) (pcs := [p.c1, p.c2]) a'.hh ok cG (fun _ _ h => by cases h) alB (by rfl) (em _) (small rfl) (by kernel_rfl) (by rfl) (by kernel_rfl) (by kernel_rfl)
            (fun ds hds G' B' C' ok' cG' lG' alB' hB' em' => ?_) (by decide) (by decide)
        refine ev_callT (Ps := [isRd B' (.list ds)]) ((SG.le lG').built ok' (n_list _) bi_list) (es_cons (mo_rd _) (em' _) es_nil) fun vs g lg q => call_list (alB'.le lg) ?_ q
        simp only [List.mem_cons, List.not_mem_nil, or_false] at hds
        rcases hds with rfl | rfl <;> exact small rfl
    · refine ex_ret (st_return (P := two prog w (.inl "matches") (.inl "len") (.list (pcs.map (Pc.due long))) (.int len) (L :: bad)) ?_ fun v s' kk p => ⟨v, rfl, I6.ret F kk, bp_two.grow _ _ _ _ (fun b hb => .inl (.tail _ hb)) p⟩)
      have hfs : BpF (fun B => [(("matches" : Str), isRd B (.list (pcs.map (Pc.due long)))), ("options", opts prog w long B), ("response", flatP k0 k2 (.list (pcs.map (Pc.sent long))) len B)]) := BpF.cons (Bp.rd _) (BpF.cons bp_opts (BpF.cons bp_flat BpF.nil))
      refine ev_dict I6.al (.tail _ hm) two_ok (fun g B lg alB hB => ?_) (two_nd (by decide))
      have cg := I6.ctxAt hfs hB lg
      have SG : Stc mg mb w.params g := S.le (le.trans (I6.base.trans lg))
      have re : ∀ {i : Nat} {P : HP} (hP : [isKey k0, isRd B (.list (pcs.map (Pc.sent long))), isKey k2, isInt len][i]? = some P) (mP : Mo P) (hi : i < 2 ^ 63) (p1 p2 p3 : Pos) (kd : Nat), Tr prog w A' g (eval (.Subscript (.Name "response" p1) (.Constant (.int i) kd p2) p3) (callEnv (fdat w.params 31) L 31)) P := fun hP mP hi p1 p2 p3 kd =>
        ev_sub (bp_flat.st _).mo (ev_name F.ok cg (by rfl) (bp_flat.st _).mo) (ev_int _ _ _) fun v1 v2 g _ a b => sub_ls hP mP hi a b
      have sb : ∀ {k : KK} (hk : kasc k) {e : Expr} (pos pf : Pos) (x : Tr prog w A' g (eval e (callEnv (fdat w.params 31) L 31)) (isKey k)) (hs : starEach [e] (callEnv (fdat w.params 31) L 31) = (false, eval e (callEnv (fdat w.params 31) L 31)) :: starEach [] (callEnv (fdat w.params 31) L 31)), Tr prog w A' g (eval (.Call (.Name "str_if_bytes" pf) [e] [] pos) (callEnv (fdat w.params 31) L 31)) (isStr (ktxt k)) := fun hk _ pos pf x hs =>
        ev_callF (SG.K _ _ (l_21 _)) (d_21 _) (pu_key _).mo (SG.glob F.ok (n_sib _)) x ks_nil (fun v kvs g' lg' p q => sib a' (SG.le lg') al_nil hk p) rfl hs
      refine ds_cons (mo_rd _) (?_ : Tr prog w A' g _ (isStr "matches")) (ev_name F.ok cg (by rfl) (mo_rd _)) (ds_cons (mo_rd _) (?_ : Tr prog w A' g _ (isStr "len")) ((ev_callT (Ps := [isInt len]) (SG.built F.ok (n_int _) bi_int) (es_cons (pu_int _).mo (re (i := 3) (by rfl) (pu_int _).mo (by decide) _ _ _ _) es_nil) fun vs g _ q => call_int q).weak fun v g _ r => rd_int r) ds_nil)
      · rw [← t0]; exact sb h0 _ _ (re (i := 0) (by rfl) (pu_key _).mo (by decide) _ _ _ _) rfl
      · rw [← t2]; exact sb h2 _ _ (re (i := 2) (by rfl) (pu_key _).mo (by decide) _ _ _ _) rfl
end
end Mine

end
section
open PySem PySem.Spec PySem.Calls PySem.W PyProof.Rows
set_option Elab.async false
set_option linter.unusedVariables false
set_option linter.unusedSimpArgs false
namespace Mine
def bmatches : List UInt8 := [109, 97, 116, 99, 104, 101, 115]
def blen : List UInt8 := [108, 101, 110]
section
variable {prog : Program} {w : World} {A : Around} {env : Env} {h : Heap} {bad : List Addr} {fs : List (Str × HP)} {s₀ s : Shared} {X : Heap → Prop} {E : Value → Shared → Prop} {mg mb : Str → Option Value}
/-- a text, or a text as octets: the answer is the text -/
theorem text_26 {n : Nat} {v : Value} {k : KK} (a : AOk (n + 2) A) (S : Stc mg mb w.params h) (al : Al bad h) (hm : cStatics ∈ bad) (hk : kasc k) (pv : isKey k v h) :
    Tr prog w A h (call (.ref 26) [v] []) (isStr (ktxt k)) := by
  refine call_fun (fs := fun B => [("options", opt0s prog w B), ("response", isKey k)]) (args := ⟨[v], []⟩) a.room (S.K _ _ (l_26 _)) (d_26 _) S.lim (codeRec_of S.K (c_26 _)) (body := bdy (fdat w.params 26)) rfl al
    (BpF.cons bp_opt0s (BpF.cons (Bp.of_pure (pu_key k)) BpF.nil)) (bind_opt0 (R := fun _ => isKey k) al hm (Bp.of_pure (pu_key k)) pv (b_26o _ _) (by kernel_rfl) (by kernel_rfl)) (nocell (show _ = true by kernel_rfl)) rfl rfl rfl (fun x Q hx => ?_) fun L s1 s2 E hL le F I => ?_
  · rcases lk2 hx with ⟨rfl, _⟩ | ⟨_, rfl, _⟩ <;> kernel_rfl
  · have a' := a.deeper (callEnv (fdat w.params 26) L 26)
    generalize hA' : A.deeper (callEnv (fdat w.params 26) L 26) = A' at a' ⊢
    have eo : ∀ {s' : Shared} {fs'} (I' : Inv (L :: bad) s1 (callEnv (fdat w.params 26) L 26) fs' (fun _ => True) s') (hl : fs'.lookup ("options" : Str) = some (opt0s prog w (L :: bad))) (pos : Pos), Tr prog w A' s'.heap (eval (.Name "options" pos) (callEnv (fdat w.params 26) L 26)) (opt0s prog w (L :: bad)) := fun I' hl pos => ev_name F.ok I'.ctx hl (bp_opt0s.st _).mo
    refine ex_mid (R := fun s' => Inv (L :: bad) s1 (callEnv (fdat w.params 26) L 26) [("options", opt0s prog w (L :: bad)), ("response", isKey k)] (fun _ => True) s') (ex_if (b := false) (ts_opt (x := "len") (eo I (by rfl) _) (ev_str _ _ _) (ev_bool _ _ _) (.inr ⟨by rfl, rfl⟩) (fun p hp => by cases hp)) fun s3 k3 => ex_nil (I.keeps F k3)) fun s3 I3 => ?_
    refine ex_mid (R := fun s' => Inv (L :: bad) s1 (callEnv (fdat w.params 26) L 26) [("options", opt0s prog w (L :: bad)), ("response", isKey k)] (fun _ => True) s') (ex_if (b := false) (ts_opt (x := "idx") (eo I3 (by rfl) _) (ev_str _ _ _) (ev_bool _ _ _) (.inr ⟨by rfl, rfl⟩) (fun p hp => by cases hp)) fun s4 k4 => ex_nil (I3.keeps F k4)) fun s4 I4 => ?_
    have SG : Stc mg mb w.params s4.heap := S.le (le.trans I4.base)
    refine ex_ret (st_return (P := isStr (ktxt k)) ?_ fun v s' kk p => ⟨v, rfl, I4.ret F kk, p⟩)
    exact ev_callF (SG.K _ _ (l_21 _)) (d_21 _) (pu_key _).mo (SG.glob F.ok (n_sib _)) (ev_name F.ok I4.ctx (by rfl) (pu_key k).mo) ks_nil (fun v kvs g' lg' p q => sib a' (SG.le lg') al_nil hk p)
/-- a text, or a text as octets: the answer is the text -/
theorem text_31 {n : Nat} {v : Value} {k : KK} (a : AOk (n + 2) A) (S : Stc mg mb w.params h) (al : Al bad h) (hm : cStatics ∈ bad) (hk : kasc k) (pv : isKey k v h) :
    Tr prog w A h (call (.ref 31) [v] []) (isStr (ktxt k)) := by
  refine call_fun (fs := fun B => [("options", opt0s prog w B), ("response", isKey k)]) (args := ⟨[v], []⟩) a.room (S.K _ _ (l_31 _)) (d_31 _) S.lim (codeRec_of S.K (c_31 _)) (body := bdy (fdat w.params 31)) rfl al
    (BpF.cons bp_opt0s (BpF.cons (Bp.of_pure (pu_key k)) BpF.nil)) (bind_opt0 (R := fun _ => isKey k) al hm (Bp.of_pure (pu_key k)) pv (b_31o _ _) (by kernel_rfl) (by kernel_rfl)) (nocell (show _ = true by kernel_rfl)) rfl rfl rfl (fun x Q hx => ?_) fun L s1 s2 E hL le F I => ?_
  · rcases lk2 hx with ⟨rfl, _⟩ | ⟨_, rfl, _⟩ <;> kernel_rfl
  · have a' := a.deeper (callEnv (fdat w.params 31) L 31)
    generalize hA' : A.deeper (callEnv (fdat w.params 31) L 31) = A' at a' ⊢
    have eo : ∀ {s' : Shared} {fs'} (I' : Inv (L :: bad) s1 (callEnv (fdat w.params 31) L 31) fs' (fun _ => True) s') (hl : fs'.lookup ("options" : Str) = some (opt0s prog w (L :: bad))) (pos : Pos), Tr prog w A' s'.heap (eval (.Name "options" pos) (callEnv (fdat w.params 31) L 31)) (opt0s prog w (L :: bad)) := fun I' hl pos => ev_name F.ok I'.ctx hl (bp_opt0s.st _).mo
    refine ex_mid (R := fun s' => Inv (L :: bad) s1 (callEnv (fdat w.params 31) L 31) [("options", opt0s prog w (L :: bad)), ("response", isKey k)] (fun _ => True) s') (ex_if (b := false) (ts_opt (x := "len") (eo I (by rfl) _) (ev_str _ _ _) (ev_bool _ _ _) (.inr ⟨by rfl, rfl⟩) (fun p hp => by cases hp)) fun s3 k3 => ex_nil (I.keeps F k3)) fun s3 I3 => ?_
    refine ex_mid (R := fun s' => Inv (L :: bad) s1 (callEnv (fdat w.params 31) L 31) [("options", opt0s prog w (L :: bad)), ("response", isKey k)] (fun _ => True) s') (ex_if (b := false) (ts_opt (x := "idx") (eo I3 (by rfl) _) (ev_str _ _ _) (ev_bool _ _ _) (.inr ⟨by rfl, rfl⟩) (fun p hp => by cases hp)) fun s4 k4 => ex_nil (I3.keeps F k4)) fun s4 I4 => ?_
    have SG : Stc mg mb w.params s4.heap := S.le (le.trans I4.base)
    refine ex_ret (st_return (P := isStr (ktxt k)) ?_ fun v s' kk p => ⟨v, rfl, I4.ret F kk, p⟩)
    exact ev_callF (SG.K _ _ (l_21 _)) (d_21 _) (pu_key _).mo (SG.glob F.ok (n_sib _)) (ev_name F.ok I4.ctx (by rfl) (pu_key k).mo) ks_nil (fun v kvs g' lg' p q => sib a' (SG.le lg') al_nil hk p)
/-- a text, or a text as octets: the answer is the text -/
theorem text_36 {n : Nat} {v : Value} {k : KK} (a : AOk (n + 2) A) (S : Stc mg mb w.params h) (al : Al bad h) (hm : cStatics ∈ bad) (hk : kasc k) (pv : isKey k v h) :
    Tr prog w A h (call (.ref 36) [v] []) (isStr (ktxt k)) := by
  refine call_fun (fs := fun B => [("options", opt0s prog w B), ("response", isKey k)]) (args := ⟨[v], []⟩) a.room (S.K _ _ (l_36 _)) (d_36 _) S.lim (codeRec_of S.K (c_36 _)) (body := bdy (fdat w.params 36)) rfl al
    (BpF.cons bp_opt0s (BpF.cons (Bp.of_pure (pu_key k)) BpF.nil)) (bind_opt0 (R := fun _ => isKey k) al hm (Bp.of_pure (pu_key k)) pv (b_36o _ _) (by kernel_rfl) (by kernel_rfl)) (nocell (show _ = true by kernel_rfl)) rfl rfl rfl (fun x Q hx => ?_) fun L s1 s2 E hL le F I => ?_
  · rcases lk2 hx with ⟨rfl, _⟩ | ⟨_, rfl, _⟩ <;> kernel_rfl
  · have a' := a.deeper (callEnv (fdat w.params 36) L 36)
    generalize hA' : A.deeper (callEnv (fdat w.params 36) L 36) = A' at a' ⊢
    have eo : ∀ {s' : Shared} {fs'} (I' : Inv (L :: bad) s1 (callEnv (fdat w.params 36) L 36) fs' (fun _ => True) s') (hl : fs'.lookup ("options" : Str) = some (opt0s prog w (L :: bad))) (pos : Pos), Tr prog w A' s'.heap (eval (.Name "options" pos) (callEnv (fdat w.params 36) L 36)) (opt0s prog w (L :: bad)) := fun I' hl pos => ev_name F.ok I'.ctx hl (bp_opt0s.st _).mo
    refine ex_mid (R := fun s' => Inv (L :: bad) s1 (callEnv (fdat w.params 36) L 36) [("options", opt0s prog w (L :: bad)), ("response", isKey k)] (fun _ => True) s') (ex_if (b := false) (ts_opt (x := "len") (eo I (by rfl) _) (ev_str _ _ _) (ev_bool _ _ _) (.inr ⟨by rfl, rfl⟩) (fun p hp => by cases hp)) fun s3 k3 => ex_nil (I.keeps F k3)) fun s3 I3 => ?_
    refine ex_mid (R := fun s' => Inv (L :: bad) s1 (callEnv (fdat w.params 36) L 36) [("options", opt0s prog w (L :: bad)), ("response", isKey k)] (fun _ => True) s') (ex_if (b := false) (ts_opt (x := "idx") (eo I3 (by rfl) _) (ev_str _ _ _) (ev_bool _ _ _) (.inr ⟨by rfl, rfl⟩) (fun p hp => by cases hp)) fun s4 k4 => ex_nil (I3.keeps F k4)) fun s4 I4 => ?_
    have SG : Stc mg mb w.params s4.heap := S.le (le.trans I4.base)
    refine ex_ret (st_return (P := isStr (ktxt k)) ?_ fun v s' kk p => ⟨v, rfl, I4.ret F kk, p⟩)
    exact ev_callF (SG.K _ _ (l_21 _)) (d_21 _) (pu_key _).mo (SG.glob F.ok (n_sib _)) (ev_name F.ok I4.ctx (by rfl) (pu_key k).mo) ks_nil (fun v kvs g' lg' p q => sib a' (SG.le lg') al_nil hk p)
/-- o.get(key, dflt) -/
theorem ev_get {kps : KPs} {o e1 e2 : Expr} {apos pos : Pos} {key : KK} {P P2 : HP} (xo : Tr prog w A h (eval o env) (isDict prog w kps bad)) (x1 : Tr prog w A h (eval e1 env) (isKey key)) (x2 : Tr prog w A h (eval e2 env) P2) (mo : Mo P)
    (hl : (kps.find? fun p => p.1 = key).map (fun p => p.2 bad) = some P ∨ ((kps.find? fun p => p.1 = key) = none ∧ ∀ v g, P2 v g → P v g)) (mk : KPs.Ok kps) {pl : Sem Bool}
    (hm : eval (.Call (.Attribute o "get" apos) [e1, e2] [] pos) env = (do
      let ov ← eval o env
      standAt apos.atName
      let (f, first) ← holding [ov] (getMethod ov "get" pl)
      callWith pos f first (backTo pos (starEach [e1, e2] env)) []) := by rfl)
    (he : starEach [e1, e2] env = (false, eval e1 env) :: starEach [e2] env := by rfl) (he2 : starEach [e2] env = (false, eval e2 env) :: starEach [] env := by rfl) :
    Tr prog w A h (eval (.Call (.Attribute o "get" apos) [e1, e2] [] pos) env) P := fun s E l => by
  refine MethodCall_ (pl := pl) (xo.use l fun v s1 k1 p1 => ?_) hm
  obtain ⟨d, kvs, rfl, n, lo, hd, q⟩ := id p1
  refine getMethod_builtin hd.typeIs PySem.F.plainAttrs_dict PySem.F.slot_dict_get PySem.F.type_dict_get hd.mapOf.noDict ?_
  refine callWith_method1 (wpAny_items_cons (x1.use (l.trans (Keeps.le k1)) fun v1 s2 k2 p2 => wpAny_items_cons (x2.use ((l.trans (Keeps.le k1)).trans (Keeps.le k2)) fun v2 s3 k3 p3 => wpAny_items_nil ?_) he2) he) he (by rw [he2]; rfl)
  have l3 := (Keeps.le k2).trans (Keeps.le k3)
  have p1' := ((bp_dict mk).st bad).mo _ _ _ l3 p1
  have p2' : isKey key v1 s3.heap := pu_key key _ _ _ p2
  rcases hl with hl | ⟨hl, hp⟩
  · exact (dict_get p1' p2' hl mo).use (Le.refl _) fun v s4 k4 p4 => ⟨Keeps.tr k1 (Keeps.tr k2 (Keeps.tr k3 k4)), p4⟩
  · exact (dict_get_miss p1' p2' hl (hp _ _ p3) mo).use (Le.refl _) fun v s4 k4 p4 => ⟨Keeps.tr k1 (Keeps.tr k2 (Keeps.tr k3 k4)), p4⟩
theorem ev_bytes (x : List UInt8) (k pos) : Tr prog w A h (eval (.Constant (.bytes x) k pos) env) (isBytes x.toArray) := fun s E l => Constant_bytes ⟨Keeps.tok s _, _, rfl⟩
theorem ls_nil {B : List Addr} {v g} (p : isLs B [] v g) : isRd B (.list []) v g := by
  obtain ⟨l, vs, rfl, nb, a, b⟩ := p
  refine .list nb a ?_
  cases vs
  rename_i ws
  cases b
  exact .nil
/-- parse_stralgo of the later wire, the one form -/
theorem parse_map {n : Nat} {v : Value} {k0 k2 : KK} {pcs : List Pc} {long : Bool} {len : Int} (a : AOk (n + 2) A) (S : Stc mg mb w.params h) (al : Al bad h) (hm : cStatics ∈ bad) (hk : (k0 = .inl "matches" ∧ k2 = .inl "len") ∨ (k0 = .inr bmatches ∧ k2 = .inr blen)) (hn : pcs.length ≤ 1000)
    (pv : two prog w k0 k2 (.list (pcs.map (Pc.sent long))) (.int len) bad v h) :
    Tr prog w A h (call (.ref 36) [v] [(Str.ofString "idx", .bool true), (Str.ofString "withmatchlen", .bool long)]) (two prog w (.inl "matches") (.inl "len") (.list (pcs.map (Pc.due long))) (.int len) bad) := by
  refine call_fun (fs := fun B => [("options", opts prog w long B), ("response", two prog w k0 k2 (.list (pcs.map (Pc.sent long))) (.int len) B)]) (args := ⟨[v], [(Str.ofString "idx", .bool true), (Str.ofString "withmatchlen", .bool long)]⟩) a.room (S.K _ _ (l_36 _)) (d_36 _) S.lim (codeRec_of S.K (c_36 _)) (body := bdy (fdat w.params 36)) rfl al
    (BpF.cons bp_opts (BpF.cons bp_two BpF.nil)) (bind_opts al hm bp_two pv (b_36 _ _ _ _) (by kernel_rfl) (by kernel_rfl)) (nocell (show _ = true by kernel_rfl)) rfl rfl rfl (fun x Q hx => ?_) fun L s1 s2 E hL le F I => ?_
  · rcases lk2 hx with ⟨rfl, _⟩ | ⟨_, rfl, _⟩ <;> kernel_rfl
  · have a' := a.deeper (callEnv (fdat w.params 36) L 36)
    generalize hA' : A.deeper (callEnv (fdat w.params 36) L 36) = A' at a' ⊢
    have eo : ∀ {s' : Shared} {fs'} (I' : Inv (L :: bad) s1 (callEnv (fdat w.params 36) L 36) fs' (fun _ => True) s') (hl : fs'.lookup ("options" : Str) = some (opts prog w long (L :: bad))) (pos : Pos), Tr prog w A' s'.heap (eval (.Name "options" pos) (callEnv (fdat w.params 36) L 36)) (opts prog w long (L :: bad)) := fun I' hl pos => ev_name F.ok I'.ctx hl (bp_opts.st _).mo
    refine ex_mid (R := fun s' => Inv (L :: bad) s1 (callEnv (fdat w.params 36) L 36) [("options", opts prog w long (L :: bad)), ("response", two prog w k0 k2 (.list (pcs.map (Pc.sent long))) (.int len) (L :: bad))] (fun _ => True) s') (ex_if (b := false) (ts_opt (x := "len") (eo I (by rfl) _) (ev_str _ _ _) (ev_bool _ _ _) (.inr ⟨by rfl, rfl⟩) opts_ok) fun s3 k3 => ex_nil (I.keeps F k3)) fun s3 I3 => ?_
    refine ex_ret (ex_if (b := true) (ts_opt (x := "idx") (eo I3 (by rfl) _) (ev_str _ _ _) (ev_bool _ _ _) (.inl (by rfl)) opts_ok) fun s4 k4 => ?_)
    have I4 := I3.keeps F k4
    have er : ∀ {s' : Shared} {fs'} (I' : Inv (L :: bad) s1 (callEnv (fdat w.params 36) L 36) fs' (fun _ => True) s') (hl : fs'.lookup ("response" : Str) = some (two prog w k0 k2 (.list (pcs.map (Pc.sent long))) (.int len) (L :: bad))) (pos : Pos), Tr prog w A' s'.heap (eval (.Name "response" pos) (callEnv (fdat w.params 36) L 36)) (two prog w k0 k2 (.list (pcs.map (Pc.sent long))) (.int len) (L :: bad)) := fun I' hl pos => ev_name F.ok I'.ctx hl (bp_two.st _).mo
    refine ex_mid (R := fun s' => Inv (L :: bad) s1 (callEnv (fdat w.params 36) L 36) [("options", opts prog w long (L :: bad)), ("response", two prog w k0 k2 (.list (pcs.map (Pc.sent long))) (.int len) (L :: bad))] (fun _ => True) s') (ex_if (b := false) ?_ fun s5 k5 => ex_nil (I4.keeps F k5)) fun s5 I5 => ?_
    · have S4 : Stc mg mb w.params s4.heap := S.le (le.trans I4.base)
      refine ts_not (b := true) (ts_bool (ev_callB (Ps := [two prog w k0 k2 (.list (pcs.map (Pc.sent long))) (.int len) (L :: bad), isVal (.type "dict")]) (S4.built F.ok (n_isi _) bi_isi) (es_cons (bp_two.st _).mo (er I4 (by rfl) _) (es_cons (pu_val _).mo (S4.built F.ok (n_dict _) bi_dict) es_nil)) fun vs g _ q => isi_dict q))
    refine ex_mid (R := fun s' => Inv (L :: bad) s1 (callEnv (fdat w.params 36) L 36) [("raw_matches", isRd (L :: bad) (.list (pcs.map (Pc.sent long)))), ("options", opts prog w long (L :: bad)), ("response", two prog w k0 k2 (.list (pcs.map (Pc.sent long))) (.int len) (L :: bad))] (fun _ => True) s')
      (st_assign (P := isRd (L :: bad) (.list (pcs.map (Pc.sent long)))) F I5 ?_ (st_rd _ _) (fun s' I' => ⟨rfl, I'⟩) (.inl (by kernel_rfl))) fun s5a I5a => ?_
    · rcases hk with ⟨rfl, rfl⟩ | ⟨rfl, rfl⟩
      · exact ev_get (key := .inl "matches") (P2 := isRd (L :: bad) (.list [])) (er I5 (by rfl) _) (ev_str _ _ _) (ev_get (key := .inr bmatches) (P2 := isRd (L :: bad) (.list [])) (er I5 (by rfl) _) (ev_bytes _ _ _) ((ev_list I5.al mos_nil es_nil (small rfl)).weak fun v g _ r => ls_nil r) (mo_rd _) (.inr ⟨by rfl, fun _ _ p => p⟩) two_ok) (mo_rd _) (.inl (by rfl)) two_ok
      · exact ev_get (key := .inl "matches") (P2 := isRd (L :: bad) (.list (pcs.map (Pc.sent long)))) (er I5 (by rfl) _) (ev_str _ _ _) (ev_get (key := .inr bmatches) (P2 := isRd (L :: bad) (.list [])) (er I5 (by rfl) _) (ev_bytes _ _ _) ((ev_list I5.al mos_nil es_nil (small rfl)).weak fun v g _ r => ls_nil r) (mo_rd _) (.inl (by rfl)) two_ok) (mo_rd _) (.inr ⟨by rfl, fun _ _ p => p⟩) two_ok
    refine ex_mid (R := fun s' => Inv (L :: bad) s1 (callEnv (fdat w.params 36) L 36) [("raw_len", isRd (L :: bad) (.int len)), ("raw_matches", isRd (L :: bad) (.list (pcs.map (Pc.sent long)))), ("options", opts prog w long (L :: bad)), ("response", two prog w k0 k2 (.list (pcs.map (Pc.sent long))) (.int len) (L :: bad))] (fun _ => True) s')
      (st_assign (P := isRd (L :: bad) (.int len)) F I5a ?_ (st_rd _ _) (fun s' I' => ⟨rfl, I'⟩) (.inl (by kernel_rfl))) fun s5b I5b => ?_
    · rcases hk with ⟨rfl, rfl⟩ | ⟨rfl, rfl⟩
      · exact ev_get (key := .inl "len") (P2 := isRd (L :: bad) (.int 0)) (er I5a (by rfl) _) (ev_str _ _ _) (ev_get (key := .inr blen) (P2 := isRd (L :: bad) (.int 0)) (er I5a (by rfl) _) (ev_bytes _ _ _) ((ev_int 0 _ _).weak fun v g _ r => rd_int r) (mo_rd _) (.inr ⟨by rfl, fun _ _ p => p⟩) two_ok) (mo_rd _) (.inl (by rfl)) two_ok
      · exact ev_get (key := .inl "len") (P2 := isRd (L :: bad) (.int len)) (er I5a (by rfl) _) (ev_str _ _ _) (ev_get (key := .inr blen) (P2 := isRd (L :: bad) (.int 0)) (er I5a (by rfl) _) (ev_bytes _ _ _) ((ev_int 0 _ _).weak fun v g _ r => rd_int r) (mo_rd _) (.inl (by rfl)) two_ok) (mo_rd _) (.inr ⟨by rfl, fun _ _ p => p⟩) two_ok
    refine ex_mid (R := fun s' => Inv (L :: bad) s1 (callEnv (fdat w.params 36) L 36) [("matches", isRd (L :: bad) (.list (pcs.map (Pc.due long)))), ("raw_len", isRd (L :: bad) (.int len)), ("raw_matches", isRd (L :: bad) (.list (pcs.map (Pc.sent long)))), ("options", opts prog w long (L :: bad)), ("response", two prog w k0 k2 (.list (pcs.map (Pc.sent long))) (.int len) (L :: bad))] (fun _ => True) s')
      (ex_if (b := long) (ts_opt (x := "withmatchlen") (eo I5b (by rfl) _) (ev_str _ _ _) (ev_bool _ _ _) (.inl (by rfl)) opts_ok) fun s6 k6 => ?_) fun s7 I7 => ?_
    · have I6 := I5b.keeps F k6
      have xi : ∀ p1, Tr prog w A' s6.heap (eval (.Name "raw_matches" p1) (callEnv (fdat w.params 36) L 36)) (isRd (L :: bad) (.list (pcs.map (Pc.sent long)))) := fun p1 => ev_name F.ok I6.ctx (by rfl) (mo_rd _)
      cases long with
      | true =>
        refine ex_mid (st_rows (f := Pc.sent true) (g := Pc.due true) (pcs := pcs) a'.hh F I6 (by rfl) (xi _) (by omega) (by kernel_rfl) (by rfl) (by kernel_rfl) (by kernel_rfl) (fun p hp G B C ok cG lG alB hB em => ?_) (fun s' I' => ⟨rfl, I'⟩) (by kernel_rfl) (by rfl) (by decide) (by decide)) fun s' I' => ex_nil I'
        have SG : Stc mg mb w.params G := S.le (le.trans (I6.base.trans lG))
        refine (ev_bin (mo_rd _) (P1 := isRd B (.list [.int p.k])) ((ev_list alB (Ps := [isInt p.k]) (mos_cons (pu_int _).mo mos_nil) (es_cons (pu_int _).mo
          (ev_callT (Ps := [isInt p.k]) (SG.built ok (n_int _) bi_int) (es_cons (pu_int _).mo ((ev_sub (mo_rd _) (em _) (ev_neg (ev_int _ _ _)) fun v1 v2 g _ a b => sub_last (d := .int p.k) (by rfl) (small rfl) a b).weak fun v g _ r => int_rd r) es_nil) fun vs g _ q => call_int q) es_nil) (small rfl)).weak fun v g _ r => ls_int r)
          (P2 := isRd B (.list ([p.c1, p.c2].map .list)))
          (ev_rows (f := .list) (g := .list) (pcs := [p.c1, p.c2]) a'.hh ok cG (fun _ _ h => by cases h) alB (by rfl) (sl_butlast (ds := [.list p.c1, .list p.c2, .int p.k]) alB (em _) (small rfl) (ev_neg (ev_int _ _ _))) (small rfl) (by kernel_rfl) (by rfl) (by kernel_rfl) (by kernel_rfl)
            (fun ds hds G' B' C' ok' cG' lG' alB' hB' em' => ?_) (by decide) (by decide))
          fun v1 v2 g lg a b => op_addl (alB.le lg) a b (small rfl))
        refine ev_callT (Ps := [isRd B' (.list ds)]) ((SG.le lG').built ok' (n_list _) bi_list) (es_cons (mo_rd _) (em' _) es_nil) fun vs g lg q => call_list (alB'.le lg) ?_ q
        simp only [List.mem_cons, List.not_mem_nil, or_false] at hds
        rcases hds with rfl | rfl <;> exact small rfl
      | false =>
        refine ex_mid (st_rows (f := Pc.sent false) (g := Pc.due false) (pcs := pcs) a'.hh F I6 (by rfl) (xi _) (by omega) (by kernel_rfl) (by rfl) (by kernel_rfl) (by kernel_rfl) (fun p hp G B C ok cG lG alB hB em => ?_) (fun s' I' => ⟨rfl, I'⟩) (by kernel_rfl) (by rfl) (by decide) (by decide)) fun s' I' => ex_nil I'
        have SG : Stc mg mb w.params G := S.le (le.trans (I6.base.trans lG))
        refine ev_rows (f := .list) (g := .list) (pcs := [p.c1, p.c2]) a'.hh ok cG (fun _ _ h => by cases h) alB (by rfl) (em _) (small rfl) (by kernel_rfl) (by rfl) (by kernel_rfl) (by kernel_rfl)
            (fun ds hds G' B' C' ok' cG' lG' alB' hB' em' => ?_) (by decide) (by decide)
        refine ev_callT (Ps := [isRd B' (.list ds)]) ((SG.le lG').built ok' (n_list _) bi_list) (es_cons (mo_rd _) (em' _) es_nil) fun vs g lg q => call_list (alB'.le lg) ?_ q
        simp only [List.mem_cons, List.not_mem_nil, or_false] at hds
        rcases hds with rfl | rfl <;> exact small rfl
    · refine ex_ret (st_return (P := two prog w (.inl "matches") (.inl "len") (.list (pcs.map (Pc.due long))) (.int len) (L :: bad)) ?_ fun v s' kk p => ⟨v, rfl, I7.ret F kk, bp_two.grow _ _ _ _ (fun b hb => .inl (.tail _ hb)) p⟩)
      have hfs : BpF (fun B => [(("matches" : Str), isRd B (.list (pcs.map (Pc.due long)))), ("raw_len", isRd B (.int len)), ("raw_matches", isRd B (.list (pcs.map (Pc.sent long)))), ("options", opts prog w long B), ("response", two prog w k0 k2 (.list (pcs.map (Pc.sent long))) (.int len) B)]) := BpF.cons (Bp.rd _) (BpF.cons (Bp.rd _) (BpF.cons (Bp.rd _) (BpF.cons bp_opts (BpF.cons bp_two BpF.nil))))
      refine ev_dict I7.al (.tail _ hm) two_ok (fun g B lg alB hB => ?_) (two_nd (by decide))
      have cg := I7.ctxAt hfs hB lg
      have SG : Stc mg mb w.params g := S.le (le.trans (I7.base.trans lg))
      exact ds_cons (mo_rd _) (ev_str _ _ _) (ev_name F.ok cg (by rfl) (mo_rd _)) (ds_cons (mo_rd _) (ev_str _ _ _) ((ev_callT (Ps := [isInt len]) (SG.built F.ok (n_int _) bi_int) (es_cons (pu_int _).mo ((ev_name F.ok cg (by rfl) (mo_rd _)).weak fun v g _ r => int_rd r) es_nil) fun vs g _ q => call_int q).weak fun v g _ r => rd_int r) ds_nil)
end
end Mine

end
section
open PySem PySem.Spec PySem.Calls PySem.W PyProof.Rows
set_option Elab.async false
set_option linter.unusedVariables false
set_option linter.unusedSimpArgs false
namespace Mine
/-- X asks of the addresses W alone -/
def FpX (W : List Addr) (X : Heap → Prop) : Prop := ∀ V h h', (∀ b ∈ W, b ∉ V) → But V h h' → X h → X h'
theorem FpX.and {W V : List Addr} {X Y : Heap → Prop} (x : FpX W X) (y : FpX V Y) : FpX (W ++ V) (fun h => X h ∧ Y h) := fun U h h' d k ⟨a, b⟩ =>
  ⟨x U h h' (fun b hb => d b (List.mem_append_left _ hb)) k a, y U h h' (fun b hb => d b (List.mem_append_right _ hb)) k b⟩
section
variable {prog : Program} {w : World} {A : Around} {env : Env} {h : Heap} {bad : List Addr} {fs fs' : List (Str × HP)} {s₀ s : Shared} {X : Heap → Prop} {E : Value → Shared → Prop}
theorem Inv.regrow' {B B' : List Addr} {fs : List Addr → List (Str × HP)} {X : Heap → Prop} {s1 : Shared} {Y : Heap → Prop} (hf : BpF fs) (I : Inv B s₀ env (fs B) X s) (k : Keeps s s1) (hB : ∀ b ∈ B', b ∈ B ∨ s.heap.get? b = none) (al : Al B' s1.heap) (y : Y s1.heap) :
    Inv B' s₀ env (fs B') Y s1 := by
  have kl := Keeps.le k
  obtain ⟨m, cs, a, b, c⟩ := I.ctx.ex
  refine ⟨?_, I.base.trans kl, ⟨m, cs, a.keeps kl, fun y d hm => (b y d hm).keeps kl, fun y P' hl => ?_⟩, y, hf.st B', al⟩
  · obtain ⟨h, tk, rfl⟩ := I.same
    obtain ⟨h', tk', rfl, _⟩ := k
    exact ⟨h', tk', rfl⟩
  · obtain ⟨P, hP, kk⟩ := hf.grow _ _ _ hB y P' hl
    obtain ⟨v, e, p⟩ := c y P hP
    exact ⟨v, e, (hf.st B' y P' hl).mo _ _ _ kl (kk v p)⟩
/-- for x in a range, where the body changes what stands at W -/
theorem st_forR {iter : Expr} {x : Str} {px pos : Pos} {body : List Stmt} {n : Nat} {Pv : Nat → HP} {fsI : Nat → List Addr → List (Str × HP)} {W : List Addr} {XI : Nat → Heap → Prop} {Q : Flow → Shared → Prop}
    (F : FrOk bad s₀ env (XI 0)) (hf : ∀ i, BpF (fsI i)) (hX : ∀ i, FpX W (XI i)) (hWf : ∀ b ∈ W, b ∉ frameAddrs env) (hW : Al W s.heap) (I : Inv bad s₀ env (fsI 0 bad) (XI 0) s) (src : Src prog w A env bad s.heap iter n fun i _ => Pv i) (hP : ∀ i, Pure (Pv i))
    (hx : env.kindOf x = some .local ∨ (env.kindOf x = some .cell ∧ (env.cells.lookup x).isSome = true))
    (body_ok : ∀ i B (s : Shared) (Y : Heap → Prop) (V : List Addr) (E : Value → Shared → Prop), i < n → (∀ b ∈ bad, b ∈ B) → FpX V Y → (∀ b ∈ V, b ∉ bad) → Al V s.heap → FrOk B s₀ env (fun h => XI i h ∧ Y h) → Inv B s₀ env ((x, Pv i) :: fsI i B) (fun h => XI i h ∧ Y h) s →
      wpAny (model prog w) A (execs body env) (Nx fun s' => Inv B s₀ env (fsI (i + 1) B) (fun h => XI (i + 1) h ∧ Y h) s') E s)
    (k : ∀ s', Inv bad s₀ env (fsI n bad) (XI n) s' → Q .next s')
    (hs : ∀ x, foldedSetIterable iter env x = pure x := by intro _; rfl) :
    wpAny (model prog w) A (exec (.For (.Name x px) iter body [] pos) env) Q E s := by
  refine wpAny_For (wpAny_mono (src s E (Le.refl _)) (fun xv s₁ h₁ => wpAny_mono h₁ (fun it s₂ ⟨k2, I', fp, wr, P0, St', e, Wk, hPv, hst, hfpb, hwrn, hfp, hwal⟩ => ?_) fun _ _ e => e) fun _ _ e => e) hs
  subst e
  have dead : ∀ b ∈ wr, s₀.heap.get? b = none := fun b hb => by
    cases q : s₀.heap.get? b with
    | none => rfl
    | some o => have := hwrn b hb; rw [I.base b o q] at this; cases this
  have hwf : ∀ b ∈ wr, b ∉ frameAddrs env := fun b hb q => hfpb b (Wk.sub b hb) (F.sub b q)
  have hWw : ∀ b ∈ W, b ∉ wr := fun b hb q => hW b hb (hwrn b q)
  have hFp : ∀ j, FpX fp (St' j) := fun j V h h' d kb a => Wk.frame _ _ _ a fun b hb o e => kb b o (d b hb) e
  have Fs : ∀ i j, FrOk (wr ++ bad) s₀ env (fun h => XI i h ∧ St' j h) := fun i j => ⟨F.ok, F.fresh, fun b hb => List.mem_append_right _ (F.sub b hb), fun h h' kb ⟨x, y⟩ =>
    ⟨hX i _ _ _ hWf kb x, hFp j _ _ _ (fun b hb q => hfpb b hb (F.sub b q)) kb y⟩⟩
  have alfp : ∀ j h, St' j h → ∀ b ∈ wr, h.get? b ≠ none := fun j h st b hb => hwal j h st b hb
  have I2 : Inv (wr ++ bad) s₀ env (fsI 0 (wr ++ bad)) (fun h => XI 0 h ∧ St' 0 h) s₂ :=
    I.regrow' (hf 0) k2 (fun b hb => (List.mem_append.mp hb).elim (fun q => .inr (hwrn b q)) .inl) (fun b hb => (List.mem_append.mp hb).elim (hwal 0 _ hst b) (I.al.le (Keeps.le k2) b)) ⟨hX 0 [] _ _ (fun _ _ q => nomatch q) (Keeps.le k2).but I.x, hst⟩
  have keepfp : ∀ b ∈ fp, b ∉ wr → ∀ h, But wr s₂.heap h → h.get? b ≠ none := fun b hb hn h kb e => by
    cases q : s₂.heap.get? b with
    | none => exact hfp b hb q
    | some o => rw [kb b o hn q] at e; cases e
  refine codeAny_forLoop (fun m s' => ∃ i, i ≤ n ∧ m = n - i ∧ Inv (wr ++ bad) s₀ env (fsI i (wr ++ bad)) (fun h => XI i h ∧ St' i h) s' ∧ Al fp s'.heap) ?_ n ⟨0, Nat.zero_le _, rfl, I2, hfp⟩
  rintro m s' ⟨i, hi, rfl, Ii, afp⟩
  by_cases hlt : i < n
  · refine Wk.item i _ _ _ hlt Ii.x.2 fun v h₁ tk₁ h0 hst₁ hk₁ => ?_
    have kb : But wr s'.heap h₁ := fun b o hb e => hk₁ b o hb e
    have kB : But (wr ++ bad) s'.heap h₁ := kb.more fun b hb => List.mem_append_left _ hb
    have afp1 : Al fp h₁ := fun b hb e => by
      by_cases q : b ∈ wr
      · exact hwal _ _ hst₁ b q e
      · cases z : s'.heap.get? b with
        | none => exact afp b hb z
        | some o => rw [kb b o q z] at e; cases e
    have I4 : Inv (wr ++ bad) s₀ env (fsI i (wr ++ bad)) (fun h => XI i h ∧ St' (i + 1) h) { s' with heap := h₁, toks := tk₁ } := by
      obtain ⟨m, cs, a, b, c⟩ := Ii.ctx.ex
      refine ⟨?_, fun b o e => hk₁ b o (fun q => by rw [dead b q] at e; cases e) (Ii.base b o e), ⟨m, cs, a.at' fun o e => hk₁ _ o (fun q => hwf _ q (.head _)) e, fun y d hm => ?_, fun y P hl => ?_⟩, ⟨hX i _ _ _ hWw kb Ii.x.1, hst₁⟩, Ii.st, fun b hb e => ?_⟩
      · obtain ⟨h, t, rfl⟩ := Ii.same
        exact ⟨h₁, tk₁, rfl⟩
      · obtain ⟨o, ho, hd⟩ := b y d hm
        exact ⟨o, hk₁ _ o (fun q => hwf _ q (List.mem_cons_of_mem _ (List.mem_map.mpr ⟨_, hm, rfl⟩))) ho, hd⟩
      · obtain ⟨v, e, p⟩ := c y P hl
        exact ⟨v, e, Ii.st y P hl _ _ _ kB p⟩
      · by_cases hw : b ∈ wr
        · exact hwal _ _ hst₁ b hw e
        · cases q : s'.heap.get? b with
          | none => exact Ii.al b hb q
          | some o => rw [show h₁.get? b = some o from hk₁ b o hw q] at e; cases e
    refine wpAny_assign_Name (st_storeB (P := Pv i) (Fs i (i + 1)) I4 (hP i _ _ _ (hPv i v hlt h0)) (hP i).st hx fun s4 bt I5 => ?_)
    have afp4 : Al fp s4.heap := fun b hb e => by
      cases z : h₁.get? b with
      | none => exact afp1 b hb z
      | some o => rw [bt b o (fun q => hfpb b hb (F.sub b q)) z] at e; cases e
    have hFp2 : FpX fp (fun h => St' (i + 1) h ∧ Al fp h) := fun V h h' d kb a => ⟨hFp _ V h h' d kb a.1, fun b hb e => by
      cases z : h.get? b with
      | none => exact a.2 b hb z
      | some o => rw [kb b o (d b hb) z] at e; cases e⟩
    have F2 : FrOk (wr ++ bad) s₀ env (fun h => XI i h ∧ (St' (i + 1) h ∧ Al fp h)) := ⟨F.ok, F.fresh, fun b hb => List.mem_append_right _ (F.sub b hb), fun h h' kb ⟨x, y⟩ =>
      ⟨hX i _ _ _ hWf kb x, hFp2 _ _ _ (fun b hb q => hfpb b hb (F.sub b q)) kb y⟩⟩
    refine wpAny_mono (body_ok i (wr ++ bad) s4 (fun h => St' (i + 1) h ∧ Al fp h) fp _ hlt (fun b hb => List.mem_append_right _ hb) hFp2 hfpb afp4 F2 (I5.withX ⟨I5.x.1, I5.x.2, afp4⟩)) (fun f s5 ⟨e, q⟩ => ?_) fun _ _ e => e
    subst e
    exact ⟨n - (i + 1), by omega, i + 1, hlt, rfl, q.withX ⟨q.x.1, q.x.2.1⟩, q.x.2.2⟩
  · have hin : i = n := by omega
    subst hin
    refine Wk.done _ _ _ Ii.x.2 fun h₁ tk₁ hk₁ => wpAny_execs_nil (k _ ?_)
    have kb : But wr s'.heap h₁ := fun b o hb e => hk₁ b o hb e
    have kB : But (wr ++ bad) s'.heap h₁ := kb.more fun b hb => List.mem_append_left _ hb
    have hsub : ∀ b ∈ bad, b ∈ wr ++ bad ∨ h₁.get? b = none := fun b hb => .inl (List.mem_append_right _ hb)
    obtain ⟨m, cs, a, b, c⟩ := Ii.ctx.ex
    refine ⟨?_, fun b o e => hk₁ b o (fun q => by rw [dead b q] at e; cases e) (Ii.base b o e), ⟨m, cs, a.at' fun o e => hk₁ _ o (fun q => hwf _ q (.head _)) e, fun y d hm => ?_, fun y P hl => ?_⟩, hX i _ _ _ hWw kb Ii.x.1, (hf i).st bad, fun b hb e => ?_⟩
    · obtain ⟨h, t, rfl⟩ := Ii.same
      exact ⟨h₁, tk₁, rfl⟩
    · obtain ⟨o, ho, hd⟩ := b y d hm
      exact ⟨o, hk₁ _ o (fun q => hwf _ q (List.mem_cons_of_mem _ (List.mem_map.mpr ⟨_, hm, rfl⟩))) ho, hd⟩
    · obtain ⟨P', hP', kk⟩ := (hf i).grow _ _ h₁ hsub y P hl
      obtain ⟨v, e, p⟩ := c y P' hP'
      exact ⟨v, e, kk v (Ii.st y P' hP' _ _ _ kB p)⟩
    · have hbw : b ∉ wr := fun q => hfpb b (Wk.sub b q) hb
      cases q : s'.heap.get? b with
      | none => exact Ii.al b (List.mem_append_right _ hb) q
      | some o => rw [show h₁.get? b = some o from hk₁ b o hbw q] at e; cases e
end
end Mine

end
section
open PySem PySem.Spec PySem.Calls PySem.W PyProof.Rows
set_option Elab.async false
set_option linter.unusedVariables false
set_option linter.unusedSimpArgs false
set_option maxRecDepth 100000
namespace Mine
def lawStmt : Stmt := PySem.Challenge.pw_fr0005_01.main.body.getLast?.getD (.Pass ⟨0, 0, 0, 0⟩)
def lawBody : List Stmt := match lawStmt with | .FunctionDef _ _ b _ _ _ _ _ _ _ => b | _ => []
def lawScope : Scope := match lawStmt with | .FunctionDef _ _ _ _ _ _ sc _ _ _ => sc | _ => default
def lawEnv (L fa : Addr) (cd : Value) : Env := envOfC "law" lawScope L fa cd
/-- the cells of the law's frame -/
theorem lawCells (L fa : Addr) (cd : Value) : (lawEnv L fa cd).cells = ([("long", L + 5), ("other", L + 4), ("b", L + 3), ("a", L + 2), ("script", L + 1)] : List (Str × Addr)) := rfl
theorem nd6 (L : Nat) : (L :: [L + 5, L + 4, L + 3, L + 2, L + 1]).Nodup := by
  simp only [List.nodup_cons, List.mem_cons, List.not_mem_nil, or_false, not_or, List.nodup_nil, and_true, not_false_eq_true]
  refine ⟨⟨?_, ?_, ?_, ?_, ?_⟩, ⟨?_, ?_, ?_, ?_⟩, ⟨?_, ?_, ?_⟩, ⟨?_, ?_⟩, ?_⟩ <;> omega
theorem nd12 (L : Nat) : [L + 1, L + 2].Nodup := by simp
theorem pow3_ne (i : Nat) : (3 : Int) ^ i ≠ 0 := by
  have : (0 : Int) < 3 ^ i := Int.pow_pos (by decide)
  omega
theorem pow3_lt {i : Nat} (h : i < 8) : ((3 : Int) ^ i).natAbs < 1073741824 := by
  have : i = 0 ∨ i = 1 ∨ i = 2 ∨ i = 3 ∨ i = 4 ∨ i = 5 ∨ i = 6 ∨ i = 7 := by omega
  rcases this with rfl | rfl | rfl | rfl | rfl | rfl | rfl | rfl <;> decide
theorem lawOk (L fa : Addr) (cd : Value) : EnvOk (lawEnv L fa cd) := by
  refine ⟨rfl, rfl, rfl, ?_, ?_⟩
  · rw [lawCells]
    show ([("long" : Str), "other", "b", "a", "script"] : List Str).Nodup
    decide
  · rw [lawCells]
    exact nd6 L
def st (i : Nat) : Stmt := lawBody.getD i (.Pass ⟨0, 0, 0, 0⟩)
theorem lawBody_eq : lawBody = [st 0, st 1, st 2, st 3, st 4, st 5, st 6, st 7, st 8, st 9] := rfl
/-- the letters -/
def xyz : List Nat := [120, 121, 122]
def letter (ns : List Int) (a : Int) (off : Nat) (dflt : Nat → Int) (k : Nat) : Nat := xyz.getD (((a.fdiv (3 ^ k) + (if k + off < ns.length then ns.getD (k + off) 0 else dflt k)).fmod 3).toNat) 0
def txt (ns : List Int) (a : Int) (off : Nat) (dflt : Nat → Int) : List Nat := (List.range (a.fmod 8).toNat).map (letter ns a off dflt)
theorem xyz_get {i : Int} : xyz[(i.fmod 3).toNat]? = some (xyz.getD (i.fmod 3).toNat 0) := by
  have h1 : 0 ≤ i.fmod 3 := Int.fmod_nonneg_of_pos _ (by decide)
  have h2 : i.fmod 3 < 3 := Int.fmod_lt_of_pos _ (by decide)
  have : (i.fmod 3).toNat < xyz.length := by show _ < 3; omega
  simp [List.getD_eq_getElem?_getD, List.getElem?_eq_getElem this]
theorem xyz_lt {i : Nat} : xyz.getD i 0 < 128 := by
  rcases i with _ | _ | _ | i <;> simp [xyz]
theorem txt_len {ns a off d} : (txt ns a off d).length ≤ 7 := by
  have h1 : 0 ≤ a.fmod 8 := Int.fmod_nonneg_of_pos _ (by decide)
  have h2 : a.fmod 8 < 8 := Int.fmod_lt_of_pos _ (by decide)
  simp [txt]; omega
theorem txt_asc {ns a off d} : ∀ c ∈ txt ns a off d, c < 128 := fun c hc => by
  obtain ⟨k, _, rfl⟩ := List.mem_map.mp hc
  exact xyz_lt
theorem ofs_xyz : Str.ofString "xyz" = ⟨xyz.toArray⟩ := by decide
section
variable {prog : Program} {w : World} {A : Around} {bad : List Addr} {s₀ s : Shared} {E : Value → Shared → Prop} {mg mb : Str → Option Value} {L fa : Addr} {cd : Value} {X : Heap → Prop}

/-- one letter of a text -/
theorem kstr (x : Str) : x.length = x.cps.size := rfl
theorem join_chars (l : List Nat) : Txt.join ⟨#[]⟩ (l.map fun c => (⟨#[c]⟩ : Str)) = ⟨l.toArray⟩ := by
  rw [eq_of_beq (join_plain_closes _ _)]
  have e : ∀ l : List Nat, (Str.join ⟨#[]⟩ (l.map fun c => (⟨#[c]⟩ : Str))).cps = l.toArray := by
    intro l
    induction l with
    | nil => rfl
    | cons c l ih =>
      cases l with
      | nil => rfl
      | cons d l =>
        show (Str.cps (⟨#[c]⟩ ++ ⟨#[]⟩ ++ Str.join ⟨#[]⟩ ((d :: l).map fun c => (⟨#[c]⟩ : Str)))) = _
        show #[c] ++ #[] ++ (Str.join ⟨#[]⟩ ((d :: l).map fun c => (⟨#[c]⟩ : Str))).cps = _
        rw [ih]; simp
  have := e l
  cases h : Str.join ⟨#[]⟩ (l.map fun c => (⟨#[c]⟩ : Str)) with
  | mk cps => rw [h] at this; simp at this; rw [this]
theorem law0 {ns : List Int} {Q : Flow → Shared → Prop} (hh : A.handled = none) (hn : ns.length ≤ 63) (F : FrOk bad s₀ (lawEnv L fa cd) X) (I : Inv bad s₀ (lawEnv L fa cd) [("script", isRd bad (.list (ns.map .int)))] X s)
    (k : ∀ s', Inv bad s₀ (lawEnv L fa cd) [("b", isInt (ns.getD 1 0)), ("a", isInt (ns.getD 0 0)), ("script", isRd bad (.list (ns.map .int)))] X s' → Q .next s') :
    wpAny (model prog w) A (exec (st 0) (lawEnv L fa cd)) Q E s := by
  have es : ∀ pos, Tr prog w A s.heap (eval (.Name "script" pos) (lawEnv L fa cd)) (isRd bad (.list (ns.map .int))) := fun pos => ev_name F.ok I.ctx (by rfl) (mo_rd _)
  have e1 : Tr prog w A s.heap (eval (match st 0 with | .Assign _ v _ => v | _ => .Constant .none 0 ⟨0, 0, 0, 0⟩) (lawEnv L fa cd)) (isRd bad (.list ((((ns.map PyData.int).take 2) ++ [PyData.int 0, PyData.int 0]).take 2))) := by
    refine sl_take (k := 2) I.al (ev_bin (mo_rd _) (sl_take (k := 2) I.al (es _) ?_ (ev_int _ _ _)) (P2 := isRd bad (.list [.int 0, .int 0])) ((ev_list I.al (Ps := [isInt 0, isInt 0]) (mos_cons (pu_int _).mo (mos_cons (pu_int _).mo mos_nil)) (es_cons (pu_int _).mo (ev_int _ _ _) (es_cons (pu_int _).mo (ev_int _ _ _) es_nil)) (small rfl)).weak fun v g _ p => ?_) fun v1 v2 g lg a b => op_addl (I.al.le lg) a b ?_) ?_ (ev_int _ _ _)
    · simp; omega
    · exact ls_rd (ds := [.int 0, .int 0]) (by
        obtain ⟨l, vs, rfl, nb, a, b⟩ := p
        refine ⟨l, vs, rfl, nb, a, ?_⟩
        generalize vs.toList = ws at b
        cases b with
        | cons p q =>
          cases q with
          | cons p' q => cases q; exact .cons (rd_int p) (.cons (rd_int p') .nil))
    · simp; omega
    · simp; omega
  have e2 : (((ns.map PyData.int).take 2) ++ [PyData.int 0, PyData.int 0]).take 2 = [PyData.int (ns.getD 0 0), PyData.int (ns.getD 1 0)] := by
    rcases ns with _ | ⟨x, _ | ⟨y, r⟩⟩ <;> simp
  rw [e2] at e1
  refine st_unpackL (names := ["a", "b"]) hh F I e1 (by rfl) (tgt_name (tgt_name .nil)) (fun x hx => ?_) fun s' I' => k s' (I'.weak fun p hp => ?_)
  · simp only [List.mem_cons, List.not_mem_nil, or_false] at hx
    rcases hx with rfl | rfl
    · exact .inr ⟨by kernel_rfl, by kernel_rfl⟩
    · exact .inr ⟨by kernel_rfl, by kernel_rfl⟩
  · simp only [List.mem_cons, List.not_mem_nil, or_false] at hp
    rcases hp with rfl | rfl | rfl
    · exact ⟨isRd bad (.int (ns.getD 1 0)), by rfl, fun v p => int_rd p, (pu_int _).st⟩
    · exact ⟨isRd bad (.int (ns.getD 0 0)), by rfl, fun v p => int_rd p, (pu_int _).st⟩
    · exact ⟨_, by rfl, fun v p => p, st_rd _ _⟩
/-- a comprehension's own knowledge of the cells around -/
theorem cap_of {env : Env} {cl : List (Str × Addr)} {ffs : List Addr → List (Str × HP)} {fs : List (Str × HP)} (hf : BpF ffs) (sub : ∀ p ∈ cl, p ∈ env.cells) (nd1 : (cl.map (·.1)).Nodup) (nd2 : (cl.map (·.2)).Nodup)
    (names : ∀ B, ∀ p ∈ ffs B, env.kindOf p.1 = some .cell ∧ (cl.lookup p.1).isSome = true) (has : ∀ p ∈ ffs bad, fs.lookup p.1 = some p.2) : Cap env cl ffs bad fs where
  sub := fun y c h => sub (y, c) h
  nd1 := nd1
  nd2 := nd2
  names := names
  has := has
  grow := fun B h k y P' e => hf.grow bad B h k y P' e
  st := fun B y P e => hf.st B y P e
theorem law1 {ns : List Int} {a b : Int} {Q : Flow → Shared → Prop} (S : Stc mg mb w.params s.heap) (hh : A.handled = none) (hn : ns.length ≤ 63) (F : FrOk bad s₀ (lawEnv L fa cd) X) {fs : List (Str × HP)} (I : Inv bad s₀ (lawEnv L fa cd) fs X s)
    (ha : fs.lookup ("a" : Str) = some (isInt a)) (hsc : fs.lookup ("script" : Str) = some (isRd bad (.list (ns.map .int))))
    (k : ∀ s', Inv bad s₀ (lawEnv L fa cd) (("one", isStr ⟨(txt ns a 2 fun _ => 0).toArray⟩) :: fs) X s' → Q .next s') :
    wpAny (model prog w) A (exec (st 1) (lawEnv L fa cd)) Q E s := by
  have hl8 : (0 : Int) ≤ a.fmod 8 := Int.fmod_nonneg_of_pos _ (by decide)
  have hl9 : a.fmod 8 < 8 := Int.fmod_lt_of_pos _ (by decide)
  have hlen := txt_len (ns := ns) (a := a) (off := 2) (d := fun _ => 0)
  refine st_assign (P := isStr ⟨(txt ns a 2 fun _ => 0).toArray⟩) F I ?_ (pu_str _).st k (.inl (by kernel_rfl))
  rw [← join_chars]
  have ee : (((txt ns a 2 fun _ => 0).map fun c => (⟨#[c]⟩ : Str)).map PyData.str).length = (a.fmod 8).toNat := by simp [txt]
  refine ev_join (bad := bad) ?_ (ev_str (Str.ofString "") _ _) ?_
  · simp only [List.map_map, List.length_map]
    have : ((txt ns a 2 fun _ => 0).map (Str.length ∘ fun c => (⟨#[c]⟩ : Str))).sum = (txt ns a 2 fun _ => 0).length := by
      induction (txt ns a 2 fun _ => 0) with
      | nil => rfl
      | cons c l ih => simp only [List.map_cons, List.sum_cons, ih, List.length_cons, Function.comp]; show 1 + _ = _; omega
    rw [this]
    show _ + _ * 0 ≤ _
    omega
  · refine ev_comp (cl := [("script", L + 1), ("a", L + 2)]) (ffs := fun B => [("a", isInt a), ("script", isRd B (.list (ns.map .int)))]) (n := (a.fmod 8).toNat) (Pv := fun i _ => isInt (0 + i * 1)) F.ok I.ctx I.al I.mo (by kernel_rfl)
      (cap_of (BpF.cons (Bp.of_pure (pu_int a)) (BpF.cons (Bp.rd _) BpF.nil)) ?_ ?_ ?_ ?_ ?_) (src_range (a := 0) (b := a.fmod 8) (c := 1) hh I.al ?_ ?_ ?_) (by omega) ee (fun i => Bp.of_pure (pu_int _)) (nocell (by kernel_rfl)) (by rfl) (localOnce (by kernel_rfl)) (by kernel_rfl) ?_ ?_
    · intro p hp
      simp only [List.mem_cons, List.not_mem_nil, or_false] at hp
      rw [lawCells]
      rcases hp with rfl | rfl <;> simp
    · show ([("script" : Str), "a"] : List Str).Nodup
      decide
    · exact nd12 L
    · intro B p hp
      simp only [List.mem_cons, List.not_mem_nil, or_false] at hp
      rcases hp with rfl | rfl <;> exact ⟨by kernel_rfl, by kernel_rfl⟩
    · intro p hp
      simp only [List.mem_cons, List.not_mem_nil, or_false] at hp
      rcases hp with rfl | rfl
      · exact ha
      · exact hsc
    · exact small_one (by decide) (by decide) (by omega) (by omega)
    · simp [Builtin.Range.rangeSize]; omega
    · exact ev_callT (Ps := [isInt (a.fmod 8)]) (S.built F.ok (n_range _) bi_range) (es_cons (pu_int _).mo (ev_bin (pu_int _).mo (ev_name F.ok I.ctx ha (pu_int _).mo) (ev_int 8 _ _) fun v1 v2 g _ p q => op_mod (by decide) p q) es_nil) fun vs g _ q => call_range1 q
    · intro p hp C
      simp only [List.mem_cons, List.not_mem_nil, or_false] at hp
      rcases hp with rfl | rfl <;> kernel_rfl
    · intro i g C B hi ok le al hb c
      have SG : Stc mg mb w.params g := S.le le
      have e0 : (0 + (i : Int) * 1) = i := by omega
      rw [e0] at c
      generalize hcenv : compEnvC _ _ C _ = cenv at ok c ⊢
      have hkk : ∀ pos, Tr prog w A g (eval (.Name "k" pos) cenv) (isInt i) := fun pos => ev_name ok c lookup_cons_self (pu_int _).mo
      have hka : ∀ pos, Tr prog w A g (eval (.Name "a" pos) cenv) (isInt a) := fun pos => ev_name ok c (by rfl) (pu_int _).mo
      have hks : ∀ pos, Tr prog w A g (eval (.Name "script" pos) cenv) (isRd B (.list (ns.map .int))) := fun pos => ev_name ok c (by rfl) (mo_rd _)
      have hgl : cenv.kindOf "len" = some .globalImplicit := by rw [← hcenv]; kernel_rfl
      have kp : ∀ p1 p2 p3 kd, Tr prog w A g (eval (.BinOp (.Name "k" p1) .Add (.Constant (.int 2) kd p2) p3) cenv) (isInt (i + 2)) := fun p1 p2 p3 kd => ev_bin (pu_int _).mo (hkk _) (ev_int 2 _ _) fun v1 v2 g _ p q => op_add p q
      refine Tr.weak (P := isStr ⟨#[letter ns a 2 (fun _ => 0) i]⟩) ?_ fun v g' _ p => ⟨_, (by simp [txt, hi] : _ = some (PyData.str ⟨#[letter ns a 2 (fun _ => 0) i]⟩)), rd_str p⟩
      exact ev_sub (P1 := isStr ⟨xyz.toArray⟩) (P2 := isInt ((a.fdiv (3 ^ i) + (if i + 2 < ns.length then ns.getD (i + 2) 0 else 0)).fmod 3)) (pu_str _).mo (by rw [← ofs_xyz]; exact ev_str _ _ _)
        (ev_bin (pu_int _).mo (ev_bin (P1 := isInt (a.fdiv (3 ^ i))) (P2 := isInt (if i + 2 < ns.length then ns.getD (i + 2) 0 else 0)) (pu_int _).mo
          (ev_bin (P2 := isInt (3 ^ i)) (pu_int _).mo (hka _) (ev_bin (pu_int _).mo (ev_int 3 _ _) (hkk _) fun v1 v2 g _ p q => op_pow (by omega) (by decide) p q) fun v1 v2 g _ p q => op_floordiv (pow3_ne i) (pow3_lt (by omega)) p q)
          (ev_if (b := decide ((i : Int) + 2 < ns.length)) (ts_cmp (pu_int _).mo (kp _ _ _ _) (ev_callB (Ps := [isRd B (.list (ns.map .int))]) (ev_built ok SG.G (mg_none_of SG.K SG.G.g (n_len _)) bi_len (hx := hgl)) (es_cons (mo_rd _) (hks _) es_nil) fun vs g _ q => (call_lenR (by simp; omega) q).weak fun v g _ p => (by simpa using p : isInt (ns.length : Int) v g)) fun v1 v2 g _ p q => op_lt p q)
            (fun hb => by
              have hlt : i + 2 < ns.length := by have := of_decide_eq_true hb; omega
              rw [if_pos hlt]
              exact (ev_sub (mo_rd _) (hks _) (kp _ _ _ _) fun v1 v2 g _ p q => sub_rd (d := .int (ns.getD (i + 2) 0)) (by omega) (by omega) (by
                have : ((i : Int) + 2).toNat = i + 2 := by omega
                rw [this]; simp [hlt]) p q).weak fun v g _ r => int_rd r)
            (fun hb => by
              have hlt : ¬ i + 2 < ns.length := by have := of_decide_eq_false hb; omega
              rw [if_neg hlt]
              exact ev_int 0 _ _))
          fun v1 v2 g _ p q => op_add p q) (ev_int 3 _ _) fun v1 v2 g _ p q => op_mod (by decide) p q)
        fun v1 v2 g _ p q => by
          have h1 : 0 ≤ (a.fdiv (3 ^ i) + (if i + 2 < ns.length then ns.getD (i + 2) 0 else 0)).fmod 3 := Int.fmod_nonneg_of_pos _ (by decide)
          have h2 : (a.fdiv (3 ^ i) + (if i + 2 < ns.length then ns.getD (i + 2) 0 else 0)).fmod 3 < 3 := Int.fmod_lt_of_pos _ (by decide)
          refine sub_str (i := ((a.fdiv (3 ^ i) + (if i + 2 < ns.length then ns.getD (i + 2) 0 else 0)).fmod 3).toNat) xyz_get (by omega) p (by rw [Int.toNat_of_nonneg h1]; exact q)
end
end Mine

end
section
open PySem PySem.Spec PySem.Calls PySem.W PyProof.Rows
set_option Elab.async false
set_option linter.unusedVariables false
set_option linter.unusedSimpArgs false
set_option maxRecDepth 100000
namespace Mine
theorem nd13 (L : Nat) : [L + 1, L + 3].Nodup := by simp
section
variable {prog : Program} {w : World} {A : Around} {bad : List Addr} {s₀ s : Shared} {E : Value → Shared → Prop} {mg mb : Str → Option Value} {L fa : Addr} {cd : Value} {X : Heap → Prop}
theorem law2 {ns : List Int} {a b : Int} {Q : Flow → Shared → Prop} (S : Stc mg mb w.params s.heap) (hh : A.handled = none) (hn : ns.length ≤ 63) (F : FrOk bad s₀ (lawEnv L fa cd) X) {fs : List (Str × HP)} (I : Inv bad s₀ (lawEnv L fa cd) fs X s)
    (ha : fs.lookup ("b" : Str) = some (isInt b)) (hsc : fs.lookup ("script" : Str) = some (isRd bad (.list (ns.map .int))))
    (k : ∀ s', Inv bad s₀ (lawEnv L fa cd) (("other", isStr ⟨(txt ns b 3 fun k => (k : Int)).toArray⟩) :: fs) X s' → Q .next s') :
    wpAny (model prog w) A (exec (st 2) (lawEnv L fa cd)) Q E s := by
  have hl8 : (0 : Int) ≤ b.fmod 8 := Int.fmod_nonneg_of_pos _ (by decide)
  have hl9 : b.fmod 8 < 8 := Int.fmod_lt_of_pos _ (by decide)
  have hlen := txt_len (ns := ns) (a := b) (off := 3) (d := fun k => (k : Int))
  refine st_assign (P := isStr ⟨(txt ns b 3 fun k => (k : Int)).toArray⟩) F I ?_ (pu_str _).st k (.inr ⟨by kernel_rfl, by kernel_rfl⟩)
  rw [← join_chars]
  have ee : (((txt ns b 3 fun k => (k : Int)).map fun c => (⟨#[c]⟩ : Str)).map PyData.str).length = (b.fmod 8).toNat := by simp [txt]
  refine ev_join (bad := bad) ?_ (ev_str (Str.ofString "") _ _) ?_
  · simp only [List.map_map, List.length_map]
    have : ((txt ns b 3 fun k => (k : Int)).map (Str.length ∘ fun c => (⟨#[c]⟩ : Str))).sum = (txt ns b 3 fun k => (k : Int)).length := by
      induction (txt ns b 3 fun k => (k : Int)) with
      | nil => rfl
      | cons c l ih => simp only [List.map_cons, List.sum_cons, ih, List.length_cons, Function.comp]; show 1 + _ = _; omega
    rw [this]
    show _ + _ * 0 ≤ _
    omega
  · refine ev_comp (cl := [("script", L + 1), ("b", L + 3)]) (ffs := fun B => [("b", isInt b), ("script", isRd B (.list (ns.map .int)))]) (n := (b.fmod 8).toNat) (Pv := fun i _ => isInt (0 + i * 1)) F.ok I.ctx I.al I.mo (by kernel_rfl)
      (cap_of (BpF.cons (Bp.of_pure (pu_int b)) (BpF.cons (Bp.rd _) BpF.nil)) ?_ ?_ ?_ ?_ ?_) (src_range (a := 0) (b := b.fmod 8) (c := 1) hh I.al ?_ ?_ ?_) (by omega) ee (fun i => Bp.of_pure (pu_int _)) (nocell (by kernel_rfl)) (by rfl) (localOnce (by kernel_rfl)) (by kernel_rfl) ?_ ?_
    · intro p hp
      simp only [List.mem_cons, List.not_mem_nil, or_false] at hp
      rw [lawCells]
      rcases hp with rfl | rfl <;> simp
    · show ([("script" : Str), "b"] : List Str).Nodup
      decide
    · exact nd13 L
    · intro B p hp
      simp only [List.mem_cons, List.not_mem_nil, or_false] at hp
      rcases hp with rfl | rfl <;> exact ⟨by kernel_rfl, by kernel_rfl⟩
    · intro p hp
      simp only [List.mem_cons, List.not_mem_nil, or_false] at hp
      rcases hp with rfl | rfl
      · exact ha
      · exact hsc
    · exact small_one (by decide) (by decide) (by omega) (by omega)
    · simp [Builtin.Range.rangeSize]; omega
    · exact ev_callT (Ps := [isInt (b.fmod 8)]) (S.built F.ok (n_range _) bi_range) (es_cons (pu_int _).mo (ev_bin (pu_int _).mo (ev_name F.ok I.ctx ha (pu_int _).mo) (ev_int 8 _ _) fun v1 v2 g _ p q => op_mod (by decide) p q) es_nil) fun vs g _ q => call_range1 q
    · intro p hp C
      simp only [List.mem_cons, List.not_mem_nil, or_false] at hp
      rcases hp with rfl | rfl <;> kernel_rfl
    · intro i g C B hi ok le al hb c
      have SG : Stc mg mb w.params g := S.le le
      have e0 : (0 + (i : Int) * 1) = i := by omega
      rw [e0] at c
      generalize hcenv : compEnvC _ _ C _ = cenv at ok c ⊢
      have hkk : ∀ pos, Tr prog w A g (eval (.Name "k" pos) cenv) (isInt i) := fun pos => ev_name ok c lookup_cons_self (pu_int _).mo
      have hka : ∀ pos, Tr prog w A g (eval (.Name "b" pos) cenv) (isInt b) := fun pos => ev_name ok c (by rfl) (pu_int _).mo
      have hks : ∀ pos, Tr prog w A g (eval (.Name "script" pos) cenv) (isRd B (.list (ns.map .int))) := fun pos => ev_name ok c (by rfl) (mo_rd _)
      have hgl : cenv.kindOf "len" = some .globalImplicit := by rw [← hcenv]; kernel_rfl
      have kp : ∀ p1 p2 p3 kd, Tr prog w A g (eval (.BinOp (.Name "k" p1) .Add (.Constant (.int 3) kd p2) p3) cenv) (isInt (i + 3)) := fun p1 p2 p3 kd => ev_bin (pu_int _).mo (hkk _) (ev_int 3 _ _) fun v1 v2 g _ p q => op_add p q
      refine Tr.weak (P := isStr ⟨#[letter ns b 3 (fun k => (k : Int)) i]⟩) ?_ fun v g' _ p => ⟨_, (by simp [txt, hi] : _ = some (PyData.str ⟨#[letter ns b 3 (fun k => (k : Int)) i]⟩)), rd_str p⟩
      exact ev_sub (P1 := isStr ⟨xyz.toArray⟩) (P2 := isInt ((b.fdiv (3 ^ i) + (if i + 3 < ns.length then ns.getD (i + 3) 0 else (i : Int))).fmod 3)) (pu_str _).mo (by rw [← ofs_xyz]; exact ev_str _ _ _)
        (ev_bin (pu_int _).mo (ev_bin (P1 := isInt (b.fdiv (3 ^ i))) (P2 := isInt (if i + 3 < ns.length then ns.getD (i + 3) 0 else (i : Int))) (pu_int _).mo
          (ev_bin (P2 := isInt (3 ^ i)) (pu_int _).mo (hka _) (ev_bin (pu_int _).mo (ev_int 3 _ _) (hkk _) fun v1 v2 g _ p q => op_pow (by omega) (by decide) p q) fun v1 v2 g _ p q => op_floordiv (pow3_ne i) (pow3_lt (by omega)) p q)
          (ev_if (b := decide ((i : Int) + 3 < ns.length)) (ts_cmp (pu_int _).mo (kp _ _ _ _) (ev_callB (Ps := [isRd B (.list (ns.map .int))]) (ev_built ok SG.G (mg_none_of SG.K SG.G.g (n_len _)) bi_len (hx := hgl)) (es_cons (mo_rd _) (hks _) es_nil) fun vs g _ q => (call_lenR (by simp; omega) q).weak fun v g _ p => (by simpa using p : isInt (ns.length : Int) v g)) fun v1 v2 g _ p q => op_lt p q)
            (fun hb => by
              have hlt : i + 3 < ns.length := by have := of_decide_eq_true hb; omega
              rw [if_pos hlt]
              exact (ev_sub (mo_rd _) (hks _) (kp _ _ _ _) fun v1 v2 g _ p q => sub_rd (d := .int (ns.getD (i + 3) 0)) (by omega) (by omega) (by
                have : ((i : Int) + 3).toNat = i + 3 := by omega
                rw [this]; simp [hlt]) p q).weak fun v g _ r => int_rd r)
            (fun hb => by
              have hlt : ¬ i + 3 < ns.length := by have := of_decide_eq_false hb; omega
              rw [if_neg hlt]
              exact hkk _))
          fun v1 v2 g _ p q => op_add p q) (ev_int 3 _ _) fun v1 v2 g _ p q => op_mod (by decide) p q)
        fun v1 v2 g _ p q => by
          have h1 : 0 ≤ (b.fdiv (3 ^ i) + (if i + 3 < ns.length then ns.getD (i + 3) 0 else (i : Int))).fmod 3 := Int.fmod_nonneg_of_pos _ (by decide)
          have h2 : (b.fdiv (3 ^ i) + (if i + 3 < ns.length then ns.getD (i + 3) 0 else (i : Int))).fmod 3 < 3 := Int.fmod_lt_of_pos _ (by decide)
          refine sub_str (i := ((b.fdiv (3 ^ i) + (if i + 3 < ns.length then ns.getD (i + 3) 0 else (i : Int))).fmod 3).toNat) xyz_get (by omega) p (by rw [Int.toNat_of_nonneg h1]; exact q)
end
end Mine

end
section
open PySem PySem.Spec PySem.Calls PySem.W PyProof.Rows
set_option Elab.async false
set_option linter.unusedVariables false
set_option linter.unusedSimpArgs false
set_option maxRecDepth 100000
namespace Mine
/-- the longest common row of letters -/
def lcs : List Nat → List Nat → Nat
  | [], _ => 0
  | _ :: _, [] => 0
  | x :: xs, y :: ys => if x = y then 1 + lcs xs ys else max (lcs xs (y :: ys)) (lcs (x :: xs) ys)
termination_by a b => a.length + b.length
theorem lcs_nil (a : List Nat) : lcs a [] = 0 := by cases a <;> simp [lcs]
def tt (l1 l2 : List Nat) (i j : Nat) : Int := lcs (l1.drop i) (l2.drop j)
theorem tt_end1 {l1 l2 : List Nat} {i j : Nat} (h : l1.length ≤ i) : tt l1 l2 i j = 0 := by
  unfold tt; rw [List.drop_of_length_le h]; simp [lcs]
theorem tt_end2 {l1 l2 : List Nat} {i j : Nat} (h : l2.length ≤ j) : tt l1 l2 i j = 0 := by
  unfold tt; rw [List.drop_of_length_le h, lcs_nil]; rfl
theorem tt_step {l1 l2 : List Nat} {i j : Nat} {x y : Nat} (hi : l1[i]? = some x) (hj : l2[j]? = some y) : tt l1 l2 i j = if x = y then 1 + tt l1 l2 (i + 1) (j + 1) else max (tt l1 l2 (i + 1) j) (tt l1 l2 i (j + 1)) := by
  obtain ⟨a, rfl⟩ := List.getElem?_eq_some_iff.mp hi
  obtain ⟨b, rfl⟩ := List.getElem?_eq_some_iff.mp hj
  unfold tt
  rw [List.drop_eq_getElem_cons a, List.drop_eq_getElem_cons b, lcs]
  split <;> omega
/-- the table after i rows and j places of the next one -/
def tbl (l1 l2 : List Nat) (i j r c : Nat) : Int := if l1.length ≤ r + i ∨ (r + i + 1 = l1.length ∧ l2.length ≤ c + j) then tt l1 l2 r c else 0
theorem tbl_start (l1 l2 : List Nat) (r c : Nat) : tbl l1 l2 0 0 r c = 0 := by
  unfold tbl
  split
  · rename_i h
    rcases h with h | h
    · exact tt_end1 h
    · exact tt_end2 h.2
  · rfl
theorem tbl_next (l1 l2 : List Nat) (i r c : Nat) : tbl l1 l2 i l2.length r c = tbl l1 l2 (i + 1) 0 r c := by
  unfold tbl
  by_cases h1 : l1.length ≤ r + i
  · rw [if_pos (.inl h1), if_pos (.inl (by omega))]
  · by_cases h2 : r + i + 1 = l1.length
    · rw [if_pos (.inr ⟨h2, by omega⟩), if_pos (.inl (by omega))]
    · rw [if_neg (by omega)]
      split
      · rename_i h
        rcases h with h | h
        · omega
        · exact (tt_end2 h.2).symm
      · rfl
theorem tbl_all (l1 l2 : List Nat) (r c : Nat) : tbl l1 l2 l1.length 0 r c = tt l1 l2 r c := by
  unfold tbl; rw [if_pos (.inl (by omega))]
theorem tbl_put (l1 l2 : List Nat) {i j : Nat} (r c : Nat) (hi : i < l1.length) (hj : j < l2.length) :
    tbl l1 l2 i (j + 1) r c = if r = l1.length - 1 - i ∧ c = l2.length - 1 - j then tt l1 l2 r c else tbl l1 l2 i j r c := by
  unfold tbl
  by_cases h : r = l1.length - 1 - i ∧ c = l2.length - 1 - j
  · rw [if_pos h, if_pos (.inr ⟨by omega, by omega⟩)]
  · rw [if_neg h]
    by_cases h1 : l1.length ≤ r + i ∨ (r + i + 1 = l1.length ∧ l2.length ≤ c + j)
    · rw [if_pos h1, if_pos (by omega)]
    · rw [if_neg h1, if_neg (by omega)]
/-- the table's rows stand at rs, their addresses at D -/
structure Tb (D : Addr) (rs : List Addr) (N M : Nat) (tb : Nat → Nat → Int) (h : Heap) : Prop where
  top : h.IsList D (rs.map Value.ref).toArray
  row : ∀ r a, rs[r]? = some a → ∃ ys, h.IsList a ys ∧ ys.size = M + 1 ∧ ∀ c, c < M + 1 → ∃ t, ys[c]? = some (.int (tb r c) t)
theorem Tb.fp {D rs N M tb} : FpX (D :: rs) (Tb D rs N M tb) := fun V h h' d k x => ⟨k.list (d D (.head _)) x.top, fun r a e => by
  obtain ⟨ys, a1, a2⟩ := x.row r a e
  exact ⟨ys, k.list (d a (.tail _ (List.mem_of_getElem? e))) a1, a2⟩⟩
theorem Tb.le {D rs N M tb} {h h' : Heap} (x : Tb D rs N M tb h) (k : Le h h') : Tb D rs N M tb h' := Tb.fp [] _ _ (fun _ _ q => nomatch q) k.but x
theorem Tb.congr {D rs N M tb tb'} {h : Heap} (x : Tb D rs N M tb h) (e : ∀ r c, tb r c = tb' r c) : Tb D rs N M tb' h := ⟨x.top, fun r a q => by
  obtain ⟨ys, a1, a2, a3⟩ := x.row r a q
  exact ⟨ys, a1, a2, fun c hc => by rw [← e]; exact a3 c hc⟩⟩
theorem Tb.put {D rs N M tb} {h h' : Heap} {n m : Nat} {a : Addr} {ys : Array Value} {i : Int} {t : Tok} (x : Tb D rs N M tb h) (hn : rs[n]? = some a) (nd : rs.Nodup) (hD : D ∉ rs) (hy : h.IsList a ys) (hm : m < M + 1)
    (hl : h'.IsList a (ys.setIfInBounds m (.int i t))) (hs : Heap.SameBut a h h') : Tb D rs N M (fun r c => if r = n ∧ c = m then i else tb r c) h' := by
  have hDa : D ≠ a := fun e => hD (e ▸ List.mem_of_getElem? hn)
  refine ⟨x.top.extBut hs.extBut hDa, fun r b e => ?_⟩
  obtain ⟨zs, z1, z2, z3⟩ := x.row r b e
  by_cases hr : r = n
  · subst hr
    rw [hn] at e; cases e
    have : zs = ys := by
      obtain ⟨o, ho, hc, k, hd⟩ := z1
      obtain ⟨o', ho', hc', k', hd'⟩ := hy
      rw [ho] at ho'; cases ho'; rw [hd] at hd'; cases hd'; rfl
    subst this
    refine ⟨_, hl, by simpa using z2, fun c hc => ?_⟩
    by_cases hcm : c = m
    · subst hcm
      exact ⟨t, by simp [Array.getElem?_setIfInBounds]; omega⟩
    · obtain ⟨u, hu⟩ := z3 c hc
      refine ⟨u, ?_⟩
      rw [Array.getElem?_setIfInBounds_ne (Ne.symm hcm), hu]
      simp [hcm]
  · have hba : b ≠ a := fun q => by
      subst q
      exact hr ((List.getElem?_inj (List.getElem?_eq_some_iff.mp e).1 nd).mp (e.trans hn.symm))
    refine ⟨zs, z1.extBut hs.extBut hba, z2, fun c hc => ?_⟩
    obtain ⟨u, hu⟩ := z3 c hc
    exact ⟨u, by rw [hu]; simp [hr]⟩
section
variable {prog : Program} {w : World} {A : Around} {env : Env} {h : Heap} {bad : List Addr} {s₀ s : Shared} {E : Value → Shared → Prop} {mg mb : Str → Option Value} {L fa : Addr} {cd : Value} {X : Heap → Prop}
theorem rd_cell {D rs N M tb} {b e1 e2 : Expr} {p1 p2 : Pos} {r c : Nat} {a : Addr} (x : Tb D rs N M tb h) (hr : rs[r]? = some a) (hc : c < M + 1) (hr' : r < 2 ^ 60) (hM : M < 2 ^ 60) (eb : Tr prog w A h (eval b env) (isVal (.ref D))) (x1 : Tr prog w A h (eval e1 env) (isInt r)) (x2 : Tr prog w A h (eval e2 env) (isInt c))
    (hs1 : ∀ l t, subscripted e1 false (.ref l) (.int r t) = operate [.ref l, .int r t] (getItem (.ref l) (.int r t)) := by intro _ _; rfl)
    (hs2 : ∀ l t, subscripted e2 false (.ref l) (.int c t) = operate [.ref l, .int c t] (getItem (.ref l) (.int c t)) := by intro _ _; rfl) :
    Tr prog w A h (eval (.Subscript (.Subscript b e1 p1) e2 p2) env) (isInt (tb r c)) := by
  refine ev_sub (P1 := isVal (.ref a)) (pu_val _).mo (ev_sub (pu_val _).mo eb x1 fun v1 v2 g lg q1 q2 => sub_at (k := (r : Int)) (x := .ref a) (x.le lg).top (by omega) (by omega) (by simp [hr]) q1 q2 (hs1 D)) x2 fun v1 v2 g lg q1 q2 => ?_
  obtain ⟨ys, y1, y2, y3⟩ := (x.le lg).row r a hr
  obtain ⟨t, ht⟩ := y3 c hc
  exact (sub_at (k := (c : Int)) y1 (by omega) (by omega) (by simpa using ht) q1 q2 (hs2 a)).weak fun v g' _ p => ⟨t, p⟩
end
end Mine

end
section
open PySem PySem.Spec PySem.Calls PySem.W PyProof.Rows
set_option Elab.async false
set_option linter.unusedVariables false
set_option linter.unusedSimpArgs false
set_option maxRecDepth 100000
namespace Mine
theorem nd1 (L : Nat) : [L + 4].Nodup := by simp
section
variable {prog : Program} {w : World} {A : Around} {env : Env} {h : Heap} {bad : List Addr} {s₀ s : Shared} {E : Value → Shared → Prop} {mg mb : Str → Option Value} {L fa : Addr} {cd : Value} {X : Heap → Prop}
theorem len_str {env : Env} {l : List Nat} {x : Str} {fs : List (Str × HP)} {p1 p2 p3 : Pos} (S : Stc mg mb w.params h) (ok : EnvOk env) (c : Ctx env fs h) (hx : fs.lookup x = some (isStr ⟨l.toArray⟩)) (hl : l.length ≤ 7) (hgl : env.kindOf "len" = some .globalImplicit)
    (hc : (x == ("__classdict__" : Str)) = false := by decide) (hd : (x == ("__debug__" : Str)) = false := by decide) :
    Tr prog w A h (eval (.Call (.Name "len" p1) [.Name x p2] [] p3) env) (isInt (l.length : Int)) :=
  (ev_callB (Ps := [isStr ⟨l.toArray⟩]) (ev_built ok S.G (mg_none_of S.K S.G.g (n_len _)) bi_len (hx := hgl)) (es_cons (pu_str _).mo (ev_name ok c hx (pu_str _).mo hc hd) es_nil) fun vs g _ q => call_lenS (by simp [Str.length]; omega) q).weak fun v g _ p => (by simpa [Str.length] using p : isInt (l.length : Int) v g)
/-- the table of nothing -/
theorem law3 {l1 l2 : List Nat} {Q : Flow → Shared → Prop} (S : Stc mg mb w.params s.heap) (hh : A.handled = none) (h1 : l1.length ≤ 7) (h2 : l2.length ≤ 7) (F : FrOk bad s₀ (lawEnv L fa cd) X) {fs : List (Str × HP)} (I : Inv bad s₀ (lawEnv L fa cd) fs X s)
    (ho : fs.lookup ("one" : Str) = some (isStr ⟨l1.toArray⟩)) (hot : fs.lookup ("other" : Str) = some (isStr ⟨l2.toArray⟩))
    (k : ∀ s', Inv bad s₀ (lawEnv L fa cd) (("best", isNw true s.heap bad (List.replicate (l1.length + 1) (.list (List.replicate (l2.length + 1) (.int 0))))) :: fs) X s' → Q .next s') :
    wpAny (model prog w) A (exec (st 3) (lawEnv L fa cd)) Q E s := by
  refine st_compN true (cl := [("other", L + 4)]) (ffs := fun B => [("other", isStr ⟨l2.toArray⟩)]) (n := l1.length + 1) (Pv := fun i _ => isInt (0 + i * 1)) F I (by kernel_rfl)
      (cap_of (BpF.cons (Bp.of_pure (pu_str _)) BpF.nil) ?_ ?_ ?_ ?_ ?_) (src_range (a := 0) (b := ((l1.length + 1 : Nat) : Int)) (c := 1) hh I.al ?_ ?_ ?_) (by omega) (by simp) (fun i => Bp.of_pure (pu_int _)) (nocell (by kernel_rfl)) (by rfl) (localOnce (by kernel_rfl)) (by kernel_rfl) ?_ ?_ k (by kernel_rfl) (by rfl)
  · intro p hp
    obtain rfl := List.mem_singleton.mp hp
    rw [lawCells]; simp
  · show ([("other" : Str)] : List Str).Nodup
    decide
  · exact nd1 L
  · intro B p hp
    obtain rfl := List.mem_singleton.mp hp
    exact ⟨by kernel_rfl, by kernel_rfl⟩
  · intro p hp
    obtain rfl := List.mem_singleton.mp hp
    exact hot
  · exact small_one (by decide) (by decide) (by omega) (by omega)
  · simp [Builtin.Range.rangeSize]
  · refine ev_callT (Ps := [isInt ((l1.length + 1 : Nat) : Int)]) (S.built F.ok (n_range _) bi_range) (es_cons (pu_int _).mo ?_ es_nil) fun vs g _ q => call_range1 q
    exact ev_bin (pu_int _).mo (len_str S F.ok I.ctx ho h1 (by kernel_rfl)) (ev_int 1 _ _) fun v1 v2 g _ p q => op_add p q
  · intro p hp C
    obtain rfl := List.mem_singleton.mp hp
    kernel_rfl
  · intro i g C B hi ok le al hb c
    have SG : Stc mg mb w.params g := S.le le
    have hd0 : (List.replicate (l1.length + 1) (PyData.list (List.replicate (l2.length + 1) (.int 0))))[i]? = some (.list (List.replicate (l2.length + 1) (.int 0))) := by simp [hi]
    refine ev_bin (P1 := isLs B [isRd B (.int 0)]) (P2 := isInt ((l2.length + 1 : Nat) : Int)) (mo_ls (mos_cons (mo_rd _) mos_nil)) (ev_list al (mos_cons (mo_rd _) mos_nil) (es_cons (mo_rd _) ((ev_int 0 _ _).weak fun v g _ r => rd_int r) es_nil) (small rfl))
      (ev_bin (pu_int _).mo (len_str SG ok c (by rfl) h2 (by kernel_rfl)) (ev_int 1 _ _) fun v1 v2 g _ p q => op_add p q) fun v1 v2 g' lg p q => ?_
    refine (op_mull (al.le lg) (by omega) p q).weak fun v g2 l2' ⟨r1, r, e, r2, r3⟩ => ⟨⟨_, hd0, r1⟩, fun _ => ⟨r, e, ?_, r3⟩⟩
    cases z : g.get? r with
    | none => rfl
    | some o => rw [lg _ _ z] at r2; cases r2
/-- where all is told of plain things, the banned addresses may be others -/
theorem Inv.rebad {B B' : List Addr} {fs : List (Str × HP)} {X : Heap → Prop} (I : Inv B s₀ env fs X s) (hp : ∀ x P, fs.lookup x = some P → Pure P) (al : Al B' s.heap) : Inv B' s₀ env fs X s := ⟨I.same, I.base, I.ctx, I.x, fun x P e => (hp x P e).st, al⟩
/-- the table, made: its rows are apart -/
theorem best_tb {N M : Nat} {D : Addr} {ys : Array Value} (hl : h.IsList D ys) (hr : RdAll bad h ys.toList (List.replicate (N + 1) (.list (List.replicate (M + 1) (.int 0))))) (nd : ys.toList.Nodup) :
    ∃ rs : List Addr, rs.Nodup ∧ D ∉ rs ∧ rs.length = N + 1 ∧ Tb D rs N M (fun _ _ => 0) h := by
  have rowOf : ∀ v ∈ ys.toList, ∃ a zs, v = .ref a ∧ h.IsList a zs ∧ RdAll bad h zs.toList (List.replicate (M + 1) (.int 0)) := by
    have : ∀ (vs : List Value) (n : Nat), RdAll bad h vs (List.replicate n (.list (List.replicate (M + 1) (.int 0)))) → ∀ v ∈ vs, ∃ a zs, v = .ref a ∧ h.IsList a zs ∧ RdAll bad h zs.toList (List.replicate (M + 1) (.int 0)) := by
      intro vs n
      induction n generalizing vs with
      | zero => intro r v hv; cases r; cases hv
      | succ n ih =>
        intro r v hv
        rw [List.replicate_succ] at r
        cases r with
        | cons a b =>
          rcases List.mem_cons.mp hv with rfl | hv
          · cases a with
            | list nb hl hr => exact ⟨_, _, rfl, hl, hr⟩
          · exact ih _ b v hv
    exact this _ _ hr
  obtain ⟨rs, hrs⟩ : ∃ rs : List Addr, ys.toList = rs.map Value.ref := by
    have : ∀ vs : List Value, (∀ v ∈ vs, ∃ a, v = .ref a) → ∃ rs : List Addr, vs = rs.map Value.ref := by
      intro vs
      induction vs with
      | nil => intro _; exact ⟨[], rfl⟩
      | cons v vs ih =>
        intro hv
        obtain ⟨a, rfl⟩ := hv v (.head _)
        obtain ⟨rs, rfl⟩ := ih fun v hv' => hv v (.tail _ hv')
        exact ⟨a :: rs, rfl⟩
    exact this _ fun v hv => let ⟨a, _, e, _⟩ := rowOf v hv; ⟨a, e⟩
  have hlen : rs.length = N + 1 := by have := hr.length; rw [hrs] at this; simpa using this
  have hys : ys = (rs.map Value.ref).toArray := by rw [← hrs]
  have izs : ∀ (zs : List Value) (n : Nat), RdAll bad h zs (List.replicate n (.int 0)) → ∀ c < n, ∃ t, zs[c]? = some (.int 0 t) := by
    intro zs n r c hc
    obtain ⟨v, hv, p⟩ := r.get (i := c) (d := .int 0) (by simp [hc])
    cases p
    exact ⟨_, hv⟩
  refine ⟨rs, ?_, ?_, hlen, ⟨hys ▸ hl, fun r a e => ?_⟩⟩
  · rw [hrs] at nd
    exact (List.pairwise_map.mp nd).imp fun q e => q (by rw [e])
  · intro hD
    obtain ⟨a, zs, e, z1, z2⟩ := rowOf (.ref D) (by rw [hrs]; exact List.mem_map.mpr ⟨D, hD, rfl⟩)
    cases e
    have : zs = ys := by
      obtain ⟨o, ho, hc, k, hd⟩ := z1
      obtain ⟨o', ho', hc', k', hd'⟩ := hl
      rw [ho] at ho'; cases ho'; rw [hd] at hd'; cases hd'; rfl
    subst this
    obtain ⟨t, ht⟩ := izs _ _ z2 0 (by omega)
    rw [hrs] at ht
    simp at ht
  · obtain ⟨a', zs, e', z1, z2⟩ := rowOf (.ref a) (by rw [hrs]; exact List.mem_map.mpr ⟨a, List.mem_of_getElem? e, rfl⟩)
    cases e'
    refine ⟨zs, z1, by simpa using z2.length, fun c hc => ?_⟩
    obtain ⟨t, ht⟩ := izs _ _ z2 c hc
    exact ⟨t, by simpa using ht⟩
end
end Mine

end
section
open PySem PySem.Spec PySem.Calls PySem.W PyProof.Rows
set_option Elab.async false
set_option linter.unusedVariables false
set_option linter.unusedSimpArgs false
set_option maxRecDepth 100000
namespace Mine
theorem small_down {n : Nat} (h : n ≤ 7) : Builtin.Range.small ((n : Int) - 1) (-1) (-1) = true := by
  have : n = 0 ∨ n = 1 ∨ n = 2 ∨ n = 3 ∨ n = 4 ∨ n = 5 ∨ n = 6 ∨ n = 7 := by omega
  rcases this with rfl | rfl | rfl | rfl | rfl | rfl | rfl | rfl <;> decide
theorem size_down {n : Nat} (h : n ≤ 7) : Builtin.Range.rangeSize ((n : Int) - 1) (-1) (-1) = (n : Int) := by
  have : n = 0 ∨ n = 1 ∨ n = 2 ∨ n = 3 ∨ n = 4 ∨ n = 5 ∨ n = 6 ∨ n = 7 := by omega
  rcases this with rfl | rfl | rfl | rfl | rfl | rfl | rfl | rfl <;> decide
/-- the plain facts of the law's frame, with the table's address -/
def fsT (D : Addr) (l1 l2 : List Nat) (a b : Int) : List (Str × HP) := [("best", isVal (.ref D)), ("other", isStr ⟨l2.toArray⟩), ("one", isStr ⟨l1.toArray⟩), ("b", isInt b), ("a", isInt a)]
theorem bp_fsT {D l1 l2 a b} : BpF (fun _ => fsT D l1 l2 a b) := BpF.cons (Bp.of_pure (pu_val _)) (BpF.cons (Bp.of_pure (pu_str _)) (BpF.cons (Bp.of_pure (pu_str _)) (BpF.cons (Bp.of_pure (pu_int _)) (BpF.cons (Bp.of_pure (pu_int _)) BpF.nil))))
def fsTn (D : Addr) (l1 l2 : List Nat) (a b n : Int) : List (Str × HP) := ("n", isInt n) :: fsT D l1 l2 a b
theorem bp_fsTn {D l1 l2 a b n} : BpF (fun _ => fsTn D l1 l2 a b n) := BpF.cons (Bp.of_pure (pu_int _)) bp_fsT
section
variable {prog : Program} {w : World} {A : Around} {env : Env} {h : Heap} {bad : List Addr} {s₀ s : Shared} {E : Value → Shared → Prop} {mg mb : Str → Option Value} {L fa : Addr} {cd : Value} {X : Heap → Prop}
theorem str1_eq {c d : Nat} : decide ((⟨#[c]⟩ : Str) = ⟨#[d]⟩) = decide (c = d) := by
  by_cases h : c = d
  · subst h; simp
  · have : ¬ ((⟨#[c]⟩ : Str) = ⟨#[d]⟩) := fun e => h (by simpa using e)
    simp [h]
/-- best[n][m] = .. -/
theorem dp_cell {B : List Addr} {D : Addr} {rs : List Addr} {l1 l2 : List Nat} {a b : Int} {i j : Nat} {Y : Heap → Prop} {V : List Addr} {st' : Stmt} (S : Stc mg mb w.params s₀.heap) (hh : A.handled = none) (h1 : l1.length ≤ 7) (h2 : l2.length ≤ 7) (nd : rs.Nodup) (hD : D ∉ rs) (hrl : rs.length = l1.length + 1)
    (hrB : ∀ r ∈ D :: rs, r ∈ B) (hDf : ∀ r ∈ D :: rs, r ∉ frameAddrs (lawEnv L fa cd)) (h0 : ∀ r ∈ rs, s₀.heap.get? r = none) (hY : FpX V Y) (hV : ∀ r ∈ V, r ∉ D :: rs) (hi : i < l1.length) (hj : j < l2.length)
    (F : FrOk B s₀ (lawEnv L fa cd) (fun h => Tb D rs l1.length l2.length (tbl l1 l2 i j) h ∧ Y h))
    (I : Inv B s₀ (lawEnv L fa cd) (("m", isInt ((l2.length : Int) - 1 - j)) :: fsTn D l1 l2 a b ((l1.length : Int) - 1 - i)) (fun h => Tb D rs l1.length l2.length (tbl l1 l2 i j) h ∧ Y h) s)
    (he : st' = (match st 4 with | .For _ _ [.For _ _ [x] _ _] _ _ => x | _ => .Pass ⟨0, 0, 0, 0⟩)) :
    wpAny (model prog w) A (exec st' (lawEnv L fa cd)) (Nx fun s' => Inv B s₀ (lawEnv L fa cd) (fsTn D l1 l2 a b ((l1.length : Int) - 1 - i)) (fun h => Tb D rs l1.length l2.length (tbl l1 l2 i (j + 1)) h ∧ Y h) s') E s := by
  subst he
  obtain ⟨n, hn⟩ : ∃ n, n = l1.length - 1 - i := ⟨_, rfl⟩
  obtain ⟨m, hm⟩ : ∃ m, m = l2.length - 1 - j := ⟨_, rfl⟩
  have en : ((l1.length : Int) - 1 - i) = (n : Int) := by omega
  have em : ((l2.length : Int) - 1 - j) = (m : Int) := by omega
  rw [em, en] at I
  have hn1 : n < l1.length := by omega
  have hm1 : m < l2.length := by omega
  have ok := F.ok
  have T0 := I.x.1
  have S2 := S.le I.base
  have vn : ∀ p, Tr prog w A s.heap (eval (.Name "n" p) (lawEnv L fa cd)) (isInt n) := fun p => ev_name ok I.ctx (by rfl) (pu_int _).mo
  have vm : ∀ p, Tr prog w A s.heap (eval (.Name "m" p) (lawEnv L fa cd)) (isInt m) := fun p => ev_name ok I.ctx (by rfl) (pu_int _).mo
  have vb : ∀ p, Tr prog w A s.heap (eval (.Name "best" p) (lawEnv L fa cd)) (isVal (.ref D)) := fun p => ev_name ok I.ctx (by rfl) (pu_val _).mo
  have v1 : ∀ p, Tr prog w A s.heap (eval (.Name "one" p) (lawEnv L fa cd)) (isStr ⟨l1.toArray⟩) := fun p => ev_name ok I.ctx (by rfl) (pu_str _).mo
  have v2 : ∀ p, Tr prog w A s.heap (eval (.Name "other" p) (lawEnv L fa cd)) (isStr ⟨l2.toArray⟩) := fun p => ev_name ok I.ctx (by rfl) (pu_str _).mo
  have vn1 : ∀ p q r kd, Tr prog w A s.heap (eval (.BinOp (.Name "n" p) .Add (.Constant (.int 1) kd q) r) (lawEnv L fa cd)) (isInt ((n + 1 : Nat) : Int)) := fun p q r kd => ev_bin (pu_int _).mo (vn _) (ev_int 1 _ _) fun x y g _ p q => op_add p q
  have vm1 : ∀ p q r kd, Tr prog w A s.heap (eval (.BinOp (.Name "m" p) .Add (.Constant (.int 1) kd q) r) (lawEnv L fa cd)) (isInt ((m + 1 : Nat) : Int)) := fun p q r kd => ev_bin (pu_int _).mo (vm _) (ev_int 1 _ _) fun x y g _ p q => op_add p q
  obtain ⟨x, hx⟩ : ∃ x, l1[n]? = some x := ⟨_, List.getElem?_eq_getElem hn1⟩
  obtain ⟨y, hy⟩ : ∃ y, l2[m]? = some y := ⟨_, List.getElem?_eq_getElem hm1⟩
  obtain ⟨ra, hra⟩ : ∃ r, rs[n]? = some r := ⟨_, List.getElem?_eq_getElem (by omega)⟩
  obtain ⟨rb, hrb⟩ : ∃ r, rs[n + 1]? = some r := ⟨_, List.getElem?_eq_getElem (by omega)⟩
  have t1 : tbl l1 l2 i j (n + 1) (m + 1) = tt l1 l2 (n + 1) (m + 1) := by unfold tbl; rw [if_pos (.inl (by omega))]
  have t2 : tbl l1 l2 i j (n + 1) m = tt l1 l2 (n + 1) m := by unfold tbl; rw [if_pos (.inl (by omega))]
  have t3 : tbl l1 l2 i j n (m + 1) = tt l1 l2 n (m + 1) := by unfold tbl; rw [if_pos (.inr ⟨by omega, by omega⟩)]
  have hst := tt_step hx hy
  refine wpAny_Assign_Subscript (wpAny_mono ((?_ : Tr prog w A s.heap _ (isInt (tt l1 l2 n m))) s _ (Le.refl _)) (fun v s1 ⟨k1, q1⟩ => ?_) fun _ _ e => e)
  · refine ev_if (b := decide (x = y)) (ts_cmp (pu_str _).mo (ev_sub (pu_str _).mo (v1 _) (vn _) fun a b g _ p q => sub_str hx (by omega) p q) (ev_sub (pu_str _).mo (v2 _) (vm _) fun a b g _ p q => sub_str hy (by omega) p q) fun a b g _ p q => by rw [← str1_eq]; exact op_eqs p q) (fun hb => ?_) (fun hb => ?_)
    · rw [hst, if_pos (of_decide_eq_true hb), ← t1]
      exact ev_bin (pu_int _).mo (ev_int 1 _ _) (rd_cell T0 hrb (by omega) (by omega) (by omega) (vb _) (vn1 _ _ _ _) (vm1 _ _ _ _)) fun a b g _ p q => op_add p q
    · rw [hst, if_neg (of_decide_eq_false hb), ← t2, ← t3]
      exact ev_callB (Ps := [isInt (tbl l1 l2 i j (n + 1) m), isInt (tbl l1 l2 i j n (m + 1))]) (S2.built ok (n_max _) bi_max) (es_cons (pu_int _).mo (rd_cell T0 hrb (by omega) (by omega) (by omega) (vb _) (vn1 _ _ _ _) (vm _)) (es_cons (pu_int _).mo (rd_cell T0 hra (by omega) (by omega) (by omega) (vb _) (vn _) (vm1 _ _ _ _)) es_nil)) fun vs g _ q => call_max hh q
  · have l1' := Keeps.le k1
    have er : ∀ p1 p2 p3, Tr prog w A s.heap (eval (.Subscript (.Name "best" p1) (.Name "n" p2) p3) (lawEnv L fa cd)) (isVal (.ref ra)) := fun p1 p2 p3 => ev_sub (pu_val _).mo (vb _) (vn _) fun a b g lg p q => sub_at (k := (n : Int)) (x := .ref ra) (T0.le lg).top (by omega) (by omega) (by simp [hra]) p q
    refine (er _ _ _).use l1' fun v' s2 k2 q2 => (vm _).use (l1'.trans (Keeps.le k2)) fun v'' s3 k3 q3 => ?_
    rw [show v' = .ref ra from q2]
    obtain ⟨tm, rfl⟩ := q3
    obtain ⟨tv, rfl⟩ := q1
    have k13 := Keeps.tr (Keeps.tr k1 k2) k3
    have I3 := I.keeps F k13
    obtain ⟨ys, y1, y2, y3⟩ := I3.x.1.row n ra hra
    refine wpAny_setItem_list y1 (by omega) (by omega) (by omega) fun h' hl hs => ⟨rfl, ?_⟩
    have hraM : ra ∈ D :: rs := .tail _ (List.mem_of_getElem? hra)
    have bt : But [ra] s3.heap h' := But.same hs
    have btB : But B s3.heap h' := bt.more fun c hc => List.mem_singleton.mp hc ▸ hrB _ hraM
    have hraF := hDf ra hraM
    obtain ⟨mm, cs, ca, cb, cc⟩ := I3.ctx.ex
    have hfr : ∀ c ∈ frameAddrs (lawEnv L fa cd), c ≠ ra := fun c hc e => hraF (e ▸ hc)
    refine Inv.less (fs := ("m", isInt (m : Int)) :: fsTn D l1 l2 a b (n : Int)) ⟨?_, fun c o e => bt c o (fun q => by rw [List.mem_singleton.mp q] at e; rw [h0 ra (List.mem_of_getElem? hra)] at e; cases e) (I3.base c o e), ⟨mm, cs, ca.sameBut hs (hfr _ (.head _)), fun z d hm => (cb z d hm).sameBut hs (hfr _ (List.mem_cons_of_mem _ (List.mem_map.mpr ⟨_, hm, rfl⟩))), fun z P hl => ?_⟩, ⟨?_, hY _ _ _ (fun c hc q => hV c hc (List.mem_singleton.mp q ▸ hraM)) bt I3.x.2⟩, I3.st, fun c hc e => ?_⟩ fun p hp => ?_
    · obtain ⟨hh3, tk3, e3⟩ := I3.same
      rw [e3]; exact ⟨h', _, rfl⟩
    · obtain ⟨u, e, p⟩ := cc z P hl
      exact ⟨u, e, I3.st z P hl _ _ _ btB p⟩
    · have := I3.x.1.put (n := n) (m := m) hra nd hD y1 (by omega) (by simpa using hl) hs
      refine this.congr fun r c => ?_
      rw [tbl_put l1 l2 r c hi hj, ← hn, ← hm]
      by_cases hq : r = n ∧ c = m
      · rw [if_pos hq, if_pos hq, hq.1, hq.2]
      · rw [if_neg hq, if_neg hq]
    · by_cases q : c = ra
      · subst q
        obtain ⟨o, ho, _⟩ := hl
        rw [ho] at e; cases e
      · cases z : s3.heap.get? c with
        | none => exact I3.al c hc z
        | some o => rw [bt c o (fun q' => q (List.mem_singleton.mp q')) z] at e; cases e
    · rw [en] at hp
      simp only [fsTn, fsT, List.mem_cons, List.not_mem_nil, or_false] at hp
      rcases hp with rfl | rfl | rfl | rfl | rfl | rfl <;> rfl
end
end Mine

end
section
open PySem PySem.Spec PySem.Calls PySem.W PyProof.Rows
set_option Elab.async false
set_option linter.unusedVariables false
set_option linter.unusedSimpArgs false
set_option maxRecDepth 100000
namespace Mine
theorem RdAll.notbad {bad : List Addr} {h : Heap} {a : Addr} : ∀ {vs ds}, RdAll bad h vs ds → Value.ref a ∈ vs → a ∉ bad
  | _, _, .nil, hm => by cases hm
  | _, _, .cons p q, hm => by
    rcases List.mem_cons.mp hm with e | hm
    · subst e
      cases p with
      | list nb _ _ => exact nb
      | tup nb _ _ => exact nb
    · exact q.notbad hm
def fsP (l1 l2 : List Nat) (a b : Int) : List (Str × HP) := [("other", isStr ⟨l2.toArray⟩), ("one", isStr ⟨l1.toArray⟩), ("b", isInt b), ("a", isInt a)]
theorem bp_fsP {l1 l2 a b} : BpF (fun _ => fsP l1 l2 a b) := BpF.cons (Bp.of_pure (pu_str _)) (BpF.cons (Bp.of_pure (pu_str _)) (BpF.cons (Bp.of_pure (pu_int _)) (BpF.cons (Bp.of_pure (pu_int _)) BpF.nil)))
def tabD (l1 l2 : List Nat) : PyData := .list ((List.range (l1.length + 1)).map fun r => .list ((List.range (l2.length + 1)).map fun c => .int (tt l1 l2 r c)))
theorem tb_rd {bad : List Addr} {D rs} {l1 l2 : List Nat} {h : Heap} (x : Tb D rs l1.length l2.length (tt l1 l2) h) (hD : D ∉ bad) (hrs : ∀ r ∈ rs, r ∉ bad) (hl : rs.length = l1.length + 1) : isRd bad (tabD l1 l2) (.ref D) h := by
  refine .list hD x.top (acc_rd _ _ (by simp [hl]) fun i v hv => ?_)
  have hi : i < rs.length := by
    have := (List.getElem?_eq_some_iff.mp hv).1
    simpa using this
  obtain ⟨ys, y1, y2, y3⟩ := x.row i rs[i] (List.getElem?_eq_getElem hi)
  have : v = .ref rs[i] := by simpa [hi] using hv.symm
  subst this
  have hi2 : i < l1.length + 1 := by omega
  refine ⟨.list ((List.range (l2.length + 1)).map fun c => .int (tt l1 l2 i c)), by simp [hi2], .list (hrs _ (List.getElem_mem hi)) y1 (acc_rd _ _ (by simp [y2]) fun c u hu => ?_)⟩
  have hc : c < l2.length + 1 := by
    have := (List.getElem?_eq_some_iff.mp hu).1
    simpa [y2] using this
  obtain ⟨t, ht⟩ := y3 c hc
  have : u = .int (tt l1 l2 i c) t := by
    have h2 : ys[c]? = some u := by simpa using hu
    rw [ht] at h2; exact (Option.some.inj h2).symm
  subst this
  exact ⟨_, by simp [hc], .int _ _⟩
section
variable {prog : Program} {w : World} {A : Around} {env : Env} {h : Heap} {bad : List Addr} {s₀ s : Shared} {E : Value → Shared → Prop} {mg mb : Str → Option Value} {L fa : Addr} {cd : Value} {X : Heap → Prop} {fs : List (Str × HP)}
theorem Inv.pin {x : Str} {P : HP} (I : Inv bad s₀ env ((x, P) :: fs) X s) : ∃ v, P v s.heap ∧ Inv bad s₀ env ((x, isVal v) :: fs) X s := by
  obtain ⟨m, cs, a, b, c⟩ := I.ctx.ex
  obtain ⟨v, e, p⟩ := c x P lookup_cons_self
  refine ⟨v, p, I.same, I.base, ⟨m, cs, a, b, fun y R hl => ?_⟩, I.x, fun y R hl => ?_, I.al⟩
  · by_cases q : y = x
    · subst q; rw [lookup_cons_self] at hl; cases hl
      exact ⟨v, e, rfl⟩
    · rw [lookup_cons_ne q] at hl
      exact c y R (by rw [lookup_cons_ne q]; exact hl)
  · by_cases q : y = x
    · subst q; rw [lookup_cons_self] at hl; cases hl; exact (pu_val v).st
    · rw [lookup_cons_ne q] at hl
      exact I.st y R (by rw [lookup_cons_ne q]; exact hl)
theorem pure_fsT {D l1 l2 a b} : ∀ x P, (fsT D l1 l2 a b).lookup x = some P → Pure P := fun x P e => by
  have := mem_of_lookup' e
  simp only [fsT, List.mem_cons, List.not_mem_nil, or_false, Prod.mk.injEq] at this
  rcases this with ⟨_, rfl⟩ | ⟨_, rfl⟩ | ⟨_, rfl⟩ | ⟨_, rfl⟩ | ⟨_, rfl⟩
  · exact pu_val _
  · exact pu_str _
  · exact pu_str _
  · exact pu_int _
  · exact pu_int _
/-- the table of the longest common rows -/
theorem law4 {l1 l2 : List Nat} {a b : Int} {h3 : Heap} {Q : Flow → Shared → Prop} (S : Stc mg mb w.params s₀.heap) (hh : A.handled = none) (h1 : l1.length ≤ 7) (h2 : l2.length ≤ 7) (F : FrOk bad s₀ (lawEnv L fa cd) (fun _ => True)) (hb3 : Le s₀.heap h3)
    (I : Inv bad s₀ (lawEnv L fa cd) (("best", isNw true h3 bad (List.replicate (l1.length + 1) (.list (List.replicate (l2.length + 1) (.int 0))))) :: fsP l1 l2 a b) (fun _ => True) s)
    (k : ∀ s', Inv bad s₀ (lawEnv L fa cd) (("best", isRd bad (tabD l1 l2)) :: fsP l1 l2 a b) (fun _ => True) s' → Q .next s') :
    wpAny (model prog w) A (exec (st 4) (lawEnv L fa cd)) Q E s := by
  obtain ⟨v, ⟨D, ys, rfl, hDb, hl, hr, hnd⟩, I1⟩ := I.pin
  obtain ⟨nd, hD0, hrow⟩ := hnd rfl
  obtain ⟨rs, ndr, hDr, hrl, T0⟩ := best_tb hl hr nd
  have hys : ys.toList = rs.map Value.ref := by
    have e1 := T0.top
    obtain ⟨o, ho, hc, q, hd⟩ := hl
    obtain ⟨o', ho', hc', q', hd'⟩ := e1
    rw [ho] at ho'; cases ho'; rw [hd] at hd'; cases hd'; rfl
  have dead0 : ∀ {c}, h3.get? c = none → s₀.heap.get? c = none := fun {c} e => by
    cases z : s₀.heap.get? c with
    | none => rfl
    | some o => rw [hb3 c o z] at e; cases e
  have hrb : ∀ r ∈ rs, r ∉ bad := fun r hr' => hr.notbad (by rw [hys]; exact List.mem_map.mpr ⟨r, hr', rfl⟩)
  have hr0 : ∀ r ∈ rs, s₀.heap.get? r = none := fun r hr' => by
    obtain ⟨r', e, d⟩ := hrow (.ref r) (by rw [hys]; exact List.mem_map.mpr ⟨r, hr', rfl⟩)
    cases e; exact dead0 d
  have hW0 : ∀ r ∈ D :: rs, s₀.heap.get? r = none := fun r hr' => (List.mem_cons.mp hr').elim (fun q => q ▸ dead0 hD0) (hr0 r)
  have hWb : ∀ r ∈ D :: rs, r ∉ bad := fun r hr' => (List.mem_cons.mp hr').elim (fun q => q ▸ hDb) (hrb r)
  have hWf : ∀ r ∈ D :: rs, r ∉ frameAddrs (lawEnv L fa cd) := fun r hr' q => hWb r hr' (F.sub r q)
  have alW : Al (D :: rs) s.heap := fun c hc e => by
    rcases List.mem_cons.mp hc with q | q
    · obtain ⟨o, ho, _⟩ := hl
      rw [q, ho] at e; cases e
    · obtain ⟨i, hi⟩ := List.getElem?_of_mem q
      obtain ⟨ys, ⟨o, ho, _⟩, _⟩ := T0.row i c hi
      rw [ho] at e; cases e
  have alB : Al ((D :: rs) ++ bad) s.heap := fun c hc => (List.mem_append.mp hc).elim (alW c) (I.al c)
  have I2 : Inv ((D :: rs) ++ bad) s₀ (lawEnv L fa cd) (fsT D l1 l2 a b) (Tb D rs l1.length l2.length (tbl l1 l2 0 0)) s := (I1.rebad pure_fsT alB).withX (T0.congr fun r c => (tbl_start l1 l2 r c).symm)
  have FW : ∀ {X : Heap → Prop} {W : List Addr}, FpX W X → (∀ r ∈ W, r ∉ frameAddrs (lawEnv L fa cd)) → FrOk ((D :: rs) ++ bad) s₀ (lawEnv L fa cd) X := fun hX hf => ⟨F.ok, F.fresh, fun c hc => List.mem_append_right _ (F.sub c hc), fun h h' kb x => hX _ _ _ hf kb x⟩
  have S2 := S.le I.base
  refine st_forR (W := D :: rs) (XI := fun i => Tb D rs l1.length l2.length (tbl l1 l2 i 0)) (fsI := fun _ _ => fsT D l1 l2 a b) (n := l1.length) (Pv := fun i => isInt (((l1.length : Int) - 1) + i * (-1))) (FW Tb.fp hWf) (fun _ => bp_fsT) (fun _ => Tb.fp) hWf alW I2 (src_range hh alB (small_down h1) (size_down h1) ?_) (fun _ => pu_int _) (.inl (by kernel_rfl)) ?_ fun s' I' => k s' ?_
  · refine ev_callT (Ps := [isInt ((l1.length : Int) - 1), isInt (-1), isInt (-1)]) (S2.built F.ok (n_range _) bi_range) (es_cons (pu_int _).mo ?_ (es_cons (pu_int _).mo (ev_neg (ev_int 1 _ _)) (es_cons (pu_int _).mo (ev_neg (ev_int 1 _ _)) es_nil))) fun vs g _ q => call_range3 q
    exact ev_bin (pu_int _).mo (len_str S2 F.ok I2.ctx (by rfl) h1 (by kernel_rfl)) (ev_int 1 _ _) fun v1 v2 g _ p q => op_sub p q
  · intro i B s Y V E hi hB hY hV alV FY IY
    have e0 : ((l1.length : Int) - 1) + (i : Int) * (-1) = (l1.length : Int) - 1 - i := by omega
    rw [e0] at IY
    have S3 := S.le IY.base
    have hBW : ∀ r ∈ D :: rs, r ∈ B := fun r hr' => hB r (List.mem_append_left _ hr')
    have alBs := IY.al
    have hVW : ∀ r ∈ V, r ∉ D :: rs := fun r hr' q => hV r hr' (List.mem_append_left _ q)
    have hVf : ∀ r ∈ V, r ∉ frameAddrs (lawEnv L fa cd) := fun r hr' q => hV r hr' (List.mem_append_right _ (F.sub r q))
    have alWV : Al ((D :: rs) ++ V) s.heap := fun c hc => (List.mem_append.mp hc).elim (fun q => alBs c (hBW c q)) (alV c)
    refine ex_cons (st_forR (W := (D :: rs) ++ V) (XI := fun j h => Tb D rs l1.length l2.length (tbl l1 l2 i j) h ∧ Y h) (fsI := fun _ _ => fsTn D l1 l2 a b ((l1.length : Int) - 1 - i)) (n := l2.length) (Pv := fun j => isInt (((l2.length : Int) - 1) + j * (-1))) FY (fun _ => bp_fsTn) (fun _ => Tb.fp.and hY)
      (fun c hc => (List.mem_append.mp hc).elim (hWf c) (hVf c)) alWV IY (src_range hh alBs (small_down h2) (size_down h2) ?_) (fun _ => pu_int _) (.inl (by kernel_rfl)) ?_ fun s' I' => ⟨rfl, ex_nil ?_⟩)
    · refine ev_callT (Ps := [isInt ((l2.length : Int) - 1), isInt (-1), isInt (-1)]) (S3.built F.ok (n_range _) bi_range) (es_cons (pu_int _).mo ?_ (es_cons (pu_int _).mo (ev_neg (ev_int 1 _ _)) (es_cons (pu_int _).mo (ev_neg (ev_int 1 _ _)) es_nil))) fun vs g _ q => call_range3 q
      exact ev_bin (pu_int _).mo (len_str S3 F.ok IY.ctx (by rfl) h2 (by kernel_rfl)) (ev_int 1 _ _) fun v1 v2 g _ p q => op_sub p q
    · intro j B2 s2 Y2 V2 E2 hj hB2 hY2 hV2 alV2 F2 I2
      have e1 : ((l2.length : Int) - 1) + (j : Int) * (-1) = (l2.length : Int) - 1 - j := by omega
      rw [e1] at I2
      refine ex_cons (wpAny_mono (dp_cell (Y := fun h => Y h ∧ Y2 h) (V := V ++ V2) S hh h1 h2 ndr hDr hrl (fun r hr' => hB2 r (hBW r hr')) hWf hr0 (hY.and hY2) (fun c hc q => (List.mem_append.mp hc).elim (fun z => hVW c z q) (fun z => hV2 c z (hBW c q))) hi hj
        (F2.of fun h h' kb x => (by have := F2.hx h h' kb ⟨⟨x.1, x.2.1⟩, x.2.2⟩; exact ⟨this.1.1, this.1.2, this.2⟩)) (I2.withX ⟨I2.x.1.1, I2.x.1.2, I2.x.2⟩) rfl) (fun f s' ⟨e, q⟩ => ⟨e, ex_nil (q.withX ⟨⟨q.x.1, q.x.2.1⟩, q.x.2.2⟩)⟩) fun _ _ e => e)
    · exact (I'.less fun p hp => by
        simp only [fsT, List.mem_cons, List.not_mem_nil, or_false] at hp
        rcases hp with rfl | rfl | rfl | rfl | rfl <;> rfl).withX ⟨I'.x.1.congr fun r c => tbl_next l1 l2 i r c, I'.x.2⟩
  · have T' : Tb D rs l1.length l2.length (tt l1 l2) s'.heap := I'.x.congr fun r c => tbl_all l1 l2 r c
    have I3 : Inv bad s₀ (lawEnv L fa cd) (fsT D l1 l2 a b) (fun _ => True) s' := (I'.rebad pure_fsT fun c hc => I'.al c (List.mem_append_right _ hc)).withX trivial
    exact I3.head (fun v p => by rw [show v = .ref D from p]; exact tb_rd T' hDb hrb hrl) (st_rd _ _)
end
end Mine

end
section
open PySem PySem.Spec PySem.Calls PySem.W PyProof.Rows
set_option Elab.async false
set_option linter.unusedVariables false
set_option linter.unusedSimpArgs false
set_option maxRecDepth 100000
namespace Mine
/-- the pieces that have been found: a list at l -/
def XP (l : Addr) (bad : List Addr) (ps : List Pc) (h : Heap) : Prop := ∃ vs, h.PlainList l vs ∧ RdAll (l :: bad) h vs.toList (ps.map (Pc.sent true))
theorem XP.le {l bad ps} {h h' : Heap} (x : XP l bad ps h) (k : Le h h') : XP l bad ps h' := let ⟨vs, a, b⟩ := x; ⟨vs, a.at fun o e => k _ _ e, b.le k⟩
def isPl0 (bad : List Addr) (h0 : Heap) : HP := fun v h => ∃ l, v = .ref l ∧ l ∉ bad ∧ h0.get? l = none ∧ h.PlainList l #[]
theorem st_pl0 {bad h0} : St bad (isPl0 bad h0) := fun v h h' k ⟨l, e, n, d, p⟩ => ⟨l, e, n, d, p.at fun o e => k _ _ n e⟩
section
variable {prog : Program} {w : World} {A : Around} {env : Env} {h : Heap} {bad : List Addr} {s₀ s : Shared} {E : Value → Shared → Prop} {mg mb : Str → Option Value} {L fa : Addr} {cd : Value} {X : Heap → Prop} {fs : List (Str × HP)}
theorem setItem_last {l : Addr} {items : Array Value} {t : Tok} {v : Value} {Q : Unit → Shared → Prop} (hl : s.heap.PlainList l items) (hn : 0 < items.size) (hsz : items.size < 2 ^ 60)
    (hQ : ∀ h', h'.PlainList l (items.setIfInBounds (items.size - 1) v) → Heap.SameBut l s.heap h' → Q () { s with heap := h' }) :
    wpAny (model prog w) A (setItem (.ref l) (.int (-1) t) v) Q E s := by
  obtain ⟨n, ho⟩ := id hl
  have hi := hl.isList
  have hd : ({ cls := .type "list", data := .seq items n } : Obj).data = .seq items n := rfl
  unfold setItem
  try with_reducible refine wpAny_holding ?_
  first | refine wpAny_bind (wpAny_pure ?_) | skip
  refine wpAny_bind (wpAny_sequenceKey hi.typeIs (by decide) ?_)
  refine wpAny_bind (wpAny_callSpecial?_slot (name := Str.ofString "__setitem__") hi.typeIs slot_list_setitem
    (wpAny_call_entry slot_list_setitem hi.typeIs entry_list_setitem ?_ (args_list_setitem _ _ _)))
  show wpAny _ _ (Builtin.List.listSubscript? (.int (-1) t) >>= _) _ _ s
  refine wpAny_bind (wpAny_listSubscript_int (fitsIndex_neg (by decide) (by decide)) ?_)
  have hidx : seqIndex? (-1) items.size = some (items.size - 1) := by
    rw [seqIndex_neg (by decide) (by omega)]; congr 1; omega
  have hx : items[items.size - 1]? = some items[items.size - 1] := Array.getElem?_eq_getElem (by omega)
  show wpAny _ _ ((Builtin.List.listItems (.ref l) >>= fun xs => pure ((seqIndex? (Int.negSucc 0) xs.size).bind fun i => xs[i]?.map (i, ·))) >>= _) _ _ s
  refine wpAny_bind (wpAny_bind ?_)
  show wpAny _ _ (seqItems? (.ref l) >>= _) _ _ s
  refine wpAny_bind (wpAny_seqItems ho hd (wpAny_pure (wpAny_pure ?_)))
  rw [show Int.negSucc 0 = -1 from rfl, hidx]
  simp only [Option.bind_some, hx, Option.map_some]
  show wpAny _ _ (setSeqItemAt l (items.size - 1) v >>= _) _ _ s
  refine wpAny_bind (wpAny_setSeqItemAt ho hd ?_)
  have hfin : (s.heap.update l (Obj.mapSeq (·.setIfInBounds (items.size - 1) v))).PlainList l (items.setIfInBounds (items.size - 1) v) := ⟨_, Heap.get?_update_self _ ho rfl⟩
  first
    | exact wpAny_bind (wpAny_pure (wpAny_pure ⟨.none, rfl, wpAny_pure (hQ _ hfin (Heap.SameBut.update ..))⟩))
    | exact wpAny_pure ⟨.none, rfl, wpAny_pure (hQ _ hfin (Heap.SameBut.update ..))⟩
theorem ev_new {pos : Pos} (al : Al bad h) : Tr prog w A h (eval (.List [] pos) env) (isPl0 bad h) := fun s E l => by
  refine wpAny_List (wpAny_items_nil ⟨by decide, Keeps.push s _, _, rfl, (al.le l).fresh, size_not_alive l, ⟨0, Heap.get?_push_size _ rfl⟩⟩)
def fs6 (l : Addr) (ps : List Pc) (bad : List Addr) (l1 l2 : List Nat) (a b : Int) (n m : Nat) : List (Str × HP) := ("pieces", isVal (.ref l)) :: ("n", isInt n) :: ("m", isInt m) :: ("best", isRd bad (tabD l1 l2)) :: fsP l1 l2 a b
def fsB (l1 l2 : List Nat) (a b : Int) (B : List Addr) : List (Str × HP) := ("best", isRd B (tabD l1 l2)) :: fsP l1 l2 a b
theorem bp_fsB {l1 l2 a b} : BpF (fsB l1 l2 a b) := BpF.cons (Bp.rd _) bp_fsP
/-- pieces, n, m = ([], 0, 0) -/
theorem law5 {l1 l2 : List Nat} {a b : Int} {Q : Flow → Shared → Prop} (hh : A.handled = none) (F : FrOk bad s₀ (lawEnv L fa cd) (fun _ => True)) (I : Inv bad s₀ (lawEnv L fa cd) (fsB l1 l2 a b bad) (fun _ => True) s)
    (k : ∀ l s', l ∉ bad → s₀.heap.get? l = none → FrOk (l :: bad) s₀ (lawEnv L fa cd) (XP l bad []) → Inv (l :: bad) s₀ (lawEnv L fa cd) (fs6 l [] (l :: bad) l1 l2 a b 0 0) (XP l bad []) s' → Q .next s') :
    wpAny (model prog w) A (exec (st 5) (lawEnv L fa cd)) Q E s := by
  have ev : ∀ p1 p2 p3 p4 k1 k2 k3, Tr prog w A s.heap (eval (.Tuple [.List [] p1, .Constant (.int 0) k1 p2, .Constant (.int 0) k2 p3] k3 p4) (lawEnv L fa cd)) (isTp bad [isPl0 bad s.heap, isInt 0, isInt 0]) := fun p1 p2 p3 p4 k1 k2 k3 =>
    ev_tuple I.al (mos_cons st_pl0.mo (mos_cons (pu_int _).mo (mos_cons (pu_int _).mo mos_nil))) (es_cons st_pl0.mo (ev_new I.al) (es_cons (pu_int _).mo (ev_int 0 _ _) (es_cons (pu_int _).mo (ev_int 0 _ _) es_nil))) (small rfl)
  refine Assign_Tuple_swapped (names := ["pieces", "n", "m"]) ((ev _ _ _ _ _ _ _).use (Le.refl _) fun v s1 k1 p1 => unpack_tp hh p1 (mos_cons st_pl0.mo (mos_cons (pu_int _).mo (mos_cons (pu_int _).mo mos_nil))) (by rfl) fun vs s2 k2 q => ?_) (by rfl) (by rfl)
  cases q with
  | cons q0 q =>
    obtain ⟨l, rfl, hlb, hl0, hl⟩ := q0
    have kk := Keeps.tr k1 k2
    have hB : ∀ c ∈ l :: bad, c ∈ bad ∨ s.heap.get? c = none := fun c hc => (List.mem_cons.mp hc).elim (fun z => .inr (z ▸ hl0)) .inl
    have alB : Al (l :: bad) s2.heap := fun c hc e => by
      rcases List.mem_cons.mp hc with z | z
      · obtain ⟨n, ho⟩ := hl
        rw [z, ho] at e; cases e
      · exact I.al.le (Keeps.le kk) c z e
    have I2 : Inv (l :: bad) s₀ (lawEnv L fa cd) (fsB l1 l2 a b (l :: bad)) (XP l bad []) s2 := I.regrow' (bp_fsB (l1 := l1) (l2 := l2) (a := a) (b := b)) kk hB alB ⟨#[], hl, .nil⟩
    have hlf : l ∉ frameAddrs (lawEnv L fa cd) := fun z => hlb (F.sub _ z)
    have F2 : FrOk (l :: bad) s₀ (lawEnv L fa cd) (XP l bad []) := ⟨F.ok, F.fresh, fun c hc => .tail _ (F.sub c hc), fun h h' kb ⟨vs, x, y⟩ => ⟨vs, x.at fun o e => kb _ _ hlf e, y.but (kb.more fun c hc => .tail _ (F.sub c hc))⟩⟩
    have hs0 : s₀.heap.get? l = none := by
      cases z : s₀.heap.get? l with
      | none => rfl
      | some o => rw [I.base l o z] at hl0; cases hl0
    have q' : Hs s2.heap (.ref l :: _) (isVal (.ref l) :: _) := .cons rfl q
    refine store_list (tgt_binds (["pieces", "n", "m"] : List Str).reverse) F2 q'.reverse (by rfl) (fun P hP => ?_) I2 (fun x hx => ?_) fun s' I' => k l s' hlb hs0 F2 I'
    · simp only [List.reverse_cons, List.reverse_nil, List.nil_append, List.cons_append, List.mem_cons, List.not_mem_nil, or_false] at hP
      rcases hP with rfl | rfl | rfl
      · exact (pu_int _).st
      · exact (pu_int _).st
      · exact (pu_val _).st
    · simp only [List.reverse_cons, List.reverse_nil, List.nil_append, List.cons_append, List.mem_cons, List.not_mem_nil, or_false] at hx
      rcases hx with rfl | rfl | rfl <;> exact .inl (by kernel_rfl)
end
end Mine

end
section
open PySem PySem.Spec PySem.Calls PySem.W PyProof.Rows
set_option Elab.async false
set_option linter.unusedVariables false
set_option linter.unusedSimpArgs false
set_option maxRecDepth 100000
namespace Mine
/-- a piece of one letter -/
def one1 (n m : Nat) : Pc := ⟨n, n, m, m, 1⟩
def grow1 (p : Pc) (n m : Nat) : Pc := ⟨p.a0, n, p.b0, m, p.k + 1⟩
def ext (ps : List Pc) (n m : Nat) : List Pc := match ps.getLast? with
  | some p => if p.a1 = (n : Int) - 1 ∧ p.b1 = (m : Int) - 1 then ps.dropLast ++ [grow1 p n m] else ps ++ [one1 n m]
  | none => ps ++ [one1 n m]
abbrev Sg := Nat × Nat × List Pc
def goS (l1 l2 : List Nat) (σ : Sg) : Bool := decide (σ.1 < l1.length) && decide (σ.2.1 < l2.length)
def nextS (l1 l2 : List Nat) (σ : Sg) : Sg := if l1[σ.1]? = l2[σ.2.1]? then (σ.1 + 1, σ.2.1 + 1, ext σ.2.2 σ.1 σ.2.1) else if tt l1 l2 (σ.1 + 1) σ.2.1 ≥ tt l1 l2 σ.1 (σ.2.1 + 1) then (σ.1 + 1, σ.2.1, σ.2.2) else (σ.1, σ.2.1 + 1, σ.2.2)
theorem sm_pc (long : Bool) (p : Pc) : Sm (p.sent long) := by
  constructor
  · cases long <;> simp [Pc.sent, Pc.c1, Pc.c2, tl, PyData.canLay0, PyData.canLayAll0]
  · cases long <;> simp [Pc.sent, Pc.c1, Pc.c2, tl, PyData.depth, PyData.depthAll]
theorem sm_list {ds : List PyData} {n : Nat} (hn : n < 50) (h : ∀ d ∈ ds, d.canLay0 = true ∧ d.depth ≤ n) : Sm (.list ds) := by
  have : PyData.canLayAll0 ds = true ∧ PyData.depthAll ds ≤ n := by
    induction ds with
    | nil => simp [PyData.canLayAll0, PyData.depthAll]
    | cons d ds ih =>
      have h1 := h d (.head _)
      have h2 := ih fun e he => h e (.tail _ he)
      simp only [PyData.canLayAll0, PyData.depthAll, h1.1, h2.1, Bool.and_self, true_and]
      have := h1.2; have := h2.2; omega
  refine ⟨by simpa [PyData.canLay0] using this.1, ?_⟩
  simp only [PyData.depth]
  have := this.2; omega
theorem sm_sents (long : Bool) (ps : List Pc) : Sm (.list (ps.map (Pc.sent long))) := sm_list (n := 10) (by decide) fun d hd => by
  obtain ⟨p, _, rfl⟩ := List.mem_map.mp hd
  refine ⟨(sm_pc long p).lay, ?_⟩
  cases long <;> simp [Pc.sent, Pc.c1, Pc.c2, tl, PyData.depth, PyData.depthAll]
theorem eqv_nil (ds : List PyData) : PyData.eqv (.list ds) (.list []) = ds.isEmpty := by cases ds <;> simp [PyData.eqv, PyData.eqvAll]
theorem RdAll.setLast {B : List Addr} {h : Heap} {vs : Array Value} {ds : List PyData} {v : Value} {d : PyData} (x : RdAll B h vs.toList ds) (y : Rd B h v d) (hn : 0 < vs.size) : RdAll B h (vs.setIfInBounds (vs.size - 1) v).toList (ds.dropLast ++ [d]) := by
  have e : (vs.setIfInBounds (vs.size - 1) v).toList = vs.toList.take (vs.size - 1) ++ [v] := by
    obtain ⟨l⟩ := vs
    rcases List.eq_nil_or_concat l with rfl | ⟨l', x, rfl⟩
    · simp at hn
    · simp [List.set_append]
  have hl : vs.size = ds.length := by simpa using x.length
  rw [e, List.dropLast_eq_take, ← hl]
  exact (x.take _).snoc y
section
variable {prog : Program} {w : World} {A : Around} {env : Env} {h : Heap} {bad : List Addr} {s₀ s : Shared} {E : Value → Shared → Prop} {mg mb : Str → Option Value} {L fa : Addr} {cd : Value} {X Y : Heap → Prop} {fs : List (Str × HP)}
theorem Inv.mut {l : Addr} {h' : Heap} (I : Inv bad s₀ env fs X s) (hl : l ∈ bad) (hlf : l ∉ frameAddrs env) (hl0 : s₀.heap.get? l = none) (hs : Heap.SameBut l s.heap h') (al : h'.get? l ≠ none) (y : Y h') : Inv bad s₀ env fs Y { s with heap := h' } := by
  have bt : But [l] s.heap h' := But.same hs
  have btB : But bad s.heap h' := bt.more fun c hc => List.mem_singleton.mp hc ▸ hl
  obtain ⟨mm, cs, ca, cb, cc⟩ := I.ctx.ex
  have hfr : ∀ c ∈ frameAddrs env, c ≠ l := fun c hc e => hlf (e ▸ hc)
  refine ⟨?_, fun c o e => bt c o (fun q => by rw [List.mem_singleton.mp q, hl0] at e; cases e) (I.base c o e), ⟨mm, cs, ca.sameBut hs (hfr _ (.head _)), fun z d hm => (cb z d hm).sameBut hs (hfr _ (List.mem_cons_of_mem _ (List.mem_map.mpr ⟨_, hm, rfl⟩))), fun z P hl => ?_⟩, y, I.st, fun c hc e => ?_⟩
  · obtain ⟨hh3, tk3, e3⟩ := I.same
    rw [e3]; exact ⟨h', _, rfl⟩
  · obtain ⟨u, e, p⟩ := cc z P hl
    exact ⟨u, e, I.st z P hl _ _ _ btB p⟩
  · by_cases q : c = l
    · exact al (q ▸ e)
    · cases z : s.heap.get? c with
      | none => exact I.al c hc z
      | some o => rw [bt c o (fun q' => q (List.mem_singleton.mp q')) z] at e; cases e
set_option maxHeartbeats 4000000 in
/-- while n < len(one) and m < len(other) -/
theorem law6 {l : Addr} {l1 l2 : List Nat} {a b : Int} {ok : Sg → Prop} {Q : Flow → Shared → Prop} (S : Stc mg mb w.params s₀.heap) (hh : A.handled = none) (hu : A.units + 100 < cLine) (h1 : l1.length ≤ 7) (h2 : l2.length ≤ 7) (hlb : l ∉ bad) (hl0 : s₀.heap.get? l = none)
    (F : FrOk (l :: bad) s₀ (lawEnv L fa cd) (XP l bad [])) (I : Inv (l :: bad) s₀ (lawEnv L fa cd) (fs6 l [] (l :: bad) l1 l2 a b 0 0) (XP l bad []) s)
    (hFb : ∀ c ∈ frameAddrs (lawEnv L fa cd), c ∈ bad)
    (hok0 : ok (0, 0, [])) (hok : ∀ σ, ok σ → σ.2.2.length ≤ 100) (hnext : ∀ σ, ok σ → goS l1 l2 σ = true → ok (nextS l1 l2 σ))
    (k : ∀ σ s', ok σ → goS l1 l2 σ = false → Inv (l :: bad) s₀ (lawEnv L fa cd) (fs6 l σ.2.2 (l :: bad) l1 l2 a b σ.1 σ.2.1) (XP l bad σ.2.2) s' → Q .next s') :
    wpAny (model prog w) A (exec (st 6) (lawEnv L fa cd)) Q E s := by
  have hlf : l ∉ frameAddrs (lawEnv L fa cd) := fun z => hlb (hFb _ z)
  have hF : ∀ ps, FrOk (l :: bad) s₀ (lawEnv L fa cd) (XP l bad ps) := fun ps => F.of fun h h' kb ⟨vs, x, y⟩ => ⟨vs, x.at fun o e => kb _ _ hlf e, y.but (kb.more fun c hc => .tail _ (hFb c hc))⟩
  refine st_while (σ := Sg) (fs := fun σ => fs6 l σ.2.2 (l :: bad) l1 l2 a b σ.1 σ.2.1) (XI := fun σ => XP l bad σ.2.2) (go := goS l1 l2) (next := nextS l1 l2) (μ := fun σ => (l1.length - σ.1) + (l2.length - σ.2.1)) (ok := ok) (0, 0, []) hok0 I (fun σ s ho Iσ => ?_) (fun σ => hF _) (fun σ ho hg => ⟨hnext σ ho hg, ?_⟩) (fun σ s E ho hg Iσ => ?_) k
  · have S2 := S.le Iσ.base
    refine ts_all .And (Ts.eq (ts_and (ts_cmp (pu_int _).mo (ev_name F.ok Iσ.ctx (by rfl) (pu_int _).mo) (len_str S2 F.ok Iσ.ctx (by rfl) h1 (by kernel_rfl)) fun v1 v2 g _ p q => op_lt p q) fun _ => ts_and (ts_cmp (pu_int _).mo (ev_name F.ok Iσ.ctx (by rfl) (pu_int _).mo) (len_str S2 F.ok Iσ.ctx (by rfl) h2 (by kernel_rfl)) fun v1 v2 g _ p q => op_lt p q) fun _ => ts_and_nil) ?_)
    simp [goS]
  · unfold goS at hg
    simp only [Bool.and_eq_true, decide_eq_true_eq] at hg
    unfold nextS
    split
    · simp only; omega
    · split <;> (simp only; omega)
  · obtain ⟨n, m, ps⟩ := σ
    simp only [goS, Bool.and_eq_true, decide_eq_true_eq] at hg
    obtain ⟨hn, hm⟩ := hg
    have hps := hok _ ho
    simp only at hps Iσ
    have ok' := F.ok
    have S2 := S.le Iσ.base
    have vn : ∀ p, Tr prog w A s.heap (eval (.Name "n" p) (lawEnv L fa cd)) (isInt n) := fun p => ev_name ok' Iσ.ctx (by rfl) (pu_int _).mo
    have vm : ∀ p, Tr prog w A s.heap (eval (.Name "m" p) (lawEnv L fa cd)) (isInt m) := fun p => ev_name ok' Iσ.ctx (by rfl) (pu_int _).mo
    have v1 : ∀ p, Tr prog w A s.heap (eval (.Name "one" p) (lawEnv L fa cd)) (isStr ⟨l1.toArray⟩) := fun p => ev_name ok' Iσ.ctx (by rfl) (pu_str _).mo
    have v2 : ∀ p, Tr prog w A s.heap (eval (.Name "other" p) (lawEnv L fa cd)) (isStr ⟨l2.toArray⟩) := fun p => ev_name ok' Iσ.ctx (by rfl) (pu_str _).mo
    obtain ⟨x, hx⟩ : ∃ x, l1[n]? = some x := ⟨_, List.getElem?_eq_getElem hn⟩
    obtain ⟨y, hy⟩ : ∃ y, l2[m]? = some y := ⟨_, List.getElem?_eq_getElem hm⟩
    have hxy : (l1[n]? = l2[m]?) = (x = y) := by rw [hx, hy]; simp
    refine ex_cons (ex_if (b := decide (x = y)) (ts_cmp (pu_str _).mo (ev_sub (pu_str _).mo (v1 _) (vn _) fun a b g _ p q => sub_str hx (by omega) p q) (ev_sub (pu_str _).mo (v2 _) (vm _) fun a b g _ p q => sub_str hy (by omega) p q) fun a b g _ p q => by rw [← str1_eq]; exact op_eqs p q) fun s1 k1 => ?_)
    have I1 := Iσ.keeps (hF ps) k1
    have I1 : Inv (l :: bad) s₀ (lawEnv L fa cd) (fs6 l ps (l :: bad) l1 l2 a b n m) (XP l bad ps) s1 := I1
    by_cases hq : x = y
    · rw [decide_eq_true hq]
      simp only [if_true]
      have S3 := S.le I1.base
      have un : ∀ p, Tr prog w A s1.heap (eval (.Name "n" p) (lawEnv L fa cd)) (isInt n) := fun p => ev_name ok' I1.ctx (by rfl) (pu_int _).mo
      have um : ∀ p, Tr prog w A s1.heap (eval (.Name "m" p) (lawEnv L fa cd)) (isInt m) := fun p => ev_name ok' I1.ctx (by rfl) (pu_int _).mo
      have up : ∀ p, Tr prog w A s1.heap (eval (.Name "pieces" p) (lawEnv L fa cd)) (isVal (.ref l)) := fun p => ev_name ok' I1.ctx (by rfl) (pu_val _).mo
      obtain ⟨vs, hpl, hra⟩ := id I1.x
      have hvl : vs.size = ps.length := by simpa using hra.length
      have upr : ∀ p, Tr prog w A s1.heap (eval (.Name "pieces" p) (lawEnv L fa cd)) (isRd bad (.list (ps.map (Pc.sent true)))) := fun p => (up p).weak fun v g lg q => by
        rw [show v = .ref l from q]
        exact (Rd.list hlb hpl.isList (hra.bads fun c hc => .inl (.tail _ hc))).le lg
      -- the last piece
      have el : ∀ {p : Pc}, ps.getLast? = some p → ∀ {g : Heap}, Le s1.heap g → ∀ p1 q1 q2 q3 kd, Tr prog w A g (eval (.Subscript (.Name "pieces" p1) (.UnaryOp .USub (.Constant (.int 1) kd q1) q2) q3) (lawEnv L fa cd)) (isRd (l :: bad) (p.sent true)) := fun {p} hp {g} lg0 p1 q1 q2 q3 kd => by
        have hpos : 0 < ps.length := by cases ps with
          | nil => simp at hp
          | cons => simp
        have hd : (ps.map (Pc.sent true))[ps.length - 1]? = some (p.sent true) := by
          rw [List.getLast?_eq_getElem?] at hp
          simp [hp]
        obtain ⟨u, hu, ru⟩ := hra.get hd
        refine ((ev_sub (P := isVal u) (pu_val _).mo ((up _).up lg0) (ev_neg (ev_int 1 _ _)) fun v1 v2 g' lg q1 q2 => sub_neg ((lg0.trans lg).list hpl.isList) (by decide) (by omega) (by decide) (by
          have : (-1 + (vs.size : Int)).toNat = ps.length - 1 := by omega
          rw [this]; simpa using hu) q1 q2)).weak fun v g' lg q => ?_
        rw [show v = u from q]
        exact ru.le (lg0.trans lg)
      have elp : ∀ {p : Pc}, ps.getLast? = some p → ∀ {g : Heap}, Le s1.heap g → ∀ (i : Nat) (c : List PyData), ([PyData.list p.c1, .list p.c2, .int p.k] : List PyData)[i]? = some (.list c) → i < 3 → ∀ (j : Nat) (z : Int), c[j]? = some (.int z) → j < 3 → ∀ p1 q1 q2 q3 kd r1 r2 ki t1 t2 kj, Tr prog w A g (eval (.Subscript (.Subscript (.Subscript (.Name "pieces" p1) (.UnaryOp .USub (.Constant (.int 1) kd q1) q2) q3) (.Constant (.int i) ki r1) r2) (.Constant (.int j) kj t1) t2) (lawEnv L fa cd)) (isInt z) := fun {p} hp {g} lg0 i c hc hi j z hz hj p1 q1 q2 q3 kd r1 r2 ki t1 t2 kj =>
        (ev_sub (mo_rd _) (ev_sub (mo_rd _) (el hp lg0 _ _ _ _ _) (ev_int i _ _) fun v1 v2 g _ a b => sub_rd (k := (i : Int)) (d := .list c) (by omega) (by omega) (by rw [Int.toNat_natCast]; exact hc) a b) (ev_int j _ _) fun v1 v2 g _ a b => sub_rd (k := (j : Int)) (d := .int z) (by omega) (by omega) (by rw [Int.toNat_natCast]; exact hz) a b).weak fun v g _ r => int_rd r
      have app : ext ps n m = ps ++ [one1 n m] → ∀ s2 E, Keeps s1 s2 → ∀ {p1 p2 p3 p4 p5 p6 p7 p8 q1 q2 q3 q4 kk} {pl : Sem Bool} (hm : eval (.Call (.Attribute (.Name "pieces" p1) "append" p2) [.List [.List [.Name "n" q1, .Name "n" q2] p3, .List [.Name "m" q3, .Name "m" q4] p4, .Constant (.int 1) kk p5] p6] [] p7) (lawEnv L fa cd) = (do
            let ov ← eval (.Name "pieces" p1) (lawEnv L fa cd)
            standAt p2.atName
            let (f, first) ← holding [ov] (getMethod ov "append" pl)
            callWith p7 f first (backTo p7 (starEach [.List [.List [.Name "n" q1, .Name "n" q2] p3, .List [.Name "m" q3, .Name "m" q4] p4, .Constant (.int 1) kk p5] p6] (lawEnv L fa cd))) [])), wpAny (model prog w) A (execs [.Expr (.Call (.Attribute (.Name "pieces" p1) "append" p2) [.List [.List [.Name "n" q1, .Name "n" q2] p3, .List [.Name "m" q3, .Name "m" q4] p4, .Constant (.int 1) kk p5] p6] [] p7) p8] (lawEnv L fa cd)) (Nx fun s' => Inv (l :: bad) s₀ (lawEnv L fa cd) (fs6 l ps (l :: bad) l1 l2 a b n m) (XP l bad (ext ps n m)) s') E s2 := by
        intro he s2 E k2 p1 p2 p3 p4 p5 p6 p7 p8 q1 q2 q3 q4 kk pl hm
        have I2 := I1.keeps (hF ps) k2
        have lg0 := Keeps.le k2
        have epc : Tr prog w A s2.heap (eval (.List [.List [.Name "n" q1, .Name "n" q2] p3, .List [.Name "m" q3, .Name "m" q4] p4, .Constant (.int 1) kk p5] p6) (lawEnv L fa cd)) (isRd (l :: bad) ((one1 n m).sent true)) := by
          refine (ev_list I2.al (Ps := [isRd (l :: bad) (.list [.int n, .int n]), isRd (l :: bad) (.list [.int m, .int m]), isRd (l :: bad) (.int 1)]) (mos_rd [.list [.int n, .int n], .list [.int m, .int m], .int 1]) (es_cons (mo_rd _) (?_ : Tr prog w A s2.heap _ (isRd (l :: bad) (.list [.int n, .int n]))) (es_cons (mo_rd _) (?_ : Tr prog w A s2.heap _ (isRd (l :: bad) (.list [.int m, .int m]))) (es_cons (mo_rd _) ((ev_int 1 _ _).weak fun v g _ r => rd_int r) es_nil))) (small rfl)).weak fun v g _ r => ls_rd (ds := [.list [.int n, .int n], .list [.int m, .int m], .int 1]) r
          · exact (ev_list I2.al (Ps := [isRd (l :: bad) (.int n), isRd (l :: bad) (.int n)]) (mos_rd [.int n, .int n]) (es_cons (mo_rd _) (((un _).up lg0).weak fun v g _ r => rd_int r) (es_cons (mo_rd _) (((un _).up lg0).weak fun v g _ r => rd_int r) es_nil)) (small rfl)).weak fun v g _ r => ls_rd (ds := [.int n, .int n]) r
          · exact (ev_list I2.al (Ps := [isRd (l :: bad) (.int m), isRd (l :: bad) (.int m)]) (mos_rd [.int m, .int m]) (es_cons (mo_rd _) (((um _).up lg0).weak fun v g _ r => rd_int r) (es_cons (mo_rd _) (((um _).up lg0).weak fun v g _ r => rd_int r) es_nil)) (small rfl)).weak fun v g _ r => ls_rd (ds := [.int m, .int m]) r
        refine ex_cons (wpAny_Expr (MethodCall_ (pl := pl) (he := hm) (((up _).up lg0).use (Le.refl _) fun v s3 k3 q3 => ?_)))
        rw [show v = .ref l from q3]
        have I3 := I2.keeps (hF ps) k3
        obtain ⟨ws, wpl, wra⟩ := id I3.x
        have hwl : ws.size = ps.length := by simpa using wra.length
        obtain ⟨no, hno⟩ := id wpl
        refine getMethod_list_append hno rfl rfl ?_
        refine callWith_method1 (wpAny_items_cons (epc.use (Keeps.le k3) fun u s4 k4 q4 => wpAny_items_nil ?_) rfl) rfl
        have I4 := I3.keeps (hF ps) k4
        refine wpAny_list_append_plain (wpl.at fun o e => Keeps.le k4 _ _ e) (fun h' hp' hs' => ⟨rfl, ex_nil ?_⟩) (by rw [sizeLine_eq]; omega)
        refine I4.mut (.head _) hlf hl0 hs' (by obtain ⟨z, hz⟩ := hp'; rw [hz]; simp) ⟨_, hp', ?_⟩
        rw [he, List.map_append, Array.toList_push]
        have bt : But (l :: bad) s4.heap h' := (But.same hs').more fun c hc => List.mem_singleton.mp hc ▸ .head _
        exact ((wra.le (Keeps.le k4)).but bt).snoc (q4.but bt)
      have mid : ∀ (s' : Shared) E, Inv (l :: bad) s₀ (lawEnv L fa cd) (fs6 l ps (l :: bad) l1 l2 a b n m) (XP l bad (ext ps n m)) s' → ∀ {p1 p2 p3 p4 p5 q1 q2 q3 q4 q5 q6 k1 k2 k3 k4}, swapsWithSole [.Tuple [.Name "n" p1, .Name "m" p2] k3 p3] (.Tuple [.BinOp (.Name "n" q1) .Add (.Constant (.int 1) k1 q2) q3, .BinOp (.Name "m" q4) .Add (.Constant (.int 1) k2 q5) q6] k4 p4) p5.line (lawEnv L fa cd) = pure false → swappedStores [.Tuple [.Name "n" p1, .Name "m" p2] k3 p3] (.Tuple [.BinOp (.Name "n" q1) .Add (.Constant (.int 1) k1 q2) q3, .BinOp (.Name "m" q4) .Add (.Constant (.int 1) k2 q5) q6] k4 p4) (lawEnv L fa cd) = pure (some (["n", "m"] : List Str)) →
          wpAny (model prog w) A (execs [.Assign [.Tuple [.Name "n" p1, .Name "m" p2] k3 p3] (.Tuple [.BinOp (.Name "n" q1) .Add (.Constant (.int 1) k1 q2) q3, .BinOp (.Name "m" q4) .Add (.Constant (.int 1) k2 q5) q6] k4 p4) p5] (lawEnv L fa cd)) (Nx fun s' => Inv (l :: bad) s₀ (lawEnv L fa cd) (fs6 l (ext ps n m) (l :: bad) l1 l2 a b (n + 1) (m + 1)) (XP l bad (ext ps n m)) s') E s' := by
        intro s' E I' p1 p2 p3 p4 p5 q1 q2 q3 q4 q5 q6 k1 k2 k3 k4 e1 e2
        have wn : ∀ p, Tr prog w A s'.heap (eval (.Name "n" p) (lawEnv L fa cd)) (isInt n) := fun p => ev_name ok' I'.ctx (by rfl) (pu_int _).mo
        have wm : ∀ p, Tr prog w A s'.heap (eval (.Name "m" p) (lawEnv L fa cd)) (isInt m) := fun p => ev_name ok' I'.ctx (by rfl) (pu_int _).mo
        refine ex_cons (st_swapped (Ps := [isInt ((n + 1 : Nat) : Int), isInt ((m + 1 : Nat) : Int)]) (names := ["n", "m"]) hh (hF _) I' (ev_tuple I'.al (mos_cons (pu_int _).mo (mos_cons (pu_int _).mo mos_nil)) (es_cons (pu_int _).mo (ev_bin (pu_int _).mo (wn _) (ev_int 1 _ _) fun x y g _ p q => op_add p q) (es_cons (pu_int _).mo (ev_bin (pu_int _).mo (wm _) (ev_int 1 _ _) fun x y g _ p q => op_add p q) es_nil)) (small rfl)) (fun P hP => ?_) rfl (fun x hx => ?_) (fun s2 I2 => ⟨rfl, ex_nil (I2.less fun p hp => ?_)⟩) e1 e2)
        · simp only [List.mem_cons, List.not_mem_nil, or_false] at hP
          rcases hP with rfl | rfl <;> exact (pu_int _).st
        · simp only [List.mem_cons, List.not_mem_nil, or_false] at hx
          rcases hx with rfl | rfl <;> exact .inl (by kernel_rfl)
        · simp only [fs6, fsP, List.mem_cons, List.not_mem_nil, or_false] at hp
          rcases hp with rfl | rfl | rfl | rfl | rfl | rfl | rfl | rfl <;> rfl
      have enx : nextS l1 l2 (n, m, ps) = (n + 1, m + 1, ext ps n m) := by unfold nextS; rw [if_pos (by rw [hxy]; exact hq)]
      rw [enx]
      have ne : ∀ p, Tr prog w A s1.heap (eval (.List [] p) (lawEnv L fa cd)) (isRd bad (.list [])) := fun p => (ev_list (fun c hc => I1.al c (.tail _ hc)) mos_nil es_nil (small rfl)).weak fun v g _ r => ls_nil r
      cases hlast : ps.getLast? with
      | none =>
        have hnil : ps = [] := List.getLast?_eq_none_iff.mp hlast
        refine ex_mid (ex_if (b := false) (ts_all .And (ts_and (b := false) (c := false) (Ts.eq (ts_cmp (mo_rd _) (upr _) (ne _) fun v1 v2 g _ p q => op_ned hu (sm_sents true ps) (sm_list (n := 0) (by decide) fun d hd => by cases hd) p q) (by rw [eqv_nil, hnil]; rfl)) fun hb => by cases hb)) fun s2 k2 => app (by unfold ext; rw [hlast]) s2 _ k2 rfl) fun s' I' => by
          refine wpAny_mono (mid s' _ I' ?_ ?_) (fun f s3 ⟨e, q⟩ => ⟨e, ex_nil q⟩) fun _ _ e => e
          · rfl
          · rfl
      | some p =>
        have hne : ps ≠ [] := fun e => by rw [e] at hlast; cases hlast
        have lg0 := Le.refl s1.heap
        refine ex_mid (ex_if (b := decide (p.a1 = (n : Int) - 1 ∧ p.b1 = (m : Int) - 1)) (ts_all .And (Ts.eq (ts_and (b := true) (Ts.eq (ts_cmp (mo_rd _) (upr _) (ne _) fun v1 v2 g _ p q => op_ned hu (sm_sents true ps) (sm_list (n := 0) (by decide) fun d hd => by cases hd) p q) (by rw [eqv_nil]; cases ps with
            | nil => exact absurd rfl hne
            | cons => rfl)) fun _ => ts_and (ts_cmp (pu_int _).mo (elp hlast lg0 0 p.c1 (by rfl) (by decide) 1 p.a1 (by rfl) (by decide) _ _ _ _ _ _ _ _ _ _ _) (ev_bin (pu_int _).mo (un _) (ev_int 1 _ _) fun x y g _ p q => op_sub p q) fun v1 v2 g _ p q => op_eq p q) fun _ =>
              ts_and (ts_cmp (pu_int _).mo (elp hlast lg0 1 p.c2 (by rfl) (by decide) 1 p.b1 (by rfl) (by decide) _ _ _ _ _ _ _ _ _ _ _) (ev_bin (pu_int _).mo (um _) (ev_int 1 _ _) fun x y g _ p q => op_sub p q) fun v1 v2 g _ p q => op_eq p q) fun _ => ts_and_nil) (by simp))) fun s2 k2 => ?_) fun s' I' => by
          refine wpAny_mono (mid s' _ I' ?_ ?_) (fun f s3 ⟨e, q⟩ => ⟨e, ex_nil q⟩) fun _ _ e => e
          · rfl
          · rfl
        by_cases hc : p.a1 = (n : Int) - 1 ∧ p.b1 = (m : Int) - 1
        · rw [decide_eq_true hc]
          simp only [if_true]
          have he : ext ps n m = ps.dropLast ++ [grow1 p n m] := by unfold ext; rw [hlast]; simp only; rw [if_pos hc]
          have I2 := I1.keeps (hF ps) k2
          have lg0 := Keeps.le k2
          refine ex_cons (wpAny_Assign_Subscript (Tr.use (P := isRd (l :: bad) ((grow1 p n m).sent true)) ?_ (Le.refl s2.heap) fun v s3 k3 q3 => ?_))
          · refine (ev_list I2.al (Ps := [isRd (l :: bad) (.list [.int p.a0, .int n]), isRd (l :: bad) (.list [.int p.b0, .int m]), isRd (l :: bad) (.int (p.k + 1))]) (mos_rd [.list [.int p.a0, .int n], .list [.int p.b0, .int m], .int (p.k + 1)]) (es_cons (mo_rd _) (?_ : Tr prog w A s2.heap _ (isRd (l :: bad) (.list [.int p.a0, .int n]))) (es_cons (mo_rd _) (?_ : Tr prog w A s2.heap _ (isRd (l :: bad) (.list [.int p.b0, .int m]))) (es_cons (mo_rd _) ((ev_bin (pu_int _).mo ((ev_sub (mo_rd _) (el hlast lg0 _ _ _ _ _) (ev_int 2 _ _) fun v1 v2 g _ a b => sub_rd (d := .int p.k) (by decide) (by decide) (by rfl) a b).weak fun v g _ r => int_rd r) (ev_int 1 _ _) fun x y g _ p q => op_add p q).weak fun v g _ r => rd_int r) es_nil))) (small rfl)).weak fun v g _ r => ls_rd (ds := [.list [.int p.a0, .int n], .list [.int p.b0, .int m], .int (p.k + 1)]) r
            · exact (ev_list I2.al (Ps := [isRd (l :: bad) (.int p.a0), isRd (l :: bad) (.int n)]) (mos_rd [.int p.a0, .int n]) (es_cons (mo_rd _) ((elp hlast lg0 0 p.c1 (by rfl) (by decide) 0 p.a0 (by rfl) (by decide) _ _ _ _ _ _ _ _ _ _ _).weak fun v g _ r => rd_int r) (es_cons (mo_rd _) (((un _).up lg0).weak fun v g _ r => rd_int r) es_nil)) (small rfl)).weak fun v g _ r => ls_rd (ds := [.int p.a0, .int n]) r
            · exact (ev_list I2.al (Ps := [isRd (l :: bad) (.int p.b0), isRd (l :: bad) (.int m)]) (mos_rd [.int p.b0, .int m]) (es_cons (mo_rd _) ((elp hlast lg0 1 p.c2 (by rfl) (by decide) 0 p.b0 (by rfl) (by decide) _ _ _ _ _ _ _ _ _ _ _).weak fun v g _ r => rd_int r) (es_cons (mo_rd _) (((um _).up lg0).weak fun v g _ r => rd_int r) es_nil)) (small rfl)).weak fun v g _ r => ls_rd (ds := [.int p.b0, .int m]) r
          · refine ((up _).up lg0).use (Keeps.le k3) fun v' s4 k4 q4 => (ev_neg (ev_int 1 _ _) : Tr prog w A s4.heap _ (isInt (-1))).use (Le.refl _) fun v'' s5 k5 q5 => ?_
            rw [show v' = .ref l from q4]
            obtain ⟨t5, rfl⟩ := q5
            have I5 := I2.keeps (hF ps) (Keeps.tr k3 (Keeps.tr k4 k5))
            obtain ⟨ws, wpl, wra⟩ := id I5.x
            have hwl : ws.size = ps.length := by simpa using wra.length
            have hpos : 0 < ps.length := by cases ps with
              | nil => exact absurd rfl hne
              | cons => simp
            refine setItem_last wpl (by omega) (by omega) fun h' hp' hs' => ⟨rfl, ex_nil ?_⟩
            refine I5.mut (.head _) hlf hl0 hs' (by obtain ⟨z, hz⟩ := hp'; rw [hz]; simp) ⟨_, hp', ?_⟩
            have bt : But (l :: bad) s5.heap h' := (But.same hs').more fun c hc => List.mem_singleton.mp hc ▸ .head _
            rw [he, List.map_append, List.map_dropLast]
            exact (wra.setLast (q3.le ((Keeps.le k4).trans (Keeps.le k5))) (by omega)).but bt
        · rw [decide_eq_false hc]
          exact app (by unfold ext; rw [hlast]; simp only; rw [if_neg hc]) s2 _ k2 rfl
    · rw [decide_eq_false hq]
      have S3 := S.le I1.base
      have un : ∀ p, Tr prog w A s1.heap (eval (.Name "n" p) (lawEnv L fa cd)) (isInt n) := fun p => ev_name ok' I1.ctx (by rfl) (pu_int _).mo
      have um : ∀ p, Tr prog w A s1.heap (eval (.Name "m" p) (lawEnv L fa cd)) (isInt m) := fun p => ev_name ok' I1.ctx (by rfl) (pu_int _).mo
      have ub : ∀ p, Tr prog w A s1.heap (eval (.Name "best" p) (lawEnv L fa cd)) (isRd (l :: bad) (tabD l1 l2)) := fun p => ev_name ok' I1.ctx (by rfl) (mo_rd _)
      have cell : ∀ {r c : Nat} {e1 e2 : Expr}, r < l1.length + 1 → c < l2.length + 1 → Tr prog w A s1.heap (eval e1 (lawEnv L fa cd)) (isInt r) → Tr prog w A s1.heap (eval e2 (lawEnv L fa cd)) (isInt c) → ∀ p1 p2 p3, (∀ l t, subscripted e1 false (.ref l) (.int r t) = operate [.ref l, .int r t] (getItem (.ref l) (.int r t))) → (∀ l t, subscripted e2 false (.ref l) (.int c t) = operate [.ref l, .int c t] (getItem (.ref l) (.int c t))) →
          Tr prog w A s1.heap (eval (.Subscript (.Subscript (.Name "best" p1) e1 p2) e2 p3) (lawEnv L fa cd)) (isInt (tt l1 l2 r c)) := fun {r c e1 e2} hr hc x1 x2 p1 p2 p3 hs1 hs2 =>
        (ev_sub (mo_rd _) (ev_sub (mo_rd _) (ub _) x1 fun v1 v2 g _ a b => sub_rd (k := (r : Int)) (d := .list ((List.range (l2.length + 1)).map fun c => .int (tt l1 l2 r c))) (by omega) (by omega) (by rw [Int.toNat_natCast]; simp [hr]) a b hs1) x2 fun v1 v2 g _ a b => sub_rd (k := (c : Int)) (d := .int (tt l1 l2 r c)) (by omega) (by omega) (by rw [Int.toNat_natCast]; simp [hc]) a b hs2).weak fun v g _ r => int_rd r
      have un1 : ∀ p q r kd, Tr prog w A s1.heap (eval (.BinOp (.Name "n" p) .Add (.Constant (.int 1) kd q) r) (lawEnv L fa cd)) (isInt ((n + 1 : Nat) : Int)) := fun p q r kd => ev_bin (pu_int _).mo (un _) (ev_int 1 _ _) fun x y g _ p q => op_add p q
      have um1 : ∀ p q r kd, Tr prog w A s1.heap (eval (.BinOp (.Name "m" p) .Add (.Constant (.int 1) kd q) r) (lawEnv L fa cd)) (isInt ((m + 1 : Nat) : Int)) := fun p q r kd => ev_bin (pu_int _).mo (um _) (ev_int 1 _ _) fun x y g _ p q => op_add p q
      refine ex_cons (ex_if (b := decide (tt l1 l2 (n + 1) m ≥ tt l1 l2 n (m + 1))) (ts_cmp (pu_int _).mo (cell (by omega) (by omega) (un1 _ _ _ _) (um _) _ _ _ (by intro _ _; rfl) (by intro _ _; rfl)) (cell (by omega) (by omega) (un _) (um1 _ _ _ _) _ _ _ (by intro _ _; rfl) (by intro _ _; rfl)) fun v1 v2 g _ p q => op_ge p q) fun s2 k2 => ?_)
      have I2 := I1.keeps (hF ps) k2
      by_cases hc : tt l1 l2 (n + 1) m ≥ tt l1 l2 n (m + 1)
      · rw [decide_eq_true hc]
        have enx : nextS l1 l2 (n, m, ps) = (n + 1, m, ps) := by unfold nextS; rw [if_neg (by rw [hxy]; exact hq)]; simp only; rw [if_pos hc]
        rw [enx]
        refine ex_cons (st_aug (j := 1) (hF _) I2 (by rfl) (ev_int 1 _ _) (fun s3 I3 => ⟨rfl, ex_nil (ex_nil (ex_nil (I3.less fun p hp => ?_)))⟩) (.inl (by kernel_rfl)))
        simp only [fs6, fsP, List.mem_cons, List.not_mem_nil, or_false] at hp
        rcases hp with rfl | rfl | rfl | rfl | rfl | rfl | rfl | rfl <;> rfl
      · rw [decide_eq_false hc]
        have enx : nextS l1 l2 (n, m, ps) = (n, m + 1, ps) := by unfold nextS; rw [if_neg (by rw [hxy]; exact hq)]; simp only; rw [if_neg hc]
        rw [enx]
        refine ex_cons (st_aug (j := 1) (hF _) I2 (by rfl) (ev_int 1 _ _) (fun s3 I3 => ⟨rfl, ex_nil (ex_nil (ex_nil (I3.less fun p hp => ?_)))⟩) (.inl (by kernel_rfl)))
        simp only [fs6, fsP, List.mem_cons, List.not_mem_nil, or_false] at hp
        rcases hp with rfl | rfl | rfl | rfl | rfl | rfl | rfl | rfl <;> rfl
end
end Mine

end
section
open PySem PySem.Spec PySem.Calls PySem.W PyProof.Rows
set_option Elab.async false
set_option linter.unusedVariables false
set_option linter.unusedSimpArgs false
set_option maxRecDepth 100000
namespace Mine
def lBody : List Stmt := match st 7 with | .For _ _ b _ _ => b | _ => []
def bs (i : Nat) : Stmt := lBody.getD i (.Pass ⟨0, 0, 0, 0⟩)
theorem lBody_eq : lBody = [bs 0, bs 1, bs 2, bs 3, bs 4, bs 5, bs 6, bs 7, bs 8, bs 9] := rfl
section
variable (prog : Program) (w : World) (l1 l2 : List Nat) (a b : Int) (ps : List Pc) (long : Bool)
def C7 (B : List Addr) : List (Str × HP) := ("pieces", isRd B (.list (ps.map (Pc.sent true)))) :: ("best", isRd B (tabD l1 l2)) :: fsP l1 l2 a b
def K0 (B : List Addr) : List (Str × HP) := ("long", isBool long) :: C7 l1 l2 a b ps B
def K1 (B : List Addr) : List (Str × HP) := ("sent", isRd B (.list (ps.reverse.map (Pc.sent long)))) :: K0 l1 l2 a b ps long B
def k0 : KK := if a.fmod 2 = 0 then .inl "matches" else .inr bmatches
def k2 : KK := if b.fmod 2 = 0 then .inl "len" else .inr blen
def K2 (B : List Addr) : List (Str × HP) := ("flat", flatP (k0 a) (k2 b) (.list (ps.reverse.map (Pc.sent long))) (tt l1 l2 0 0) B) :: ("mapped", two prog w (.inr bmatches) (.inr blen) (.list (ps.reverse.map (Pc.sent long))) (.int (tt l1 l2 0 0)) B) :: K1 l1 l2 a b ps long B
def K3 (B : List Addr) : List (Str × HP) := ("elder", two prog w (.inl "matches") (.inl "len") (.list (ps.reverse.map (Pc.eld long))) (.int (tt l1 l2 0 0)) B) :: ("new", two prog w (.inl "matches") (.inl "len") (.list (ps.reverse.map (Pc.due long))) (.int (tt l1 l2 0 0)) B) :: K2 prog w l1 l2 a b ps long B
def K4 (B : List Addr) : List (Str × HP) := ("due", isRd B (.list (ps.reverse.map (Pc.due long)))) :: K3 prog w l1 l2 a b ps long B
end
section
variable {prog : Program} {w : World} {l1 l2 : List Nat} {a b : Int} {ps : List Pc} {long : Bool}
theorem bp_C7 : BpF (C7 l1 l2 a b ps) := BpF.cons (Bp.rd _) (BpF.cons (Bp.rd _) bp_fsP)
theorem bp_K0 : BpF (K0 l1 l2 a b ps long) := BpF.cons (Bp.of_pure (pu_bool _)) bp_C7
theorem bp_K1 : BpF (K1 l1 l2 a b ps long) := BpF.cons (Bp.rd _) bp_K0
theorem bp_K2 : BpF (K2 prog w l1 l2 a b ps long) := BpF.cons bp_flat (BpF.cons bp_two bp_K1)
theorem bp_K3 : BpF (K3 prog w l1 l2 a b ps long) := BpF.cons bp_two (BpF.cons bp_two bp_K2)
theorem bp_K4 : BpF (K4 prog w l1 l2 a b ps long) := BpF.cons (Bp.rd _) bp_K3
theorem k0_asc : kasc (k0 a) := by unfold k0; split <;> simp [kasc, bmatches]
theorem k2_asc : kasc (k2 b) := by unfold k2; split <;> simp [kasc, blen]
theorem k0_txt : ktxt (k0 a) = "matches" := by unfold k0; split <;> decide
theorem k2_txt : ktxt (k2 b) = "len" := by unfold k2; split <;> decide
end
theorem nd5 (L : Nat) : [L + 5].Nodup := by simp
theorem fmod2 (a : Int) : a.fmod 2 = 0 ∨ a.fmod 2 = 1 := by
  have h1 : 0 ≤ a.fmod 2 := Int.fmod_nonneg_of_pos _ (by decide)
  have h2 : a.fmod 2 < 2 := Int.fmod_lt_of_pos _ (by decide)
  omega
section
variable {prog : Program} {w : World} {A : Around} {env : Env} {h : Heap} {bad : List Addr} {s₀ s : Shared} {E : Value → Shared → Prop} {mg mb : Str → Option Value} {L fa : Addr} {cd : Value} {X : Heap → Prop} {l1 l2 : List Nat} {a b : Int} {ps : List Pc} {long : Bool}
/-- sent = [piece if long else piece[:2] for piece in pieces[::-1]] -/
theorem body0 (hh : A.handled = none) (hps : ps.length ≤ 100) (F : FrOk bad s₀ (lawEnv L fa cd) X) (I : Inv bad s₀ (lawEnv L fa cd) (K0 l1 l2 a b ps long bad) X s) :
    wpAny (model prog w) A (exec (bs 0) (lawEnv L fa cd)) (Nx fun s' => Inv bad s₀ (lawEnv L fa cd) (K1 l1 l2 a b ps long bad) X s') E s := by
  refine st_comp (cl := [("long", L + 5)]) (ffs := fun B => [("long", isBool long)]) (ds := ps.reverse.map (Pc.sent long)) F I (by kernel_rfl) (cap_of (BpF.cons (Bp.of_pure (pu_bool _)) BpF.nil) ?_ ?_ ?_ ?_ ?_)
    (src_rd hh I.al (sl_rev (ds := ps.map (Pc.sent true)) I.al (ev_name F.ok I.ctx (by rfl) (mo_rd _)) (by simp; omega) (ev_neg (ev_int 1 _ _)))) (by simp; omega) (by simp) (fun i => bp_itm _ i) (nocell (by kernel_rfl)) (by rfl) (localOnce (by kernel_rfl)) (by kernel_rfl) ?_ ?_ (fun s' I' => ⟨rfl, I'⟩) (by kernel_rfl) (by rfl)
  · intro p hp
    obtain rfl := List.mem_singleton.mp hp
    rw [lawCells]; simp
  · show ([("long" : Str)] : List Str).Nodup
    decide
  · exact nd5 L
  · intro B p hp
    obtain rfl := List.mem_singleton.mp hp
    exact ⟨by kernel_rfl, by kernel_rfl⟩
  · intro p hp
    obtain rfl := List.mem_singleton.mp hp
    rfl
  · intro p hp C
    obtain rfl := List.mem_singleton.mp hp
    kernel_rfl
  · intro i g C B hi ok le al hb c
    have hi' : i < ps.reverse.length := by simpa using hi
    have hd : (ps.map (Pc.sent true)).reverse[i]? = some (ps.reverse[i].sent true) := by rw [← List.map_reverse, List.getElem?_map, List.getElem?_eq_getElem hi']; rfl
    have hd2 : (ps.reverse.map (Pc.sent long))[i]? = some (ps.reverse[i].sent long) := by rw [List.getElem?_map, List.getElem?_eq_getElem hi']; rfl
    refine Tr.weak (P := isRd B (ps.reverse[i].sent long)) ?_ fun v g' _ p => ⟨_, hd2, p⟩
    generalize hcenv : compEnvC _ _ C _ = cenv at ok c ⊢
    generalize ps.reverse[i] = q at *
    have em : ∀ pos, Tr prog w A g (eval (.Name "piece" pos) cenv) (isRd B (q.sent true)) := fun pos => (ev_name ok c lookup_cons_self ((bp_itm _ i).st B).mo).weak fun v g' _ ⟨d, e, r⟩ => by
      rw [hd] at e; cases e; exact r
    refine ev_if (b := long) (ts_bool (ev_name ok c (by rfl) (pu_bool _).mo)) (fun hl => ?_) (fun hl => ?_)
    · subst hl; exact em _
    · subst hl
      exact sl_take (k := 2) al (em _) (small rfl) (ev_int 2 _ _)
theorem k0_ev {pos1 pos2 p3 p4 p5 p6 p7 : Pos} {kd1 kd2 kd3 : Nat} {x : Str} {y : Str} {z : List UInt8} {c : Int} (al : Al bad h) (ex : ∀ p, Tr prog w A h (eval (.Name x p) env) (isInt c)) :
    Tr prog w A h (eval (.Subscript (.List [.Constant (.str y) kd1 pos1, .Constant (.bytes z) kd2 pos2] p3) (.BinOp (.Name x p4) .Mod (.Constant (.int 2) kd3 p5) p6) p7) env) (isKey (if c.fmod 2 = 0 then .inl y else .inr z)) := by
  refine ev_sub (P1 := isLs bad [isKey (.inl y), isKey (.inr z)]) (P2 := isInt (c.fmod 2)) (mo_ls (mos_cons (pu_key _).mo (mos_cons (pu_key _).mo mos_nil))) (ev_list al (mos_cons (pu_key _).mo (mos_cons (pu_key _).mo mos_nil)) (es_cons (pu_key _).mo (ev_str y _ _) (es_cons (pu_key _).mo (ev_bytes z _ _) es_nil)) (small rfl)) (ev_bin (pu_int _).mo (ex _) (ev_int 2 _ _) fun v1 v2 g _ p q => op_mod (by decide) p q) fun v1 v2 g lg p q => ?_
  rcases fmod2 c with e | e
  · rw [if_pos e]
    rw [e] at q
    exact sub_ls (i := 0) (by rfl) (pu_key _).mo (by decide) p q
  · rw [if_neg (by omega)]
    rw [e] at q
    exact sub_ls (i := 1) (by rfl) (pu_key _).mo (by decide) p q
theorem best00 {p1 p2 p3 p4 p5 : Pos} {k1 k2 : Nat} (eb : ∀ p, Tr prog w A h (eval (.Name "best" p) env) (isRd bad (tabD l1 l2))) : Tr prog w A h (eval (.Subscript (.Subscript (.Name "best" p1) (.Constant (.int 0) k1 p2) p3) (.Constant (.int 0) k2 p4) p5) env) (isInt (tt l1 l2 0 0)) :=
  (ev_sub (mo_rd _) (ev_sub (mo_rd _) (eb _) (ev_int 0 _ _) fun v1 v2 g _ a b => sub_rd (k := 0) (d := .list ((List.range (l2.length + 1)).map fun c => .int (tt l1 l2 0 c))) (by decide) (by decide) (by simp) a b) (ev_int 0 _ _) fun v1 v2 g _ a b => sub_rd (k := 0) (d := .int (tt l1 l2 0 0)) (by decide) (by decide) (by simp) a b).weak fun v g _ r => int_rd r
set_option maxHeartbeats 4000000 in
/-- flat, mapped = .. -/
theorem body1 (hh : A.handled = none) (hm : cStatics ∈ bad) (hps : ps.length ≤ 100) (F : FrOk bad s₀ (lawEnv L fa cd) X) (I : Inv bad s₀ (lawEnv L fa cd) (K1 l1 l2 a b ps long bad) X s) :
    wpAny (model prog w) A (exec (bs 1) (lawEnv L fa cd)) (Nx fun s' => Inv bad s₀ (lawEnv L fa cd) (K2 prog w l1 l2 a b ps long bad) X s') E s := by
  have nm : ∀ {g : Heap} {B : List Addr} (cg : Ctx (lawEnv L fa cd) (K1 l1 l2 a b ps long B) g), (∀ p, Tr prog w A g (eval (.Name "best" p) (lawEnv L fa cd)) (isRd B (tabD l1 l2))) ∧ (∀ p, Tr prog w A g (eval (.Name "sent" p) (lawEnv L fa cd)) (isRd B (.list (ps.reverse.map (Pc.sent long))))) ∧ (∀ p, Tr prog w A g (eval (.Name "a" p) (lawEnv L fa cd)) (isInt a)) ∧ (∀ p, Tr prog w A g (eval (.Name "b" p) (lawEnv L fa cd)) (isInt b)) := fun cg =>
    ⟨fun p => ev_name F.ok cg (by rfl) (mo_rd _), fun p => ev_name F.ok cg (by rfl) (mo_rd _), fun p => ev_name F.ok cg (by rfl) (pu_int _).mo, fun p => ev_name F.ok cg (by rfl) (pu_int _).mo⟩
  obtain ⟨eb, es, ea, ebb⟩ := nm I.ctx
  refine st_swapped (Ps := [flatP (k0 a) (k2 b) (.list (ps.reverse.map (Pc.sent long))) (tt l1 l2 0 0) bad, two prog w (.inr bmatches) (.inr blen) (.list (ps.reverse.map (Pc.sent long))) (.int (tt l1 l2 0 0)) bad]) (names := ["flat", "mapped"]) hh F I
    (ev_tuple I.al (mos_cons (bp_flat.st _).mo (mos_cons (bp_two.st _).mo mos_nil)) (es_cons (bp_flat.st _).mo ?_ (es_cons (bp_two.st _).mo ?_ es_nil)) (small rfl)) (fun P hP => ?_) rfl (fun x hx => ?_) (fun s2 I2 => ⟨rfl, I2⟩) (by rfl) (by rfl)
  · have m4 : Mos [isKey (k0 a), isRd bad (.list (ps.reverse.map (Pc.sent long))), isKey (k2 b), isInt (tt l1 l2 0 0)] := mos_cons (pu_key _).mo (mos_cons (mo_rd _) (mos_cons (pu_key _).mo (mos_cons (pu_int _).mo mos_nil)))
    exact ev_list I.al m4 (es_cons (pu_key _).mo (k0_ev I.al ea) (es_cons (mo_rd _) (es _) (es_cons (pu_key _).mo (k0_ev I.al ebb) (es_cons (pu_int _).mo (best00 eb) es_nil)))) (small rfl)
  · refine ev_dict I.al hm two_ok (fun g B lg alB hB => ?_) (two_nd (by decide))
    obtain ⟨eb', es', _, _⟩ := nm (I.ctxAt (bp_K1 (l1 := l1) (l2 := l2) (a := a) (b := b) (ps := ps) (long := long)) hB lg)
    exact ds_cons (mo_rd _) (ev_bytes _ _ _) (es' _) (ds_cons (mo_rd _) (ev_bytes _ _ _) ((best00 eb').weak fun v g _ r => rd_int r) ds_nil)
  · simp only [List.mem_cons, List.not_mem_nil, or_false] at hP
    rcases hP with rfl | rfl
    · exact bp_flat.st _
    · exact bp_two.st _
  · simp only [List.mem_cons, List.not_mem_nil, or_false] at hx
    rcases hx with rfl | rfl <;> exact .inl (by kernel_rfl)
end
end Mine

end
section
open PySem PySem.Spec PySem.Calls PySem.W PyProof.Rows
set_option Elab.async false
set_option linter.unusedVariables false
set_option linter.unusedSimpArgs false
set_option maxRecDepth 100000
set_option maxHeartbeats 4000000
namespace Mine
theorem sm_int (i : Int) : Sm (.int i) := ⟨by simp [PyData.canLay0], by simp [PyData.depth]⟩
theorem sm_due (long : Bool) (ps : List Pc) : Sm (.list (ps.map (Pc.due long))) := sm_list (n := 10) (by decide) fun d hd => by
  obtain ⟨p, _, rfl⟩ := List.mem_map.mp hd
  cases long <;> simp [Pc.due, Pc.c1, Pc.c2, tl, PyData.depth, PyData.depthAll, PyData.canLay0, PyData.canLayAll0]
theorem sm_eld (long : Bool) (ps : List Pc) : Sm (.list (ps.map (Pc.eld long))) := sm_list (n := 10) (by decide) fun d hd => by
  obtain ⟨p, _, rfl⟩ := List.mem_map.mp hd
  cases long <;> simp [Pc.eld, Pc.c1, Pc.c2, tl, PyData.depth, PyData.depthAll, PyData.canLay0, PyData.canLayAll0]
section
variable {prog : Program} {w : World} {A : Around} {env : Env} {h : Heap} {bad : List Addr} {s₀ s : Shared} {E : Value → Shared → Prop} {mg mb : Str → Option Value} {L fa : Addr} {cd : Value} {X : Heap → Prop} {l1 l2 : List Nat} {a b : Int} {ps : List Pc} {long : Bool}
/-- f(x, idx=True, withmatchlen=long) -/
theorem ev_parse {f : Addr} {fname : Str} {e : Expr} {pf p1 p2 p3 p4 p5 : Pos} {kd : Nat} {P1 P : HP} {o : Obj} {fd : FuncData} (ok : EnvOk env) (S : Stc mg mb w.params h) (ho : h.get? f = some o) (hdata : o.data = .func fd) (m1 : Mo P1)
    (hf : Tr prog w A h (eval (.Name fname pf) env) (isVal (.ref f))) (x : Tr prog w A h (eval e env) P1) (xl : Tr prog w A h (eval (.Name "long" p1) env) (isBool long))
    (hop : ∀ v g, Le h g → P1 v g → Tr prog w A g (call (.ref f) [v] [(Str.ofString "idx", .bool true), (Str.ofString "withmatchlen", .bool long)]) P)
    (hs : starEach [e] env = (false, eval e env) :: starEach [] env) :
    Tr prog w A h (eval (.Call (.Name fname pf) [e] [⟨some "idx", .Constant (.bool true) kd p2, p3⟩, ⟨some "withmatchlen", .Name "long" p1, p4⟩] p5) env) P := by
  refine ev_callF (Qs := [isBool true, isBool long]) ho hdata m1 hf x (ks_cons (pu_bool _).mo (ev_bool true _ _) (ks_cons (pu_bool _).mo xl ks_nil)) (fun v kvs g lg p q => ?_) rfl hs
  cases q with
  | cons q1 q =>
    cases q with
    | cons q2 q =>
      cases q
      rw [show _ = Value.bool true from q1, show _ = Value.bool long from q2]
      exact hop v g lg p
/-- elder, new = .. -/
theorem body2 {n : Nat} (ha : AOk (n + 2) A) (S : Stc mg mb w.params s₀.heap) (hm : cStatics ∈ bad) (hps : ps.length ≤ 100) (F : FrOk bad s₀ (lawEnv L fa cd) X) (I : Inv bad s₀ (lawEnv L fa cd) (K2 prog w l1 l2 a b ps long bad) X s) :
    wpAny (model prog w) A (exec (bs 2) (lawEnv L fa cd)) (Nx fun s' => Inv bad s₀ (lawEnv L fa cd) (K3 prog w l1 l2 a b ps long bad) X s') E s := by
  have S2 := S.le I.base
  have xl : ∀ p, Tr prog w A s.heap (eval (.Name "long" p) (lawEnv L fa cd)) (isBool long) := fun p => ev_name F.ok I.ctx (by rfl) (pu_bool _).mo
  refine st_swapped (Ps := [two prog w (.inl "matches") (.inl "len") (.list (ps.reverse.map (Pc.eld long))) (.int (tt l1 l2 0 0)) bad, two prog w (.inl "matches") (.inl "len") (.list (ps.reverse.map (Pc.due long))) (.int (tt l1 l2 0 0)) bad]) (names := ["elder", "new"]) ha.hh F I
    (ev_tuple I.al (mos_cons (bp_two.st _).mo (mos_cons (bp_two.st _).mo mos_nil)) (es_cons (bp_two.st _).mo ?_ (es_cons (bp_two.st _).mo ?_ es_nil)) (small rfl)) (fun P hP => ?_) rfl (fun x hx => ?_) (fun s2 I2 => ⟨rfl, I2⟩) (by rfl) (by rfl)
  · exact ev_parse F.ok S2 (S2.K _ _ (l_26 _)) (d_26 _) (bp_flat.st bad).mo (S2.glob F.ok (n_parse _)) (ev_name F.ok I.ctx (by rfl) (bp_flat.st _).mo) (xl _) (fun v g lg p => parse_flat ha (S2.le lg) (I.al.le lg) hm k0_asc k2_asc k0_txt k2_txt (by simp; omega) p) rfl
  · exact ev_parse F.ok S2 (S2.K _ _ (l_31 _)) (d_31 _) (bp_flat.st bad).mo (S2.glob F.ok (n_uni _)) (ev_name F.ok I.ctx (by rfl) (bp_flat.st _).mo) (xl _) (fun v g lg p => parse_uni ha (S2.le lg) (I.al.le lg) hm k0_asc k2_asc k0_txt k2_txt (by simp; omega) p) rfl
  · simp only [List.mem_cons, List.not_mem_nil, or_false] at hP
    rcases hP with rfl | rfl <;> exact bp_two.st _
  · simp only [List.mem_cons, List.not_mem_nil, or_false] at hx
    rcases hx with rfl | rfl <;> exact .inl (by kernel_rfl)
/-- the later wire, octets for names -/
theorem body3 {n : Nat} (ha : AOk (n + 2) A) (S : Stc mg mb w.params s₀.heap) (hm : cStatics ∈ bad) (hps : ps.length ≤ 100) (F : FrOk bad s₀ (lawEnv L fa cd) X) (I : Inv bad s₀ (lawEnv L fa cd) (K3 prog w l1 l2 a b ps long bad) X s) :
    wpAny (model prog w) A (exec (bs 3) (lawEnv L fa cd)) (Nx fun s' => Inv bad s₀ (lawEnv L fa cd) (K3 prog w l1 l2 a b ps long bad) X s') E s := by
  have S2 := S.le I.base
  have xl : ∀ p, Tr prog w A s.heap (eval (.Name "long" p) (lawEnv L fa cd)) (isBool long) := fun p => ev_name F.ok I.ctx (by rfl) (pu_bool _).mo
  refine ex_if (b := false) (ts_cmp (P1 := two prog w (.inl "matches") (.inl "len") (.list (ps.reverse.map (Pc.due long))) (.int (tt l1 l2 0 0)) bad) (P2 := two prog w (.inl "matches") (.inl "len") (.list (ps.reverse.map (Pc.due long))) (.int (tt l1 l2 0 0)) bad) (bp_two.st _).mo ?_ (ev_name F.ok I.ctx (by rfl) (bp_two.st _).mo) fun v1 v2 g lg p q => op_neD (by decide) ha.u (sm_due _ _) (sm_int _) p q) fun s2 k2 => ex_nil (I.keeps F k2)
  exact ev_parse F.ok S2 (S2.K _ _ (l_36 _)) (d_36 _) (bp_two.st bad).mo (S2.glob F.ok (n_resp _)) (ev_name F.ok I.ctx (by rfl) (bp_two.st _).mo) (xl _) (fun v g lg p => parse_map ha (S2.le lg) (I.al.le lg) hm (.inr ⟨rfl, rfl⟩) (by simp; omega) p) rfl
/-- due = .. -/
theorem body4 (hh : A.handled = none) (hps : ps.length ≤ 100) (F : FrOk bad s₀ (lawEnv L fa cd) X) (I : Inv bad s₀ (lawEnv L fa cd) (K3 prog w l1 l2 a b ps long bad) X s) :
    wpAny (model prog w) A (exec (bs 4) (lawEnv L fa cd)) (Nx fun s' => Inv bad s₀ (lawEnv L fa cd) (K4 prog w l1 l2 a b ps long bad) X s') E s := by
  refine st_comp (cl := [("long", L + 5)]) (ffs := fun B => [("long", isBool long)]) (ds := ps.reverse.map (Pc.due long)) F I (by kernel_rfl) (cap_of (BpF.cons (Bp.of_pure (pu_bool _)) BpF.nil) ?_ ?_ ?_ ?_ ?_)
    (src_rd hh I.al (sl_rev (ds := ps.map (Pc.sent true)) I.al (ev_name F.ok I.ctx (by rfl) (mo_rd _)) (by simp; omega) (ev_neg (ev_int 1 _ _)))) (by simp; omega) (by simp) (fun i => bp_itm _ i) (nocell (by kernel_rfl)) (by rfl) (localOnce (by kernel_rfl)) (by kernel_rfl) ?_ ?_ (fun s' I' => ⟨rfl, I'⟩) (by kernel_rfl) (by rfl)
  · intro p hp
    obtain rfl := List.mem_singleton.mp hp
    rw [lawCells]; simp
  · show ([("long" : Str)] : List Str).Nodup
    decide
  · exact nd5 L
  · intro B p hp
    obtain rfl := List.mem_singleton.mp hp
    exact ⟨by kernel_rfl, by kernel_rfl⟩
  · intro p hp
    obtain rfl := List.mem_singleton.mp hp
    rfl
  · intro p hp C
    obtain rfl := List.mem_singleton.mp hp
    kernel_rfl
  · intro i g C B hi ok le al hb c
    have hi' : i < ps.reverse.length := by simpa using hi
    have hd : (ps.map (Pc.sent true)).reverse[i]? = some (ps.reverse[i].sent true) := by rw [← List.map_reverse, List.getElem?_map, List.getElem?_eq_getElem hi']; rfl
    have hd2 : (ps.reverse.map (Pc.due long))[i]? = some (ps.reverse[i].due long) := by rw [List.getElem?_map, List.getElem?_eq_getElem hi']; rfl
    refine Tr.weak (P := isRd B (ps.reverse[i].due long)) ?_ fun v g' _ p => ⟨_, hd2, p⟩
    generalize hcenv : compEnvC _ _ C _ = cenv at ok c ⊢
    generalize ps.reverse[i] = q at *
    have em : ∀ pos, Tr prog w A g (eval (.Name "piece" pos) cenv) (isRd B (q.sent true)) := fun pos => (ev_name ok c lookup_cons_self ((bp_itm _ i).st B).mo).weak fun v g' _ ⟨d, e, r⟩ => by
      rw [hd] at e; cases e; exact r
    refine ev_bin (P1 := isRd B (.list (tl long q.k))) (P2 := isRd B (.list ([q.c1, q.c2].map .list))) (mo_rd _) (ev_if (b := long) (ts_bool (ev_name ok c (by rfl) (pu_bool _).mo)) (fun hl => ?_) (fun hl => ?_)) (sl_take (k := 2) al (em _) (small rfl) (ev_int 2 _ _)) fun v1 v2 g' lg p q => op_addl (al.le lg) p q (by cases long <;> exact small rfl)
    · subst hl
      exact (ev_list al (Ps := [isInt q.k]) (mos_cons (pu_int _).mo mos_nil) (es_cons (pu_int _).mo ((ev_sub (mo_rd _) (em _) (ev_int 2 _ _) fun v1 v2 g _ a b => sub_rd (d := .int q.k) (by decide) (by decide) (by rfl) a b).weak fun v g _ r => int_rd r) es_nil) (small rfl)).weak fun v g _ r => ls_int r
    · subst hl
      exact (ev_list al mos_nil es_nil (small rfl)).weak fun v g _ r => ls_nil r
/-- the one form is what was sent; so told by texts for names -/
theorem body5 {n : Nat} (ha : AOk (n + 2) A) (S : Stc mg mb w.params s₀.heap) (hm : cStatics ∈ bad) (hps : ps.length ≤ 100) (F : FrOk bad s₀ (lawEnv L fa cd) X) (I : Inv bad s₀ (lawEnv L fa cd) (K4 prog w l1 l2 a b ps long bad) X s) :
    wpAny (model prog w) A (exec (bs 5) (lawEnv L fa cd)) (Nx fun s' => Inv bad s₀ (lawEnv L fa cd) (K4 prog w l1 l2 a b ps long bad) X s') E s := by
  have S2 := S.le I.base
  have xl : ∀ p, Tr prog w A s.heap (eval (.Name "long" p) (lawEnv L fa cd)) (isBool long) := fun p => ev_name F.ok I.ctx (by rfl) (pu_bool _).mo
  have en : ∀ p, Tr prog w A s.heap (eval (.Name "new" p) (lawEnv L fa cd)) (two prog w (.inl "matches") (.inl "len") (.list (ps.reverse.map (Pc.due long))) (.int (tt l1 l2 0 0)) bad) := fun p => ev_name F.ok I.ctx (by rfl) (bp_two.st _).mo
  refine ex_if (b := false) (ts_all .Or (ts_or (b := false) (ts_cmp (bp_two.st _).mo (en _) (ev_dict I.al hm two_ok (fun g B lg alB hB => ?_) (two_nd (by decide))) fun v1 v2 g lg p q => op_neD (by decide) ha.u (sm_due _ _) (sm_int _) p q) fun _ =>
    ts_or (b := false) (ts_cmp (P1 := two prog w (.inl "matches") (.inl "len") (.list (ps.reverse.map (Pc.due long))) (.int (tt l1 l2 0 0)) bad) (bp_two.st _).mo ?_ (en _) fun v1 v2 g lg p q => op_neD (by decide) ha.u (sm_due _ _) (sm_int _) p q) fun _ => ts_or_nil)) fun s2 k2 => ex_nil (I.keeps F k2)
  · have cg := I.ctxAt (bp_K4 (prog := prog) (w := w) (l1 := l1) (l2 := l2) (a := a) (b := b) (ps := ps) (long := long)) hB lg
    exact ds_cons (mo_rd _) (ev_str _ _ _) (ev_name F.ok cg (by rfl) (mo_rd _)) (ds_cons (mo_rd _) (ev_str _ _ _) ((best00 fun p => ev_name F.ok cg (by rfl) (mo_rd _)).weak fun v g _ r => rd_int r) ds_nil)
  · refine ev_parse F.ok S2 (S2.K _ _ (l_36 _)) (d_36 _) (bp_two.st bad).mo (S2.glob F.ok (n_resp _)) (P1 := two prog w (.inl "matches") (.inl "len") (.list (ps.reverse.map (Pc.sent long))) (.int (tt l1 l2 0 0)) bad) (ev_dict I.al hm two_ok (fun g B lg alB hB => ?_) (two_nd (by decide))) (xl _) (fun v g lg p => parse_map ha (S2.le lg) (I.al.le lg) hm (.inl ⟨rfl, rfl⟩) (by simp; omega) p) rfl
    have cg := I.ctxAt (bp_K4 (prog := prog) (w := w) (l1 := l1) (l2 := l2) (a := a) (b := b) (ps := ps) (long := long)) hB lg
    exact ds_cons (mo_rd _) (ev_str _ _ _) (ev_name F.ok cg (by rfl) (mo_rd _)) (ds_cons (mo_rd _) (ev_str _ _ _) ((best00 fun p => ev_name F.ok cg (by rfl) (mo_rd _)).weak fun v g _ r => rd_int r) ds_nil)
end
end Mine

end
section
open PySem PySem.Spec PySem.Calls PySem.W PyProof.Rows
set_option Elab.async false
set_option linter.unusedVariables false
set_option linter.unusedSimpArgs false
set_option maxRecDepth 100000
set_option maxHeartbeats 4000000
namespace Mine
/-- a piece as it should be -/
def PV (l1 l2 : List Nat) (p : Pc) : Prop := ∃ i j n : Nat, p.a0 = i ∧ p.a1 = (i + n : Int) - 1 ∧ p.b0 = j ∧ p.b1 = (j + n : Int) - 1 ∧ p.k = n ∧ 1 ≤ n ∧ i + n ≤ l1.length ∧ j + n ≤ l2.length ∧ (l1.drop i).take n = (l2.drop j).take n
def seg1 (l1 : List Nat) (p : Pc) : List Nat := (l1.drop p.a0.toNat).take p.k.toNat
def seg2 (l2 : List Nat) (p : Pc) : List Nat := (l2.drop p.b0.toNat).take p.k.toNat
theorem PV.seg {l1 l2 p} (h : PV l1 l2 p) : seg1 l1 p = seg2 l2 p := by
  obtain ⟨i, j, n, e1, e2, e3, e4, e5, h1, h2, h3, e⟩ := h
  unfold seg1 seg2; rw [e1, e3, e5]; simpa using e
theorem PV.len {l1 l2 p} (h : PV l1 l2 p) : ((seg1 l1 p).length : Int) = p.k := by
  obtain ⟨i, j, n, e1, e2, e3, e4, e5, h1, h2, h3, e⟩ := h
  unfold seg1; rw [e1, e5]; simp; omega
theorem seg1_le (l1 : List Nat) (p : Pc) : (seg1 l1 p).length ≤ l1.length := by unfold seg1; simp; omega
theorem seg2_le (l1 : List Nat) (p : Pc) : (seg2 l1 p).length ≤ l1.length := by unfold seg2; simp; omega
theorem flat_le {f : Pc → List Nat} {n : Nat} (h : ∀ p, (f p).length ≤ n) : ∀ ps : List Pc, (ps.flatMap f).length ≤ ps.length * n
  | [] => by simp
  | p :: ps => by
    rw [List.flatMap_cons, List.length_append, List.length_cons]
    have := h p
    have := flat_le h ps
    rw [Nat.add_mul]; omega
structure Fin' (l1 l2 : List Nat) (ps : List Pc) : Prop where
  pv : ∀ p ∈ ps, PV l1 l2 p
  tot : (ps.map Pc.k).sum = tt l1 l2 0 0
  few : ps.length ≤ 7
theorem Fin'.len {l1 l2 ps} (x : Fin' l1 l2 ps) : ((ps.flatMap (seg1 l1)).length : Int) = tt l1 l2 0 0 := by
  rw [← x.tot]
  have h := x.pv
  clear x
  induction ps with
  | nil => simp
  | cons p ps ih =>
    rw [List.flatMap_cons, List.length_append, List.map_cons, List.sum_cons, ← ih fun q hq => h q (.tail _ hq), ← (h p (.head _)).len]
    omega
theorem Fin'.same {l1 l2 ps} (x : Fin' l1 l2 ps) : ps.flatMap (seg1 l1) = ps.flatMap (seg2 l2) := by
  have h := x.pv
  clear x
  induction ps with
  | nil => simp
  | cons p ps ih => rw [List.flatMap_cons, List.flatMap_cons, ih fun q hq => h q (.tail _ hq), (h p (.head _)).seg]
theorem str_append (x y : List Nat) : ((⟨x.toArray⟩ : Str) ++ ⟨y.toArray⟩) = ⟨(x ++ y).toArray⟩ := by
  show (⟨x.toArray ++ y.toArray⟩ : Str) = _
  simp
section
variable (prog : Program) (w : World) (l1 l2 : List Nat) (a b : Int) (ps : List Pc) (long : Bool)
def K5 (i : Nat) (B : List Addr) : List (Str × HP) := ("first", isStr ⟨((ps.take i).flatMap (seg1 l1)).toArray⟩) :: ("second", isStr ⟨((ps.take i).flatMap (seg2 l2)).toArray⟩) :: K4 prog w l1 l2 a b ps long B
theorem bp_K5 {i} : BpF (K5 prog w l1 l2 a b ps long i) := BpF.cons (Bp.of_pure (pu_str _)) (BpF.cons (Bp.of_pure (pu_str _)) bp_K4)
end
section
variable {prog : Program} {w : World} {A : Around} {env : Env} {h : Heap} {bad : List Addr} {s₀ s : Shared} {E : Value → Shared → Prop} {mg mb : Str → Option Value} {L fa : Addr} {cd : Value} {X : Heap → Prop} {l1 l2 : List Nat} {a b : Int} {ps : List Pc} {long : Bool}
theorem body7 (hh : A.handled = none) (F : FrOk bad s₀ (lawEnv L fa cd) X) (I : Inv bad s₀ (lawEnv L fa cd) (K4 prog w l1 l2 a b ps long bad) X s) :
    wpAny (model prog w) A (exec (bs 7) (lawEnv L fa cd)) (Nx fun s' => Inv bad s₀ (lawEnv L fa cd) (K5 prog w l1 l2 a b ps long 0 bad) X s') E s := by
  refine st_unpack (Ps := [isStr ⟨([] : List Nat).toArray⟩, isStr ⟨([] : List Nat).toArray⟩]) (names := ["first", "second"]) hh F I
    (ev_tuple I.al (mos_cons (pu_str _).mo (mos_cons (pu_str _).mo mos_nil)) (es_cons (pu_str _).mo (ev_str (Str.ofString "") _ _) (es_cons (pu_str _).mo (ev_str (Str.ofString "") _ _) es_nil)) (small rfl)) (fun P hP => ?_) rfl (tgt_name (tgt_name .nil)) (fun x hx => ?_) (fun s2 I2 => ⟨rfl, I2.less fun p hp => ?_⟩) (by rfl) (by rfl) (by rfl) (by rfl)
  · simp only [List.mem_cons, List.not_mem_nil, or_false] at hP
    rcases hP with rfl | rfl <;> exact (pu_str _).st
  · simp only [List.mem_cons, List.not_mem_nil, or_false] at hx
    rcases hx with rfl | rfl <;> exact .inl (by kernel_rfl)
  · simp only [K5, List.take_zero, List.flatMap_nil] at hp
    simp only [K4, K3, K2, K1, K0, C7, fsP, List.mem_cons, List.not_mem_nil, or_false] at hp
    rcases hp with rfl | rfl | rfl | rfl | rfl | rfl | rfl | rfl | rfl | rfl | rfl | rfl | rfl | rfl | rfl <;> rfl
def iBody : List Stmt := match bs 8 with | .For _ _ b _ _ => b | _ => []
/-- one piece read again -/
theorem body8i {i : Nat} (S : Stc mg mb w.params s₀.heap) (hh : A.handled = none) (h1 : l1.length ≤ 7) (h2 : l2.length ≤ 7) (x : Fin' l1 l2 ps) (hi : i < ps.length) (F : FrOk bad s₀ (lawEnv L fa cd) X)
    (I : Inv bad s₀ (lawEnv L fa cd) (("piece", isRd bad (ps[i].due long)) :: K5 prog w l1 l2 a b ps long i bad) X s) :
    wpAny (model prog w) A (execs iBody (lawEnv L fa cd)) (Nx fun s' => Inv bad s₀ (lawEnv L fa cd) (K5 prog w l1 l2 a b ps long (i + 1) bad) X s') E s := by
  obtain ⟨q, hq⟩ : ∃ q, q = ps[i] := ⟨_, rfl⟩
  have hpv : PV l1 l2 q := hq ▸ x.pv _ (List.getElem_mem hi)
  have htk : ps.take (i + 1) = ps.take i ++ [q] := by rw [List.take_add_one, List.getElem?_eq_getElem hi, hq]; rfl
  rw [← hq] at I
  have xl : ∀ {s' fs'} (I' : Inv bad s₀ (lawEnv L fa cd) fs' X s') (hl : fs'.lookup ("long" : Str) = some (isBool long)) p, Tr prog w A s'.heap (eval (.Name "long" p) (lawEnv L fa cd)) (isBool long) := fun I' hl p => ev_name F.ok I'.ctx hl (pu_bool _).mo
  have em : ∀ p, Tr prog w A s.heap (eval (.Name "piece" p) (lawEnv L fa cd)) (isRd bad (q.due long)) := fun p => ev_name F.ok I.ctx (by rfl) (mo_rd _)
  refine ex_mid (st_assign (P := isRd bad (.list ([q.c1, q.c2].map .list))) F I (ev_if (b := long) (ts_bool (xl I (by rfl) _)) (fun hl => ?_) (fun hl => ?_)) (st_rd _ _) (fun s' I' => ⟨rfl, I'⟩) (.inl (by kernel_rfl))) fun s2 I2 => ?_
  · subst hl; exact sl_drop (k := 1) I.al (em _) (small rfl) (ev_int 1 _ _)
  · subst hl; exact em _
  have S2 := S.le I2.base
  have em2 : ∀ p, Tr prog w A s2.heap (eval (.Name "piece" p) (lawEnv L fa cd)) (isRd bad (q.due long)) := fun p => ev_name F.ok I2.ctx (by rfl) (mo_rd _)
  have sp : ∀ {s' fs'} (I' : Inv bad s₀ (lawEnv L fa cd) fs' X s') (hl : fs'.lookup ("spans" : Str) = some (isRd bad (.list ([q.c1, q.c2].map .list)))) (i : Nat) (c : List PyData), ([PyData.list q.c1, .list q.c2] : List PyData)[i]? = some (.list c) → i < 3 → ∀ (j : Nat) (z : Int), c[j]? = some (.int z) → j < 3 → ∀ p1 r1 r2 ki t1 t2 kj, Tr prog w A s'.heap (eval (.Subscript (.Subscript (.Name "spans" p1) (.Constant (.int i) ki r1) r2) (.Constant (.int j) kj t1) t2) (lawEnv L fa cd)) (isInt z) := fun I' hl i c hc hi j z hz hj p1 r1 r2 ki t1 t2 kj =>
    (ev_sub (mo_rd _) (ev_sub (mo_rd _) (ev_name F.ok I'.ctx hl (mo_rd _)) (ev_int i _ _) fun v1 v2 g _ a b => sub_rd (k := (i : Int)) (d := .list c) (by omega) (by omega) (by rw [Int.toNat_natCast]; exact hc) a b) (ev_int j _ _) fun v1 v2 g _ a b => sub_rd (k := (j : Int)) (d := .int z) (by omega) (by omega) (by rw [Int.toNat_natCast]; exact hz) a b).weak fun v g _ r => int_rd r
  obtain ⟨i0, j0, n0, e1, e2, e3, e4, e5, hn1, hn2, hn3, hseg⟩ := id hpv
  have sp00 : ∀ {s' fs'} (I' : Inv bad s₀ (lawEnv L fa cd) fs' X s') (hl : fs'.lookup ("spans" : Str) = some (isRd bad (.list ([q.c1, q.c2].map .list)))) p1 r1 r2 ki t1 t2 kj, Tr prog w A s'.heap (eval (.Subscript (.Subscript (.Name "spans" p1) (.Constant (.int 0) ki r1) r2) (.Constant (.int 0) kj t1) t2) (lawEnv L fa cd)) (isInt (i0 : Int)) := fun I' hl p1 r1 r2 ki t1 t2 kj => e1 ▸ sp I' hl 0 q.c1 (by rfl) (by decide) 0 q.a0 (by rfl) (by decide) p1 r1 r2 ki t1 t2 kj
  have sp01 : ∀ {s' fs'} (I' : Inv bad s₀ (lawEnv L fa cd) fs' X s') (hl : fs'.lookup ("spans" : Str) = some (isRd bad (.list ([q.c1, q.c2].map .list)))) p1 r1 r2 ki t1 t2 kj, Tr prog w A s'.heap (eval (.Subscript (.Subscript (.Name "spans" p1) (.Constant (.int 0) ki r1) r2) (.Constant (.int 1) kj t1) t2) (lawEnv L fa cd)) (isInt ((i0 + n0 : Int) - 1)) := fun I' hl p1 r1 r2 ki t1 t2 kj => e2 ▸ sp I' hl 0 q.c1 (by rfl) (by decide) 1 q.a1 (by rfl) (by decide) p1 r1 r2 ki t1 t2 kj
  have sp10 : ∀ {s' fs'} (I' : Inv bad s₀ (lawEnv L fa cd) fs' X s') (hl : fs'.lookup ("spans" : Str) = some (isRd bad (.list ([q.c1, q.c2].map .list)))) p1 r1 r2 ki t1 t2 kj, Tr prog w A s'.heap (eval (.Subscript (.Subscript (.Name "spans" p1) (.Constant (.int 1) ki r1) r2) (.Constant (.int 0) kj t1) t2) (lawEnv L fa cd)) (isInt (j0 : Int)) := fun I' hl p1 r1 r2 ki t1 t2 kj => e3 ▸ sp I' hl 1 q.c2 (by rfl) (by decide) 0 q.b0 (by rfl) (by decide) p1 r1 r2 ki t1 t2 kj
  have sp11 : ∀ {s' fs'} (I' : Inv bad s₀ (lawEnv L fa cd) fs' X s') (hl : fs'.lookup ("spans" : Str) = some (isRd bad (.list ([q.c1, q.c2].map .list)))) p1 r1 r2 ki t1 t2 kj, Tr prog w A s'.heap (eval (.Subscript (.Subscript (.Name "spans" p1) (.Constant (.int 1) ki r1) r2) (.Constant (.int 1) kj t1) t2) (lawEnv L fa cd)) (isInt ((j0 + n0 : Int) - 1)) := fun I' hl p1 r1 r2 ki t1 t2 kj => e4 ▸ sp I' hl 1 q.c2 (by rfl) (by decide) 1 q.b1 (by rfl) (by decide) p1 r1 r2 ki t1 t2 kj
  have hdl : (tl long q.k ++ [q.c1, q.c2].map PyData.list).length = if long then 3 else 2 := by cases long <;> rfl
  refine ex_mid (R := fun s' => Inv bad s₀ (lawEnv L fa cd) _ X s') (ex_if (b := false) (ts_all .Or (Ts.eq (ts_or (b := false) (c := false) (ts_cmp (P1 := isInt (if long then 3 else 2)) (P2 := isInt (if long then 3 else 2)) (pu_int _).mo ?_ ?_ fun v1 v2 g lg p q => (op_ne p q).weak fun v g _ r => by simpa using r) fun _ => Ts.eq (ts_or (b := false) (c := false) (ts_all .And ?_) fun _ => ts_or_nil) rfl) rfl)) fun s3 k3 => ex_nil (I2.keeps F k3)) fun s3 I3 => ?_
  · refine (ev_callB (Ps := [isRd bad (q.due long)]) (S2.built F.ok (n_len _) bi_len) (es_cons (mo_rd _) (em2 _) es_nil) fun vs g _ qq => call_lenR (ds := tl long q.k ++ [q.c1, q.c2].map PyData.list) (by rw [hdl]; split <;> decide) qq).weak fun v g _ r => ?_
    rw [hdl] at r
    cases long <;> exact r
  · refine ev_if (b := long) (ts_bool (xl I2 (by rfl) _)) (fun hl => ?_) (fun hl => ?_)
    · subst hl; exact ev_int 3 _ _
    · subst hl; exact ev_int 2 _ _
  · cases hl : long with
    | false =>
      subst hl
      exact Ts.eq (ts_and (b := false) (c := false) (ts_bool (xl I2 (by rfl) _)) fun e => by cases e) rfl
    | true =>
      subst hl
      refine Ts.eq (ts_and (b := true) (c := false) (ts_bool (xl I2 (by rfl) _)) fun _ => Ts.eq (ts_and (b := false) (c := true) (ts_cmp (P1 := isInt (n0 : Int)) (P2 := isInt (n0 : Int)) (pu_int _).mo ?_ ?_ fun v1 v2 g lg p q => (op_ne p q).weak fun v g _ r => by simpa using r) fun e => by cases e) rfl) rfl
      · exact e5 ▸ (ev_sub (mo_rd _) (em2 _) (ev_int 0 _ _) fun v1 v2 g _ a b => sub_rd (d := .int q.k) (by decide) (by decide) (by rfl) a b).weak fun v g _ r => int_rd r
      · have e : (n0 : Int) = ((i0 + n0 : Int) - 1) - i0 + 1 := by omega
        rw [e]
        exact ev_bin (pu_int _).mo (ev_bin (pu_int _).mo (sp01 I2 (by rfl) _ _ _ _ _ _ _) (sp00 I2 (by rfl) _ _ _ _ _ _ _) fun x y g _ p q => op_sub p q) (ev_int 1 _ _) fun x y g _ p q => op_add p q
  have hb1 : ((ps.take i).flatMap (seg1 l1)).length + (seg1 l1 q).length ≤ 1000000 := by
    have := flat_le (seg1_le l1) (ps.take i)
    have h3 := seg1_le l1 q
    have h4 : (ps.take i).length ≤ 7 := by have := x.few; simp; omega
    have := Nat.mul_le_mul h4 h1
    omega
  have hb2 : ((ps.take i).flatMap (seg2 l2)).length + (seg2 l2 q).length ≤ 1000000 := by
    have := flat_le (seg2_le l2) (ps.take i)
    have h3 := seg2_le l2 q
    have h4 : (ps.take i).length ≤ 7 := by have := x.few; simp; omega
    have := Nat.mul_le_mul h4 h2
    omega
  have es1 : seg1 l1 q = (l1.drop i0).take (i0 + n0 - i0) := by unfold seg1; rw [e1, e5]; simp
  have es2 : seg2 l2 q = (l2.drop j0).take (j0 + n0 - j0) := by unfold seg2; rw [e3, e5]; simp
  refine ex_mid (st_assign (P := isStr ⟨((ps.take (i + 1)).flatMap (seg1 l1)).toArray⟩) F I3 ?_ (pu_str _).st (fun s' I' => ⟨rfl, I'⟩) (.inl (by kernel_rfl))) fun s4 I4 => ?_
  · rw [htk, List.flatMap_append, List.flatMap_cons, List.flatMap_nil, List.append_nil, ← str_append]
    refine ev_bin (pu_str _).mo (ev_name F.ok I3.ctx (by rfl) (pu_str _).mo) ?_ fun v1 v2 g _ p q => op_adds (by simpa [Str.length] using hb1) p q
    rw [es1]
    refine sl_str (i := i0) (j := i0 + n0) (by omega) (by omega) (by omega) (ev_name F.ok I3.ctx (by rfl) (pu_str _).mo) (sp00 I3 (by rfl) _ _ _ _ _ _ _) ?_
    have e : ((i0 + n0 : Nat) : Int) = ((i0 + n0 : Int) - 1) + 1 := by omega
    rw [e]
    exact ev_bin (pu_int _).mo (sp01 I3 (by rfl) _ _ _ _ _ _ _) (ev_int 1 _ _) fun x y g _ p q => op_add p q
  refine ex_mid (st_assign (P := isStr ⟨((ps.take (i + 1)).flatMap (seg2 l2)).toArray⟩) F I4 ?_ (pu_str _).st (fun s' I' => ⟨rfl, I'⟩) (.inl (by kernel_rfl))) fun s5 I5 => ex_nil ?_
  · rw [htk, List.flatMap_append, List.flatMap_cons, List.flatMap_nil, List.append_nil, ← str_append]
    refine ev_bin (pu_str _).mo (ev_name F.ok I4.ctx (by rfl) (pu_str _).mo) ?_ fun v1 v2 g _ p q => op_adds (by simpa [Str.length] using hb2) p q
    rw [es2]
    refine sl_str (i := j0) (j := j0 + n0) (by omega) (by omega) (by omega) (ev_name F.ok I4.ctx (by rfl) (pu_str _).mo) (sp10 I4 (by rfl) _ _ _ _ _ _ _) ?_
    have e : ((j0 + n0 : Nat) : Int) = ((j0 + n0 : Int) - 1) + 1 := by omega
    rw [e]
    exact ev_bin (pu_int _).mo (sp11 I4 (by rfl) _ _ _ _ _ _ _) (ev_int 1 _ _) fun x y g _ p q => op_add p q
  · refine I5.less fun p hp => ?_
    simp only [K5, K4, K3, K2, K1, K0, C7, fsP, List.mem_cons, List.not_mem_nil, or_false] at hp
    rcases hp with rfl | rfl | rfl | rfl | rfl | rfl | rfl | rfl | rfl | rfl | rfl | rfl | rfl | rfl | rfl <;> rfl
end
end Mine

end
section
open PySem PySem.Spec PySem.Calls PySem.W PyProof.Rows
set_option Elab.async false
set_option linter.unusedVariables false
set_option linter.unusedSimpArgs false
set_option maxRecDepth 100000
set_option maxHeartbeats 4000000
namespace Mine
section
variable {prog : Program} {w : World} {A : Around} {env : Env} {h : Heap} {bad : List Addr} {s₀ s : Shared} {E : Value → Shared → Prop} {mg mb : Str → Option Value} {L fa : Addr} {cd : Value} {X : Heap → Prop} {l1 l2 : List Nat} {a b : Int} {ps : List Pc} {long : Bool}
/-- for x in a list, where nothing but names is turned -/
theorem st_forL {iter : Expr} {x : Str} {px pos : Pos} {body : List Stmt} {n : Nat} {Pv : Nat → List Addr → HP} {fsI : Nat → List Addr → List (Str × HP)} {V : List Addr} {Q : Flow → Shared → Prop}
    (F : FrOk bad s₀ env X) (hf : ∀ i, BpF (fsI i)) (hX : FpX V X) (hV : Al V s.heap) (hVf : ∀ b ∈ V, b ∉ frameAddrs env) (I : Inv bad s₀ env (fsI 0 bad) X s) (src : Src prog w A env bad s.heap iter n Pv) (hP : ∀ i, Bp (Pv i))
    (hx : env.kindOf x = some .local ∨ (env.kindOf x = some .cell ∧ (env.cells.lookup x).isSome = true))
    (body_ok : ∀ i B (s : Shared) (Y : Heap → Prop) (E : Value → Shared → Prop), i < n → (∀ b ∈ bad, b ∈ B) → FrOk B s₀ env (fun h => X h ∧ Y h) → Inv B s₀ env ((x, Pv i B) :: fsI i B) (fun h => X h ∧ Y h) s →
      wpAny (model prog w) A (execs body env) (Nx fun s' => Inv B s₀ env (fsI (i + 1) B) (fun h => X h ∧ Y h) s') E s)
    (k : ∀ s', Inv bad s₀ env (fsI n bad) X s' → Q .next s')
    (hs : ∀ x, foldedSetIterable iter env x = pure x := by intro _; rfl) :
    wpAny (model prog w) A (exec (.For (.Name x px) iter body [] pos) env) Q E s := by
  refine wpAny_For (wpAny_mono (src s E (Le.refl _)) (fun xv s₁ h₁ => wpAny_mono h₁ (fun it s₂ ⟨k2, I', fp, wr, P0, St', e, W, hPv, hst, hfpb, hwrn, hfp, hwal⟩ => ?_) fun _ _ e => e) fun _ _ e => e) hs
  subst e
  have dead : ∀ b ∈ wr, s₀.heap.get? b = none := fun b hb => by
    cases q : s₀.heap.get? b with
    | none => rfl
    | some o => have := hwrn b hb; rw [I.base b o q] at this; cases this
  have hwf : ∀ b ∈ wr, b ∉ frameAddrs env := fun b hb q => hfpb b (W.sub b hb) (F.sub b q)
  have hVw : ∀ b ∈ V, b ∉ wr := fun b hb q => hV b hb (hwrn b q)
  have Jb : ∀ j h h', But bad h h' → (St' j h ∧ ∀ i v, i < n → P0 i v → Pv i (wr ++ bad) v h) → St' j h' ∧ ∀ i v, i < n → P0 i v → Pv i (wr ++ bad) v h' := fun j h h' kb ⟨a, b⟩ =>
    ⟨W.frame _ _ _ a fun b hb o e => kb b o (hfpb b hb) e, fun i v hi h0 => (hP i).st _ _ _ _ (kb.more fun b hb => List.mem_append_right _ hb) (b i v hi h0)⟩
  have Fs : ∀ j, FrOk (wr ++ bad) s₀ env (fun h => X h ∧ (St' j h ∧ ∀ i v, i < n → P0 i v → Pv i (wr ++ bad) v h)) := fun j => ⟨F.ok, F.fresh, fun b hb => List.mem_append_right _ (F.sub b hb), fun h h' kb ⟨x, y⟩ =>
    ⟨hX _ _ _ hVf kb x, Jb _ _ _ (kb.more F.sub) y⟩⟩
  have I2 : Inv (wr ++ bad) s₀ env (fsI 0 (wr ++ bad)) (fun h => X h ∧ (St' 0 h ∧ ∀ i v, i < n → P0 i v → Pv i (wr ++ bad) v h)) s₂ :=
    I.regrow' (hf 0) k2 (fun b hb => (List.mem_append.mp hb).elim (fun q => .inr (hwrn b q)) .inl) (fun b hb => (List.mem_append.mp hb).elim (hwal 0 _ hst b) (I.al.le (Keeps.le k2) b)) ⟨hX [] _ _ (fun _ _ q => nomatch q) (Keeps.le k2).but I.x, hst, hPv⟩
  have move : ∀ i j (s' : Shared) h₁ tk, Inv (wr ++ bad) s₀ env (fsI i (wr ++ bad)) (fun h => X h ∧ (St' i h ∧ ∀ i v, i < n → P0 i v → Pv i (wr ++ bad) v h)) s' → (∀ b o, b ∉ wr → s'.heap.get? b = some o → h₁.get? b = some o) → (∀ b ∈ wr, h₁.get? b ≠ none) → St' j h₁ →
      Inv (wr ++ bad) s₀ env (fsI i (wr ++ bad)) (fun h => X h ∧ (St' j h ∧ ∀ i v, i < n → P0 i v → Pv i (wr ++ bad) v h)) { s' with heap := h₁, toks := tk } := by
    intro i j s' h₁ tk Ii hk hal hst'
    have kb : But wr s'.heap h₁ := fun b o hb e => hk b o hb e
    have kB : But (wr ++ bad) s'.heap h₁ := kb.more fun b hb => List.mem_append_left _ hb
    obtain ⟨m, cs, a, b, c⟩ := Ii.ctx.ex
    refine ⟨?_, fun b o e => hk b o (fun q => by rw [dead b q] at e; cases e) (Ii.base b o e), ⟨m, cs, a.at' fun o e => hk _ o (fun q => hwf _ q (.head _)) e, fun y d hm => ?_, fun y P hl => ?_⟩, ⟨hX _ _ _ hVw kb Ii.x.1, hst', fun i v hi h0 => (hP i).st _ _ _ _ kB (Ii.x.2.2 i v hi h0)⟩, Ii.st, fun b hb e => ?_⟩
    · obtain ⟨h, t, rfl⟩ := Ii.same
      exact ⟨h₁, tk, rfl⟩
    · obtain ⟨o, ho, hd⟩ := b y d hm
      exact ⟨o, hk _ o (fun q => hwf _ q (List.mem_cons_of_mem _ (List.mem_map.mpr ⟨_, hm, rfl⟩))) ho, hd⟩
    · obtain ⟨v, e, p⟩ := c y P hl
      exact ⟨v, e, Ii.st y P hl _ _ _ kB p⟩
    · by_cases hw : b ∈ wr
      · exact hal b hw e
      · cases q : s'.heap.get? b with
        | none => exact Ii.al b hb q
        | some o => rw [show h₁.get? b = some o from hk b o hw q] at e; cases e
  refine codeAny_forLoop (fun m s' => ∃ i, i ≤ n ∧ m = n - i ∧ Inv (wr ++ bad) s₀ env (fsI i (wr ++ bad)) (fun h => X h ∧ (St' i h ∧ ∀ i v, i < n → P0 i v → Pv i (wr ++ bad) v h)) s') ?_ n ⟨0, Nat.zero_le _, rfl, I2⟩
  rintro m s' ⟨i, hi, rfl, Ii⟩
  by_cases hlt : i < n
  · refine W.item i _ _ _ hlt Ii.x.2.1 fun v h₁ tk₁ h0 hst₁ hk₁ => ?_
    have I4 := move i (i + 1) s' h₁ tk₁ Ii hk₁ (hwal _ _ hst₁) hst₁
    refine wpAny_assign_Name (st_store (P := Pv i (wr ++ bad)) (Fs (i + 1)) I4 (I4.x.2.2 i v hlt h0) ((hP i).st _) hx fun s4 I5 => ?_)
    refine wpAny_mono (body_ok i (wr ++ bad) s4 (fun h => St' (i + 1) h ∧ ∀ i v, i < n → P0 i v → Pv i (wr ++ bad) v h) _ hlt (fun b hb => List.mem_append_right _ hb) (Fs (i + 1)) I5) (fun f s5 ⟨e, q⟩ => ?_) fun _ _ e => e
    subst e
    exact ⟨n - (i + 1), by omega, i + 1, hlt, rfl, q⟩
  · have hin : i = n := by omega
    subst hin
    refine W.done _ _ _ Ii.x.2.1 fun h₁ tk₁ hk₁ => wpAny_execs_nil (k _ ?_)
    have kb : But wr s'.heap h₁ := fun b o hb e => hk₁ b o hb e
    have kB : But (wr ++ bad) s'.heap h₁ := kb.more fun b hb => List.mem_append_left _ hb
    have hsub : ∀ b ∈ bad, b ∈ wr ++ bad ∨ h₁.get? b = none := fun b hb => .inl (List.mem_append_right _ hb)
    obtain ⟨m, cs, a, b, c⟩ := Ii.ctx.ex
    refine ⟨?_, fun b o e => hk₁ b o (fun q => by rw [dead b q] at e; cases e) (Ii.base b o e), ⟨m, cs, a.at' fun o e => hk₁ _ o (fun q => hwf _ q (.head _)) e, fun y d hm => ?_, fun y P hl => ?_⟩, hX _ _ _ hVw kb Ii.x.1, (hf i).st bad, fun b hb e => ?_⟩
    · obtain ⟨h, t, rfl⟩ := Ii.same
      exact ⟨h₁, tk₁, rfl⟩
    · obtain ⟨o, ho, hd⟩ := b y d hm
      exact ⟨o, hk₁ _ o (fun q => hwf _ q (List.mem_cons_of_mem _ (List.mem_map.mpr ⟨_, hm, rfl⟩))) ho, hd⟩
    · obtain ⟨P', hP', kk⟩ := (hf i).grow _ _ h₁ hsub y P hl
      obtain ⟨v, e, p⟩ := c y P' hP'
      exact ⟨v, e, kk v (Ii.st y P' hP' _ _ _ kB p)⟩
    · have hbw : b ∉ wr := fun q => hfpb b (W.sub b q) hb
      cases q : s'.heap.get? b with
      | none => exact Ii.al b (List.mem_append_right _ hb) q
      | some o => rw [show h₁.get? b = some o from hk₁ b o hbw q] at e; cases e
theorem ev_newk {key : KK} {P : HP} {kps : KPs} {o e : Expr} {p : Pos} {x : Str} (mk : KPs.Ok kps) (eo : Tr prog w A h (eval o env) (isDict prog w kps bad)) (ek : Tr prog w A h (eval e env) (isStr x)) (hk : key = .inl x) (hl : (kps.find? fun p => p.1 = key).map (fun p => p.2 bad) = some P) (mo : Mo P)
    (hs : ∀ d t, ∃ ops, subscripted e false (.ref d) (.str x t) = operate ops (getItem (.ref d) (.str x t))) : Tr prog w A h (eval (.Subscript o e p) env) P := by
  subst hk
  refine ev_sub ((bp_dict mk).st bad).mo eo ek fun v1 v2 g lg p q => ?_
  obtain ⟨t, rfl⟩ := q
  exact sub_dict (key := .inl x) p (⟨t, rfl⟩ : isKey (.inl x) (.str x t) g) hl mo fun d => hs d t
/-- the one form, read again from the last piece back -/
theorem body8 {V : List Addr} (S : Stc mg mb w.params s₀.heap) (hh : A.handled = none) (h1 : l1.length ≤ 7) (h2 : l2.length ≤ 7) (x : Fin' l1 l2 ps) (F : FrOk bad s₀ (lawEnv L fa cd) X) (hX : FpX V X) (hV : Al V s.heap) (hVf : ∀ b ∈ V, b ∉ frameAddrs (lawEnv L fa cd))
    (I : Inv bad s₀ (lawEnv L fa cd) (K5 prog w l1 l2 a b ps long 0 bad) X s) :
    wpAny (model prog w) A (exec (bs 8) (lawEnv L fa cd)) (Nx fun s' => Inv bad s₀ (lawEnv L fa cd) (K5 prog w l1 l2 a b ps long ps.length bad) X s') E s := by
  have hfew := x.few
  have xi : ∀ p1 p2 p3 p4 p5 p6 p7 k1 k2, Tr prog w A s.heap (eval (.Subscript (.Subscript (.Name "new" p1) (.Constant (.str (Str.ofString "matches")) k1 p2) p3) (.Slice none none (some (.UnaryOp .USub (.Constant (.int 1) k2 p4) p5)) p6) p7) (lawEnv L fa cd)) (isRd bad (.list ((ps.reverse.map (Pc.due long)).reverse))) := fun p1 p2 p3 p4 p5 p6 p7 k1 k2 =>
    sl_rev I.al (ev_newk (x := Str.ofString "matches") two_ok (ev_name F.ok I.ctx (by rfl) (bp_two.st _).mo) (ev_str _ _ _) rfl (by rfl) (mo_rd _) fun d t => ⟨_, rfl⟩) (by simp; omega) (ev_neg (ev_int 1 _ _))
  have hrev : (ps.reverse.map (Pc.due long)).reverse = ps.map (Pc.due long) := by rw [← List.map_reverse, List.reverse_reverse]
  rw [hrev] at xi
  refine st_forL (n := (ps.map (Pc.due long)).length) (fsI := fun i B => K5 prog w l1 l2 a b ps long i B) F (fun i => bp_K5 _ _ _ _ _ _ _ _) hX hV hVf I (src_rd hh I.al (xi _ _ _ _ _ _ _ _ _)) (fun i => bp_itm _ i) (.inl (by kernel_rfl)) (fun i B s Y E hi hB FY IY => ?_) fun s' I' => ⟨rfl, by simpa using I'⟩
  have hi' : i < ps.length := by simpa using hi
  refine body8i (i := i) (X := fun h => X h ∧ Y h) S hh h1 h2 x hi' FY (IY.head (fun v ⟨d, e, r⟩ => ?_) (st_rd _ _))
  rw [List.getElem?_map, List.getElem?_eq_getElem hi'] at e
  cases e
  exact r
/-- the pieces joined are the same, and as long as is told -/
theorem body9 (S : Stc mg mb w.params s₀.heap) (hh : A.handled = none) (h1 : l1.length ≤ 7) (h2 : l2.length ≤ 7) (x : Fin' l1 l2 ps) (F : FrOk bad s₀ (lawEnv L fa cd) X)
    (I : Inv bad s₀ (lawEnv L fa cd) (K5 prog w l1 l2 a b ps long ps.length bad) X s) :
    wpAny (model prog w) A (exec (bs 9) (lawEnv L fa cd)) (Nx fun s' => Inv bad s₀ (lawEnv L fa cd) (C7 l1 l2 a b ps bad) X s') E s := by
  have S2 := S.le I.base
  have hsame := x.same
  have hlen := x.len
  have hle := flat_le (seg1_le l1) ps
  have hfew := x.few
  have hmul := Nat.mul_le_mul hfew h1
  have f1 : ∀ p, Tr prog w A s.heap (eval (.Name "first" p) (lawEnv L fa cd)) (isStr ⟨(ps.flatMap (seg1 l1)).toArray⟩) := fun p => (ev_name F.ok I.ctx (by rfl) (pu_str ⟨((ps.take ps.length).flatMap (seg1 l1)).toArray⟩).mo).weak fun v g _ r => by rw [List.take_length] at r; exact r
  have f2 : ∀ p, Tr prog w A s.heap (eval (.Name "second" p) (lawEnv L fa cd)) (isStr ⟨(ps.flatMap (seg1 l1)).toArray⟩) := fun p => (ev_name F.ok I.ctx (by rfl) (pu_str ⟨((ps.take ps.length).flatMap (seg2 l2)).toArray⟩).mo).weak fun v g _ r => by rw [List.take_length, ← hsame] at r; exact r
  have nl : ∀ p1 p2 p3 k1, Tr prog w A s.heap (eval (.Subscript (.Name "new" p1) (.Constant (.str (Str.ofString "len")) k1 p2) p3) (lawEnv L fa cd)) (isInt (tt l1 l2 0 0)) := fun p1 p2 p3 k1 =>
    (ev_newk (x := Str.ofString "len") (P := isRd bad (.int (tt l1 l2 0 0))) two_ok (ev_name F.ok I.ctx (by rfl) (bp_two.st _).mo) (ev_str _ _ _) rfl (by rfl) (mo_rd _) fun d t => ⟨_, rfl⟩).weak fun v g _ r => int_rd r
  refine ex_if (b := false) (ts_all .Or (Ts.eq (ts_or (b := false) (c := false) (ts_cmp (pu_str _).mo (f1 _) (f2 _) fun v1 v2 g _ p q => (op_nes p q).weak fun v g _ r => by simpa using r) fun _ => Ts.eq (ts_or (b := false) (c := false) (ts_cmp (P1 := isInt (tt l1 l2 0 0)) (pu_int _).mo ?_ (nl _ _ _ _) fun v1 v2 g _ p q => (op_ne p q).weak fun v g _ r => by simpa using r) fun _ =>
    Ts.eq (ts_or (b := false) (c := false) (ts_cmp (pu_int _).mo (nl _ _ _ _) (best00 fun p => ev_name F.ok I.ctx (by rfl) (mo_rd _)) fun v1 v2 g _ p q => (op_ne p q).weak fun v g _ r => by simpa using r) fun _ => ts_or_nil) rfl) rfl) rfl)) fun s2 k2 => ex_nil ((I.keeps F k2).less fun p hp => ?_)
  · exact (ev_callB (Ps := [isStr ⟨(ps.flatMap (seg1 l1)).toArray⟩]) (S2.built F.ok (n_len _) bi_len) (es_cons (pu_str _).mo (f1 _) es_nil) fun vs g _ q => call_lenS (by simp only [Str.length, List.size_toArray]; omega) q).weak fun v g _ r => by rw [← hlen]; simpa [Str.length] using r
  · simp only [C7, fsP, List.mem_cons, List.not_mem_nil, or_false] at hp
    rcases hp with rfl | rfl | rfl | rfl | rfl | rfl <;> rfl
end
end Mine

end
section
open PySem PySem.Spec PySem.Calls PySem.W PyProof.Rows
set_option Elab.async false
set_option linter.unusedVariables false
set_option linter.unusedSimpArgs false
set_option maxRecDepth 100000
set_option maxHeartbeats 4000000
namespace Mine
theorem zipApart (n l1 l2 : Nat) (h1 : l1 < n) (h2 : l2 < n) : ZipApart (n + 4) (n + 2) (n + 3) n (n + 1) l1 l2 := by
  constructor <;> (intro e; have e' := @id (@Eq Nat _ _) e; clear e; omega)
section
variable {prog : Program} {w : World} {A : Around} {env : Env} {h : Heap} {bad : List Addr} {fs : List (Str × HP)} {s₀ s : Shared} {E : Value → Shared → Prop} {X Y : Heap → Prop} {R : Result → Shared → Prop}
theorem compLoopT {elt target iter : Expr} {scope : Scope} {pos : Pos} {it acc : Value} (I : Nat → Shared → Prop)
    (turn : ∀ n s, I n s → wpAny (model prog w) A (pyNext it) (fun r s₁ => match r with
      | none => R (.ok .next) s₁
      | some v => wpAny (model prog w) A (letOwnedTupleGo target it v) (fun _ s₁' => wpAny (model prog w) A (assign target env v) (fun _ s₂ => wpAny (model prog w) A (eval elt env) (fun x s₃ =>
          wpAny (model prog w) A (call (.builtin "list.append") [acc, x]) (fun _ s₄ => ∃ m, m < n ∧ I m s₄) (notedBy (model prog w) A env fun e s' => R (.error e) s') s₃)
          (notedBy (model prog w) A env fun e s' => R (.error e) s') s₂) (notedBy (model prog w) A env fun e s' => R (.error e) s') s₁') (notedBy (model prog w) A env fun e s' => R (.error e) s') s₁) (notedBy (model prog w) A env fun e s' => R (.error e) s') s)
    (n : Nat) (h : I n s) :
    codeAny (model prog w) A (.compLoop (.ListComp elt [⟨target, iter, [], 0⟩] scope pos) 0 it acc env) R s := by
  refine codeAny_loop rfl I (fun n s hI => ?_) n h
  show wpAny _ _ ((compTurn (.ListComp elt [⟨target, iter, [], 0⟩] scope pos) 0 it acc env).onRaise (fun x => do noteFrame x env; theTreesLotGoes x)) _ _ s
  refine wpAny_noted ?_
  rw [compTurn_list1]
  refine wpAny_bind (wpAny_standAt (wpAny_bind (wpAny_mono (turn n s hI) (fun r s₁ h₁ => ?_) fun _ _ h' => h')))
  cases r with
  | none => exact wpAny_pure h₁
  | some v =>
    refine wpAny_bind (wpAny_mono h₁ (fun _ s₁' h₁ => ?_) fun _ _ h' => h')
    exact wpAny_bind (wpAny_mono h₁ (fun _ s₂ h₂ => wpAny_bind (wpAny_bind (wpAny_mono h₂ (fun x s₃ h₃ => wpAny_bind (wpAny_mono h₃
      (fun _ s₄ h₄ => wpAny_pure (wpAny_pure ⟨rfl, h₄⟩)) fun _ _ h' => h')) fun _ _ h' => h'))) fun _ _ h' => h')
theorem newEnv1 {M : Model} {scope : Scope} {g : Addr} {qual : Str} {y : Str} {Q : Env → Shared → Prop} (hc : ∀ n, cellsFrom n scope.names [] = [(y, n)])
    (hQ : ∀ h', h'.Ns s.heap.objs.size (fun _ => none) → h'.IsCell (s.heap.objs.size + 1) none → Le s.heap h' →
      Q { scope := scope, locals := s.heap.objs.size, globals := g, cells := [(y, s.heap.objs.size + 1)], qual := qual, func := none, code := env.code, frame := env.frame, builtins := env.builtins } { s with heap := h' }) :
    wpAny M A (newFunctionEnv scope g [] [] qual none .none (some env)) Q E s := by
  simp only [newFunctionEnv, Option.isSome_some, if_true]
  refine wpAny_bind (wpAny_alloc ?_)
  refine wpAny_bind (wpAny_layCells _ (fun name kind cells => by cases hkc : kind == NameKind.cell <;> simp [hkc]) _ _ _ _ ?_)
  have hsz : ({ s with heap := s.heap.push { cls := .type "dict", data := .dict #[] } } : Shared).heap.objs.size = s.heap.objs.size + 1 := Heap.size_push ..
  have ok := cellsFrom_ok scope.names (s.heap.push { cls := .type "dict", data := .dict #[] }) (s.heap.objs.size + 1) [] ⟨fun _ _ hm => (nomatch hm), List.Pairwise.nil⟩ (by rw [Heap.size_push]; exact Nat.le_refl _)
  rw [Heap.size_push] at ok
  rw [hsz, hc]
  rw [hc] at ok
  refine wpAny_bind ?_
  rw [List.forIn_nil]
  refine wpAny_pure (wpAny_pure (hQ _ ((Heap.Ns.new s.heap (.type "dict")).keeps (pushCells_keeps _ _)) (ok.empty y _ (.head _)).1 fun b o e => pushCells_keeps _ _ b o (Heap.get?_push_of_some _ e)))
/-- a turn at W: the frame stands -/
theorem Inv.muts {W : List Addr} {h' : Heap} {tk : Nat} (I : Inv bad s₀ env fs X s) (hW : ∀ l ∈ W, l ∈ bad) (hWf : ∀ l ∈ W, l ∉ frameAddrs env) (hW0 : ∀ l ∈ W, s₀.heap.get? l = none) (bt : But W s.heap h') (al : Al W h') (y : Y h') : Inv bad s₀ env fs Y { s with heap := h', toks := tk } := by
  have btB : But bad s.heap h' := bt.more hW
  obtain ⟨mm, cs, ca, cb, cc⟩ := I.ctx.ex
  refine ⟨?_, fun c o e => bt c o (fun q => by rw [hW0 c q] at e; cases e) (I.base c o e), ⟨mm, cs, ca.at' fun o e => bt _ o (fun q => hWf _ q (.head _)) e, fun z d hm => ?_, fun z P hl => ?_⟩, y, I.st, fun c hc e => ?_⟩
  · obtain ⟨hh3, tk3, e3⟩ := I.same
    rw [e3]; exact ⟨h', _, rfl⟩
  · obtain ⟨o, ho, hd⟩ := cb z d hm
    exact ⟨o, bt _ o (fun q => hWf _ q (List.mem_cons_of_mem _ (List.mem_map.mpr ⟨_, hm, rfl⟩))) ho, hd⟩
  · obtain ⟨u, e, p⟩ := cc z P hl
    exact ⟨u, e, I.st z P hl _ _ _ btB p⟩
  · by_cases q : c ∈ W
    · exact al c q e
    · cases z : s.heap.get? c with
      | none => exact I.al c hc z
      | some o => rw [bt c o q z] at e; cases e
end
end Mine

end
section
open PySem PySem.Spec PySem.Calls PySem.W PyProof.Rows
set_option Elab.async false
set_option linter.unusedVariables false
set_option linter.unusedSimpArgs false
set_option maxRecDepth 100000
set_option maxHeartbeats 4000000
namespace Mine
section
variable {prog : Program} {w : World} {A : Around} {env : Env} {h : Heap} {bad : List Addr} {fs : List (Str × HP)} {E : Value → Shared → Prop}
theorem ev_zip {elt zf e1 e2 : Expr} {x y : Str} {px py pt pz : Pos} {kt : Nat} {scope : Scope} {pos : Pos} {α : Type} {pcs : List α} {f1 f2 g : α → PyData} (hh : A.handled = none) (ok : EnvOk env) (al : Al bad h)
    (xz : Tr prog w A h (eval zf env) (isVal (.type "zip"))) (x1 : Tr prog w A h (eval e1 env) (isRd bad (.list (pcs.map f1)))) (x2 : Tr prog w A h (eval e2 env) (isRd bad (.list (pcs.map f2)))) (hn : pcs.length ≤ 1000000)
    (hclos : closureFor scope env = pure []) (hkind : scope.kind = .function) (hnames : scope.names.all (fun x => x.2 != .local || scope.names.lookup x.1 == some .local) = true) (hcells : ∀ n, cellsFrom n scope.names [] = [(y, n)]) (hx : scope.names.lookup x = some .local)
    (hy : ∀ C CC, (compEnvC scope [(y, CC)] C env).kindOf y = some .cell)
    (helt : ∀ p ∈ pcs, ∀ G B C CC, EnvOk (compEnvC scope [(y, CC)] C env) → Le h G → Al B G → Ctx (compEnvC scope [(y, CC)] C env) [(y, isRd B (f2 p)), (x, isRd B (f1 p))] G → Stfs B [(y, isRd B (f2 p)), (x, isRd B (f1 p))] → Tr prog w A G (eval elt (compEnvC scope [(y, CC)] C env)) (isRd B (g p)))
    (he : eval (.Call zf [e1, e2] [] pz) env = (do callWith pz (← eval zf env) [] (backTo pz (starEach [e1, e2] env)) (backToKw pz (keywordEach [] env))))
    (hs1 : starEach [e1, e2] env = (false, eval e1 env) :: starEach [e2] env) (hs2 : starEach [e2] env = (false, eval e2 env) :: starEach [] env)
    (hfs : ∀ x, foldedSetIterable (.Call zf [e1, e2] [] pz) env x = pure x) :
    Tr prog w A h (eval (.ListComp elt [⟨.Tuple [.Name x px, .Name y py] kt pt, .Call zf [e1, e2] [] pz, [], 0⟩] scope pos) env) (isRd bad (.list (pcs.map g))) := fun s E l => by
  rw [eval_ListComp]
  refine wpAny_comprehension_free (use := none) rfl hfs hclos hkind (localOnce hnames) ?_
  show wpAny _ _ (eval (.Call zf [e1, e2] [] pz) env) _ _ _
  refine Call_ (xz.use l fun v s1 k1 q1 => ?_) he
  rw [show v = .type "zip" from q1]
  have l1 := l.trans (Keeps.le k1)
  refine PyProof.Rows.callWith_type1 (wpAny_items_cons (x1.use l1 fun u1 s2 k2 q2 => wpAny_items_cons (x2.use (l1.trans (Keeps.le k2)) fun u2 s3 k3 q3 => wpAny_items_nil ?_) hs2) hs1) hs1 (by rw [hs2]; rfl)
  have k13 := Keeps.tr k1 (Keeps.tr k2 k3)
  have l3 := l.trans (Keeps.le k13)
  cases q2 with
  | list nb1 hl1 hr1 =>
  rename_i a1 vs1
  cases q3 with
  | list nb2 hl2 hr2 =>
  rename_i a2 vs2
  have hl1' := (Keeps.le k3).list hl1
  have hr1' := hr1.le (Keeps.le k3)
  refine call_zip_2 hl1' hl2 fun h4 z1 z2 z3 z4 z5 z6 zk => ?_
  refine wpAny_pyIter_zip z1 ?_
  refine wpAny_newObj_type (newEnv1 hcells fun h5 c1 c2 c3 => ?_)
  dsimp only at c1 c2 c3 ⊢
  -- the places
  obtain ⟨n0, hn0⟩ : ∃ n0 : Nat, n0 = s3.heap.objs.size := ⟨_, rfl⟩
  have hD : h4.objs.size = n0 + 5 := by rw [z6, hn0]
  have hH : (h4.push { cls := .type "list", dict := none, data := .seq ([] : List Value).toArray }).objs.size = n0 + 6 := by rw [Heap.size_push, hD]
  rw [hH] at c1 c2
  rw [hH, hD]
  rw [← hn0] at z1 z2 z3 z4 z5 ⊢
  have dead3 : ∀ k : Nat, s3.heap.get? (n0 + k) = none := fun k => Heap.get?_none_of_le (by rw [hn0]; exact Nat.le_add_right _ _)
  have deadS : ∀ k : Nat, s.heap.get? (n0 + k) = none := fun k => by
    cases z : s.heap.get? (n0 + k) with
    | none => rfl
    | some o => have := dead3 k; rw [Keeps.le k13 _ _ z] at this; cases this
  have up4 : Le h4 h5 := fun b o e => c3 b o (Heap.get?_push_of_some _ e)
  have up3 : Le s3.heap h5 := fun b o e => up4 b o (zk b o e)
  have hDat : h5.IsList (n0 + 5) #[] := ⟨_, c3 _ _ (by rw [← hD]; exact Heap.get?_push_size _ rfl), rfl, _, rfl⟩
  have lt3 : ∀ {a : Addr}, s3.heap.get? a ≠ none → ∀ k : Nat, a ≠ n0 + k := fun {a} ha k e => ha (e ▸ dead3 k)
  have la1 : ∀ k : Nat, a1 ≠ n0 + k := lt3 (by obtain ⟨o, ho, _⟩ := hl1'; rw [ho]; simp)
  have la2 : ∀ k : Nat, a2 ≠ n0 + k := lt3 (by obtain ⟨o, ho, _⟩ := hl2; rw [ho]; simp)
  have lb : ∀ b ∈ bad, ∀ k : Nat, b ≠ n0 + k := fun b hb k => lt3 (al.le l3 b hb) k
  have D1 : ZipApart (n0 + 4) (n0 + 2) (n0 + 3) n0 (n0 + 1) a1 a2 := zipApart n0 a1 a2 (by rw [hn0]; obtain ⟨o, ho, _⟩ := hl1'; exact Heap.lt_size ho) (by rw [hn0]; obtain ⟨o, ho, _⟩ := hl2; exact Heap.lt_size ho)
  have W := WalksT.zip2 (prog := prog) (w := w) (A := A) hh (n0 + 4) (n0 + 2) (n0 + 3) n0 (n0 + 1) a1 a2 D1 vs1 vs2
  have hsz1 : vs1.size = pcs.length := by simpa using hr1.length
  have hsz2 : vs2.size = pcs.length := by simpa using hr2.length
  have hmin : min vs1.size vs2.size = pcs.length := by omega
  have nk : ∀ {i j : Nat}, i ≠ j → (n0 + i : Addr) ≠ n0 + j := fun {i j} h e => h (Nat.add_left_cancel e)
  obtain ⟨wr, hwr⟩ : ∃ wr : List Addr, wr = [n0 + 4, n0 + 3, n0 + 0, n0 + 1] := ⟨_, rfl⟩
  obtain ⟨B, hB⟩ : ∃ B : List Addr, B = [n0 + 6, n0 + 7, n0 + 5] ++ (wr ++ bad) := ⟨_, rfl⟩
  have hwrB : ∀ b ∈ wr, b ∈ B := fun b hb => by rw [hB]; exact List.mem_append_right _ (List.mem_append_left _ hb)
  have hbB : ∀ b ∈ bad, b ∈ B := fun b hb => by rw [hB]; exact List.mem_append_right _ (List.mem_append_right _ hb)
  have newB : ∀ b ∈ B, b ∈ bad ∨ s3.heap.get? b = none := fun b hb => by
    rw [hB, hwr] at hb
    simp only [List.cons_append, List.nil_append, List.mem_cons] at hb
    rcases hb with rfl | rfl | rfl | rfl | rfl | rfl | rfl | hb
    · exact .inr (dead3 6)
    · exact .inr (dead3 7)
    · exact .inr (dead3 5)
    · exact .inr (dead3 4)
    · exact .inr (dead3 3)
    · exact .inr (dead3 0)
    · exact .inr (dead3 1)
    · exact .inl hb
  obtain ⟨XX, hXX⟩ : ∃ XX : Nat → Array Value → Heap → Prop, XX = fun j ys h => (IsZip h (n0 + 4) (n0 + 2) (n0 + 3) .none ∧ IsPair h (n0 + 2) (.ref n0) (.ref (n0 + 1)) ∧ (∃ a b, IsPair h (n0 + 3) a b) ∧ h.IsListIter n0 a1 j ∧ h.IsListIter (n0 + 1) a2 j ∧ h.IsList a1 vs1 ∧ h.IsList a2 vs2) ∧ h.IsList (n0 + 5) ys ∧ RdAll B h ys.toList ((pcs.take ys.size).map g) ∧ RdAll B h vs1.toList (pcs.map f1) ∧ RdAll B h vs2.toList (pcs.map f2) := ⟨_, rfl⟩
  have hcenv : compEnvC scope [(y, n0 + 7)] (n0 + 6) env = { scope := relabel scope env, locals := n0 + 6, globals := env.globals, cells := [(y, n0 + 6 + 1)], qual := env.qual, func := none, code := env.code, frame := env.frame, builtins := env.builtins } := rfl
  have okC : EnvOk (compEnvC scope [(y, n0 + 7)] (n0 + 6) env) := ⟨hkind, ok.globals, ok.builtins, by simp [compEnvC], by show ([n0 + 6, n0 + 7] : List Addr).Nodup; simp⟩
  have hfa : frameAddrs (compEnvC scope [(y, n0 + 7)] (n0 + 6) env) = [n0 + 6, n0 + 7] := rfl
  have hXF : ∀ j ys h h', But [n0 + 6, n0 + 7] h h' → XX j ys h → XX j ys h' := by
    intro j ys h h' kb x
    rw [hXX] at x ⊢
    obtain ⟨a, b, c, d, e⟩ := x
    have kB : But B h h' := kb.more fun b hb => by rw [hB]; simp only [List.mem_cons, List.not_mem_nil, or_false] at hb; rcases hb with rfl | rfl <;> simp
    refine ⟨W.frame j h h' a fun b hb o q => kb b o (fun hm => ?_) q, kb.list (fun hm => ?_) b, c.but kB, d.but kB, e.but kB⟩
    · simp only [List.mem_cons, List.not_mem_nil, or_false] at hb hm
      rcases hb with rfl | rfl | rfl | rfl | rfl | rfl | rfl
      · rcases hm with q | q
        · exact nk (by decide) q
        · exact nk (by decide) q
      · rcases hm with q | q
        · exact nk (by decide) q
        · exact nk (by decide) q
      · rcases hm with q | q
        · exact nk (by decide) q
        · exact nk (by decide) q
      · rcases hm with q | q
        · exact nk (i := 0) (by decide) q
        · exact nk (i := 0) (by decide) q
      · rcases hm with q | q
        · exact nk (by decide) q
        · exact nk (by decide) q
      · rcases hm with q | q
        · exact la1 _ q
        · exact la1 _ q
      · rcases hm with q | q
        · exact la2 _ q
        · exact la2 _ q
    · simp only [List.mem_cons, List.not_mem_nil, or_false] at hm
      rcases hm with q | q
      · exact nk (by decide) q
      · exact nk (by decide) q
  have FC : ∀ j ys, FrOk B s (compEnvC scope [(y, n0 + 7)] (n0 + 6) env) (XX j ys) := fun j ys => ⟨okC, fun b hb => by rw [hfa] at hb; simp only [List.mem_cons, List.not_mem_nil, or_false] at hb; rcases hb with rfl | rfl <;> exact deadS _, fun b hb => by rw [hfa] at hb; rw [hB]; simp only [List.mem_cons, List.not_mem_nil, or_false] at hb; rcases hb with rfl | rfl <;> simp, fun h h' kb x => hXF j ys h h' (by rw [hfa] at kb; exact kb) x⟩
  have wrNF : ∀ b ∈ wr, b ∉ frameAddrs (compEnvC scope [(y, n0 + 7)] (n0 + 6) env) := fun b hb q => by
    rw [hfa] at q; rw [hwr] at hb
    simp only [List.mem_cons, List.not_mem_nil, or_false] at hb q
    rcases hb with z | z | z | z
    · rw [z] at q; exact q.elim (nk (by decide)) (nk (by decide))
    · rw [z] at q; exact q.elim (nk (by decide)) (nk (by decide))
    · rw [z] at q; exact q.elim (nk (i := 0) (by decide)) (nk (i := 0) (by decide))
    · rw [z] at q; exact q.elim (nk (by decide)) (nk (by decide))
  have wr0 : ∀ b ∈ wr, s.heap.get? b = none := fun b hb => by
    rw [hwr] at hb
    simp only [List.mem_cons, List.not_mem_nil, or_false] at hb
    rcases hb with q | q | q | q <;> (rw [q]; exact deadS _)
  have DnW : n0 + 5 ∉ wr := fun hb => by
    rw [hwr] at hb
    simp only [List.mem_cons, List.not_mem_nil, or_false] at hb
    rcases hb with q | q | q | q
    · exact nk (by decide) q
    · exact nk (by decide) q
    · exact nk (j := 0) (by decide) q
    · exact nk (by decide) q
  have alwr : ∀ {j ys h}, XX j ys h → Al wr h := fun {j ys h} x b hb e => by
    rw [hXX] at x
    obtain ⟨⟨x1, x2, ⟨_, _, x3⟩, ⟨o4, x4, _⟩, ⟨o5, x5, _⟩, _⟩, _⟩ := x
    rw [hwr] at hb
    simp only [List.mem_cons, List.not_mem_nil, or_false] at hb
    rcases hb with q | q | q | q
    · rw [q, show h.get? (n0 + 4) = _ from x1] at e; cases e
    · rw [q, show h.get? (n0 + 3) = _ from x3] at e; cases e
    · rw [q, show h.get? (n0 + 0) = _ from x4] at e; cases e
    · rw [q, show h.get? (n0 + 1) = _ from x5] at e; cases e
  have X0 : XX 0 #[] h5 := by
    rw [hXX]
    exact ⟨⟨up4 _ _ z1, up4 _ _ z2, ⟨_, _, up4 _ _ z3⟩, z4.at fun o e => up4 _ o e, z5.at fun o e => up4 _ o e, up3.list hl1', up3.list hl2⟩, hDat, .nil, (hr1'.bads newB).le up3, (hr2.bads newB).le up3⟩
  have I0 : Inv B s (compEnvC scope [(y, n0 + 7)] (n0 + 6) env) [] (XX 0 #[]) { s3 with heap := h5 } := by
    refine ⟨?_, (Keeps.le k13).trans up3, ⟨fun _ => none, fun _ => none, c1, fun z c hm => ?_, (fun z P hl => by cases hl)⟩, X0, (fun z P hl => by cases hl), fun b hb e => ?_⟩
    · obtain ⟨hq, tk, e, _⟩ := k13
      rw [e]; exact ⟨h5, tk, rfl⟩
    · have e := List.mem_singleton.mp hm
      cases e
      exact c2
    · rw [hB] at hb
      rcases List.mem_append.mp hb with hb | hb
      · simp only [List.mem_cons, List.not_mem_nil, or_false] at hb
        rcases hb with rfl | rfl | rfl
        · obtain ⟨o, _, _, ho, _⟩ := c1
          rw [ho] at e; cases e
        · obtain ⟨o, ho, _⟩ := c2
          rw [show h5.get? (n0 + 7) = some o from ho] at e; cases e
        · obtain ⟨o, ho, _⟩ := hDat
          rw [ho] at e; cases e
      · rcases List.mem_append.mp hb with hb | hb
        · exact alwr X0 b hb e
        · exact (al.le l3).le up3 b hb e
  have St0 : ∀ {j ys h}, XX j ys h → (IsZip h (n0 + 4) (n0 + 2) (n0 + 3) .none ∧ IsPair h (n0 + 2) (.ref n0) (.ref (n0 + 1)) ∧ (∃ a b, IsPair h (n0 + 3) a b) ∧ h.IsListIter n0 a1 j ∧ h.IsListIter (n0 + 1) a2 j ∧ h.IsList a1 vs1 ∧ h.IsList a2 vs2) := fun x => by rw [hXX] at x; exact x.1
  have X2 : ∀ {j ys h}, XX j ys h → h.IsList (n0 + 5) ys ∧ RdAll B h ys.toList ((pcs.take ys.size).map g) ∧ RdAll B h vs1.toList (pcs.map f1) ∧ RdAll B h vs2.toList (pcs.map f2) := fun x => by rw [hXX] at x; exact x.2
  have loop : codeAny (model prog w) A (.compLoop (.ListComp elt [⟨.Tuple [.Name x px, .Name y py] kt pt, .Call zf [e1, e2] [] pz, [], 0⟩] scope pos) 0 (.ref (n0 + 4)) (.ref (n0 + 5)) (compEnvC scope [(y, n0 + 7)] (n0 + 6) env)) (compPost (model prog w) A E none (fun v s' => Keeps s s' ∧ isRd bad (.list (pcs.map g)) v s'.heap) (.ref (n0 + 5)) (n0 + 6)) { s3 with heap := h5 } := by
    refine compLoopT (fun k s' => ∃ ys : Array Value, ys.size ≤ pcs.length ∧ k = pcs.length - ys.size ∧ Inv B s (compEnvC scope [(y, n0 + 7)] (n0 + 6) env) [] (XX ys.size ys) s') ?_ pcs.length ⟨#[], Nat.zero_le _, rfl, I0⟩
    rintro k s' ⟨ys, hle, rfl, I'⟩
    by_cases hlt : ys.size < pcs.length
    · refine W.item ys.size s' _ _ (by omega) (St0 I'.x) fun T vals h6 tk6 hPt hT hTup hMid bk => ?_
      show wpAny _ A (letOwnedTupleGo (.Tuple [.Name x px, .Name y py] kt pt) (.ref (n0 + 4)) (.ref T)) _ _ _
      refine W.go [.Name x px, .Name y py] kt pt ys.size T { s' with heap := h6, toks := tk6 } _ _ hMid fun h7 hSt7 bk7 => ?_
      have hTwr : T ∉ wr := by rw [hwr]; exact W.apart _ _ _ hMid
      have bt7 : But wr s'.heap h7 := fun b o hb e => bk7 b o (by rw [hwr] at hb; exact hb) (bk b o (by rw [hwr] at hb; exact hb) e)
      have btB : But B s'.heap h7 := bt7.more hwrB
      have hTup7 : IsTup h7 T vals := by
        obtain ⟨o, ho, r⟩ := hTup
        exact ⟨o, bk7 T o (by rw [hwr] at hTwr; exact hTwr) ho, r⟩
      obtain ⟨d1, d2, d3, d4⟩ := X2 I'.x
      have X7 : XX (ys.size + 1) ys h7 := by rw [hXX]; exact ⟨hSt7, bt7.list DnW d1, d2.but btB, d3.but btB, d4.but btB⟩
      have I7 : Inv B s (compEnvC scope [(y, n0 + 7)] (n0 + 6) env) [] (XX (ys.size + 1) ys) { s' with heap := h7, toks := tk6 } := I'.muts hwrB wrNF wr0 bt7 (alwr X7) X7
      obtain ⟨xv, yv, hxv, hyv, rfl⟩ := hPt
      have hp1 : (pcs.map f1)[ys.size]? = some (f1 pcs[ys.size]) := by simp [hlt]
      have hp2 : (pcs.map f2)[ys.size]? = some (f2 pcs[ys.size]) := by simp [hlt]
      rw [assign_Tuple]
      refine wpAny_bind (wpAny_standAt ?_)
      unfold unpack
      show wpAny _ A (holding _ (unpackItems (.ref T) (#[xv, yv] : Array Value).size none) >>= _) _ _ _
      refine wpAny_bind (wpAny_holding (unpackItems_tuple hh hTup7 fun h8 e8 => ?_))
      have le8 : Le h7 h8 := fun b o e => e8 b o (Nat.ne_of_lt (Heap.lt_size e)) e
      have I8 := I7.keeps (FC _ _) (keeps_of le8)
      obtain ⟨_, _, w3, w4⟩ := X2 I8.x
      obtain ⟨xv', hxv', rx⟩ := w3.get hp1
      obtain ⟨yv', hyv', ry⟩ := w4.get hp2
      have ex : xv' = xv := by rw [Array.getElem?_toList, hxv] at hxv'; exact (Option.some.inj hxv').symm
      have ey : yv' = yv := by rw [Array.getElem?_toList, hyv] at hyv'; exact (Option.some.inj hyv').symm
      subst ex ey
      have hq : Hs h8 [xv', yv'] [isRd B (f1 pcs[ys.size]), isRd B (f2 pcs[ys.size])] := .cons rx (.cons ry .nil)
      have T2 : Tgt (compEnvC scope [(y, n0 + 7)] (n0 + 6) env) ((assignEach [.Name x px, .Name y py] (compEnvC scope [(y, n0 + 7)] (n0 + 6) env)).map (·.2)) [x, y] := tgt_name (tgt_name .nil)
      refine store_list T2 (FC _ _) hq (by rfl) (fun P hP => ?_) I8 (fun z hz => ?_) fun s9 I9 => ?_
      · simp only [List.mem_cons, List.not_mem_nil, or_false] at hP
        rcases hP with rfl | rfl <;> exact st_rd _ _
      · simp only [List.mem_cons, List.not_mem_nil, or_false] at hz
        rcases hz with rfl | rfl
        · exact .inl (lookup_relabel_local hx)
        · exact .inr ⟨hy _ _, by simp [compEnvC]⟩
      · have I9' : Inv B s (compEnvC scope [(y, n0 + 7)] (n0 + 6) env) [(y, isRd B (f2 pcs[ys.size])), (x, isRd B (f1 pcs[ys.size]))] (XX (ys.size + 1) ys) s9 := I9
        refine (helt pcs[ys.size] (List.getElem_mem hlt) s9.heap B (n0 + 6) (n0 + 7) okC (l.trans I9'.base) I9'.al I9'.ctx I9'.st).use (Le.refl _) fun r s10 k10 q10 => ?_
        have I10 := I9'.keeps (FC _ _) k10
        obtain ⟨g1, g2, g3, g4⟩ := X2 I10.x
        refine wpAny_list_append g1 (fun h11 hl11 hs11 => ?_) (by rw [sizeLine_eq]; omega)
        refine ⟨pcs.length - (ys.push r).size, by rw [Array.size_push]; omega, ys.push r, by rw [Array.size_push]; exact hlt, rfl, ?_⟩
        have bt11 : But [n0 + 5] s10.heap h11 := But.same hs11
        have hDB : n0 + 5 ∈ B := by rw [hB]; simp
        have bB11 : But B s10.heap h11 := bt11.more fun c hc => List.mem_singleton.mp hc ▸ hDB
        refine Inv.less (fs := [(y, isRd B (f2 pcs[ys.size])), (x, isRd B (f1 pcs[ys.size]))]) (I10.muts (W := [n0 + 5]) (tk := s10.toks) (fun c hc => List.mem_singleton.mp hc ▸ hDB) (fun c hc q => ?_) (fun c hc => List.mem_singleton.mp hc ▸ deadS 5) bt11 (fun c hc e => ?_) ?_) fun p hp => by cases hp
        · rw [List.mem_singleton.mp hc, hfa] at q
          simp only [List.mem_cons, List.not_mem_nil, or_false] at q
          exact q.elim (nk (by decide)) (nk (by decide))
        · rw [List.mem_singleton.mp hc] at e
          obtain ⟨o, ho, _⟩ := hl11
          rw [ho] at e; cases e
        · rw [Array.size_push, hXX]
          refine ⟨W.frame _ _ _ (St0 I10.x) fun b hb o e => bt11 b o (fun hm => ?_) e, hl11, ?_, g3.but bB11, g4.but bB11⟩
          · rw [List.mem_singleton.mp hm] at hb
            simp only [List.mem_cons, List.not_mem_nil, or_false] at hb
            rcases hb with q | q | q | q | q | q | q
            · exact nk (by decide) q
            · exact nk (by decide) q
            · exact nk (by decide) q
            · exact nk (j := 0) (by decide) q
            · exact nk (by decide) q
            · exact la1 5 q.symm
            · exact la2 5 q.symm
          · rw [Array.size_push, Array.toList_push, List.take_add_one, List.getElem?_eq_getElem hlt]
            simp only [Option.toList, List.map_append, List.map_cons, List.map_nil]
            exact (g2.but bB11).snoc (q10.but bB11)
    · have hin : ys.size = pcs.length := by omega
      have hst := St0 I'.x
      rw [hin, ← hmin] at hst
      refine W.done s' _ _ hst fun h6 tk6 bk => ?_
      have bt : But wr s'.heap h6 := fun b o hb e => bk b o (by rw [hwr] at hb; exact hb) e
      have btB : But B s'.heap h6 := bt.more hwrB
      obtain ⟨d1, d2, _, _⟩ := X2 I'.x
      obtain ⟨m, cs, ca, _, _⟩ := I'.ctx.ex
      refine ⟨m, ca.at' fun o e => bt _ o (fun q => wrNF _ q (.head _)) e, fun h'' hs'' => ?_⟩
      have le6 : Le s.heap h6 := fun b o e => bt b o (fun q => by rw [wr0 b q] at e; cases e) (I'.base b o e)
      have le'' : Le s.heap h'' := fun b o e => hs''.extBut b o (by rintro rfl; rw [show s.heap.get? (n0 + 6) = none from deadS 6] at e; cases e) (le6 b o e)
      refine ⟨?_, ?_⟩
      · obtain ⟨hq, tq, e⟩ := I'.same
        rw [e]; exact ⟨h'', tk6, rfl, le''⟩
      · have bC : But B h6 h'' := (But.same hs'').more fun c hc => by rw [List.mem_singleton.mp hc, hB]; simp
        have d2' := (d2.but btB).but bC
        rw [hin, List.take_length] at d2'
        have hnb : n0 + 5 ∉ bad := fun hb => lb _ hb 5 rfl
        exact .list hnb ((But.same hs'').list (fun q => nk (by decide) (List.mem_singleton.mp q)) (bt.list DnW d1)) (d2'.bads fun c hc => .inl (hbB c hc))
  exact codeAny_compStart_list loop (W.self 0 _ _ _ (St0 X0) loop)
end
end Mine

end
section
open PySem PySem.Spec PySem.Calls PySem.W PyProof.Rows
set_option Elab.async false
set_option linter.unusedVariables false
set_option linter.unusedSimpArgs false
set_option maxRecDepth 100000
set_option maxHeartbeats 4000000
namespace Mine
theorem parts (long : Bool) (p : Pc) : ∀ i, i < (tl long p.k ++ [p.c1, p.c2].map PyData.list).length →
    ((tl long p.k ++ [p.c1, p.c2].map PyData.list)[i]? = some (.int p.k) ∧ (tl long p.k ++ [p.c1, p.c2].map PyData.tuple)[i]? = some (.int p.k)) ∨
    ∃ c, (tl long p.k ++ [p.c1, p.c2].map PyData.list)[i]? = some (.list c) ∧ (tl long p.k ++ [p.c1, p.c2].map PyData.tuple)[i]? = some (.tuple c) ∧ c.length ≤ 2 ∧ Sm (.list c) := by
  have s1 : Sm (.list p.c1) := ⟨by simp [Pc.c1, PyData.canLay0, PyData.canLayAll0], by simp [Pc.c1, PyData.depth, PyData.depthAll]⟩
  have s2 : Sm (.list p.c2) := ⟨by simp [Pc.c2, PyData.canLay0, PyData.canLayAll0], by simp [Pc.c2, PyData.depth, PyData.depthAll]⟩
  intro i hi
  cases long with
  | true =>
    rcases i with _ | _ | _ | i
    · exact .inl ⟨rfl, rfl⟩
    · exact .inr ⟨p.c1, rfl, rfl, small rfl, s1⟩
    · exact .inr ⟨p.c2, rfl, rfl, small rfl, s2⟩
    · simp [tl] at hi; omega
  | false =>
    rcases i with _ | _ | i
    · exact .inr ⟨p.c1, rfl, rfl, small rfl, s1⟩
    · exact .inr ⟨p.c2, rfl, rfl, small rfl, s2⟩
    · simp [tl] at hi; omega
section
variable {prog : Program} {w : World} {A : Around} {env : Env} {h : Heap} {bad : List Addr} {s₀ s : Shared} {E : Value → Shared → Prop} {mg mb : Str → Option Value} {L fa : Addr} {cd : Value} {X : Heap → Prop} {l1 l2 : List Nat} {a b : Int} {ps : List Pc} {long : Bool}
/-- the elder form: the places as pairs -/
theorem body6 (S : Stc mg mb w.params s₀.heap) (hh : A.handled = none) (hu : A.units + 100 < cLine) (hm : cStatics ∈ bad) (hps : ps.length ≤ 100) (F : FrOk bad s₀ (lawEnv L fa cd) X) (I : Inv bad s₀ (lawEnv L fa cd) (K4 prog w l1 l2 a b ps long bad) X s) :
    wpAny (model prog w) A (exec (bs 6) (lawEnv L fa cd)) (Nx fun s' => Inv bad s₀ (lawEnv L fa cd) (K4 prog w l1 l2 a b ps long bad) X s') E s := by
  refine ex_if (b := false) (ts_cmp (bp_two.st bad).mo (ev_name F.ok I.ctx (by rfl) (bp_two.st _).mo) (ev_dict I.al hm two_ok (fun g B lg alB hB => ?_) (two_nd (by decide))) fun v1 v2 g lg p q => op_neD (by decide) hu (sm_eld long ps.reverse) (sm_int _) p q) fun s2 k2 => ex_nil (I.keeps F k2)
  have cg := I.ctxAt (bp_K4 (prog := prog) (w := w) (l1 := l1) (l2 := l2) (a := a) (b := b) (ps := ps) (long := long)) hB lg
  have SG : Stc mg mb w.params g := S.le (I.base.trans lg)
  refine ds_cons (mo_rd _) (ev_str _ _ _) ?_ (ds_cons (mo_rd _) (ev_str _ _ _) ((best00 fun p => ev_name F.ok cg (by rfl) (mo_rd _)).weak fun v g _ r => rd_int r) ds_nil)
  refine ev_zip (pcs := ps.reverse) (f1 := Pc.due long) (f2 := Pc.sent true) (g := Pc.eld long) hh F.ok alB (SG.built F.ok (n_zip _) bi_zip) (ev_name F.ok cg (by rfl) (mo_rd _)) (by rw [List.map_reverse]; exact sl_rev (ds := ps.map (Pc.sent true)) alB (ev_name F.ok cg (by rfl) (mo_rd _)) (by simp; omega) (ev_neg (ev_int 1 _ _))) (by simp; omega)
    (by kernel_rfl) (by rfl) (by kernel_rfl) (fun n => by rfl) (by kernel_rfl) (fun C CC => by kernel_rfl) (fun p hp G B' C CC okc le al c st => ?_) (by rfl) (by rfl) (by rfl) (fun _ => by rfl)
  have SC : Stc mg mb w.params G := SG.le le
  have hkp : ∀ pos, Tr prog w A G (eval (.Name "piece" pos) (compEnvC _ [("piece", CC)] C (lawEnv L fa cd))) (isRd B' (p.sent true)) := fun pos => ev_name okc c (by rfl) (mo_rd _)
  have er : ∀ pos, Tr prog w A G (eval (.Name "row" pos) (compEnvC _ [("piece", CC)] C (lawEnv L fa cd))) (isRd B' (.list (tl long p.k ++ [p.c1, p.c2].map PyData.list))) := fun pos => ev_name okc c (by rfl) (mo_rd (p.due long))
  have hlen1 : (tl long p.k ++ [p.c1, p.c2].map PyData.list).length ≤ 1000000 := by cases long <;> exact small rfl
  have hlen2 : (tl long p.k ++ [p.c1, p.c2].map PyData.tuple).length = (tl long p.k ++ [p.c1, p.c2].map PyData.list).length := by cases long <;> rfl
  show Tr _ _ _ _ _ (isRd B' (.list (tl long p.k ++ [p.c1, p.c2].map PyData.tuple)))
  refine ev_comp (cl := [("piece", CC)]) (ffs := fun B => [("piece", isRd B (p.sent true))]) (n := (tl long p.k ++ [p.c1, p.c2].map PyData.list).length) (ds := tl long p.k ++ [p.c1, p.c2].map PyData.tuple) okc c al (fun z P hz => (st z P hz).mo) (by kernel_rfl) (cap_of (BpF.cons (Bp.rd _) BpF.nil) ?_ ?_ ?_ ?_ ?_)
    (src_rd hh al (er _)) hlen1 hlen2 (fun i => bp_itm _ i) (nocell (by kernel_rfl)) (by rfl) (localOnce (by kernel_rfl)) (by kernel_rfl) ?_ ?_
  · intro z hz
    obtain rfl := List.mem_singleton.mp hz
    exact .head _
  · show ([("piece" : Str)] : List Str).Nodup
    decide
  · simp
  · intro B2 z hz
    obtain rfl := List.mem_singleton.mp hz
    exact ⟨by kernel_rfl, by kernel_rfl⟩
  · intro z hz
    obtain rfl := List.mem_singleton.mp hz
    rfl
  · intro z hz C2
    obtain rfl := List.mem_singleton.mp hz
    kernel_rfl
  · intro i g2 C2 B2 hi ok2 le2 al2 hb2 c2
    have S2 : Stc mg mb w.params g2 := SC.le le2
    have ep : ∀ pos, Tr prog w A g2 (eval (.Name "piece" pos) _) (isRd B2 (p.sent true)) := fun pos => ev_name ok2 c2 (by rfl) (mo_rd _)
    have hki : ∀ p1 p2 p3 k1, Tr prog w A g2 (eval (.Subscript (.Name "piece" p1) (.Constant (.int 2) k1 p2) p3) _) (isRd B2 (.int p.k)) := fun p1 p2 p3 k1 => ev_sub (mo_rd _) (ep _) (ev_int 2 _ _) fun v1 v2 g _ a b => sub_rd (d := .int p.k) (by decide) (by decide) (by rfl) a b
    rcases parts long p i (by simpa using hi) with ⟨h1, h2⟩ | ⟨d, h1, h2, h3, h4⟩
    · have em : ∀ pos, Tr prog w A g2 (eval (.Name "part" pos) _) (isRd B2 (.int p.k)) := fun pos => (ev_name ok2 c2 lookup_cons_self ((bp_itm _ i).st B2).mo).weak fun v g' _ ⟨d, e, r⟩ => by
        rw [h1] at e; cases e; exact r
      refine Tr.weak (P := isRd B2 (.int p.k)) ?_ fun v g' _ r => ⟨_, h2, r⟩
      exact ev_if (b := false) (ts_cmp (mo_rd _) (em _) (hki _ _ _ _) fun v1 v2 g _ x y => (op_ned hu (sm_int _) (sm_int _) x y).weak fun v g _ r => by simpa [PyData.eqv] using r) (fun e => by cases e) (fun _ => em _)
    · have em : ∀ pos, Tr prog w A g2 (eval (.Name "part" pos) _) (isRd B2 (.list d)) := fun pos => (ev_name ok2 c2 lookup_cons_self ((bp_itm _ i).st B2).mo).weak fun v g' _ ⟨d, e, r⟩ => by
        rw [h1] at e; cases e; exact r
      refine Tr.weak (P := isRd B2 (.tuple d)) ?_ fun v g' _ r => ⟨_, h2, r⟩
      exact ev_if (b := true) (ts_cmp (mo_rd _) (em _) (hki _ _ _ _) fun v1 v2 g _ x y => (op_ned hu h4 (sm_int _) x y).weak fun v g _ r => by simpa [PyData.eqv] using r) (fun _ => ev_callT (Ps := [isRd B2 (.list d)]) (S2.built ok2 (n_tuple _) bi_tuple) (es_cons (mo_rd _) (em _) es_nil) fun vs g lg q => call_tuple (al2.le lg) (by omega) q) (fun e => by cases e)
end
end Mine

end
section
open PySem PySem.Spec PySem.Calls PySem.W PyProof.Rows
set_option Elab.async false
set_option linter.unusedVariables false
set_option linter.unusedSimpArgs false
set_option maxRecDepth 100000
set_option maxHeartbeats 4000000
namespace Mine
theorem FpX.al {V : List Addr} : FpX V (Al V) := fun U h h' d k a b hb e => by
  cases z : h.get? b with
  | none => exact a b hb z
  | some o => rw [k b o (d b hb) z] at e; cases e
def isNth (Ps : List HP) (i : Nat) : HP := fun v g => ∃ P, Ps[i]? = some P ∧ P v g
theorem pu_nth {Ps : List HP} (h : ∀ P ∈ Ps, Pure P) (i : Nat) : Pure (isNth Ps i) := fun v g g' ⟨P, e, p⟩ => ⟨P, e, h P (List.mem_of_getElem? e) v g g' p⟩
theorem u8 {l : List Nat} (h : ∀ c ∈ l, c < 128) : (l.map (·.toUInt8)).map (·.toNat) = l := by
  induction l with
  | nil => rfl
  | cons c l ih =>
    have := h c (.head _)
    rw [List.map_cons, List.map_cons, ih fun d hd => h d (.tail _ hd)]
    congr 1
    show c % 256 = c
    omega
theorem u8_asc {l : List Nat} (h : ∀ c ∈ l, c < 128) : ∀ c ∈ l.map (·.toUInt8), c < 128 := fun c hc => by
  obtain ⟨d, hd, rfl⟩ := List.mem_map.mp hc
  have := h d hd
  show d % 256 < 128
  omega
section
variable {prog : Program} {w : World} {A : Around} {env : Env} {h : Heap} {bad : List Addr} {s₀ s : Shared} {E : Value → Shared → Prop} {mg mb : Str → Option Value} {L fa : Addr} {cd : Value} {X : Heap → Prop} {l1 l2 : List Nat} {a b : Int} {ps : List Pc} {long : Bool}
/-- for long in (False, True) -/
theorem law7 {n : Nat} {Q : Flow → Shared → Prop} (ha : AOk (n + 2) A) (S : Stc mg mb w.params s₀.heap) (hm : cStatics ∈ bad) (h1 : l1.length ≤ 7) (h2 : l2.length ≤ 7) (x : Fin' l1 l2 ps) (F : FrOk bad s₀ (lawEnv L fa cd) (fun _ => True)) (I : Inv bad s₀ (lawEnv L fa cd) (C7 l1 l2 a b ps bad) (fun _ => True) s)
    (k : ∀ s', Inv bad s₀ (lawEnv L fa cd) (C7 l1 l2 a b ps bad) (fun _ => True) s' → Q .next s') :
    wpAny (model prog w) A (exec (st 7) (lawEnv L fa cd)) Q E s := by
  have hps : ps.length ≤ 100 := by have := x.few; omega
  have pub : ∀ P ∈ [isBool false, isBool true], Pure P := fun P hP => by
    simp only [List.mem_cons, List.not_mem_nil, or_false] at hP
    rcases hP with rfl | rfl <;> exact pu_bool _
  have src := src_tp (prog := prog) (w := w) (A := A) (env := lawEnv L fa cd) ha.hh I.al pub (ev_tuple (prog := prog) (w := w) (A := A) (env := lawEnv L fa cd) (bad := bad) (k := 0) (pos := (match st 7 with | .For _ (.Tuple _ _ p) _ _ _ => p | _ => ⟨0, 0, 0, 0⟩)) I.al (mos_cons (pu_bool false).mo (mos_cons (pu_bool true).mo mos_nil))
    (es_cons (pu_bool false).mo (ev_bool false 0 (match st 7 with | .For _ (.Tuple [.Constant _ _ p, _] _ _) _ _ _ => p | _ => ⟨0, 0, 0, 0⟩)) (es_cons (pu_bool true).mo (ev_bool true 0 (match st 7 with | .For _ (.Tuple [_, .Constant _ _ p] _ _) _ _ _ => p | _ => ⟨0, 0, 0, 0⟩)) es_nil)) (small rfl))
  refine st_forR (W := []) (XI := fun _ _ => True) (fsI := fun _ B => C7 l1 l2 a b ps B) (n := 2) (Pv := isNth [isBool false, isBool true]) F (fun _ => bp_C7) (fun _ => fun _ _ _ _ _ _ => trivial) (fun b hb => by cases hb) (fun b hb => by cases hb) I src (fun i => pu_nth pub i) (.inr ⟨by kernel_rfl, by kernel_rfl⟩) ?_ k
  intro i B s Y V E hi hB hY hV alV FY IY
  obtain ⟨long, hlong⟩ : ∃ long : Bool, [isBool false, isBool true][i]? = some (isBool long) := by
    rcases i with _ | _ | i
    · exact ⟨false, rfl⟩
    · exact ⟨true, rfl⟩
    · omega
  have hVf : ∀ c ∈ V, c ∉ frameAddrs (lawEnv L fa cd) := fun c hc q => hV c hc (F.sub c q)
  have hmB := hB _ hm
  have FX : FrOk B s₀ (lawEnv L fa cd) (fun h => (True ∧ Y h) ∧ Al V h) := FY.of fun h h' kb z => ⟨FY.hx h h' kb z.1, FpX.al _ _ _ hVf kb z.2⟩
  have hFX : FpX V (fun h => (True ∧ Y h) ∧ Al V h) := fun U h h' d kb z => ⟨⟨trivial, hY U h h' d kb z.1.2⟩, FpX.al U h h' d kb z.2⟩
  have I0 : Inv B s₀ (lawEnv L fa cd) (K0 l1 l2 a b ps long B) (fun h => (True ∧ Y h) ∧ Al V h) s := (IY.head (P' := isBool long) (fun v ⟨P, e, p⟩ => by rw [hlong] at e; cases e; exact p) (pu_bool _).st).withX ⟨IY.x, alV⟩
  show wpAny _ _ (execs lBody (lawEnv L fa cd)) _ _ _
  rw [lBody_eq]
  refine ex_mid (body0 ha.hh hps FX I0) fun s1 I1 => ?_
  refine ex_mid (body1 ha.hh hmB hps FX I1) fun s2 I2 => ?_
  refine ex_mid (body2 ha S hmB hps FX I2) fun s3 I3 => ?_
  refine ex_mid (body3 ha S hmB hps FX I3) fun s4 I4 => ?_
  refine ex_mid (body4 ha.hh hps FX I4) fun s5 I5 => ?_
  refine ex_mid (body5 ha S hmB hps FX I5) fun s6 I6 => ?_
  refine ex_mid (body6 S ha.hh ha.u hmB hps FX I6) fun s7 I7 => ?_
  refine ex_mid (body7 ha.hh FX I7) fun s8 I8 => ?_
  refine ex_mid (body8 S ha.hh h1 h2 x FX hFX I8.x.2 hVf I8) fun s9 I9 => ?_
  refine ex_mid (body9 S ha.hh h1 h2 x FX I9) fun s10 I10 => ?_
  exact ex_nil (I10.withX I10.x.1)
def C8 (l1 l2 : List Nat) (a b : Int) (ps : List Pc) (B : List Addr) : List (Str × HP) := ("octets", isBytes (l1.map (fun c : Nat => c.toUInt8)).toArray) :: C7 l1 l2 a b ps B
theorem law8 {Q : Flow → Shared → Prop} (h1 : l1.length ≤ 7) (ha1 : ∀ c ∈ l1, c < 128) (F : FrOk bad s₀ (lawEnv L fa cd) X) (I : Inv bad s₀ (lawEnv L fa cd) (C7 l1 l2 a b ps bad) X s)
    (k : ∀ s', Inv bad s₀ (lawEnv L fa cd) (C8 l1 l2 a b ps bad) X s' → Q .next s') :
    wpAny (model prog w) A (exec (st 8) (lawEnv L fa cd)) Q E s :=
  st_assign (P := isBytes (l1.map (fun c : Nat => c.toUInt8)).toArray) F I (ev_encode ha1 (by omega) (ev_name F.ok I.ctx (by rfl) (pu_str _).mo) (ev_str _ _ _)) (pu_bytes _).st k (.inl (by kernel_rfl))
theorem ev_and2 {e1 e2 : Expr} {rest : List Expr} {pos : Pos} {P : HP} (x : Tr prog w A h (eval e1 env) (isBool true)) (y : Tr prog w A h (eval (.BoolOp .And (e2 :: rest) pos) env) P) : Tr prog w A h (eval (.BoolOp .And (e1 :: e2 :: rest) pos) env) P := fun s E l => by
  refine BoolOp_and (x.use l fun v s1 k1 p => ?_)
  rw [show v = .bool true from p]
  refine wpAny_truthy_bool ?_
  simp only [if_true]
  exact y.use (l.trans (Keeps.le k1)) fun v s2 k2 p2 => ⟨Keeps.tr k1 k2, p2⟩
theorem ev_and1 {e1 : Expr} {pos : Pos} {P : HP} (x : Tr prog w A h (eval e1 env) P) : Tr prog w A h (eval (.BoolOp .And [e1] pos) env) P := fun s E l => BoolOp_one (x s E l)
/-- a text by itself -/
theorem law9 {n : Nat} {R : Value → Shared → Prop} (ha : AOk (n + 2) A) (S : Stc mg mb w.params s₀.heap) (hm : cStatics ∈ bad) (h1 : l1.length ≤ 7) (ha1 : ∀ c ∈ l1, c < 128) (F : FrOk bad s₀ (lawEnv L fa cd) X) (I : Inv bad s₀ (lawEnv L fa cd) (C8 l1 l2 a b ps bad) X s)
    (k : ∀ s', Keeps s s' → R (.bool true) s') :
    wpAny (model prog w) A (exec (st 9) (lawEnv L fa cd)) (fun f s' => ∃ v, f = .ret v ∧ R v s') E s := by
  have S2 := S.le I.base
  have eo : ∀ p, Tr prog w A s.heap (eval (.Name "octets" p) (lawEnv L fa cd)) (isKey (.inr (l1.map (fun c : Nat => c.toUInt8)))) := fun p => ev_name F.ok I.ctx (by rfl) (pu_bytes _).mo
  have e1 : ∀ p, Tr prog w A s.heap (eval (.Name "one" p) (lawEnv L fa cd)) (isStr ⟨l1.toArray⟩) := fun p => ev_name F.ok I.ctx (by rfl) (pu_str _).mo
  have e2 : ∀ p, Tr prog w A s.heap (eval (.Name "other" p) (lawEnv L fa cd)) (isStr ⟨l2.toArray⟩) := fun p => ev_name F.ok I.ctx (by rfl) (pu_str _).mo
  have e2' : ∀ p, Tr prog w A s.heap (eval (.Name "other" p) (lawEnv L fa cd)) (isKey (.inl ⟨l2.toArray⟩)) := e2
  have hk1 : kasc (.inr (l1.map (fun c : Nat => c.toUInt8))) := ⟨u8_asc ha1, by simp; omega⟩
  have ht1 : ktxt (.inr (l1.map (fun c : Nat => c.toUInt8))) = ⟨l1.toArray⟩ := by
    show (⟨(List.map (fun c : UInt8 => c.toNat) (List.map (fun c : Nat => c.toUInt8) l1)).toArray⟩ : Str) = _
    rw [u8 ha1]
  have eqs : ∀ (x : Str) v1 v2 (g : Heap), Le s.heap g → isStr x v1 g → isStr x v2 g → Tr prog w A g (compareOp .Eq v1 v2) (isBool true) := fun x v1 v2 g _ p q => (op_eqs p q).weak fun v g _ r => by simpa using r
  have c1 : ∀ {f : Addr} {fname : Str} {pf pn pp : Pos} {o : Obj} {fd : FuncData} (ho : s.heap.get? f = some o) (hdata : o.data = .func fd) (hf : Tr prog w A s.heap (eval (.Name fname pf) (lawEnv L fa cd)) (isVal (.ref f)))
      (spec : ∀ v g, Le s.heap g → isKey (.inr (l1.map (fun c : Nat => c.toUInt8))) v g → Tr prog w A g (call (.ref f) [v] []) (isStr (ktxt (.inr (l1.map (fun c : Nat => c.toUInt8)))))), Tr prog w A s.heap (eval (.Call (.Name fname pf) [.Name "octets" pn] [] pp) (lawEnv L fa cd)) (isStr ⟨l1.toArray⟩) := fun ho hdata hf spec => by
    rw [← ht1]
    exact ev_callF ho hdata (pu_key _).mo hf (eo _) ks_nil (fun v kvs g lg p q => spec v g lg p)
  have c2 : ∀ {f : Addr} {fname : Str} {pf pn pp : Pos} {o : Obj} {fd : FuncData} (ho : s.heap.get? f = some o) (hdata : o.data = .func fd) (hf : Tr prog w A s.heap (eval (.Name fname pf) (lawEnv L fa cd)) (isVal (.ref f)))
      (spec : ∀ v g, Le s.heap g → isKey (.inl ⟨l2.toArray⟩) v g → Tr prog w A g (call (.ref f) [v] []) (isStr (ktxt (.inl ⟨l2.toArray⟩)))), Tr prog w A s.heap (eval (.Call (.Name fname pf) [.Name "other" pn] [] pp) (lawEnv L fa cd)) (isStr ⟨l2.toArray⟩) := fun ho hdata hf spec =>
    ev_callF ho hdata (pu_key _).mo hf (e2' _) ks_nil (fun v kvs g lg p q => spec v g lg p)
  refine st_return (P := isBool true) ?_ fun v s' kk p => ⟨v, rfl, by rw [show v = .bool true from p]; exact k s' kk⟩
  refine ev_and2 (ev_cmp (pu_str _).mo (c1 (S2.K _ _ (l_26 _)) (d_26 _) (S2.glob F.ok (n_parse _)) fun v g lg p => text_26 ha (S2.le lg) (I.al.le lg) hm hk1 p) (e1 _) (eqs _)) ?_
  refine ev_and2 (ev_cmp (pu_str _).mo (c1 (S2.K _ _ (l_31 _)) (d_31 _) (S2.glob F.ok (n_uni _)) fun v g lg p => text_31 ha (S2.le lg) (I.al.le lg) hm hk1 p) (e1 _) (eqs _)) ?_
  refine ev_and2 (ev_cmp (pu_str _).mo (c1 (S2.K _ _ (l_36 _)) (d_36 _) (S2.glob F.ok (n_resp _)) fun v g lg p => text_36 ha (S2.le lg) (I.al.le lg) hm hk1 p) (e1 _) (eqs _)) ?_
  refine ev_and2 (ev_cmp (pu_str _).mo (c2 (S2.K _ _ (l_31 _)) (d_31 _) (S2.glob F.ok (n_uni _)) fun v g lg p => text_31 ha (S2.le lg) (I.al.le lg) hm trivial p) (e2 _) (eqs _)) ?_
  refine ev_and2 (ev_cmp (pu_str _).mo (c2 (S2.K _ _ (l_26 _)) (d_26 _) (S2.glob F.ok (n_parse _)) fun v g lg p => text_26 ha (S2.le lg) (I.al.le lg) hm trivial p) (e2 _) (eqs _)) ?_
  exact ev_and1 (ev_cmp (pu_str _).mo (c2 (S2.K _ _ (l_36 _)) (d_36 _) (S2.glob F.ok (n_resp _)) fun v g lg p => text_36 ha (S2.le lg) (I.al.le lg) hm trivial p) (e2 _) (eqs _))
end
end Mine

end
section
open PySem PySem.Spec PySem.Calls PySem.W PyProof.Rows
set_option Elab.async false
set_option linter.unusedVariables false
set_option linter.unusedSimpArgs false
namespace Mine
/-- what stands while the pieces are sought -/
structure Gd (l1 l2 : List Nat) (σ : Sg) : Prop where
  n : σ.1 ≤ l1.length
  m : σ.2.1 ≤ l2.length
  pv : ∀ p ∈ σ.2.2, PV l1 l2 p
  tot : (σ.2.2.map Pc.k).sum + tt l1 l2 σ.1 σ.2.1 = tt l1 l2 0 0
  few : σ.2.2.length ≤ σ.1
theorem gd0 (l1 l2 : List Nat) : Gd l1 l2 (0, 0, []) := ⟨Nat.zero_le _, Nat.zero_le _, fun p hp => (by cases hp), by simp, by simp⟩
theorem gd_few {l1 l2 : List Nat} (h1 : l1.length ≤ 7) (σ : Sg) (g : Gd l1 l2 σ) : σ.2.2.length ≤ 100 := by
  have := g.few; have := g.n; omega
theorem last_split {ps : List Pc} {p : Pc} (h : ps.getLast? = some p) : ps = ps.dropLast ++ [p] := by
  obtain ⟨h1, h2⟩ := List.getLast?_eq_some_iff.mp h
  rw [h2]; simp
theorem pv_one {l1 l2 : List Nat} {n m x : Nat} (hx : l1[n]? = some x) (hy : l2[m]? = some x) : PV l1 l2 (one1 n m) := by
  obtain ⟨a, ea⟩ := List.getElem?_eq_some_iff.mp hx
  obtain ⟨b, eb⟩ := List.getElem?_eq_some_iff.mp hy
  refine ⟨n, m, 1, rfl, ?_, rfl, ?_, rfl, by omega, by omega, by omega, ?_⟩
  · show (n : Int) = _; omega
  · show (m : Int) = _; omega
  · rw [List.drop_eq_getElem_cons a, List.drop_eq_getElem_cons b, ea, eb]; simp
theorem pv_grow {l1 l2 : List Nat} {n m x : Nat} {p : Pc} (hp : PV l1 l2 p) (h1 : p.a1 = (n : Int) - 1) (h2 : p.b1 = (m : Int) - 1) (hx : l1[n]? = some x) (hy : l2[m]? = some x) : PV l1 l2 (grow1 p n m) := by
  obtain ⟨i, j, k, e1, e2, e3, e4, e5, k1, k2, k3, e⟩ := hp
  obtain ⟨a, ea⟩ := List.getElem?_eq_some_iff.mp hx
  obtain ⟨b, eb⟩ := List.getElem?_eq_some_iff.mp hy
  have en : i + k = n := by omega
  have em : j + k = m := by omega
  refine ⟨i, j, k + 1, e1, ?_, e3, ?_, ?_, by omega, by omega, by omega, ?_⟩
  · show (n : Int) = _; omega
  · show (m : Int) = _; omega
  · show p.k + 1 = _; rw [e5]; omega
  · rw [List.take_add_one, List.take_add_one, e, List.getElem?_drop, List.getElem?_drop, en, em, hx, hy]
theorem ext_ok {l1 l2 : List Nat} {n m x : Nat} {ps : List Pc} (hp : ∀ p ∈ ps, PV l1 l2 p) (hx : l1[n]? = some x) (hy : l2[m]? = some x) :
    (∀ p ∈ ext ps n m, PV l1 l2 p) ∧ ((ext ps n m).map Pc.k).sum = (ps.map Pc.k).sum + 1 ∧ (ext ps n m).length ≤ ps.length + 1 := by
  have app : (∀ p ∈ ps ++ [one1 n m], PV l1 l2 p) ∧ ((ps ++ [one1 n m]).map Pc.k).sum = (ps.map Pc.k).sum + 1 ∧ (ps ++ [one1 n m]).length ≤ ps.length + 1 := by
    refine ⟨fun p hm => ?_, by simp [one1], by simp⟩
    rcases List.mem_append.mp hm with h | h
    · exact hp p h
    · rw [List.mem_singleton.mp h]; exact pv_one hx hy
  unfold ext
  cases h : ps.getLast? with
  | none => exact app
  | some q =>
    have hs := last_split h
    simp only
    split
    · rename_i hc
      have hq : q ∈ ps := by rw [hs]; simp
      refine ⟨fun p hm => ?_, ?_, ?_⟩
      · rcases List.mem_append.mp hm with h | h
        · exact hp p ((List.dropLast_sublist ps).subset h)
        · rw [List.mem_singleton.mp h]; exact pv_grow (hp q hq) hc.1 hc.2 hx hy
      · have e2 : (ps.map Pc.k).sum = (ps.dropLast.map Pc.k).sum + q.k := by
          conv => lhs; rw [hs]
          simp
        rw [e2]
        simp [grow1]; omega
      · simp
    · exact app
theorem gd_next {l1 l2 : List Nat} (σ : Sg) (g : Gd l1 l2 σ) (hg : goS l1 l2 σ = true) : Gd l1 l2 (nextS l1 l2 σ) := by
  obtain ⟨n, m, ps⟩ := σ
  simp only [goS, Bool.and_eq_true, decide_eq_true_eq] at hg
  obtain ⟨hn, hm⟩ := hg
  obtain ⟨x, hx⟩ : ∃ x, l1[n]? = some x := ⟨_, List.getElem?_eq_getElem hn⟩
  obtain ⟨y, hy⟩ : ∃ y, l2[m]? = some y := ⟨_, List.getElem?_eq_getElem hm⟩
  have hst := tt_step hx hy
  have tot := g.tot
  have few := g.few
  simp only at tot few
  unfold nextS
  simp only
  by_cases hc : l1[n]? = l2[m]?
  · rw [if_pos hc]
    have exy : x = y := by rw [hx, hy] at hc; exact Option.some.inj hc
    subst exy
    rw [if_pos rfl] at hst
    obtain ⟨e1, e2, e3⟩ := ext_ok g.pv hx hy
    refine ⟨hn, hm, e1, ?_, ?_⟩
    · simp only at e2 ⊢; omega
    · simp only at e3 ⊢; omega
  · rw [if_neg hc]
    have exy : ¬ x = y := fun e => hc (by rw [hx, hy, e])
    rw [if_neg exy] at hst
    split
    · exact ⟨hn, Nat.le_of_lt hm, g.pv, by simp only; omega, by simp only; omega⟩
    · exact ⟨Nat.le_of_lt hn, hm, g.pv, by simp only; omega, by simp only; omega⟩
theorem gd_fin {l1 l2 : List Nat} (h1 : l1.length ≤ 7) (σ : Sg) (g : Gd l1 l2 σ) (hg : goS l1 l2 σ = false) : Fin' l1 l2 σ.2.2 := by
  have h0 : tt l1 l2 σ.1 σ.2.1 = 0 := by
    simp only [goS, Bool.and_eq_false_iff, decide_eq_false_iff_not] at hg
    rcases hg with h | h
    · exact tt_end1 (by omega)
    · exact tt_end2 (by omega)
  have tot := g.tot
  rw [h0] at tot
  have := g.few; have := g.n
  exact ⟨g.pv, by omega, by omega⟩
end Mine

end
section
open PySem PySem.Spec PySem.Calls PySem.W PyProof.Rows
set_option Elab.async false
set_option linter.unusedVariables false
set_option linter.unusedSimpArgs false
set_option maxRecDepth 100000
set_option maxHeartbeats 4000000
namespace Mine
section
variable {prog : Program} {w : World} {A : Around} {env : Env} {h : Heap} {bad : List Addr} {s₀ s : Shared} {E : Value → Shared → Prop} {mg mb : Str → Option Value} {L fa : Addr} {cd : Value} {X : Heap → Prop}
/-- the law, from its script on -/
theorem law_all {n : Nat} {ns : List Int} {R : Value → Shared → Prop} (ha : AOk (n + 2) A) (S : Stc mg mb w.params s₀.heap) (hm : cStatics ∈ bad) (hn : ns.length ≤ 63) (F : FrOk bad s₀ (lawEnv L fa cd) (fun _ => True))
    (I : Inv bad s₀ (lawEnv L fa cd) [("script", isRd bad (.list (ns.map .int)))] (fun _ => True) s) (k : ∀ s', Keeps s₀ s' → R (.bool true) s') :
    wpAny (model prog w) A (execs lawBody (lawEnv L fa cd)) (fun f s' => ∃ v, f = .ret v ∧ R v s') E s := by
  rw [lawBody_eq]
  obtain ⟨a, hea⟩ : ∃ a, a = ns.getD 0 0 := ⟨_, rfl⟩
  obtain ⟨b, heb⟩ : ∃ b, b = ns.getD 1 0 := ⟨_, rfl⟩
  refine ex_mid (law0 ha.hh hn F I fun s' I' => ⟨rfl, I'⟩) fun s1 I1 => ?_
  rw [← hea, ← heb] at I1
  have t1 := txt_len (ns := ns) (a := a) (off := 2) (d := fun _ => 0)
  have t2 := txt_len (ns := ns) (a := b) (off := 3) (d := fun k => (k : Int))
  have u1 := txt_asc (ns := ns) (a := a) (off := 2) (d := fun _ => 0)
  refine ex_mid (law1 (b := b) (S.le I1.base) ha.hh hn F I1 (by rfl) (by rfl) fun s' I' => ⟨rfl, I'⟩) fun s2 I2 => ?_
  refine ex_mid (law2 (a := a) (S.le I2.base) ha.hh hn F I2 (by rfl) (by rfl) fun s' I' => ⟨rfl, I'⟩) fun s3 I3 => ?_
  generalize txt ns a 2 (fun _ => 0) = l1 at *
  generalize txt ns b 3 (fun k => (k : Int)) = l2 at *
  refine ex_mid (law3 (l1 := l1) (l2 := l2) (S.le I3.base) ha.hh t1 t2 F I3 (by rfl) (by rfl) fun s' I' => ⟨rfl, I'⟩) fun s4 I4 => ?_
  have I4' : Inv bad s₀ (lawEnv L fa cd) (("best", isNw true s3.heap bad (List.replicate (l1.length + 1) (.list (List.replicate (l2.length + 1) (.int 0))))) :: fsP l1 l2 a b) (fun _ => True) s4 := I4.less fun p hp => by
    simp only [fsP, List.mem_cons, List.not_mem_nil, or_false] at hp
    rcases hp with rfl | rfl | rfl | rfl | rfl <;> rfl
  refine ex_mid (law4 S ha.hh t1 t2 F I3.base I4' fun s' I' => ⟨rfl, I'⟩) fun s5 I5 => ?_
  refine ex_mid (R := fun s' => ∃ l, l ∉ bad ∧ s₀.heap.get? l = none ∧ FrOk (l :: bad) s₀ (lawEnv L fa cd) (XP l bad []) ∧ Inv (l :: bad) s₀ (lawEnv L fa cd) (fs6 l [] (l :: bad) l1 l2 a b 0 0) (XP l bad []) s') (law5 ha.hh F I5 fun l s' x y z t => ⟨rfl, l, x, y, z, t⟩) fun s6 ⟨l, hl, hl0, Fl, I6⟩ => ?_
  refine ex_mid (R := fun s' => ∃ ps, Fin' l1 l2 ps ∧ Inv bad s₀ (lawEnv L fa cd) (C7 l1 l2 a b ps bad) (fun _ => True) s') (law6 (ok := Gd l1 l2) S ha.hh ha.u t1 t2 hl hl0 Fl I6 F.sub (gd0 _ _) (gd_few t1) (fun σ o g => gd_next σ o g) fun σ s' o g I' => ⟨rfl, σ.2.2, gd_fin t1 σ o g, ?_⟩) fun s7 ⟨ps, x, I7⟩ => ?_
  · obtain ⟨vs, hpl, hra⟩ := I'.x
    have bpf : BpF (fun B => fs6 l σ.2.2 B l1 l2 a b σ.1 σ.2.1) := BpF.cons (Bp.of_pure (pu_val _)) (BpF.cons (Bp.of_pure (pu_int _)) (BpF.cons (Bp.of_pure (pu_int _)) (BpF.cons (Bp.rd _) bp_fsP)))
    have I8 : Inv bad s₀ (lawEnv L fa cd) (fs6 l σ.2.2 bad l1 l2 a b σ.1 σ.2.1) (fun _ => True) s' := I'.regrow' bpf (Keeps.refl _) (fun c hc => .inl (.tail _ hc)) (fun c hc => I'.al c (.tail _ hc)) trivial
    have I9 : Inv bad s₀ (lawEnv L fa cd) (("pieces", isVal (.ref l)) :: ("best", isRd bad (tabD l1 l2)) :: fsP l1 l2 a b) (fun _ => True) s' := I8.less fun p hp => by
      simp only [fsP, List.mem_cons, List.not_mem_nil, or_false] at hp
      rcases hp with rfl | rfl | rfl | rfl | rfl | rfl <;> rfl
    exact I9.head (fun v p => by
      rw [show v = .ref l from p]
      exact Rd.list hl hpl.isList (hra.bads fun c hc => .inl (.tail _ hc))) (st_rd _ _)
  refine ex_mid (law7 ha S hm t1 t2 x F I7 fun s' I' => ⟨rfl, I'⟩) fun s8 I8 => ?_
  refine ex_mid (law8 t1 u1 F I8 fun s' I' => ⟨rfl, I'⟩) fun s9 I9 => ?_
  exact ex_ret (law9 ha S hm t1 u1 F I9 fun s' kk => k s' (I9.ret F kk))
theorem ints_rd {B : List Addr} {h : Heap} {vs : List Value} {ns : List Int} (x : IntsAre vs ns) : RdAll B h vs (ns.map .int) := by
  induction x with
  | nil => exact .nil
  | cons => exact .cons (.int _ _) (by assumption)
theorem callerOk (env : Env) : AOk 3 (callerA.deeper env) := ⟨rfl, by show 4 + 3 + 100 + 5 * 3 < cLine; decide, by show 1 + claimMargin + 1 + 3 < recursionLimit; decide⟩
/-- the law, from the state that the head leaves -/
theorem law_fin {s₁ : Shared} {h₁ : Heap} {tk : Nat} {l : Addr} {vs : List Value} {ns : List Int} {m : Str → Option Value} {w4 w3 w2 w1 w0 : Obj} {c4 c3 c2 c1 c0 : Option Value} {R : Result → Shared → Prop}
    (KX : (hd.heap_39 w.params).In s₁.heap) (G : Gl mg mb s₁.heap) (lim : s₁.heap.NoLimit) (hL : s₁.heap.IsList l vs.toArray) (hI : IntsAre vs ns) (hn : ns.length ≤ 63)
    (hdead : s₁.heap.get? L = none) (F : Fr s₁.heap L h₁ m) (N : News s₁.heap L h₁ [(L + 5, w4), (L + 4, w3), (L + 3, w2), (L + 2, w1), (L + 1, w0)])
    (d4 : w4.data = .cell c4) (d3 : w3.data = .cell c3) (d2 : w2.data = .cell c2) (d1 : w1.data = .cell c1) (d0 : w0.data = .cell c0) (e0 : c0 = some (.ref l))
    (hR : ∀ s', s'.gens = s₁.gens → s'.os = s₁.os → Le s₁.heap s'.heap → R (.ok (.ret (.bool true))) s') :
    wpAny (model prog w) (callerA.deeper (lawEnv L fa cd)) (execs lawBody (lawEnv L fa cd)) (fun f s' => R (.ok (.ret (match f with | .ret v => v | _ => .none))) s') E ⟨h₁, s₁.gens, s₁.drawn, tk, s₁.os⟩ := by
  have g5 := N _ (.head _)
  have g4 := N _ (.tail _ (.head _))
  have g3 := N _ (.tail _ (.tail _ (.head _)))
  have g2 := N _ (.tail _ (.tail _ (.tail _ (.head _))))
  have g1 := N _ (.tail _ (.tail _ (.tail _ (.tail _ (.head _)))))
  dsimp only at g5 g4 g3 g2 g1
  have hfa : frameAddrs (lawEnv L fa cd) = [L, L + 5, L + 4, L + 3, L + 2, L + 1] := rfl
  obtain ⟨bad, hbad⟩ : ∃ bad : List Addr, bad = frameAddrs (lawEnv L fa cd) ++ [cStatics] := ⟨_, rfl⟩
  have le : Le s₁.heap h₁ := F.keep
  have dead : ∀ c ∈ frameAddrs (lawEnv L fa cd), s₁.heap.get? c = none := fun c hc => by
    rw [hfa] at hc
    simp only [List.mem_cons, List.not_mem_nil, or_false] at hc
    rcases hc with rfl | rfl | rfl | rfl | rfl | rfl
    · exact hdead
    · exact g5.2.2
    · exact g4.2.2
    · exact g3.2.2
    · exact g2.2.2
    · exact g1.2.2
  obtain ⟨mc, hmc, _⟩ := id lim
  have alB : Al bad h₁ := fun c hc e => by
    rw [hbad, hfa] at hc
    simp only [List.cons_append, List.nil_append, List.mem_cons, List.not_mem_nil, or_false] at hc
    rcases hc with rfl | rfl | rfl | rfl | rfl | rfl | rfl
    · obtain ⟨o, _, _, ho, _⟩ := F.ns
      rw [ho] at e; cases e
    · rw [g5.1] at e; cases e
    · rw [g4.1] at e; cases e
    · rw [g3.1] at e; cases e
    · rw [g2.1] at e; cases e
    · rw [g1.1] at e; cases e
    · obtain ⟨o, _, _, ho, _⟩ := hmc
      rw [le _ _ ho] at e; cases e
  have hlb : l ∉ bad := fun hc => by
    rw [hbad] at hc
    obtain ⟨o, ho, _, k, hd⟩ := hL
    rcases List.mem_append.mp hc with hc | hc
    · rw [dead l hc] at ho; cases ho
    · obtain ⟨o', es, ep, ho', hd', _⟩ := hmc
      rw [List.mem_singleton.mp hc, ho'] at ho
      cases ho
      rw [hd] at hd'; cases hd'
  have FF : FrOk bad s₁ (lawEnv L fa cd) (fun _ => True) := ⟨lawOk L fa cd, dead, fun c hc => by rw [hbad]; exact List.mem_append_left _ hc, fun _ _ _ x => x⟩
  have I0 : Inv bad s₁ (lawEnv L fa cd) [("script", isRd bad (.list (ns.map .int)))] (fun _ => True) ⟨h₁, s₁.gens, s₁.drawn, tk, s₁.os⟩ := by
    refine ⟨⟨h₁, tk, rfl⟩, le, ⟨m, fun x => if x = "long" then c4 else if x = "other" then c3 else if x = "b" then c2 else if x = "a" then c1 else c0, F.ns, fun x c hm => ?_, fun x P hl => ?_⟩, trivial, fun x P hl => ?_, alB⟩
    · rw [lawCells] at hm
      simp only [List.mem_cons, List.not_mem_nil, or_false, Prod.mk.injEq] at hm
      rcases hm with ⟨rfl, rfl⟩ | ⟨rfl, rfl⟩ | ⟨rfl, rfl⟩ | ⟨rfl, rfl⟩ | ⟨rfl, rfl⟩
      · exact ⟨w4, g5.1, d4⟩
      · exact ⟨w3, g4.1, d3⟩
      · exact ⟨w2, g3.1, d2⟩
      · exact ⟨w1, g2.1, d1⟩
      · exact ⟨w0, g1.1, d0⟩
    · by_cases e : x = "script"
      · subst e
        rw [lookup_cons_self] at hl; cases hl
        refine ⟨.ref l, ?_, .list hlb (le.list hL) (by simpa using ints_rd hI)⟩
        subst e0
        rfl
      · rw [lookup_cons_ne e] at hl; cases hl
    · by_cases e : x = "script"
      · subst e
        rw [lookup_cons_self] at hl; cases hl
        exact st_rd _ _
      · rw [lookup_cons_ne e] at hl; cases hl
  refine wpAny_mono (law_all (n := 1) (R := fun v s' => R (.ok (.ret v)) s') (callerOk _) ⟨KX, G, lim⟩ (by rw [hbad]; simp) hn FF I0 fun s' kk => ?_) (fun f s' ⟨v, e, r⟩ => by subst e; exact r) fun _ _ e => e
  obtain ⟨h', t', e, kl⟩ := kk
  subst e
  exact hR _ rfl rfl kl
end
end Mine

end
open PySem PySem.Spec PySem.Calls PySem.W PyProof.Rows
set_option Elab.async false
set_option maxRecDepth 100000
set_option maxHeartbeats 8000000
theorem PySem.Challenge.cw_fr0005_01_holds : PySem.Challenge.rw_fr0005_01.Holds := by
  exact hd (by
    k_go0
    rename Top _ _ _ _ _ _ => kT
    refine Mine.law_fin (by assumption) ⟨kT.g, kT.b, kT.builtins⟩ kT.nolimit (by assumption) (by assumption) ?hn (Mine.get_size_none _) (by assumption) (by assumption) (by assumption) (by assumption) (by assumption) (by assumption) (by assumption) ?e0 ?hR
    case hn => omega
    case e0 => rfl
    case hR =>
      intro s' h1 h2 h3
      exact ⟨.inl ⟨_, _, [], rfl, fun _ => rfl, .bool true, by first | rfl | wrow_post, fun _ => ⟨List.nodup_nil, fun _ hm => nomatch hm⟩⟩, h3, h2, h1.trans (by assumption)⟩)

