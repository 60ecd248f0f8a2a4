import PyProof.Rows.All
import Wide.All
import OpenK.AllK
import Wide.FinOn
import Lean
import PySem.Challenge.RW_qu0054_01
open PySem PySem.W PyProof PyProof.Rows PySem.Calls
set_option Elab.async false
set_option linter.unusedVariables false
set_option linter.unusedSimpArgs false
set_option compiler.extract_closed false

namespace Mine
set_option maxRecDepth 100000
set_option maxHeartbeats 8000000
open_top hd for PySem.Challenge.rw_qu0054_01
end Mine

namespace Mine
set_option maxRecDepth 100000
set_option maxHeartbeats 8000000
noncomputable section

noncomputable abbrev PR : Program := PySem.Challenge.rw_qu0054_01.row.prog
noncomputable abbrev KK (w : World) : Frag := hd.heap_39 w.params

noncomputable def le (h h' : Heap) : Prop := ∀ b o, h.get? b = some o → h'.get? b = some o
theorem le.rfl {h : Heap} : le h h := fun _ _ e => e
theorem le.trans {h₁ h₂ h₃ : Heap} (a : le h₁ h₂) (b : le h₂ h₃) : le h₁ h₃ := fun x o e => b x o (a x o e)

structure Gd (w : World) (mg mb : Str → Option Value) (H : Heap) : Prop where
  X : (KK w).In H
  g : H.Ns mainGlobals mg
  b : H.Ns builtinsNs mb
  lim : H.NoLimit
  bi : ∀ x : Str, x ≠ "__name__" → mb x = bootBuiltins x
  bm : ∃ bm ob, mg "__builtins__" = some (.ref bm) ∧ bm ≠ builtinsNs ∧ H.get? bm = some ob ∧ ob.cls = .type "module" ∧ ob.dict = some builtinsNs ∧ ob.data = .plain
  c37 : CodeHd H 41 37
  c44 : CodeHd H 48 44
  h37 : H.get? 37 = none
  h44 : H.get? 44 = none

section
variable {w : World} {A : Around} {env : Env} {h : Heap} {mg mb : Str → Option Value} {H : Heap}

noncomputable def Tr (w : World) (A : Around) (h : Heap) (t : Sem Value) (P : Value → Heap → Prop) : Prop :=
  ∀ (s : Shared) (Q : Value → Shared → Prop) (E : Value → Shared → Prop), le h s.heap →
    (∀ v h' tk, le s.heap h' → P v h' → Q v { s with heap := h', toks := tk }) → wpAny (model PR w) A t Q E s
noncomputable def TrB (w : World) (A : Around) (h : Heap) (t : Sem Bool) (b : Bool) : Prop :=
  ∀ (s : Shared) (Q : Bool → Shared → Prop) (E : Value → Shared → Prop), le h s.heap →
    (∀ h' tk, le s.heap h' → Q b { s with heap := h', toks := tk }) → wpAny (model PR w) A t Q E s
noncomputable def TrL (w : World) (A : Around) (h : Heap) (t : Sem (List Value)) (P : List Value → Heap → Prop) : Prop :=
  ∀ (s : Shared) (Q : List Value → Shared → Prop) (E : Value → Shared → Prop), le h s.heap →
    (∀ v h' tk, le s.heap h' → P v h' → Q v { s with heap := h', toks := tk }) → wpAny (model PR w) A t Q E s

noncomputable abbrev Ev (w : World) (A : Around) (env : Env) (h : Heap) (e : Expr) (P : Value → Heap → Prop) : Prop := Tr w A h (eval e env) P
noncomputable abbrev Te (w : World) (A : Around) (env : Env) (h : Heap) (e : Expr) (b : Bool) : Prop := TrB w A h (isTrue e env (eval e env)) b
noncomputable abbrev Evs (w : World) (A : Around) (env : Env) (h : Heap) (pos : Pos) (es : List Expr) (P : List Value → Heap → Prop) : Prop :=
  TrL w A h (spliced (backTo pos (starEach es env))) P

noncomputable def isV (v : Value) : Value → Heap → Prop := fun u _ => u = v
noncomputable def isI (i : Int) : Value → Heap → Prop := fun u _ => ∃ t, u = .int i t
noncomputable def isB (b : Bool) : Value → Heap → Prop := fun u _ => u = .bool b
noncomputable def isS (x : Str) : Value → Heap → Prop := fun u _ => ∃ t, u = .str x t
noncomputable def Stb (P : Value → Heap → Prop) : Prop := ∀ v h h', le h h' → P v h → P v h'
theorem stbV {v : Value} : Stb (isV v) := fun _ _ _ _ x => x
theorem stbI {i : Int} : Stb (isI i) := fun _ _ _ _ x => x
theorem stbB {b : Bool} : Stb (isB b) := fun _ _ _ _ x => x
theorem stbS {x : Str} : Stb (isS x) := fun _ _ _ _ x => x

theorem Tr.mono {t : Sem Value} {P P' : Value → Heap → Prop} (x : Tr w A h t P) (k : ∀ v h', le h h' → P v h' → P' v h') : Tr w A h t P' :=
  fun s Q E l q => x s Q E l fun v h' tk l' p => q v h' tk l' (k v h' (l.trans l') p)
theorem Tr.up {t : Sem Value} {P : Value → Heap → Prop} {h₁ : Heap} (x : Tr w A h t P) (k : le h h₁) : Tr w A h₁ t P :=
  fun s Q E l q => x s Q E (k.trans l) q
theorem TrB.up {t : Sem Bool} {b : Bool} {h₁ : Heap} (x : TrB w A h t b) (k : le h h₁) : TrB w A h₁ t b :=
  fun s Q E l q => x s Q E (k.trans l) q
theorem TrB.eq {t : Sem Bool} {b b' : Bool} (x : TrB w A h t b) (k : b = b') : TrB w A h t b' := k ▸ x

theorem ev_int {i : Int} {k : Nat} {pos : Pos} : Ev w A env h (.Constant (.int i) k pos) (isI i) :=
  fun s _ _ _ q => wpAny_Constant_int (q _ s.heap _ le.rfl ⟨_, rfl⟩)
theorem ev_str {x : Str} {k : Nat} {pos : Pos} : Ev w A env h (.Constant (.str x) k pos) (isS x) :=
  fun s _ _ _ q => wpAny_Constant_str (q _ s.heap _ le.rfl ⟨_, rfl⟩)

theorem Ns_le {h h' : Heap} {a : Addr} {m : Str → Option Value} (n : h.Ns a m) (l : le h h') : h'.Ns a m := n.keeps l

theorem ev_loc {x : Str} {pos : Pos} {m : Str → Option Value} {v : Value} (n : h.Ns env.locals m) (hv : m x = some v)
    (hk : env.scope.kind = .function := by rfl) (hl : env.kindOf x = some .local := by rfl) (hd : (x == ("__debug__" : Str)) = false := by rfl) :
    Ev w A env h (.Name x pos) (isV v) :=
  fun s _ _ l q => wpAny_Name (wpAny_loadName_local hk hl (Ns_le n l) hv (q _ s.heap s.toks le.rfl rfl)) hd
theorem ev_locI {x : Str} {pos : Pos} {m : Str → Option Value} {i : Int} {t : Tok} (n : h.Ns env.locals m) (hv : m x = some (.int i t))
    (hk : env.scope.kind = .function := by rfl) (hl : env.kindOf x = some .local := by rfl) (hd : (x == ("__debug__" : Str)) = false := by rfl) :
    Ev w A env h (.Name x pos) (isI i) := (ev_loc n hv hk hl hd).mono fun _ _ _ e => ⟨t, e⟩
theorem ev_locS {x : Str} {pos : Pos} {m : Str → Option Value} {i : Str} {t : Tok} (n : h.Ns env.locals m) (hv : m x = some (.str i t))
    (hk : env.scope.kind = .function := by rfl) (hl : env.kindOf x = some .local := by rfl) (hd : (x == ("__debug__" : Str)) = false := by rfl) :
    Ev w A env h (.Name x pos) (isS i) := (ev_loc n hv hk hl hd).mono fun _ _ _ e => ⟨t, e⟩
theorem ev_locP {x : Str} {pos : Pos} {m : Str → Option Value} {v : Value} {P : Value → Heap → Prop} (n : h.Ns env.locals m) (hv : m x = some v) (p : P v h) (st : Stb P)
    (hk : env.scope.kind = .function := by rfl) (hl : env.kindOf x = some .local := by rfl) (hd : (x == ("__debug__" : Str)) = false := by rfl) :
    Ev w A env h (.Name x pos) P := (ev_loc n hv hk hl hd).mono fun _ _ l e => by cases e; exact st _ _ _ l p
theorem ev_cell {x : Str} {pos : Pos} {c : Addr} {v : Value} (n : h.IsCell c (some v)) (hc : env.cells.lookup x = some c)
    (hk : env.scope.kind = .function := by rfl) (hl : env.kindOf x = some .cell := by rfl) (hd : (x == ("__debug__" : Str)) = false := by rfl) :
    Ev w A env h (.Name x pos) (isV v) :=
  fun s _ _ l q => wpAny_Name (wpAny_loadName_cell hk hl hc (let ⟨o, ho, r⟩ := n; ⟨o, l _ _ ho, r⟩) (q _ s.heap s.toks le.rfl rfl)) hd
theorem ev_free {x : Str} {pos : Pos} {c : Addr} {v : Value} (n : h.IsCell c (some v)) (hc : env.cells.lookup x = some c)
    (hk : env.scope.kind = .function := by rfl) (hl : env.kindOf x = some .free := by rfl) (hd : (x == ("__debug__" : Str)) = false := by rfl)
    (hn : (x == ("__classdict__" : Str)) = false := by rfl) : Ev w A env h (.Name x pos) (isV v) :=
  fun s _ _ l q => wpAny_Name (wpAny_loadName_free hk hl hc (let ⟨o, ho, r⟩ := n; ⟨o, l _ _ ho, r⟩) (q _ s.heap s.toks le.rfl rfl) hn) hd

theorem ev_glob {x : Str} {pos : Pos} {v : Value} (G : Gd w mg mb H) (l₀ : le H h) (e : nsIn (KK w) mainGlobals x = some (some v))
    (hg : env.globals = mainGlobals := by rfl) (hk : env.scope.kind = .function := by rfl) (hl : env.kindOf x = some .globalImplicit := by rfl)
    (hd : (x == ("__debug__" : Str)) = false := by rfl) : Ev w A env h (.Name x pos) (isV v) :=
  fun s _ _ l q => Name_function_global hk hl (loadGlobal_global (by rw [hg]; exact Ns_le G.g (l₀.trans l)) (mg_of G.X G.g e) (q _ s.heap s.toks le.rfl rfl)) hd
theorem ev_bi {x : Str} {pos : Pos} {v : Value} (G : Gd w mg mb H) (l₀ : le H h) (e : nsIn (KK w) mainGlobals x = some none) (hv : bootBuiltins x = some v)
    (hn : x ≠ "__name__" := by decide)
    (hg : env.globals = mainGlobals := by rfl) (hb : env.builtins = builtinsNs := by rfl) (hk : env.scope.kind = .function := by rfl) (hl : env.kindOf x = some .globalImplicit := by rfl)
    (hd : (x == ("__debug__" : Str)) = false := by rfl) : Ev w A env h (.Name x pos) (isV v) :=
  fun s _ _ l q => Name_function_global hk hl (loadGlobal_builtin (by rw [hg]; exact Ns_le G.g (l₀.trans l)) (mg_none_of G.X G.g e)
    (by rw [hb]; exact Ns_le G.b (l₀.trans l)) ((G.bi x hn).trans hv) (q _ s.heap s.toks le.rfl rfl)) hd

theorem ev_binop {l r : Expr} {op : Operator} {pos : Pos} {P1 P2 P3 : Value → Heap → Prop} (a : Ev w A env h l P1) (b : Ev w A env h r P2) (st : Stb P1)
    (k : ∀ v1 v2 h', le h h' → P1 v1 h' → P2 v2 h' → Tr w A h' (binaryOp op v1 v2) P3) : Ev w A env h (.BinOp l op r pos) P3 :=
  fun s Q E l₀ q => wpAny_BinOp (a s _ _ l₀ fun v1 h1 tk1 l1 p1 => b _ _ _ (l₀.trans l1) fun v2 h2 tk2 l2 p2 =>
    k v1 v2 h2 (l₀.trans (l1.trans l2)) (st _ _ _ l2 p1) p2 _ _ _ le.rfl fun v h' tk l3 p => q v h' tk (l1.trans (l2.trans l3)) p)

theorem tr_int {t : Sem Value} {i : Int} (k : ∀ (s : Shared) (Q : Value → Shared → Prop) (E : Value → Shared → Prop), Q (.int i s.toks) { s with toks := s.toks + 1 } → wpAny (model PR w) A t Q E s) : Tr w A h t (isI i) :=
  fun s Q E _ q => k s Q E (q _ s.heap _ le.rfl ⟨_, rfl⟩)
theorem tr_bool {t : Sem Value} {b : Bool} (k : ∀ (s : Shared) (Q : Value → Shared → Prop) (E : Value → Shared → Prop), Q (.bool b) s → wpAny (model PR w) A t Q E s) : Tr w A h t (isB b) :=
  fun s Q E _ q => k s Q E (q _ s.heap s.toks le.rfl rfl)

theorem ev_add {l r : Expr} {pos : Pos} {x y : Int} (a : Ev w A env h l (isI x)) (b : Ev w A env h r (isI y)) : Ev w A env h (.BinOp l .Add r pos) (isI (x + y)) :=
  ev_binop a b stbI fun _ _ _ _ ⟨_, e1⟩ ⟨_, e2⟩ => by subst e1 e2; exact tr_int fun _ _ _ q => Rows.add_int q
theorem ev_sub {l r : Expr} {pos : Pos} {x y : Int} (a : Ev w A env h l (isI x)) (b : Ev w A env h r (isI y)) : Ev w A env h (.BinOp l .Sub r pos) (isI (x - y)) :=
  ev_binop a b stbI fun _ _ _ _ ⟨_, e1⟩ ⟨_, e2⟩ => by subst e1 e2; exact tr_int fun _ _ _ q => Rows.sub_int q
theorem mulok {x y : Int} (hx : x.natAbs < 2 ^ 64) : IntMulOk x y := IntMulOk.of_left (intBits_le_64 (by omega) (by omega))
theorem ev_mul {l r : Expr} {pos : Pos} {x y : Int} (a : Ev w A env h l (isI x)) (b : Ev w A env h r (isI y)) (hx : x.natAbs < 2 ^ 64) : Ev w A env h (.BinOp l .Mult r pos) (isI (x * y)) :=
  ev_binop a b stbI fun _ _ _ _ ⟨_, e1⟩ ⟨_, e2⟩ => by subst e1 e2; exact tr_int fun _ _ _ q => Rows.mul_int q (mulok hx)
theorem ev_mod {l r : Expr} {pos : Pos} {x y : Int} (a : Ev w A env h l (isI x)) (b : Ev w A env h r (isI y)) (hy : y ≠ 0) : Ev w A env h (.BinOp l .Mod r pos) (isI (x.fmod y)) :=
  ev_binop a b stbI fun _ _ _ _ ⟨_, e1⟩ ⟨_, e2⟩ => by subst e1 e2; exact tr_int fun _ _ _ q => Rows.mod_int hy q

theorem ev_fdiv {l r : Expr} {pos : Pos} {x y : Int} (a : Ev w A env h l (isI x)) (b : Ev w A env h r (isI y)) (hy : y ≠ 0) (hs : y.natAbs < 1073741824) : Ev w A env h (.BinOp l .FloorDiv r pos) (isI (x.fdiv y)) :=
  ev_binop a b stbI fun _ _ _ _ ⟨_, e1⟩ ⟨_, e2⟩ => by subst e1 e2; exact tr_int fun _ _ _ q => Rows.floordiv_int hy q (Or.inl (noPylong_small hs))
theorem ev_pow {l r : Expr} {pos : Pos} {x y : Int} (a : Ev w A env h l (isI x)) (b : Ev w A env h r (isI y)) (h0 : 0 ≤ y) (h1 : y ≤ 1000000) (hx : x.natAbs < 2 ^ 64) : Ev w A env h (.BinOp l .Pow r pos) (isI (x ^ y.toNat)) :=
  ev_binop a b stbI fun _ _ _ _ ⟨_, e1⟩ ⟨_, e2⟩ => by subst e1 e2; exact tr_int fun _ _ _ q => Rows.pow_int_small h0 h1 hx q
theorem ev_shr {l r : Expr} {pos : Pos} {x y : Int} (a : Ev w A env h l (isI x)) (b : Ev w A env h r (isI y)) (h0 : 0 ≤ y) : Ev w A env h (.BinOp l .RShift r pos) (isI (x.fdiv (2 ^ y.toNat))) :=
  ev_binop a b stbI fun _ _ _ _ ⟨_, e1⟩ ⟨_, e2⟩ => by subst e1 e2; exact tr_int fun _ _ _ q => Rows.rshift_int h0 q
theorem ev_shl {l r : Expr} {pos : Pos} {x y : Int} (a : Ev w A env h l (isI x)) (b : Ev w A env h r (isI y)) (h0 : 0 ≤ y) (h1 : y ≤ 1000000) (hx : x.natAbs < 2 ^ 64) : Ev w A env h (.BinOp l .LShift r pos) (isI (x * 2 ^ y.toNat)) :=
  ev_binop a b stbI fun _ _ _ _ ⟨_, e1⟩ ⟨_, e2⟩ => by subst e1 e2; exact tr_int fun _ _ _ q => Rows.lshift_int_small h0 h1 hx q
theorem ev_xor {l r : Expr} {pos : Pos} {x y : Int} (a : Ev w A env h l (isI x)) (b : Ev w A env h r (isI y)) : Ev w A env h (.BinOp l .BitXor r pos) (isI (Builtin.bitXor x y)) :=
  ev_binop a b stbI fun _ _ _ _ ⟨_, e1⟩ ⟨_, e2⟩ => by subst e1 e2; exact tr_int fun _ _ _ q => Rows.xor_int q
theorem ev_neg {l : Expr} {pos : Pos} {x : Int} (a : Ev w A env h l (isI x)) : Ev w A env h (.UnaryOp .USub l pos) (isI (-x)) :=
  fun s Q E l₀ q => wpAny_UnaryOp (a s _ _ l₀ fun v1 h1 tk1 l1 ⟨_, e⟩ => by subst e; exact Rows.neg_int (q _ h1 _ l1 ⟨_, rfl⟩))
theorem ev_inv {l : Expr} {pos : Pos} {x : Int} (a : Ev w A env h l (isI x)) : Ev w A env h (.UnaryOp .Invert l pos) (isI (Builtin.bitNot x)) :=
  fun s Q E l₀ q => wpAny_UnaryOp (a s _ _ l₀ fun v1 h1 tk1 l1 ⟨_, e⟩ => by subst e; exact Rows.invert_int (q _ h1 _ l1 ⟨_, rfl⟩))

theorem ev_cmp {l r : Expr} {op : CmpOp} {pos : Pos} {P1 P2 P3 : Value → Heap → Prop} (a : Ev w A env h l P1) (b : Ev w A env h r P2) (st : Stb P1)
    (k : ∀ v1 v2 h', le h h' → P1 v1 h' → P2 v2 h' → Tr w A h' (compareOp op v1 v2) P3) (hm : behindInMarks op r = false) : Ev w A env h (.Compare l [op] [r] pos) P3 :=
  fun s Q E l₀ q => wpAny_Compare1 (a s _ _ l₀ fun v1 h1 tk1 l1 p1 => b _ _ _ (l₀.trans l1) fun v2 h2 tk2 l2 p2 =>
    k v1 v2 h2 (l₀.trans (l1.trans l2)) (st _ _ _ l2 p1) p2 _ _ _ le.rfl fun v h' tk l3 p => q v h' tk (l1.trans (l2.trans l3)) p) hm
theorem te_cmp {l r : Expr} {op : CmpOp} {pos : Pos} {P1 P2 : Value → Heap → Prop} {b' : Bool} (a : Ev w A env h l P1) (b : Ev w A env h r P2) (st : Stb P1)
    (k : ∀ v1 v2 h', le h h' → P1 v1 h' → P2 v2 h' → Tr w A h' (compareOp op v1 v2) (isB b')) (hm : behindInMarks op r = false) : Te w A env h (.Compare l [op] [r] pos) b' :=
  fun s Q E l₀ q => wpAny_isTrue_Compare1 (a s _ _ l₀ fun v1 h1 tk1 l1 p1 => b _ _ _ (l₀.trans l1) fun v2 h2 tk2 l2 p2 =>
    k v1 v2 h2 (l₀.trans (l1.trans l2)) (st _ _ _ l2 p1) p2 _ _ _ le.rfl fun v h' tk l3 p => by cases p; exact wpAny_truthy_bool (q h' tk (l1.trans (l2.trans l3)))) hm

theorem tr_lt {x y : Int} {t u : Tok} : Tr w A h (compareOp .Lt (.int x t) (.int y u)) (isB (decide (x < y))) := tr_bool fun _ _ _ q => Rows.lt_int q
theorem tr_le {x y : Int} {t u : Tok} : Tr w A h (compareOp .LtE (.int x t) (.int y u)) (isB (decide (x ≤ y))) := tr_bool fun _ _ _ q => Rows.le_int q
theorem tr_gt {x y : Int} {t u : Tok} : Tr w A h (compareOp .Gt (.int x t) (.int y u)) (isB (decide (y < x))) := tr_bool fun _ _ _ q => Rows.gt_int q
theorem tr_ge {x y : Int} {t u : Tok} : Tr w A h (compareOp .GtE (.int x t) (.int y u)) (isB (decide (y ≤ x))) := tr_bool fun _ _ _ q => Rows.ge_int q
theorem tr_eq {x y : Int} {t u : Tok} : Tr w A h (compareOp .Eq (.int x t) (.int y u)) (isB (x == y)) := tr_bool fun _ _ _ q => Rows.eq_int q
theorem tr_ne {x y : Int} {t u : Tok} : Tr w A h (compareOp .NotEq (.int x t) (.int y u)) (isB (x != y)) := tr_bool fun _ _ _ q => Rows.ne_int q
theorem te_ii {l r : Expr} {op : CmpOp} {pos : Pos} {x y : Int} {b' : Bool} (a : Ev w A env h l (isI x)) (b : Ev w A env h r (isI y))
    (k : ∀ t u h', Tr w A h' (compareOp op (.int x t) (.int y u)) (isB b')) (hm : behindInMarks op r = false) : Te w A env h (.Compare l [op] [r] pos) b' :=
  te_cmp a b stbI (fun _ _ h' _ ⟨_, e1⟩ ⟨_, e2⟩ => by subst e1 e2; exact k _ _ h') hm
theorem ev_ii {l r : Expr} {op : CmpOp} {pos : Pos} {x y : Int} {b' : Bool} (a : Ev w A env h l (isI x)) (b : Ev w A env h r (isI y))
    (k : ∀ t u h', Tr w A h' (compareOp op (.int x t) (.int y u)) (isB b')) (hm : behindInMarks op r = false := by with_unfolding_all rfl) : Ev w A env h (.Compare l [op] [r] pos) (isB b') :=
  ev_cmp a b stbI (fun _ _ h' _ ⟨_, e1⟩ ⟨_, e2⟩ => by subst e1 e2; exact k _ _ h') hm
theorem te_lt {l r : Expr} {pos : Pos} {x y : Int} (a : Ev w A env h l (isI x)) (b : Ev w A env h r (isI y)) (hm : behindInMarks .Lt r = false := by with_unfolding_all rfl) : Te w A env h (.Compare l [.Lt] [r] pos) (decide (x < y)) := te_ii a b (fun _ _ _ => tr_lt) hm
theorem te_le {l r : Expr} {pos : Pos} {x y : Int} (a : Ev w A env h l (isI x)) (b : Ev w A env h r (isI y)) (hm : behindInMarks .LtE r = false := by with_unfolding_all rfl) : Te w A env h (.Compare l [.LtE] [r] pos) (decide (x ≤ y)) := te_ii a b (fun _ _ _ => tr_le) hm
theorem te_gt {l r : Expr} {pos : Pos} {x y : Int} (a : Ev w A env h l (isI x)) (b : Ev w A env h r (isI y)) (hm : behindInMarks .Gt r = false := by with_unfolding_all rfl) : Te w A env h (.Compare l [.Gt] [r] pos) (decide (y < x)) := te_ii a b (fun _ _ _ => tr_gt) hm
theorem te_ge {l r : Expr} {pos : Pos} {x y : Int} (a : Ev w A env h l (isI x)) (b : Ev w A env h r (isI y)) (hm : behindInMarks .GtE r = false := by with_unfolding_all rfl) : Te w A env h (.Compare l [.GtE] [r] pos) (decide (y ≤ x)) := te_ii a b (fun _ _ _ => tr_ge) hm
theorem te_eq {l r : Expr} {pos : Pos} {x y : Int} (a : Ev w A env h l (isI x)) (b : Ev w A env h r (isI y)) (hm : behindInMarks .Eq r = false := by with_unfolding_all rfl) : Te w A env h (.Compare l [.Eq] [r] pos) (x == y) := te_ii a b (fun _ _ _ => tr_eq) hm
theorem te_ne {l r : Expr} {pos : Pos} {x y : Int} (a : Ev w A env h l (isI x)) (b : Ev w A env h r (isI y)) (hm : behindInMarks .NotEq r = false := by with_unfolding_all rfl) : Te w A env h (.Compare l [.NotEq] [r] pos) (x != y) := te_ii a b (fun _ _ _ => tr_ne) hm

theorem te_val {e : Expr} {P : Value → Heap → Prop} {b : Bool} (a : Ev w A env h e P) (k : ∀ v h', le h h' → P v h' → TrB w A h' (truthy v) b)
    (he : isTrue e env (eval e env) = (do let v ← eval e env; standAt e.pos; holding [v] (truthy v)) := by rfl) : Te w A env h e b :=
  fun s Q E l₀ q => wpAny_isTrue_value (a s _ _ l₀ fun v h1 tk l1 p => k v h1 (l₀.trans l1) p _ _ _ le.rfl fun h' tk' l2 => q h' tk' (l1.trans l2)) he
theorem te_int {e : Expr} {x : Int} (a : Ev w A env h e (isI x)) (he : isTrue e env (eval e env) = (do let v ← eval e env; standAt e.pos; holding [v] (truthy v)) := by rfl) : Te w A env h e (x != 0) :=
  te_val a (fun _ _ _ ⟨_, e⟩ s Q E _ q => by subst e; exact P.truthy_int (q s.heap s.toks le.rfl)) he

theorem te_and {x y : Expr} {pos : Pos} {b c : Bool} (a : Te w A env h x b) (k : b = true → Te w A env h y c) : Te w A env h (.BoolOp .And [x, y] pos) (b && c) :=
  fun s Q E l₀ q => wpAny_isTrue_BoolOp (wpAny_allTrue_And_cons (a s _ _ l₀ fun h1 tk1 l1 => by
    cases b with
    | false => exact q h1 tk1 l1
    | true => exact wpAny_allTrue_And_cons (k rfl _ _ _ (l₀.trans l1) fun h2 tk2 l2 => by
        cases c with
        | false => exact q h2 tk2 (l1.trans l2)
        | true => exact wpAny_allTrue_And_nil (q h2 tk2 (l1.trans l2)))))
theorem te_or {x y : Expr} {pos : Pos} {b c : Bool} (a : Te w A env h x b) (k : b = false → Te w A env h y c) : Te w A env h (.BoolOp .Or [x, y] pos) (b || c) :=
  fun s Q E l₀ q => wpAny_isTrue_BoolOp (wpAny_allTrue_Or_cons (a s _ _ l₀ fun h1 tk1 l1 => by
    cases b with
    | true => exact q h1 tk1 l1
    | false => exact wpAny_allTrue_Or_cons (k rfl _ _ _ (l₀.trans l1) fun h2 tk2 l2 => by
        cases c with
        | true => exact q h2 tk2 (l1.trans l2)
        | false => exact wpAny_allTrue_Or_nil (q h2 tk2 (l1.trans l2)))))

theorem ev_if {t b o : Expr} {pos : Pos} {c : Bool} {P : Value → Heap → Prop} (a : Te w A env h t c) (k1 : c = true → Ev w A env h b P) (k2 : c = false → Ev w A env h o P) : Ev w A env h (.IfExp t b o pos) P :=
  fun s Q E l₀ q => wpAny_IfExp (a s _ _ l₀ fun h1 tk1 l1 => by
    cases c with
    | true => exact k1 rfl _ _ _ (l₀.trans l1) fun v h2 tk2 l2 p => q v h2 tk2 (l1.trans l2) p
    | false => exact k2 rfl _ _ _ (l₀.trans l1) fun v h2 tk2 l2 p => q v h2 tk2 (l1.trans l2) p)

theorem ev_sub_ {value slice : Expr} {pos : Pos} {P1 P2 P3 : Value → Heap → Prop} (a : Ev w A env h value P1) (b : Ev w A env h slice P2) (st : Stb P1)
    (k : ∀ v1 v2 h', le h h' → P1 v1 h' → P2 v2 h' → Tr w A h' (subscriptTail value slice v1 v2) P3) : Ev w A env h (.Subscript value slice pos) P3 :=
  fun s Q E l₀ q => Subscript_ (a s _ _ l₀ fun v1 h1 tk1 l1 p1 => b _ _ _ (l₀.trans l1) fun v2 h2 tk2 l2 p2 =>
    k v1 v2 h2 (l₀.trans (l1.trans l2)) (st _ _ _ l2 p1) p2 _ _ _ le.rfl fun v h' tk l3 p => q v h' tk (l1.trans (l2.trans l3)) p)

noncomputable def isL (its : Array Value) : Value → Heap → Prop := fun u h => ∃ a, u = .ref a ∧ h.IsList a its
theorem List_le {h h' : Heap} {a : Addr} {its : Array Value} (x : h.IsList a its) (l : le h h') : h'.IsList a its := let ⟨o, ho, r⟩ := x; ⟨o, l _ _ ho, r⟩
theorem stbL {its : Array Value} : Stb (isL its) := fun _ _ _ l ⟨a, e, x⟩ => ⟨a, e, List_le x l⟩

theorem tr_item {value slice : Expr} {l : Addr} {its : Array Value} {i : Int} {t : Tok} {v : Value} (x : h.IsList l its) (h0 : 0 ≤ i) (h1 : i < 2 ^ 63) (hx : its[i.toNat]? = some v)
    (hs : subscripted slice false (.ref l) (.int i t) = operate [.ref l, .int i t] (getItem (.ref l) (.int i t)) := by with_unfolding_all rfl) : Tr w A h (subscriptTail value slice (.ref l) (.int i t)) (isV v) :=
  fun s Q E l₀ q => tail_any (List_le x l₀).typeIs slot_list_getitem.lookup (wpAny_getItem_list (List_le x l₀) h0 h1 hx (q v s.heap s.toks le.rfl rfl)) hs

theorem evs_nil {pos : Pos} : Evs w A env h pos [] (fun vs _ => vs = []) := fun s Q E _ q => wpAny_items_nil (q [] s.heap s.toks le.rfl rfl)
theorem evs_cons {pos : Pos} {e : Expr} {rest : List Expr} {P : Value → Heap → Prop} {P' : List Value → Heap → Prop} (a : Ev w A env h e P) (b : Evs w A env h pos rest P') (st : Stb P)
    (hs : starEach (e :: rest) env = (false, eval e env) :: starEach rest env := by rfl) : Evs w A env h pos (e :: rest) (fun vs h' => ∃ v vs', vs = v :: vs' ∧ P v h' ∧ P' vs' h') :=
  fun s Q E l₀ q => wpAny_items_cons (a s _ _ l₀ fun v h1 tk1 l1 p1 => b _ _ _ (l₀.trans l1) fun vs h2 tk2 l2 p2 => q _ h2 tk2 (l1.trans l2) ⟨v, vs, rfl, st _ _ _ l2 p1, p2⟩) hs

theorem ev_call {f : Str} {p pos : Pos} {e : Expr} {es : List Expr} {a : Addr} {o : Obj} {fd : FuncData} {PL : List Value → Heap → Prop} {P : Value → Heap → Prop}
    (n : Ev w A env h (.Name f p) (isV (.ref a))) (ho : h.get? a = some o) (hd : o.data = .func fd) (b : Evs w A env h pos (e :: es) PL)
    (k : ∀ vs h', le h h' → PL vs h' → Tr w A h' (call (.ref a) vs) P) (hs : starEach (e :: es) env = (false, eval e env) :: starEach es env := by rfl) : Ev w A env h (.Call (.Name f p) (e :: es) [] pos) P :=
  fun s Q E l₀ q => wpAny_Call_NameR (n s _ _ l₀ fun v h1 tk1 l1 p1 => by
    cases p1
    exact callWith_meth (h₀ := h) hd ho (b _ _ _ (l₀.trans l1) fun vs h2 tk2 l2 p2 => ⟨l₀.trans (l1.trans l2), k vs h2 (l₀.trans (l1.trans l2)) p2 _ _ _ le.rfl fun v h3 tk3 l3 p3 => q v h3 tk3 (l1.trans (l2.trans l3)) p3⟩) hs)
theorem ev_call0 {f : Str} {p pos : Pos} {a : Addr} {o : Obj} {fd : FuncData} {P : Value → Heap → Prop}
    (n : Ev w A env h (.Name f p) (isV (.ref a))) (ho : h.get? a = some o) (hd : o.data = .func fd) (k : ∀ h', le h h' → Tr w A h' (call (.ref a) []) P) : Ev w A env h (.Call (.Name f p) [] [] pos) P :=
  fun s Q E l₀ q => wpAny_Call_NameR (n s _ _ l₀ fun v h1 tk1 l1 p1 => by
    cases p1
    exact callWith_meth0 hd (l₀.trans l1 _ _ ho) (k h1 (l₀.trans l1) _ _ _ le.rfl fun v h3 tk3 l3 p3 => q v h3 tk3 (l1.trans l3) p3))
end
end
end Mine

namespace Mine
set_option maxRecDepth 100000
set_option maxHeartbeats 8000000
noncomputable section

noncomputable abbrev St (s : Shared) (h : Heap) (tk : Nat) : Shared := { s with heap := h, toks := tk }
theorem dlt {a d x l : Nat} (h : a + d < l) (k : x < d) : a + 1 + x < l := by omega
theorem dle {a j k l : Nat} (h : a + k < l) (e : Nat.ble j k = true) : a + j < l := Nat.lt_of_le_of_lt (Nat.add_le_add_left (Nat.le_of_ble_eq_true e) a) h
inductive Ret (s : Shared) (P : Value → Heap → Prop) (f : Flow) (s' : Shared) : Prop
  | mk (v : Value) (h' : Heap) (tk' : Nat) (e : f = .ret v) (e' : s' = St s h' tk') (l : le s.heap h') (p : P v h')
noncomputable abbrev LoopP (N : Shared → Prop) (Q : Flow → Shared → Prop) : Flow → Shared → Prop := fun f s' => match f with
  | .next => N s'
  | .ret v => Q (.ret v) s'
  | _ => False
inductive NextW (L : Addr) (Mut : Addr → Prop) (J : (Str → Option Value) → Heap → Prop) (s : Shared) (g : Heap) (s' : Shared) : Prop
  | mk (m' : Str → Option Value) (g' : Heap) (tk' : Nat) (e : s' = St s g' tk') (n : g'.Ns L m') (j : J m' g') (k : ∀ b o, ¬ Mut b → g.get? b = some o → g'.get? b = some o)
noncomputable def off (L : Addr) (h h' : Heap) : Prop := ∀ b o, b ≠ L → h.get? b = some o → h'.get? b = some o
noncomputable def Off (L : Addr) (R : Heap → Prop) : Prop := ∀ h h', (∃ m, h.Ns L m) → off L h h' → R h → R h'
theorem off.of_le {L : Addr} {h h' : Heap} (l : le h h') : off L h h' := fun b o _ e => l b o e
theorem off.trans {L : Addr} {h₁ h₂ h₃ : Heap} (a : off L h₁ h₂) (b : off L h₂ h₃) : off L h₁ h₃ := fun x o n e => b x o n (a x o n e)
theorem off.of_same {L : Addr} {h h' : Heap} (l : Heap.SameBut L h h') : off L h h' := fun b o n e => (l.2 b n).trans e
theorem off_le {B : Heap} {L : Addr} (n : B.get? L = none) : Off L (le B) := fun h h' _ k r b o e => k b o (fun q => by rw [q, n] at e; cases e) (r b o e)
theorem off_and {L : Addr} {R R' : Heap → Prop} (a : Off L R) (b : Off L R') : Off L (fun h => R h ∧ R' h) := fun h h' n k r => ⟨a h h' n k r.1, b h h' n k r.2⟩
theorem off_list {L a : Addr} {its : Array Value} (n : a ≠ L) : Off L (fun h => h.IsList a its) := fun h h' _ k ⟨o, ho, r⟩ => ⟨o, k _ _ n ho, r⟩
theorem Off.up {L : Addr} {R : Heap → Prop} {h h' : Heap} {m : Str → Option Value} (o : Off L R) (n : h.Ns L m) (l : le h h') (r : R h) : R h' := o h h' ⟨m, n⟩ (off.of_le l) r

structure FS (L : Addr) (m : Str → Option Value) (R : Heap → Prop) (h : Heap) : Prop where
  ns : h.Ns L m
  r : R h
theorem FS.up {L : Addr} {m : Str → Option Value} {R : Heap → Prop} {h h' : Heap} (F : FS L m R h) (o : Off L R) (l : le h h') : FS L m R h' := ⟨Ns_le F.ns l, o.up F.ns l F.r⟩
theorem ne_list {h : Heap} {L a : Addr} {m : Str → Option Value} {its : Array Value} (n : h.Ns L m) (l : h.IsList a its) : a ≠ L := by
  rintro rfl
  obtain ⟨o, es, ep, ho, hd, _⟩ := n
  obtain ⟨o', ho', _, k, hd'⟩ := l
  rw [ho] at ho'; cases ho'
  rw [hd] at hd'; cases hd'

section
variable {w : World} {A : Around} {env : Env} {h : Heap} {mg mb : Str → Option Value} {H : Heap} {s : Shared} {tk : Nat} {Q : Flow → Shared → Prop} {E : Value → Shared → Prop}
  {m : Str → Option Value} {R : Heap → Prop} {rest : List Stmt}

noncomputable def cont (w : World) (A : Around) (env : Env) (rest : List Stmt) (Q : Flow → Shared → Prop) (E : Value → Shared → Prop) : Flow → Shared → Prop :=
  fun f s' => match f with | .next => wpAny (model PR w) A (execs rest env) Q E s' | f => Q f s'

theorem x_nil (q : Q .next (St s h tk)) : wpAny (model PR w) A (execs [] env) Q E (St s h tk) := wpAny_execs_nil q

theorem x_assign {x : Str} {px pos : Pos} {value : Expr} {P : Value → Heap → Prop} (F : FS env.locals m R h) (o : Off env.locals R) (a : Ev w A env h value P)
    (k : ∀ v h1 h2 tk', le h h1 → P v h1 → h1.Ns env.locals m → off env.locals h1 h2 → FS env.locals (fun y => if y = x then some v else m y) R h2 → wpAny (model PR w) A (execs rest env) Q E (St s h2 tk'))
    (hs : swapsWith value (some (.Name x px)) pos.line env = pure false := by rfl) (hl : env.kindOf x = some .local := by rfl)
    (hp : (env.scope.kind == .class || (env.scope.kind == .module && env.locals != env.globals)) = false := by rfl) :
    wpAny (model PR w) A (execs (.Assign [.Name x px] value pos :: rest) env) Q E (St s h tk) :=
  wpAny_execs_cons (wpAny_Assign_Name (a _ _ _ le.rfl fun v h1 tk1 l1 p1 => wpAny_storeName_local hl (Ns_le F.ns l1) (fun h2 n2 s2 =>
    k v h1 h2 _ l1 p1 (Ns_le F.ns l1) (off.of_same s2) ⟨n2, o h1 h2 ⟨m, Ns_le F.ns l1⟩ (off.of_same s2) (o.up F.ns l1 F.r)⟩) hp) hs)
theorem x_int {x : Str} {px pos : Pos} {value : Expr} {i : Int} (F : FS env.locals m R h) (o : Off env.locals R) (a : Ev w A env h value (isI i))
    (k : ∀ t h2 tk', FS env.locals (fun y => if y = x then some (.int i t) else m y) R h2 → wpAny (model PR w) A (execs rest env) Q E (St s h2 tk'))
    (hs : swapsWith value (some (.Name x px)) pos.line env = pure false := by rfl) (hl : env.kindOf x = some .local := by rfl)
    (hp : (env.scope.kind == .class || (env.scope.kind == .module && env.locals != env.globals)) = false := by rfl) :
    wpAny (model PR w) A (execs (.Assign [.Name x px] value pos :: rest) env) Q E (St s h tk) :=
  x_assign F o a (fun v h1 h2 tk' _ ⟨t, e⟩ _ _ F' => k t h2 tk' (e ▸ F')) hs hl hp

theorem x_aug {x : Str} {px pos : Pos} {op : Operator} {value : Expr} {P : Value → Heap → Prop} {old : Value} {P' : Value → Heap → Prop} (F : FS env.locals m R h) (o : Off env.locals R) (hv : m x = some old)
    (a : Ev w A env h value P) (b : ∀ v h1, le h h1 → P v h1 → Tr w A h1 (inplaceOp op old v) P')
    (k : ∀ v h1 h2 tk', le h h1 → P' v h1 → off env.locals h1 h2 → FS env.locals (fun y => if y = x then some v else m y) R h2 → wpAny (model PR w) A (execs rest env) Q E (St s h2 tk'))
    (hl : env.kindOf x = some .local) (hk : env.scope.kind = .function)
    (hp : (env.scope.kind == .class || (env.scope.kind == .module && env.locals != env.globals)) = false) :
    wpAny (model PR w) A (execs (.AugAssign (.Name x px) op value pos :: rest) env) Q E (St s h tk) :=
  wpAny_execs_cons (wpAny_AugAssign_Name (wpAny_loadName_local hk hl F.ns hv (a _ _ _ le.rfl fun v h1 tk1 l1 p1 => b v h1 l1 p1 _ _ _ le.rfl fun v2 h2 tk2 l2 p2 =>
    wpAny_storeName_local hl (Ns_le F.ns (l1.trans l2)) (fun h3 n3 s3 => k v2 h2 h3 _ (l1.trans l2) p2 (off.of_same s3) ⟨n3, o h2 h3 ⟨m, Ns_le F.ns (l1.trans l2)⟩ (off.of_same s3) (o.up F.ns (l1.trans l2) F.r)⟩) hp)))
theorem x_iadd {x : Str} {px pos : Pos} {value : Expr} {i j : Int} {t : Tok} (F : FS env.locals m R h) (o : Off env.locals R) (hv : m x = some (.int i t)) (a : Ev w A env h value (isI j))
    (k : ∀ t h2 tk', FS env.locals (fun y => if y = x then some (.int (i + j) t) else m y) R h2 → wpAny (model PR w) A (execs rest env) Q E (St s h2 tk'))
    (hl : env.kindOf x = some .local := by rfl) (hk : env.scope.kind = .function := by rfl)
    (hp : (env.scope.kind == .class || (env.scope.kind == .module && env.locals != env.globals)) = false := by rfl) :
    wpAny (model PR w) A (execs (.AugAssign (.Name x px) .Add value pos :: rest) env) Q E (St s h tk) :=
  x_aug (P' := isI (i + j)) F o hv a (fun v h1 _ ⟨_, e⟩ => by subst e; exact tr_int fun _ _ _ q => Rows.iadd_int q) (fun v h1 h2 tk' _ ⟨t, e⟩ _ F' => k t h2 tk' (e ▸ F')) hl hk hp
theorem x_isub {x : Str} {px pos : Pos} {value : Expr} {i j : Int} {t : Tok} (F : FS env.locals m R h) (o : Off env.locals R) (hv : m x = some (.int i t)) (a : Ev w A env h value (isI j))
    (k : ∀ t h2 tk', FS env.locals (fun y => if y = x then some (.int (i - j) t) else m y) R h2 → wpAny (model PR w) A (execs rest env) Q E (St s h2 tk'))
    (hl : env.kindOf x = some .local) (hk : env.scope.kind = .function)
    (hp : (env.scope.kind == .class || (env.scope.kind == .module && env.locals != env.globals)) = false) :
    wpAny (model PR w) A (execs (.AugAssign (.Name x px) .Sub value pos :: rest) env) Q E (St s h tk) :=
  x_aug (P' := isI (i - j)) F o hv a (fun v h1 _ ⟨_, e⟩ => by subst e; exact tr_int fun _ _ _ q => Rows.isub_int q) (fun v h1 h2 tk' _ ⟨t, e⟩ _ F' => k t h2 tk' (e ▸ F')) hl hk hp
theorem x_imul {x : Str} {px pos : Pos} {value : Expr} {i j : Int} {t : Tok} (F : FS env.locals m R h) (o : Off env.locals R) (hv : m x = some (.int i t)) (a : Ev w A env h value (isI j)) (hi : i.natAbs < 2 ^ 64)
    (k : ∀ t h2 tk', FS env.locals (fun y => if y = x then some (.int (i * j) t) else m y) R h2 → wpAny (model PR w) A (execs rest env) Q E (St s h2 tk'))
    (hl : env.kindOf x = some .local) (hk : env.scope.kind = .function)
    (hp : (env.scope.kind == .class || (env.scope.kind == .module && env.locals != env.globals)) = false) :
    wpAny (model PR w) A (execs (.AugAssign (.Name x px) .Mult value pos :: rest) env) Q E (St s h tk) :=
  x_aug (P' := isI (i * j)) F o hv a (fun v h1 _ ⟨_, e⟩ => by subst e; exact tr_int fun _ _ _ q => Rows.imul_int q (mulok hi)) (fun v h1 h2 tk' _ ⟨t, e⟩ _ F' => k t h2 tk' (e ▸ F')) hl hk hp

theorem x_if {test : Expr} {body orelse : List Stmt} {pos : Pos} {b : Bool} (F : FS env.locals m R h) (o : Off env.locals R) (a : Te w A env h test b)
    (k1 : b = true → ∀ h2 tk', FS env.locals m R h2 → wpAny (model PR w) A (execs body env) (cont w A env rest Q E) E (St s h2 tk'))
    (k2 : b = false → ∀ h2 tk', FS env.locals m R h2 → wpAny (model PR w) A (execs orelse env) (cont w A env rest Q E) E (St s h2 tk')) :
    wpAny (model PR w) A (execs (.If test body orelse pos :: rest) env) Q E (St s h tk) :=
  wpAny_execs_cons (wpAny_If (a _ _ _ le.rfl fun h1 tk1 l1 => by
    cases b with
    | true => exact k1 rfl h1 tk1 (F.up o l1)
    | false => exact k2 rfl h1 tk1 (F.up o l1)))
theorem x_ret {e : Expr} {pos : Pos} {P : Value → Heap → Prop} (F : FS env.locals m R h) (o : Off env.locals R) (a : Ev w A env h e P) (k : ∀ v h2 tk', FS env.locals m R h2 → P v h2 → Q (.ret v) (St s h2 tk')) :
    wpAny (model PR w) A (execs (.Return (some e) pos :: rest) env) Q E (St s h tk) :=
  wpAny_execs_cons (wpAny_Return_some (a _ _ _ le.rfl fun v h1 tk1 l1 p1 => k v h1 tk1 (F.up o l1) p1))
theorem x_skip {body : List Stmt} {test : Expr} {pos : Pos} (F : FS env.locals m R h) (o : Off env.locals R) (a : Te w A env h test false)
    (k : ∀ h2 tk', FS env.locals m R h2 → wpAny (model PR w) A (execs rest env) Q E (St s h2 tk')) :
    wpAny (model PR w) A (execs (.If test body [] pos :: rest) env) Q E (St s h tk) :=
  x_if F o a (fun e => by cases e) fun _ h2 tk' F' => x_nil (k h2 tk' F')

end

section
variable {w : World} {A : Around} {h : Heap} {mg mb : Str → Option Value} {H : Heap}

theorem tr_fn {a : Addr} {name qual : Str} {params : Arguments} {body : List Stmt} {scope : Scope} {dV kV doc pm cdv ct oc : Value} {an od : Option Addr} {osl : Array (Option Value)} {vals : List Value} {binds : List (Str × Value)} {P : Value → Heap → Prop}
    (G : Gd w mg mb H) (l₀ : le H h) (hroom : A.depth < recursionLimit)
    (ho : (KK w).lookup a = some ⟨oc, od, .func (fnOf name qual params body scope dV kV doc pm an cdv ct), osl⟩) (hcd : codeIn (KK w) cdv qual = true)
    (hbind : bindArgs (fnOf name qual params body scope dV kV doc pm an cdv ct) ⟨vals, []⟩ = pure binds)
    (k : ∀ (s : Shared) (L : Addr) (h₁ : Heap) (tk : Nat), le h s.heap → s.heap.get? L = none → FS L (fun x => binds.reverse.lookup x) (le s.heap) h₁ →
      wpAny (model PR w) (A.deeper (callEnv (fnOf name qual params body scope dV kV doc pm an cdv ct) L a)) (execs body (callEnv (fnOf name qual params body scope dV kV doc pm an cdv ct) L a))
        (Ret s P) (fun _ _ => False) (St s h₁ tk))
    (hcell : ∀ x ∈ scope.names, x.2 ≠ .cell := by decide) (hloc : ∀ x ∈ binds, scope.names.lookup x.1 = some .local)
    (hco : scope.isCoroutine = false) (hgen : scope.isGenerator = false) (hk : scope.kind = .function) :
    Tr w A h (call (.ref a) vals) P := fun s Q E l q => by
  refine wpAny_call (codeAny_call_straight (fd := fnOf name qual params body scope dV kV doc pm an cdv ct) hroom (l _ _ (l₀ _ _ (G.X _ _ ho))) rfl (G.lim.keeps (l₀.trans l)) (codeRec_of (G.X.keeps (l₀.trans l)) hcd) rfl hbind hcell hloc (fun s₁ I => ?_) hco hgen hk)
  obtain ⟨h₁, tk, rfl⟩ := I.same
  have hnone : s.heap.get? s.heap.objs.size = none := by
    cases e : s.heap.get? s.heap.objs.size with
    | none => rfl
    | some o' => exact absurd (Heap.lt_size e) (Nat.lt_irrefl _)
  refine wpAny_mono (k s _ h₁ tk l hnone ⟨I.ns, I.keep⟩) (fun f s' hf => ?_) fun _ _ e => e.elim
  obtain ⟨v, h', tk', rfl, rfl, l', p⟩ := hf
  exact q v h' tk' l' p
end
end
end Mine

namespace Mine
set_option maxRecDepth 100000
set_option maxHeartbeats 8000000
noncomputable section

noncomputable def Mat (W : Int → Int → Int) : Value → Heap → Prop := fun v h =>
  ∃ a its, v = .ref a ∧ h.IsList a its ∧ ∀ i : Int, 0 ≤ i → i < 6 → ∃ r row, its[i.toNat]? = some (.ref r) ∧ h.IsList r row ∧ ∀ j : Int, 0 ≤ j → j < 6 → ∃ t, row[j.toNat]? = some (.int (W i j) t)
theorem stbM {W : Int → Int → Int} : Stb (Mat W) := fun _ _ _ l ⟨a, its, e, x, r⟩ => ⟨a, its, e, List_le x l, fun i h0 h1 => let ⟨r, row, e1, x1, k⟩ := r i h0 h1; ⟨r, row, e1, List_le x1 l, k⟩⟩

section
variable {w : World} {A : Around} {env : Env} {h : Heap} {mg mb : Str → Option Value} {H : Heap} {W : Int → Int → Int}

theorem ev_mat {e1 e2 e3 : Expr} {p1 p2 : Pos} {i j : Int} (a : Ev w A env h e1 (Mat W)) (b : Ev w A env h e2 (isI i)) (c : Ev w A env h e3 (isI j)) (hi : 0 ≤ i ∧ i < 6) (hj : 0 ≤ j ∧ j < 6)
    (hs : ∀ l i t, subscripted e2 false (.ref l) (.int i t) = operate [.ref l, .int i t] (getItem (.ref l) (.int i t)) := by intro _ _ _; with_unfolding_all rfl)
    (hs' : ∀ l i t, subscripted e3 false (.ref l) (.int i t) = operate [.ref l, .int i t] (getItem (.ref l) (.int i t)) := by intro _ _ _; with_unfolding_all rfl) :
    Ev w A env h (.Subscript (.Subscript e1 e2 p1) e3 p2) (isI (W i j)) := by
  refine ev_sub_ (P1 := fun v h' => ∃ r row, v = .ref r ∧ h'.IsList r row ∧ ∀ j : Int, 0 ≤ j → j < 6 → ∃ t, row[j.toNat]? = some (.int (W i j) t)) (ev_sub_ a b stbM ?_) c ?_ ?_
  · rintro v1 v2 h' l ⟨a, its, rfl, x, r⟩ ⟨t, rfl⟩
    obtain ⟨r, row, e1, x1, k⟩ := r i hi.1 hi.2
    exact (tr_item x hi.1 (by omega) e1 (hs _ _ _)).mono fun v h'' l' e => ⟨r, row, e, List_le x1 l', k⟩
  · exact fun _ _ _ l ⟨r, row, e, x, k⟩ => ⟨r, row, e, List_le x l, k⟩
  · rintro v1 v2 h' l ⟨r, row, rfl, x, k⟩ ⟨t, rfl⟩
    obtain ⟨t', e⟩ := k j hj.1 hj.2
    exact (tr_item x hj.1 (by omega) e (hs' _ _ _)).mono fun v h'' l' e => ⟨t', e⟩

noncomputable def led (W : Int → Int → Int) (i j k m : Int) : Int := W i j * W k m - W i k * W j m + W i m * W j k

theorem led_spec (G : Gd w mg mb H) (l₀ : le H h) (hroom : A.depth < recursionLimit) (hW : ∀ i j, (W i j).natAbs < 1000) {v : Value} {i j k m : Int} {t1 t2 t3 t4 : Tok} (hv : Mat W v h)
    (hi : 0 ≤ i ∧ i < 6) (hj : 0 ≤ j ∧ j < 6) (hk : 0 ≤ k ∧ k < 6) (hm : 0 ≤ m ∧ m < 6) :
    Tr w A h (call (.ref 99) [v, .int i t1, .int j t2, .int k t3, .int m t4]) (isI (led W i j k m)) := by
  refine tr_fn (hco := rfl) (hgen := rfl) (hk := rfl) (binds := [("rows", v), ("i", .int i t1), ("j", .int j t2), ("k", .int k t3), ("m", .int m t4)]) G l₀ hroom rfl rfl rfl (fun s L h₁ tk ls hL F => ?_) (hloc := locs rfl)
  have b : ∀ i j, (W i j).natAbs < 2 ^ 64 := fun i j => by have := hW i j; omega
  have N := F.ns
  have M := stbM _ _ _ (ls.trans F.r) hv
  refine x_ret F (off_le hL) (P := isI (led W i j k m)) (ev_add (ev_sub (ev_mul (ev_mat (ev_locP N rfl M stbM) (ev_locI N rfl) (ev_locI N rfl) hi hj) (ev_mat (ev_locP N rfl M stbM) (ev_locI N rfl) (ev_locI N rfl) hk hm) (b _ _))
    (ev_mul (ev_mat (ev_locP N rfl M stbM) (ev_locI N rfl) (ev_locI N rfl) hi hk) (ev_mat (ev_locP N rfl M stbM) (ev_locI N rfl) (ev_locI N rfl) hj hm) (b _ _)))
    (ev_mul (ev_mat (ev_locP N rfl M stbM) (ev_locI N rfl) (ev_locI N rfl) hi hm) (ev_mat (ev_locP N rfl M stbM) (ev_locI N rfl) (ev_locI N rfl) hj hk) (b _ _))) ?_
  exact fun v h2 tk' F' p => ⟨v, h2, tk', rfl, rfl, F'.r, p⟩
end
end
end Mine

namespace Mine
set_option maxRecDepth 100000
set_option maxHeartbeats 8000000
noncomputable section

noncomputable def sgS : Nat → Str
  | 0 => "<" | 1 => ">" | 2 => "*" | 3 => "/" | _ => "="
noncomputable def opNum : Nat → Nat → Int
  | 0, 0 => 33 | 1, 1 => 34 | 2, 2 => 35 | 3, 3 => 47 | 4, 4 => 27 | 0, 4 => 29 | 1, 4 => 30 | 2, 4 => 38 | 3, 4 => 39 | _, _ => 0
noncomputable def upW (c : Int → Nat) (st i j : Int) : Int := if opNum (c i) (c j) = 0 then 0 else opNum (c i) (c j) + st * (j - i - 1) ^ 2
noncomputable def Wt (c : Int → Nat) (st : Int) (i j : Int) : Int := if j < i then - upW c st j i else if i = j then 0 else upW c st i j

noncomputable def Sgn (c : Int → Nat) : Value → Heap → Prop := fun v h =>
  ∃ a its, v = .ref a ∧ h.IsList a its ∧ ∀ i : Int, 0 ≤ i → i < 6 → c i < 5 ∧ ∃ t, its[i.toNat]? = some (.str (sgS (c i)) t)
theorem stbG {c : Int → Nat} : Stb (Sgn c) := fun _ _ _ l ⟨a, its, e, x, r⟩ => ⟨a, its, e, List_le x l, r⟩

noncomputable def keyS : Value → Option Str
  | .str x _ => some x
  | _ => none
theorem keyS_is {v : Value} {k : Str} (h : keyS v = some k) : Value.isStrOf k v = true := by
  cases v <;> simp_all [keyS, Value.isStrOf]
noncomputable def KO (w : World) : List DictEntry → Prop
  | [] => True
  | e :: r => (∃ k, keyS e.key = some k ∧ e.hash = hashStr w k) ∧ KO w r
theorem KO.all {w : World} {l : List DictEntry} (x : KO w l) : ∀ e ∈ l, ∃ k, Value.isStrOf k e.key = true ∧ e.hash = hashStr w k := by
  induction l with
  | nil => intro e he; cases he
  | cons a r ih =>
    intro e he
    rcases List.mem_cons.mp he with rfl | he
    · obtain ⟨k, h1, h2⟩ := x.1
      exact ⟨k, keyS_is h1, h2⟩
    · exact ih x.2 e he

noncomputable def ett (w : World) : Obj := ((KK w).lookup 64).getD default
noncomputable def ettEs (w : World) : Array DictEntry := match (ett w).data with | .dict es _ => es | _ => #[]

theorem ett_map {w : World} {mg mb : Str → Option Value} {H h : Heap} (G : Gd w mg mb H) (l : le H h) : Heap.MapOf (strKind PR w) h 64 (fun k => findBy Value.isStrOf (ettEs w) k) := by
  refine ⟨ett w, ettEs w, _, l _ _ (G.X _ _ rfl), ⟨rfl, rfl, rfl⟩, rfl, ?_, fun _ => rfl⟩
  have k : KO w (ettEs w).toList := by
    show KO w (_ :: _)
    repeat (first | exact True.intro | refine ⟨⟨_, rfl, rfl⟩, ?_⟩)
  exact fun e he => KO.all k e (Array.mem_toList_iff.mpr he)

noncomputable def intOf : Value → Option Int
  | .int i _ => some i
  | _ => none
theorem intOf_is {v : Value} {i : Int} (h : intOf v = some i) : ∃ t, v = .int i t := by
  cases v <;> simp [intOf] at h
  subst h; exact ⟨_, rfl⟩
theorem ett_val (w : World) (a b : Nat) (ha : a < 5) (hb : b < 5) (t : Tok) : ∃ t', (findBy Value.isStrOf (ettEs w) (sgS a ++ sgS b)).getD (.int 0 t) = .int (opNum a b) t' := by
  refine intOf_is ?_
  rcases a with _ | _ | _ | _ | _ | a <;> first | omega | (rcases b with _ | _ | _ | _ | _ | b <;> first | omega | kernel_rfl)

section
variable {w : World} {A : Around} {env : Env} {h : Heap} {mg mb : Str → Option Value} {H : Heap} {c : Int → Nat}

theorem Map_le {h h' : Heap} {d : Addr} {f : Str → Option Value} (x : Heap.MapOf (strKind PR w) h d f) (l : le h h') : Heap.MapOf (strKind PR w) h' d f := let ⟨o, es, ep, ho, r⟩ := x; ⟨o, es, ep, l _ _ ho, r⟩

theorem ev_get {o e f : Expr} {apos pos : Pos} {d : Addr} {fm : Str → Option Value} {x : Str} {i j : Int} (a : Ev w A env h o (isV (.ref d))) (hm : Heap.MapOf (strKind PR w) h d fm) (hne : (d == sysModules) = false)
    (b : Ev w A env h e (isS x)) (c : Ev w A env h f (isI i)) (hv : ∀ t, ∃ t', (fm x).getD (.int i t) = .int j t')
    (hbase : attributeBase o "get" env (eval o env) = eval o env) (hline : (apos.endLine == pos.line) = true)
    (htrees : backTo pos (starEach [e, f] env) = [(false, eval e env), (false, eval f env)]) : Ev w A env h (.Call (.Attribute o "get" apos) [e, f] [] pos) (isI j) :=
  fun s Q E l₀ q => wpAny_Call_method2_late hbase hline htrees (a s _ _ l₀ fun ov h1 tk1 l1 p1 => by
    cases p1
    have hm1 := Map_le hm (l₀.trans l1)
    refine ⟨"dict", "dict.get", F.plainAttrs_dict, F.slot_dict_get, F.type_dict_get, hm1.typeIs, hm1.noDict, ?_⟩
    refine wpAny_dict_get2 (knd := strKind PR w) hne (b _ _ _ (l₀.trans l1) fun v h2 tk2 l2 p2 => c _ _ _ (l₀.trans (l1.trans l2)) fun v3 h3 tk3 l3 p3 => ?_)
    obtain ⟨t2, rfl⟩ := p2
    obtain ⟨t3, rfl⟩ := p3
    obtain ⟨t', e'⟩ := hv t3
    refine ⟨x, fm, by simp [PySem.strKind, Value.isStrOf], Map_le hm1 (l2.trans l3), ?_⟩
    rw [e']
    exact q _ h3 _ (l1.trans (l2.trans l3)) ⟨t', rfl⟩)

theorem ev_cat {l r : Expr} {pos : Pos} {x y : Str} (a : Ev w A env h l (isS x)) (b : Ev w A env h r (isS y)) (hsz : x.length + y.length ≤ sizeLine) : Ev w A env h (.BinOp l .Add r pos) (isS (x ++ y)) :=
  ev_binop a b stbS fun _ _ _ _ ⟨_, e1⟩ ⟨_, e2⟩ => by subst e1 e2; exact fun s Q E _ q => Rows.add_str (fun t' tk => q _ s.heap tk le.rfl ⟨t', rfl⟩) hsz

theorem sg_len (a : Nat) : (sgS a).length = 1 := by
  unfold sgS; split <;> rfl

theorem ev_sign {e1 e2 : Expr} {p1 : Pos} {i : Int} (a : Ev w A env h e1 (Sgn c)) (b : Ev w A env h e2 (isI i)) (hi : 0 ≤ i ∧ i < 6)
    (hs : ∀ l i t, subscripted e2 false (.ref l) (.int i t) = operate [.ref l, .int i t] (getItem (.ref l) (.int i t)) := by intro _ _ _; with_unfolding_all rfl) :
    Ev w A env h (.Subscript e1 e2 p1) (isS (sgS (c i))) := by
  refine ev_sub_ a b stbG ?_
  rintro v1 v2 h' l ⟨a, its, rfl, x, r⟩ ⟨t, rfl⟩
  obtain ⟨hc, t', e1⟩ := r i hi.1 hi.2
  exact (tr_item x hi.1 (by omega) e1 (hs _ _ _)).mono fun v h'' l' e => ⟨t', e⟩

theorem weight_up (G : Gd w mg mb H) (l₀ : le H h) (hroom : A.depth < recursionLimit) {v : Value} {i j st : Int} {t1 t2 t3 : Tok} (hv : Sgn c v h) (hst : 0 ≤ st ∧ st < 100)
    (hi : 0 ≤ i ∧ i < 6) (hj : 0 ≤ j ∧ j < 6) (hij : i ≤ j) : Tr w A h (call (.ref 92) [v, .int i t1, .int j t2, .int st t3]) (isI (Wt c st i j)) := by
  refine tr_fn (hco := rfl) (hgen := rfl) (hk := rfl) (binds := [("signs", v), ("i", .int i t1), ("j", .int j t2), ("step", .int st t3)]) G l₀ hroom rfl rfl rfl (fun s L h₁ tk ls hL F => ?_) (hloc := locs rfl)
  refine x_skip F (off_le hL) ((te_gt (ev_locI F.ns rfl) (ev_locI F.ns rfl)).eq (decide_eq_false (by omega))) fun h2 tk2 F => ?_
  have S := stbG _ _ _ (ls.trans F.r) hv
  have g2 := l₀.trans (ls.trans F.r)
  have c5 : ∀ i : Int, 0 ≤ i → i < 6 → c i < 5 := let ⟨_, _, _, _, r⟩ := hv; fun i h0 h1 => (r i h0 h1).1
  refine x_int F (off_le hL) (i := opNum (c i) (c j)) (ev_get (hbase := rfl) (hline := rfl) (htrees := rfl) (x := sgS (c i) ++ sgS (c j)) (ev_glob G g2 rfl) (ett_map G g2) rfl (ev_cat (ev_sign (ev_locP F.ns rfl S stbG) (ev_locI F.ns rfl) hi) (ev_sign (ev_locP F.ns rfl S stbG) (ev_locI F.ns rfl) hj) (by rw [sg_len, sg_len]; decide)) ev_int (ett_val w _ _ (c5 i hi.1 hi.2) (c5 j hj.1 hj.2))) fun t h3 tk3 F => ?_
  refine x_if F (off_le hL) (te_or (te_eq (ev_locI F.ns rfl) (ev_locI F.ns rfl)) fun _ => te_eq (ev_locI F.ns rfl) ev_int) (fun e h4 tk4 F => ?_) fun e h4 tk4 F => x_nil ?_
  · refine x_ret F (off_le hL) ev_int fun v h2 tk' F' p => ⟨v, h2, tk', rfl, rfl, F'.r, ?_⟩
    have z : Wt c st i j = 0 := by
      unfold Wt upW
      simp only [Bool.or_eq_true, beq_iff_eq] at e
      rw [if_neg (by omega)]
      rcases e with e | e <;> simp [e]
    rw [z]; exact p
  · simp only [Bool.or_eq_false_iff, beq_eq_false_iff_ne] at e
    refine x_ret F (off_le hL) (ev_add (ev_locI F.ns rfl) (ev_mul (ev_locI F.ns rfl) (ev_pow (ev_sub (ev_sub (ev_locI F.ns rfl) (ev_locI F.ns rfl)) ev_int) ev_int (by decide) (by decide) (by omega)) (by omega))) fun v h2 tk' F' p => ⟨v, h2, tk', rfl, rfl, F'.r, ?_⟩
    have z : Wt c st i j = opNum (c i) (c j) + st * (j - i - 1) ^ (2 : Int).toNat := by
      unfold Wt upW
      rw [if_neg (by omega), if_neg e.1, if_neg e.2]
      rfl
    rw [z]; exact p

theorem weight_spec (G : Gd w mg mb H) (l₀ : le H h) (hroom : A.depth + 1 < recursionLimit) {v : Value} {i j st : Int} {t1 t2 t3 : Tok} (hv : Sgn c v h) (hst : 0 ≤ st ∧ st < 100)
    (hi : 0 ≤ i ∧ i < 6) (hj : 0 ≤ j ∧ j < 6) : Tr w A h (call (.ref 92) [v, .int i t1, .int j t2, .int st t3]) (isI (Wt c st i j)) := by
  by_cases hij : i ≤ j
  · exact weight_up G l₀ (by omega) hv hst hi hj hij
  refine tr_fn (hco := rfl) (hgen := rfl) (hk := rfl) (binds := [("signs", v), ("i", .int i t1), ("j", .int j t2), ("step", .int st t3)]) G l₀ (dle (j := 0) hroom rfl) rfl rfl rfl (fun s L h₁ tk ls hL F => ?_) (hloc := locs rfl)
  refine x_if F (off_le hL) ((te_gt (ev_locI F.ns rfl) (ev_locI F.ns rfl)).eq (decide_eq_true (by omega))) (fun _ h2 tk2 F => ?_) (fun e => by cases e)
  have S := stbG _ _ _ (ls.trans F.r) hv
  have g2 := l₀.trans (ls.trans F.r)
  refine x_ret F (off_le hL) (P := isI (Wt c st i j)) ?_ fun v h2 tk' F' p => ⟨v, h2, tk', rfl, rfl, F'.r, p⟩
  have z : Wt c st i j = - Wt c st j i := by
    unfold Wt
    rw [if_pos (by omega), if_neg (by omega), if_neg (by omega)]
  rw [z]
  refine ev_neg (ev_call (ev_glob G g2 rfl) (g2 _ _ (G.X _ _ rfl)) rfl (evs_cons (ev_locP F.ns rfl S stbG) (evs_cons (ev_locI F.ns rfl) (evs_cons (ev_locI F.ns rfl) (evs_cons (ev_locI F.ns rfl) evs_nil stbI) stbI) stbI) stbG) ?_)
  rintro vs h' l' ⟨_, _, rfl, S', _, _, rfl, ⟨_, rfl⟩, _, _, rfl, ⟨_, rfl⟩, _, _, rfl, ⟨_, rfl⟩, rfl⟩
  exact weight_up G (g2.trans l') (by show A.depth + 1 < _; exact hroom) S' hst hj hi (by omega)
end
end
end Mine

namespace Mine
set_option maxRecDepth 100000
set_option maxHeartbeats 8000000
noncomputable section

theorem fresh_none (h : Heap) {a : Addr} (ha : h.objs.size ≤ a) : h.get? a = none := by
  cases e : h.get? a with
  | none => rfl
  | some o' => exact absurd (Heap.lt_size e) (Nat.not_lt.mpr ha)
theorem notIn {h h' : Heap} {b : Addr} (l : le h h') (e : h'.get? b = none) : h.get? b = none := by
  cases q : h.get? b with
  | none => rfl
  | some o => rw [l b o q] at e; cases e
theorem le_push (h : Heap) (o : Obj) : le h (h.push o) := fun _ _ e => Heap.get?_push_of_some _ e

section
variable {w : World} {A : Around} {env : Env} {h : Heap} {mg mb : Str → Option Value} {H : Heap}

noncomputable def NoCode (o : Obj) : Prop := ∀ vs : Array Value, o.data = .fields vs → ∀ (q : Str) (t : Tok), vs[1]? ≠ some (.str q t)
theorem noCode {o : Obj} {vs : Array Value} {i : Int} {t : Tok} (h : o.data = .fields vs) (h1 : vs[1]? = some (.int i t)) : NoCode o := fun vs' e q u => by rw [h] at e; cases e; rw [h1]; nofun

noncomputable def ItV (w : World) (A : Around) (h : Heap) (t : Sem Value) (n : Nat) (P : Nat → Value → Prop) (S : Addr → Prop) : Prop :=
  ∀ (s : Shared) (Q : Value → Shared → Prop) (E : Value → Shared → Prop), le h s.heap →
    (∀ I fp wr St h' tk, le s.heap h' → Walks PR w A I fp wr n P St → St 0 h' → (∀ b ∈ fp, b < h'.objs.size) → (∀ b ∈ wr, s.heap.get? b = none) → (∀ b ∈ fp, s.heap.get? b = none ∨ S b) → (∀ i g, St i g → ∀ b ∈ wr, ∃ o, g.get? b = some o ∧ NoCode o) →
      Q (.ref I) { s with heap := h', toks := tk }) →
    wpAny (model PR w) A t (fun xv s₁ => wpAny (model PR w) A (pyIter xv) Q E s₁) E s
noncomputable abbrev It (w : World) (A : Around) (env : Env) (h : Heap) (e : Expr) (n : Nat) (P : Nat → Value → Prop) (S : Addr → Prop) : Prop := ItV w A h (eval e env) n P S

noncomputable def intsFrom (a : Int) : Nat → Value → Prop := fun i v => ∃ t, v = .int (a + i * 1) t

theorem it_range_tail {a N : Int} {s₁ s : Shared} {t u v : Tok} {Q : Value → Shared → Prop} {E : Value → Shared → Prop} (hh : A.handled = none) (ha : -(2 ^ 62) ≤ a ∧ a < 2 ^ 62) (hN : -(2 ^ 62) ≤ N ∧ N < 2 ^ 62)
    (l : le s.heap s₁.heap) {tk : Nat} {h2 : Heap} (e : h2 = s₁.heap.push { cls := .type "range", data := .fields #[.int a t, .int N u, .int 1 v] })
    (q : ∀ I fp wr St h' tk, le s.heap h' → Walks PR w A I fp wr (N - a).toNat (intsFrom a) St → St 0 h' → (∀ b ∈ fp, b < h'.objs.size) → (∀ b ∈ wr, s.heap.get? b = none) → (∀ b ∈ fp, s.heap.get? b = none ∨ False) → (∀ i g, St i g → ∀ b ∈ wr, ∃ o, g.get? b = some o ∧ NoCode o) →
      Q (.ref I) { s₁ with heap := h', toks := tk }) :
    wpAny (model PR w) A (pyIter (.ref s₁.heap.objs.size)) Q E { s₁ with heap := h2, toks := tk } := by
  subst e
  refine wpAny_pyIter_range (IsRange.new ..) (small_one ha.1 ha.2 hN.1 hN.2) ?_
  have hsz : Builtin.Range.rangeSize a N 1 = ((N - a).toNat : Int) := by rw [rangeSize_one]; split <;> omega
  have lt : s.heap.get? (s₁.heap.objs.size + 1) = none := by
    cases e : s.heap.get? (s₁.heap.objs.size + 1) with
    | none => rfl
    | some o => exact absurd (Heap.lt_size (l _ _ e)) (Nat.not_lt.mpr (Nat.le_succ _))
  dsimp only
  rw [Heap.size_push]
  refine q _ [s₁.heap.objs.size + 1] [s₁.heap.objs.size + 1] _ _ _ (l.trans ((le_push _ _).trans (le_push _ _))) (Walks.range hh _ a 1 (N - a).toNat) ?_ ?_ ?_ ?_ (fun i g x b hb => by rw [List.mem_singleton.mp hb]; exact ⟨_, x, noCode rfl rfl⟩)
  · have e1 : (a + ((0 : Nat) : Int) * 1) = a := by simp
    have e2 : (((N - a).toNat : Int) - ((0 : Nat) : Int)) = Builtin.Range.rangeSize a N 1 := by rw [hsz]; simp
    rw [e1, e2]
    have := Heap.get?_push_size (s₁.heap.push { cls := .type "range", data := .fields #[.int a t, .int N u, .int 1 v] }) (o := { cls := .type "range_iterator", data := .fields #[rawInt a, rawInt (Builtin.Range.rangeSize a N 1), rawInt 1] }) rfl
    rw [Heap.size_push] at this
    exact this
  · intro b hb; rw [List.mem_singleton.mp hb, Heap.size_push, Heap.size_push]; exact Nat.lt_succ_self _
  · intro b hb; rw [List.mem_singleton.mp hb]; exact lt
  · intro b hb; rw [List.mem_singleton.mp hb]; exact .inl lt

theorem it_range1 {e : Expr} {rp pos : Pos} {N : Int} (G : Gd w mg mb H) (l₀ : le H h) (hh : A.handled = none) (a : Ev w A env h e (isI N)) (hN : -(2 ^ 62) ≤ N ∧ N < 2 ^ 62)
    (hg : env.globals = mainGlobals) (hb : env.builtins = builtinsNs) (hk : env.scope.kind = .function) (hl : env.kindOf "range" = some .globalImplicit)
    (hs : starEach [e] env = (false, eval e env) :: starEach [] env) :
    It w A env h (.Call (.Name "range" rp) [e] [] pos) (N - 0).toNat (intsFrom 0) (fun _ => False) := fun s Q E l q =>
  wpAny_Call_NameR ((ev_bi (x := "range") (v := .type "range") G l₀ rfl rfl (by decide) hg hb hk hl) s _ _ l fun v h1 tk1 l1 p1 => by
    cases p1
    refine Rows.callWith_type1 ((evs_cons (pos := pos) a evs_nil stbI hs) _ _ _ (l.trans l1) fun vs h2 tk2 l2 p2 => ?_) hs rfl
    obtain ⟨_, _, rfl, ⟨t, rfl⟩, rfl⟩ := p2
    refine call_range_1 ?_
    exact it_range_tail (s := s) (a := 0) hh (by decide) hN (l1.trans l2) rfl q)
theorem it_range2 {e f : Expr} {rp pos : Pos} {M N : Int} (G : Gd w mg mb H) (l₀ : le H h) (hh : A.handled = none) (a : Ev w A env h e (isI M)) (b : Ev w A env h f (isI N)) (hM : -(2 ^ 62) ≤ M ∧ M < 2 ^ 62) (hN : -(2 ^ 62) ≤ N ∧ N < 2 ^ 62)
    (hg : env.globals = mainGlobals) (hb : env.builtins = builtinsNs) (hk : env.scope.kind = .function) (hl : env.kindOf "range" = some .globalImplicit)
    (hs : starEach [e, f] env = (false, eval e env) :: starEach [f] env) (hs' : starEach [f] env = (false, eval f env) :: starEach [] env) (hs2 : ((backTo pos (starEach [f] env)).any fun x => x.1) = false) :
    It w A env h (.Call (.Name "range" rp) [e, f] [] pos) (N - M).toNat (intsFrom M) (fun _ => False) := fun s Q E l q =>
  wpAny_Call_NameR ((ev_bi (x := "range") (v := .type "range") G l₀ rfl rfl (by decide) hg hb hk hl) s _ _ l fun v h1 tk1 l1 p1 => by
    cases p1
    refine Rows.callWith_type1 ((evs_cons (pos := pos) a (evs_cons b evs_nil stbI hs') stbI hs) _ _ _ (l.trans l1) fun vs h2 tk2 l2 p2 => ?_) hs hs2
    obtain ⟨_, _, rfl, ⟨t, rfl⟩, _, _, rfl, ⟨u, rfl⟩, rfl⟩ := p2
    refine call_range_2 ?_
    exact it_range_tail (s := s) (a := M) hh hM hN (l1.trans l2) rfl q)

theorem walks_mono {I : Addr} {fp wr : List Addr} {n : Nat} {P P' : Nat → Value → Prop} {St : Nat → Heap → Prop} (W : Walks PR w A I fp wr n P St) (k : ∀ i v, i < n → P i v → P' i v) : Walks PR w A I fp wr n P' St where
  sub := W.sub
  frame := W.frame
  item := fun i s Q E hi st hQ => W.item i s Q E hi st fun v h' tk p => hQ v h' tk (k i v hi p)
  done := W.done
  self := W.self
theorem it_made {t : Sem Value} {n : Nat} {P : Value → Heap → Prop} {PI : Nat → Value → Prop} {S : Addr → Prop} (hh : A.handled = none) (x : Tr w A h t P)
    (k : ∀ v h', le h h' → P v h' → ∃ a its, v = .ref a ∧ h'.IsList a its ∧ its.size = n ∧ (∀ (i : Nat) v, its[i]? = some v → PI i v) ∧ S a) : ItV w A h t n PI S := fun s Q E l q =>
  x s _ _ l fun v h1 tk1 l1 p1 => by
    obtain ⟨a, its, rfl, hl1, rfl, hP, hS⟩ := k v h1 (l.trans l1) p1
    have hne : a ≠ h1.objs.size := by obtain ⟨o, ho, _⟩ := hl1; exact Nat.ne_of_lt (Heap.lt_size ho)
    have lt : s.heap.get? h1.objs.size = none := notIn l1 (fresh_none _ (Nat.le_refl _))
    refine wpAny_pyIter_list hl1 ?_
    refine q _ [h1.objs.size, a] [h1.objs.size] _ _ _ (l1.trans (le_push _ _)) (walks_mono (Walks.list hh _ a hne its) fun i v _ e => hP i v e) ⟨⟨_, Heap.get?_push_size _ rfl, rfl, rfl⟩, List_le hl1 (le_push _ _)⟩ ?_ ?_ ?_ (fun i g x b hb => by rw [List.mem_singleton.mp hb]; obtain ⟨⟨o, e, _, hd⟩, _⟩ := x; exact ⟨o, e, noCode hd rfl⟩)
    · intro b hb
      rw [Heap.size_push]
      rcases List.mem_cons.mp hb with rfl | hb
      · exact Nat.lt_succ_self _
      · rw [List.mem_singleton.mp hb]
        obtain ⟨o, ho, _⟩ := hl1
        exact Nat.lt_succ_of_lt (Heap.lt_size ho)
    · intro b hb; rw [List.mem_singleton.mp hb]; exact lt
    · intro b hb
      rcases List.mem_cons.mp hb with rfl | hb
      · exact .inl lt
      · exact .inr (List.mem_singleton.mp hb ▸ hS)
theorem it_list {t : Sem Value} {a : Addr} {its : Array Value} (hh : A.handled = none) (x : Tr w A h t (isV (.ref a))) (hl : h.IsList a its) : ItV w A h t its.size (fun i v => its[i]? = some v) (· = a) :=
  it_made hh x fun v h' l p => ⟨a, its, p, List_le hl l, rfl, fun _ _ e => e, rfl⟩

theorem it_lt {t : Sem Value} {n : Nat} {P : Nat → Value → Prop} {S : Addr → Prop} (it : ItV w A h t n P S) : ItV w A h t n (fun i v => i < n ∧ P i v) S := fun s Q E l q =>
  it s Q E l fun I fp wr Wt h' tk l' W => q I fp wr Wt h' tk l' (walks_mono W fun i v hi p => ⟨hi, p⟩)

theorem it_str {t : Sem Value} {x : Str} (hh : A.handled = none) (ha : (x.cps.all fun c => decide (c < 128)) = true) (v : Tr w A h t (isS x)) : ItV w A h t x.cps.size (SignAt x) (fun _ => False) := fun s Q E l q =>
  v s _ _ l fun v h1 tk1 l1 ⟨t1, p1⟩ => by
    subst p1
    have lt : s.heap.get? h1.objs.size = none := by
      cases e : s.heap.get? h1.objs.size with
      | none => rfl
      | some o => exact absurd (Heap.lt_size (l1 _ _ e)) (Nat.lt_irrefl _)
    refine wpAny_pyIter_ascii ha ?_
    refine q _ [h1.objs.size] [h1.objs.size] _ _ _ (l1.trans (le_push _ _)) (Walks.strAscii hh _ x t1) ⟨_, Heap.get?_push_size _ rfl, rfl, rfl⟩ ?_ ?_ ?_ (fun i g x b hb => by rw [List.mem_singleton.mp hb]; obtain ⟨o, e, _, hd⟩ := x; exact ⟨o, e, noCode hd rfl⟩)
    · intro b hb; rw [List.mem_singleton.mp hb, Heap.size_push]; exact Nat.lt_succ_self _
    · intro b hb; rw [List.mem_singleton.mp hb]; exact lt
    · intro b hb; rw [List.mem_singleton.mp hb]; exact .inl lt

inductive Made (h : Heap) (n : Nat) (P : Nat → Value → Prop) (p : Value → Bool) (F : Value → Value → Prop) (u : Value) (h' : Heap) : Prop
  | mk (D : Addr) (ys : Array Value) (vs : List Value) (e : u = .ref D) (new : h.get? D = none) (l : h'.IsList D ys) (pl : h'.PlainList D ys) (len : vs.length = n) (hP : ∀ (j : Nat) v, vs[j]? = some v → P j v) (hF : Paired F (vs.filter p) ys.toList)
theorem stbMade {h : Heap} {n : Nat} {P : Nat → Value → Prop} {p : Value → Bool} {F : Value → Value → Prop} : Stb (Made h n P p F) := fun _ _ _ l ⟨D, ys, vs, e, a, b, ⟨nn, c⟩, d1, d2, d3⟩ => ⟨D, ys, vs, e, a, List_le b l, ⟨nn, l _ _ c⟩, d1, d2, d3⟩
theorem ev_comp {elt iter : Expr} {x : Str} {px pos : Pos} {ifs : List Expr} {scope : Scope} {cl : List (Str × Addr)} {n : Nat} {P : Nat → Value → Prop} {S : Addr → Prop} (p : Value → Bool) (F : Value → Value → Prop)
    (it : It w A env h iter n P S) (hsz : n ≤ sizeLine) (hclos : closureFor scope env = pure cl)
    (ht : ∀ C i v h₃ m₃, P i v → le h h₃ → h₃.Ns C m₃ → m₃ x = some v → TrB w A h₃ (forIn ifs true fun c r => if r = true then do let ok ← isTrue c (compEnvC scope cl C env) (eval c (compEnvC scope cl C env)); pure (ForInStep.yield ok) else pure (ForInStep.yield r)) (p v))
    (he : ∀ C i v h₃ m₃, P i v → p v = true → le h h₃ → h₃.Ns C m₃ → m₃ x = some v → Tr w A h₃ (eval elt (compEnvC scope cl C env)) (fun y _ => F v y))
    (hcell : ∀ y ∈ scope.names, y.2 ≠ .cell := by decide) (hkind : scope.kind = .function) (hnames : ∀ y ∈ scope.names, y.2 = .local → scope.names.lookup y.1 = some .local := by decide) (hx : scope.names.lookup x = some .local)
    (hs : ∀ x, foldedSetIterable iter env x = pure x := by intro _; rfl) :
    Ev w A env h (.ListComp elt [⟨.Name x px, iter, ifs, 0⟩] scope pos) (Made h n P p F) := fun s Q E l q => by
  refine wpAny_ListComp_free p F hclos hcell hkind hnames hx (it s _ _ l fun I fp wr St h' tk l' W st hfp hwr _ _ => ?_) hs
  have up : ∀ s₃ : Shared, (∀ b o, b ∉ wr → h'.get? b = some o → s₃.heap.get? b = some o) → le h s₃.heap := fun s₃ k b o e => k b o (fun hm => by have := hwr b hm; rw [l b o e] at this; cases this) (l' b o (l b o e))
  refine ⟨I, fp, wr, n, P, St, rfl, W, hsz, st, hfp, ⟨fun C i v s₃ m₃ E' _ hP hn hm k _ => ?_, fun C i v s₃ m₃ E' _ hP hp hn hm k _ => ?_⟩, fun D h₂ tk₂ ys vs hD hl hpl hlen hPj hF k => ?_⟩
  · exact ht C i v s₃.heap m₃ hP (up s₃ k) hn hm s₃ _ _ le.rfl fun h₄ tk₄ l₄ => ⟨rfl, h₄, tk₄, rfl, l₄⟩
  · exact he C i v s₃.heap m₃ hP hp (up s₃ k) hn hm s₃ _ _ le.rfl fun y h₄ tk₄ l₄ f => ⟨f, h₄, tk₄, rfl, l₄⟩
  · exact q _ h₂ tk₂ (fun b o e => k b o (fun hm => by have := hwr b hm; rw [e] at this; cases this) (l' b o e)) ⟨D, ys, vs, rfl, notIn (l.trans l') hD, hl, hpl, hlen, hPj, hF⟩

theorem tests0 {cenv : Env} : TrB w A h (forIn ([] : List Expr) true fun c r => if r = true then do let ok ← isTrue c cenv (eval c cenv); pure (ForInStep.yield ok) else pure (ForInStep.yield r)) true :=
  fun s Q E _ q => wpAny_tests_nil (q s.heap s.toks le.rfl)
theorem tests1 {cenv : Env} {c : Expr} {b : Bool} (a : Te w A cenv h c b) : TrB w A h (forIn [c] true fun c r => if r = true then do let ok ← isTrue c cenv (eval c cenv); pure (ForInStep.yield ok) else pure (ForInStep.yield r)) b :=
  fun s Q E l q => wpAny_tests_one (a s _ _ l q)

noncomputable def isLI (ns : List Int) : Value → Heap → Prop := fun u h => ∃ D ys, u = .ref D ∧ h.IsList D ys ∧ IntsAre ys.toList ns
theorem stbLI {ns : List Int} : Stb (isLI ns) := fun _ _ _ l ⟨D, ys, e, x, r⟩ => ⟨D, ys, e, List_le x l, r⟩

theorem ints_of {P : Nat → Value → Prop} {num : Nat → Int} (hP : ∀ j v, P j v → ∃ t, v = .int (num j) t) : ∀ (vs : List Value), (∀ j v, vs[j]? = some v → P j v) → IntsAre vs ((List.range vs.length).map num) := by
  intro vs
  induction vs generalizing P num with
  | nil => intro _; exact .nil
  | cons v vs ih =>
    intro h
    obtain ⟨t, rfl⟩ := hP 0 v (h 0 v rfl)
    rw [List.length_cons, List.range_succ_eq_map, List.map_cons, List.map_map]
    exact .cons _ _ (ih (P := fun j => P (j + 1)) (num := fun j => num (j + 1)) (fun j v => hP (j + 1) v) fun j v e => h (j + 1) v (by simpa using e))
theorem ints_filter {p' : Int → Bool} {p : Value → Bool} (hp : ∀ x t, p (.int x t) = p' x) : ∀ {vs : List Value} {ns : List Int}, IntsAre vs ns → IntsAre (vs.filter p) (ns.filter p') := by
  intro vs ns I
  induction I with
  | nil => exact .nil
  | cons n t _ ih =>
    rw [List.filter_cons, List.filter_cons, hp]
    split
    · exact .cons _ _ ih
    · exact ih
theorem ints_paired {f : Int → Int} {F : Value → Value → Prop} (hF : ∀ x t y, F (.int x t) y → ∃ u, y = .int (f x) u) : ∀ {vs ys : List Value} {ns : List Int}, IntsAre vs ns → Paired F vs ys → IntsAre ys (ns.map f) := by
  intro vs ys ns I
  induction I generalizing ys with
  | nil => intro h; cases h; exact .nil
  | cons n t _ ih =>
    intro h
    cases h with
    | cons a b =>
      obtain ⟨u, rfl⟩ := hF _ _ _ a
      exact .cons _ _ (ih b)

noncomputable def ip (p' : Int → Bool) : Value → Bool
  | .int x _ => p' x
  | _ => false
theorem ev_compI {elt iter : Expr} {x : Str} {px pos : Pos} {ifs : List Expr} {scope : Scope} {cl : List (Str × Addr)} {n : Nat} {P : Nat → Value → Prop} {S : Addr → Prop} {num : Nat → Int} (p' : Int → Bool) (f : Int → Int)
    (it : It w A env h iter n P S) (hP : ∀ j v, P j v → ∃ t, v = .int (num j) t) (hsz : n ≤ sizeLine) (hclos : closureFor scope env = pure cl)
    (ht : ∀ C i t h₃ m₃, P i (.int (num i) t) → le h h₃ → h₃.Ns C m₃ → m₃ x = some (.int (num i) t) → TrB w A h₃ (forIn ifs true fun c r => if r = true then do let ok ← isTrue c (compEnvC scope cl C env) (eval c (compEnvC scope cl C env)); pure (ForInStep.yield ok) else pure (ForInStep.yield r)) (p' (num i)))
    (he : ∀ C i t h₃ m₃, P i (.int (num i) t) → p' (num i) = true → le h h₃ → h₃.Ns C m₃ → m₃ x = some (.int (num i) t) → Tr w A h₃ (eval elt (compEnvC scope cl C env)) (isI (f (num i))))
    (hcell : ∀ y ∈ scope.names, y.2 ≠ .cell := by decide) (hkind : scope.kind = .function) (hnames : ∀ y ∈ scope.names, y.2 = .local → scope.names.lookup y.1 = some .local := by decide) (hx : scope.names.lookup x = some .local)
    (hs : ∀ x, foldedSetIterable iter env x = pure x := by intro _; rfl) :
    Ev w A env h (.ListComp elt [⟨.Name x px, iter, ifs, 0⟩] scope pos) (isLI ((((List.range n).map num).filter p').map f)) := by
  refine (ev_comp (ip p') (fun v y => ∀ x t, v = .int x t → ∃ u, y = .int (f x) u) it hsz hclos ?_ ?_ hcell hkind hnames hx hs).mono ?_
  · intro C i v h₃ m₃ hPv l n m
    obtain ⟨t, rfl⟩ := hP i v hPv
    exact ht C i t h₃ m₃ hPv l n m
  · intro C i v h₃ m₃ hPv hp l n m
    obtain ⟨t, rfl⟩ := hP i v hPv
    refine (he C i t h₃ m₃ hPv hp l n m).mono fun y h' _ ⟨u, e⟩ x t' e' => ?_
    cases e'
    exact ⟨u, e⟩
  · rintro v h' l ⟨D, ys, vs, rfl, _, hl, _, hlen, hPj, hF⟩
    refine ⟨D, ys, rfl, hl, ?_⟩
    have I := ints_of hP vs hPj
    rw [hlen] at I
    exact ints_paired (fun x t y h => h x t rfl) (ints_filter (p' := p') (fun x t => rfl) I) hF
end
end
end Mine

namespace Mine
set_option maxRecDepth 100000
set_option maxHeartbeats 8000000
noncomputable section

section
variable {w : World} {A : Around} {env : Env} {h : Heap} {mg mb : Str → Option Value} {H : Heap} {s : Shared} {E : Value → Shared → Prop}

theorem draw_list {it a : Addr} {its : Array Value} (hne : a ≠ it) : ∀ (n i : Nat) (s : Shared) (Q : List Value → Shared → Prop), s.heap.IsListIter it a i → s.heap.IsList a its → i + n ≤ its.size →
    (∀ h', h'.IsListIter it a (i + n) → Heap.SameBut it s.heap h' → Q ((its.toList.drop i).take n) { s with heap := h' }) → wpAny (model PR w) A (draw (.ref it) n) Q E s
  | 0, i, s, Q, hit, _, _, hQ => wpAny_pure (by simpa using hQ s.heap hit (Heap.SameBut.refl ..))
  | n + 1, i, s, Q, hit, ht, hle, hQ => by
    have hlt : i < its.size := by omega
    show wpAny _ _ (pyNext (.ref it) >>= _) Q E s
    refine wpAny_bind (wpAny_pyNext_list_item hit ht (x := its[i]) (by simp [hlt]) fun h₁ hit₁ hs₁ => ?_)
    refine wpAny_bind (wpAny_holding (draw_list hne n (i + 1) _ _ hit₁ (ht.extBut hs₁.extBut hne) (by omega) fun h₂ hit₂ hs₂ => wpAny_pure ?_))
    have hd : its.toList.drop i = its[i] :: its.toList.drop (i + 1) := by simp [List.drop_eq_getElem_cons, hlt]
    have := hQ h₂ (by rw [show i + (n + 1) = i + 1 + n by omega]; exact hit₂) (hs₁.trans hs₂)
    rw [hd, List.take_succ_cons] at this
    exact this

theorem unpack_list {a : Addr} {its : Array Value} {targets : List (Bool × (Value → Sem Unit))} {Q : Unit → Shared → Prop} (hh : A.handled = none) (hl : s.heap.IsList a its)
    (hn : targets.length = its.size) (hstar : targets.findIdx? (·.1) = none)
    (k : ∀ h', le s.heap h' → wpAny (model PR w) A (assignInOrder (targets.map (·.2)) its.toList) Q E { s with heap := h' }) : wpAny (model PR w) A (unpack (.ref a) targets) Q E s := by
  have hlt : a ≠ s.heap.objs.size := by obtain ⟨o, ho, _⟩ := hl; exact Nat.ne_of_lt (Heap.lt_size ho)
  unfold unpack
  rw [hn, hstar]
  refine wpAny_bind (wpAny_holding ?_)
  unfold unpackItems
  refine wpAny_bind ?_
  unfold notIterableAtAll
  refine wpAny_bind (wpAny_specialOf hl.typeIs slot_list_iter.lookup ?_)
  refine wpAny_pure ?_
  simp only [Bool.false_eq_true, if_false]
  refine wpAny_bind (wpAny_holding (wpAny_pyIter_list hl ?_))
  refine wpAny_bind (wpAny_holding (draw_list hlt its.size 0 _ _ ⟨_, Heap.get?_push_size _ rfl, rfl, rfl⟩ (hl.push _) (by omega) fun h₁ hit₁ hs₁ => ?_))
  have hall : List.take its.size (List.drop 0 its.toList) = its.toList := by
    rw [List.drop_zero]; exact List.take_of_length_le (by simp)
  rw [hall, if_neg (by simp)]
  have ht₁ : h₁.IsList a its := (hl.push _).extBut hs₁.extBut hlt
  refine wpAny_bind (wpAny_holding (wpAny_pyNext_list_end hh hit₁ ht₁ (by simp) fun h₂ he₂ => ?_))
  simp only [Option.isSome_none, Bool.false_eq_true, if_false]
  exact wpAny_pure (k h₂ fun b o e => he₂ b o (Nat.ne_of_lt (Heap.lt_size e)) (hs₁.extBut b o (Nat.ne_of_lt (Heap.lt_size e)) (Heap.get?_push_of_some _ e)))

theorem ev_cellI {x : Str} {pos : Pos} {c : Addr} {i : Int} {t : Tok} (n : h.IsCell c (some (.int i t))) (hc : env.cells.lookup x = some c)
    (hk : env.scope.kind = .function := by rfl) (hl : env.kindOf x = some .cell := by rfl) (hd : (x == ("__debug__" : Str)) = false := by rfl) :
    Ev w A env h (.Name x pos) (isI i) := (ev_cell n hc hk hl hd).mono fun _ _ _ e => ⟨t, e⟩
theorem off_cell {L c : Addr} {v : Option Value} (n : c ≠ L) : Off L (fun h => h.IsCell c v) := fun h h' _ k ⟨o, ho, r⟩ => ⟨o, k _ _ n ho, r⟩
theorem Cell_le {h h' : Heap} {c : Addr} {v : Option Value} (x : h.IsCell c v) (l : le h h') : h'.IsCell c v := let ⟨o, ho, r⟩ := x; ⟨o, l _ _ ho, r⟩

theorem tr_fnC {a : Addr} {name qual : Str} {params : Arguments} {body : List Stmt} {scope : Scope} {dV kV doc pm cdv ct oc : Value} {an od : Option Addr} {osl : Array (Option Value)} {vals : List Value} {binds : List (Str × Value)} {P : Value → Heap → Prop}
    (G : Gd w mg mb H) (l₀ : le H h) (hroom : A.depth < recursionLimit)
    (ho : (KK w).lookup a = some ⟨oc, od, .func (fnOf name qual params body scope dV kV doc pm an cdv ct), osl⟩) (hcd : codeIn (KK w) cdv qual = true)
    (hbind : bindArgs (fnOf name qual params body scope dV kV doc pm an cdv ct) ⟨vals, []⟩ = pure binds)
    (hkind : (binds.all fun y => scope.names.lookup y.1 == some .local || scope.names.lookup y.1 == some .cell) = true)
    (k : ∀ (s : Shared) (L : Addr) (h₁ : Heap) (tk : Nat), le h s.heap → L = s.heap.objs.size → h₁.Ns L (bindL (callEnvC (fnOf name qual params body scope dV kV doc pm an cdv ct) L a).kindOf binds fun _ => none) → le s.heap h₁ →
      (∀ n c, (cellsFrom (L + 1) scope.names []).lookup n = some c → h₁.IsCell c (bindC (callEnvC (fnOf name qual params body scope dV kV doc pm an cdv ct) L a).kindOf binds (fun _ => none) n)) →
      wpAny (model PR w) (A.deeper (callEnvC (fnOf name qual params body scope dV kV doc pm an cdv ct) L a)) (execs body (callEnvC (fnOf name qual params body scope dV kV doc pm an cdv ct) L a))
        (Ret s P) (fun _ _ => False) (St s h₁ tk))
    (hco : scope.isCoroutine = false) (hgen : scope.isGenerator = false) (hk : scope.kind = .function) :
    Tr w A h (call (.ref a) vals) P := fun s Q E l q => by
  refine wpAny_call (codeAny_call_cells (fd := fnOf name qual params body scope dV kV doc pm an cdv ct) hroom (l _ _ (l₀ _ _ (G.X _ _ ho))) rfl (G.lim.keeps (l₀.trans l)) (codeRec_of (G.X.keeps (l₀.trans l)) hcd) rfl hbind rfl (kindsX hkind _) (fun s₁ I => ?_) hco hgen hk)
  obtain ⟨h₁, tk, rfl⟩ := I.toInCall.same
  refine wpAny_mono (k s _ h₁ tk l rfl I.toInCall.ns I.toInCall.keep I.cell) (fun f s' hf => ?_) fun _ _ e => e.elim
  obtain ⟨v, h', tk', rfl, rfl, l', p⟩ := hf
  exact q v h' tk' l' p

theorem x_unpack4 {m : Str → Option Value} {R : Heap → Prop} {rest : List Stmt} {tk : Nat} {Q : Flow → Shared → Prop} {xa xb xc xd : Str} {pa pb pc pd tpos pos : Pos} {kk : Nat} {value : Expr} {a b c d : Int}
    (hh : A.handled = none) (F : FS env.locals m R h) (o : Off env.locals R) (v : Ev w A env h value (isLI [a, b, c, d]))
    (k : ∀ ta tb tc td h2 tk', FS env.locals (fun y => if y = xd then some (.int d td) else if y = xc then some (.int c tc) else if y = xb then some (.int b tb) else if y = xa then some (.int a ta) else m y) R h2 → wpAny (model PR w) A (execs rest env) Q E (St s h2 tk'))
    (h1 : swapsWithSole [.Tuple [.Name xa pa, .Name xb pb, .Name xc pc, .Name xd pd] kk tpos] value pos.line env = pure false)
    (h2 : swappedStores [.Tuple [.Name xa pa, .Name xb pb, .Name xc pc, .Name xd pd] kk tpos] value env = pure none)
    (ka : env.kindOf xa = some .local) (kb : env.kindOf xb = some .local) (kc : env.kindOf xc = some .local) (kd : env.kindOf xd = some .local)
    (hp : (env.scope.kind == .class || (env.scope.kind == .module && env.locals != env.globals)) = false) :
    wpAny (model PR w) A (execs (.Assign [.Tuple [.Name xa pa, .Name xb pb, .Name xc pc, .Name xd pd] kk tpos] value pos :: rest) env) Q E (St s h tk) := by
  refine wpAny_execs_cons (Rows.Assign_Tuple (v _ _ _ le.rfl fun u g1 tk1 l1 p1 => ?_) h1 h2)
  obtain ⟨D, ys, rfl, hl, I⟩ := p1
  rw [arm_assign_Tuple]
  obtain ⟨ys⟩ := ys
  cases I with | cons _ ta I =>
  cases I with | cons _ tb I =>
  cases I with | cons _ tc I =>
  cases I with | cons _ td I =>
  cases I
  refine wpAny_bind (wpAny_standAt (unpack_list hh hl rfl rfl fun g2 l2 => ?_))
  have n2 := Ns_le F.ns (l1.trans l2)
  refine wpAny_assignInOrder_more (wpAny_assign_Name (wpAny_storeName_local ka n2 (fun g3 n3 s3 => ?_) hp))
  refine wpAny_assignInOrder_more (wpAny_assign_Name (wpAny_storeName_local kb n3 (fun g4 n4 s4 => ?_) hp))
  refine wpAny_assignInOrder_more (wpAny_assign_Name (wpAny_storeName_local kc n4 (fun g5 n5 s5 => ?_) hp))
  refine wpAny_assignInOrder_more (wpAny_assign_Name (wpAny_storeName_local kd n5 (fun g6 n6 s6 => ?_) hp))
  refine wpAny_assignInOrder_none (k ta tb tc td g6 _ ⟨n6, ?_⟩)
  exact o g2 g6 ⟨m, n2⟩ (((off.of_same s3).trans (off.of_same s4)).trans ((off.of_same s5).trans (off.of_same s6))) (o.up F.ns (l1.trans l2) F.r)

noncomputable def others (i j : Int) : List Int := ((List.range 6).map fun k : Nat => (k : Int)).filter fun x => x != i && x != j
noncomputable def byOne (W : Int → Int → Int) (i j : Int) : Int := match others i j with
  | [a, b, c, d] => led W i j a b * led W i j c d - led W i j a c * led W i j b d + led W i j a d * led W i j b c
  | _ => 0
noncomputable def in6 (x : Int) : Bool := decide (0 ≤ x ∧ x < 6)
noncomputable def oth4 (l : List Int) : Bool := l.length == 4 && l.all in6
theorem oth_all : ∀ i j : Fin 6, i.val < j.val → oth4 (others i.val j.val) = true := by decide +kernel
theorem oth_of {l : List Int} (h : oth4 l = true) : ∃ a b c d, l = [a, b, c, d] ∧ (0 ≤ a ∧ a < 6) ∧ (0 ≤ b ∧ b < 6) ∧ (0 ≤ c ∧ c < 6) ∧ (0 ≤ d ∧ d < 6) := by
  have h := Bool.and_eq_true_iff.mp h
  have hl := eq_of_beq h.1
  have ha := List.all_eq_true.mp h.2
  have g : ∀ n (hn : n < l.length), 0 ≤ l[n] ∧ l[n] < 6 := fun n hn => of_decide_eq_true (ha _ (List.getElem_mem hn))
  refine ⟨l[0], l[1], l[2], l[3], List.ext_getElem (show l.length = 4 from hl) fun n h1 _ => ?_, g 0 (by rw [hl]; decide), g 1 (by rw [hl]; decide), g 2 (by rw [hl]; decide), g 3 (by rw [hl]; decide)⟩
  have h4 : n < 4 := hl ▸ h1
  match n, h4 with
  | 0, _ => rfl
  | 1, _ => rfl
  | 2, _ => rfl
  | 3, _ => rfl
theorem others_is {i j : Int} (hi : 0 ≤ i) (hij : i < j) (hj : j < 6) : ∃ a b c d, others i j = [a, b, c, d] ∧ (0 ≤ a ∧ a < 6) ∧ (0 ≤ b ∧ b < 6) ∧ (0 ≤ c ∧ c < 6) ∧ (0 ≤ d ∧ d < 6) := by
  obtain ⟨i, rfl⟩ := Int.eq_ofNat_of_zero_le hi
  obtain ⟨j, rfl⟩ := Int.eq_ofNat_of_zero_le (Int.le_trans hi (Int.le_of_lt hij))
  have hij := Int.ofNat_lt.mp hij
  have hj : j < 6 := Int.ofNat_lt.mp hj
  exact oth_of (oth_all ⟨i, Nat.lt_trans hij hj⟩ ⟨j, hj⟩ hij)

theorem abs3 {x y z : Int} {n : Nat} (hx : x.natAbs < n) (hy : y.natAbs < n) (hz : z.natAbs < n) : (x - y + z).natAbs < 3 * n := by omega
theorem abs2 {x y : Int} {n : Nat} (hx : x.natAbs < n) (hy : y.natAbs < n) : (x * y).natAbs < n * n := by
  rw [Int.natAbs_mul]; exact Nat.mul_lt_mul'' hx hy
theorem led_small {W : Int → Int → Int} (hW : ∀ i j, (W i j).natAbs < 1000) (i j k m : Int) : (led W i j k m).natAbs < 4000000 :=
  Nat.lt_trans (abs3 (abs2 (hW i j) (hW k m)) (abs2 (hW i k) (hW j m)) (abs2 (hW i m) (hW j k))) (by decide)

theorem ev_led {W : Int → Int → Int} {p pos : Pos} {e1 e2 e3 e4 e5 : Expr} {i j k m : Int} (G : Gd w mg mb H) (l₀ : le H h) (hroom : A.depth < recursionLimit) (hW : ∀ i j, (W i j).natAbs < 1000)
    (a1 : Ev w A env h e1 (Mat W)) (a2 : Ev w A env h e2 (isI i)) (a3 : Ev w A env h e3 (isI j)) (a4 : Ev w A env h e4 (isI k)) (a5 : Ev w A env h e5 (isI m))
    (hi : 0 ≤ i ∧ i < 6) (hj : 0 ≤ j ∧ j < 6) (hk : 0 ≤ k ∧ k < 6) (hm : 0 ≤ m ∧ m < 6)
    (hg : env.globals = mainGlobals) (hfk : env.scope.kind = .function) (hl : env.kindOf "_law_led" = some .globalImplicit)
    (s1 : starEach [e1, e2, e3, e4, e5] env = (false, eval e1 env) :: starEach [e2, e3, e4, e5] env) (s2 : starEach [e2, e3, e4, e5] env = (false, eval e2 env) :: starEach [e3, e4, e5] env)
    (s3 : starEach [e3, e4, e5] env = (false, eval e3 env) :: starEach [e4, e5] env) (s4 : starEach [e4, e5] env = (false, eval e4 env) :: starEach [e5] env) (s5 : starEach [e5] env = (false, eval e5 env) :: starEach [] env) :
    Ev w A env h (.Call (.Name "_law_led" p) [e1, e2, e3, e4, e5] [] pos) (isI (led W i j k m)) := by
  refine ev_call (ev_glob G l₀ rfl hg hfk hl) (l₀ _ _ (G.X _ _ rfl)) rfl (evs_cons a1 (evs_cons a2 (evs_cons a3 (evs_cons a4 (evs_cons a5 evs_nil stbI s5) stbI s4) stbI s3) stbI s2) stbM s1) ?_ s1
  rintro vs h' l' ⟨_, _, rfl, S', _, _, rfl, ⟨_, rfl⟩, _, _, rfl, ⟨_, rfl⟩, _, _, rfl, ⟨_, rfl⟩, _, _, rfl, ⟨_, rfl⟩, rfl⟩
  exact led_spec G (l₀.trans l') hroom hW S' hi hj hk hm

theorem by_spec {W : Int → Int → Int} (G : Gd w mg mb H) (l₀ : le H h) (hroom : A.depth + 1 < recursionLimit) (hh : A.handled = none) (hW : ∀ i j, (W i j).natAbs < 1000) {v : Value} {i j : Int} {t1 t2 : Tok} (hv : Mat W v h)
    (hi : 0 ≤ i) (hij : i < j) (hj : j < 6) : Tr w A h (call (.ref 104) [v, .int i t1, .int j t2]) (isI (byOne W i j)) := by
  refine tr_fnC (hco := rfl) (hgen := rfl) (hk := rfl) (binds := [("rows", v), ("i", .int i t1), ("j", .int j t2)]) G l₀ (dle (j := 0) hroom rfl) rfl rfl rfl rfl (fun s L h₁ tk ls hL N l₁ cells => ?_)
  have ci : h₁.IsCell (L + 1) (some (.int i t1)) := cells "i" (L + 1) rfl
  have cj : h₁.IsCell (L + 2) (some (.int j t2)) := cells "j" (L + 2) rfl
  have F : FS L _ (fun h' => le s.heap h' ∧ h'.IsCell (L + 1) (some (.int i t1)) ∧ h'.IsCell (L + 2) (some (.int j t2))) h₁ := ⟨N, l₁, ci, cj⟩
  have o : Off L (fun h' => le s.heap h' ∧ h'.IsCell (L + 1) (some (.int i t1)) ∧ h'.IsCell (L + 2) (some (.int j t2))) :=
    off_and (off_le (fresh_none _ (by rw [hL]; exact Nat.le_refl _))) (off_and (off_cell (Nat.ne_of_gt (by omega))) (off_cell (Nat.ne_of_gt (by omega))))
  obtain ⟨a, b, c, d, eo, ha, hb, hc, hd⟩ := others_is hi hij hj
  have g1 := l₀.trans (ls.trans l₁)
  refine x_unpack4 (h1 := rfl) (h2 := rfl) (ka := rfl) (kb := rfl) (kc := rfl) (kd := rfl) (hp := rfl) (a := a) (b := b) (c := c) (d := d) hh F o ?_ fun ta tb tc td h2 tk2 F => ?_
  · refine Tr.mono (ev_compI (hkind := rfl) (hx := rfl) (num := fun k => 0 + (k : Int) * 1) (fun x => x != i && x != j) (fun x => x) (it_range1 (hg := rfl) (hb := rfl) (hk := rfl) (hl := rfl) (hs := rfl) (N := 6) G g1 hh ev_int (by decide)) (fun j v h => h) (by decide) rfl (fun C k t h₃ m₃ hP l n hm => ?_) (fun C k t h₃ m₃ hP _ l n hm => ?_)) fun u h' l p => ?_
    · refine tests1 (te_and (te_ne (ev_locI n hm) (ev_cellI (Cell_le ci l) rfl)) fun _ => te_ne (ev_locI n hm) (ev_cellI (Cell_le cj l) rfl))
    · exact ev_locI n hm
    · have e : ((((List.range (6 - 0 : Int).toNat).map fun k : Nat => 0 + (k : Int) * 1).filter fun x => x != i && x != j).map fun x => x) = [a, b, c, d] := by
        rw [← eo]
        unfold others
        rw [List.map_id']
        rfl
      rw [← e]; exact p
  have M : Mat W v h2 := stbM _ _ _ (ls.trans F.r.1) hv
  have g2 := l₀.trans (ls.trans F.r.1)
  have rm : ∀ env, (A.deeper env).depth < recursionLimit := fun _ => hroom
  have hi6 : 0 ≤ i ∧ i < 6 := ⟨hi, by omega⟩
  have hj6 : 0 ≤ j ∧ j < 6 := ⟨by omega, hj⟩
  have sm := led_small hW
  have s64 : ∀ k m, (led W i j k m).natAbs < 2 ^ 64 := fun k m => Nat.lt_trans (sm i j k m) (by decide)
  refine x_int F o (ev_mul (ev_led (hg := rfl) (hfk := rfl) (hl := rfl) (s1 := rfl) (s2 := rfl) (s3 := rfl) (s4 := rfl) (s5 := rfl) G g2 (rm _) hW (ev_locP F.ns rfl M stbM) (ev_cellI F.r.2.1 rfl) (ev_cellI F.r.2.2 rfl) (ev_locI F.ns rfl) (ev_locI F.ns rfl) hi6 hj6 ha hb)
    (ev_led (hg := rfl) (hfk := rfl) (hl := rfl) (s1 := rfl) (s2 := rfl) (s3 := rfl) (s4 := rfl) (s5 := rfl) G g2 (rm _) hW (ev_locP F.ns rfl M stbM) (ev_cellI F.r.2.1 rfl) (ev_cellI F.r.2.2 rfl) (ev_locI F.ns rfl) (ev_locI F.ns rfl) hi6 hj6 hc hd) (s64 _ _)) fun t3 h3 tk3 F => ?_
  have M : Mat W v h3 := stbM _ _ _ (ls.trans F.r.1) hv
  have g3 := l₀.trans (ls.trans F.r.1)
  refine x_isub (hl := rfl) (hk := rfl) (hp := rfl) F o rfl (ev_mul (ev_led (hg := rfl) (hfk := rfl) (hl := rfl) (s1 := rfl) (s2 := rfl) (s3 := rfl) (s4 := rfl) (s5 := rfl) G g3 (rm _) hW (ev_locP F.ns rfl M stbM) (ev_cellI F.r.2.1 rfl) (ev_cellI F.r.2.2 rfl) (ev_locI F.ns rfl) (ev_locI F.ns rfl) hi6 hj6 ha hc)
    (ev_led (hg := rfl) (hfk := rfl) (hl := rfl) (s1 := rfl) (s2 := rfl) (s3 := rfl) (s4 := rfl) (s5 := rfl) G g3 (rm _) hW (ev_locP F.ns rfl M stbM) (ev_cellI F.r.2.1 rfl) (ev_cellI F.r.2.2 rfl) (ev_locI F.ns rfl) (ev_locI F.ns rfl) hi6 hj6 hb hd) (s64 _ _)) fun t4 h4 tk4 F => ?_
  have M : Mat W v h4 := stbM _ _ _ (ls.trans F.r.1) hv
  have g4 := l₀.trans (ls.trans F.r.1)
  refine x_iadd F o rfl (ev_mul (ev_led (hg := rfl) (hfk := rfl) (hl := rfl) (s1 := rfl) (s2 := rfl) (s3 := rfl) (s4 := rfl) (s5 := rfl) G g4 (rm _) hW (ev_locP F.ns rfl M stbM) (ev_cellI F.r.2.1 rfl) (ev_cellI F.r.2.2 rfl) (ev_locI F.ns rfl) (ev_locI F.ns rfl) hi6 hj6 ha hd)
    (ev_led (hg := rfl) (hfk := rfl) (hl := rfl) (s1 := rfl) (s2 := rfl) (s3 := rfl) (s4 := rfl) (s5 := rfl) G g4 (rm _) hW (ev_locP F.ns rfl M stbM) (ev_cellI F.r.2.1 rfl) (ev_cellI F.r.2.2 rfl) (ev_locI F.ns rfl) (ev_locI F.ns rfl) hi6 hj6 hb hc) (s64 _ _)) fun t5 h5 tk5 F => ?_
  refine x_ret F o (ev_locI F.ns rfl) fun v h6 tk6 F p => ⟨v, h6, tk6, rfl, rfl, F.r.1, ?_⟩
  unfold byOne
  rw [eo]
  exact p
end
end
end Mine

namespace Mine
set_option maxRecDepth 100000
set_option maxHeartbeats 8000000
noncomputable section

section
variable {w : World} {A : Around} {env : Env} {h : Heap} {mg mb : Str → Option Value} {H : Heap} {s : Shared} {E : Value → Shared → Prop}

theorem ev_bits {o : Expr} {apos pos : Pos} {x : Int} (a : Ev w A env h o (isI x))
    (hbase : attributeBase o "bit_length" env (eval o env) = eval o env) (hline : (apos.endLine == pos.line) = true) :
    Ev w A env h (.Call (.Attribute o "bit_length" apos) [] [] pos) (isI (Builtin.Int.intBits x)) :=
  fun s Q E l₀ q => wpAny_Call_method0_late hbase hline (a s _ _ l₀ fun ov h1 tk1 l1 ⟨t, p1⟩ => by
    subst p1
    refine ⟨"int", "int.bit_length", F.plainAttrs_int, F.slot_int_bit_length, F.type_int_bit_length, typeIs_int _ x t, (fun a e => nomatch e), ?_⟩
    exact callWith_method0 (env := env) (Rows.call_int_bit_length (q _ h1 _ l1 ⟨_, rfl⟩)))

theorem ev_callB {f : Str} {id : String} {p pos : Pos} {e : Expr} {es : List Expr} {PL : List Value → Heap → Prop} {P : Value → Heap → Prop}
    (n : Ev w A env h (.Name f p) (isV (.builtin id))) (b : Evs w A env h pos (e :: es) PL)
    (k : ∀ vs h', le h h' → PL vs h' → Tr w A h' (call (.builtin id) vs) P) (hs : starEach (e :: es) env = (false, eval e env) :: starEach es env := by rfl) (hp : ((backTo pos (starEach es env)).any (·.1)) = false := by rfl) :
    Ev w A env h (.Call (.Name f p) (e :: es) [] pos) P :=
  fun s Q E l₀ q => wpAny_Call_NameR (n s _ _ l₀ fun v h1 tk1 l1 p1 => by
    cases p1
    exact Rows.callWith_builtin1 (b _ _ _ (l₀.trans l1) fun vs h2 tk2 l2 p2 => k vs h2 (l₀.trans (l1.trans l2)) p2 _ _ _ le.rfl fun v h3 tk3 l3 p3 => q v h3 tk3 (l1.trans (l2.trans l3)) p3) hs hp)

noncomputable def isT2 (x y : Int) : Value → Heap → Prop := fun v h => ∃ p t u, v = .ref p ∧ h.IsTuple p #[.int x t, .int y u]
theorem Tuple_le {h h' : Heap} {a : Addr} {its : Array Value} (x : h.IsTuple a its) (l : le h h') : h'.IsTuple a its := let ⟨o, ho, r⟩ := x; ⟨o, l _ _ ho, r⟩
theorem stbT2 {x y : Int} : Stb (isT2 x y) := fun _ _ _ l ⟨p, t, u, e, k⟩ => ⟨p, t, u, e, Tuple_le k l⟩

theorem div2_spec (G : Gd w mg mb H) (l₀ : le H h) (hroom : A.depth < recursionLimit) {a b n : Int} {t1 t2 t3 : Tok} (hb : b ≠ 0) (hb' : b.natAbs < 1073741824) (ha : (Builtin.Int.intBits a : Int) - n ≤ 4000) :
    Tr w A h (call (.ref 28) [.int a t1, .int b t2, .int n t3]) (isT2 (a.fdiv b) (a.fmod b)) := by
  refine tr_fn (hco := rfl) (hgen := rfl) (hk := rfl) (binds := [("a", .int a t1), ("b", .int b t2), ("n", .int n t3)]) G l₀ hroom rfl rfl rfl (fun s L h₁ tk ls hL F => ?_) (hloc := locs rfl)
  have g1 := l₀.trans (ls.trans F.r)
  refine x_if F (off_le hL) ((te_le (y := 4000) (ev_sub (ev_bits (hbase := rfl) (hline := rfl) (ev_locI F.ns rfl)) (ev_locI F.ns rfl)) (Tr.mono (ev_glob G g1 rfl) fun _ _ _ e => ⟨_, e⟩)).eq (decide_eq_true ha)) (fun _ h2 tk2 F => ?_) (fun e => by cases e)
  have g2 := l₀.trans (ls.trans F.r)
  refine x_ret F (off_le hL) (P := isT2 (a.fdiv b) (a.fmod b)) (ev_callB (ev_bi G g2 rfl rfl) (evs_cons (ev_locI F.ns rfl) (evs_cons (ev_locI F.ns rfl) evs_nil stbI) stbI) ?_) fun v h3 tk3 F p => ⟨v, h3, tk3, rfl, rfl, F.r, p⟩
  rintro vs h' l' ⟨_, _, rfl, ⟨_, rfl⟩, _, _, rfl, ⟨_, rfl⟩, rfl⟩
  exact fun s Q E l q => Rows.divmod_int hb (q _ _ _ (le_push _ _) ⟨_, _, _, rfl, _, Heap.get?_push_size _ rfl, rfl, _, rfl⟩) (Or.inl (noPylong_small hb'))
end
end
end Mine

namespace Mine
set_option maxRecDepth 100000
set_option maxHeartbeats 8000000
noncomputable section

theorem mid_half {P R : Nat} (h : P < R) (e : ¬ P + 1 = R) : P < (P + R) / 2 ∧ (P + R) / 2 < R := by omega
theorem mid_d {P R d M : Nat} (hd : R - P = d) (h : P < M ∧ M < R) : R - M < d ∧ M - P < d ∧ R - M + (M - P) = d :=
  hd ▸ ⟨Nat.sub_lt_sub_left (Nat.lt_trans h.1 h.2) h.1, Nat.sub_lt_sub_right (Nat.le_of_lt h.1) h.2, Nat.sub_add_sub_cancel (Nat.le_of_lt h.2) (Nat.le_of_lt h.1)⟩
theorem mid_k {k x y d : Nat} (hk : k < d) (hn : ¬ k < x) (e : y + x = d) : k - x < y := by omega
theorem mid_p {P M k : Nat} (h : P < M) (hn : ¬ k < M - P) : P + k = M + (k - (M - P)) := by omega
theorem mid_i {P M k : Nat} (h : k < M - P) : P + k < M := by omega
theorem mid_abs {P M R s : Nat} (h : M < R) (h' : P < M) (hR : R ≤ s) (hs : s ≤ 200) : ((M : Int) - P).natAbs < 2 ^ 64 := by omega
theorem mid_200 {P M R s : Nat} (h : M < R) (hR : R ≤ s) (hs : s ≤ 200) : M - P ≤ 200 := by omega
theorem ceil_ge {b n : Nat} (hn : 0 < n) : b ≤ n * ((b + n - 1) / n) := by
  have h1 := Nat.div_add_mod (b + n - 1) n
  have h2 := Nat.mod_lt (b + n - 1) hn
  omega
theorem cast_of {P R : Nat} (h : ((P : Int) + 1 == (R : Int)) = true) : R = P + 1 := by simp only [beq_iff_eq] at h; omega
theorem cast_ne {P R : Nat} (h : ((P : Int) + 1 == (R : Int)) = false) : ¬ P + 1 = R := fun q => by simp [← q] at h
theorem small_cast {x k : Nat} (h : x ≤ k) (hk : Nat.ble k 1000000 = true) : 0 ≤ (x : Int) ∧ (x : Int) ≤ 1000000 := by have := Nat.le_of_ble_eq_true hk; omega
theorem cast63 {x k : Nat} (h : x ≤ k) (hk : Nat.ble k 1000000 = true) : (x : Int) < 2 ^ 63 := by have := Nat.le_of_ble_eq_true hk; omega
theorem sm60 {n : Nat} (h0 : 0 < n) (h : n ≤ 60) : (n : Int) ≠ 0 ∧ (n : Int).natAbs < 1073741824 := by omega
theorem sm120 {d : Nat} (h : d ≤ 120) : 0 ≤ (d : Int) ∧ (d : Int) < 2 ^ 20 := by omega
theorem mid_ne {P R i : Nat} (h : P < R) (hi : i < P ∨ R ≤ i) : ¬ P = i := fun q => hi.elim (fun k => Nat.lt_irrefl _ (q ▸ k)) fun k => absurd h (Nat.not_lt.mpr (q ▸ k))
theorem and_high (a s : Nat) : a &&& (a / 2 ^ s * 2 ^ s) = a / 2 ^ s * 2 ^ s := by
  rw [← Nat.shiftRight_eq_div_pow, ← Nat.shiftLeft_eq]
  apply Nat.eq_of_testBit_eq
  intro i
  rw [Nat.testBit_and, Nat.testBit_shiftLeft, Nat.testBit_shiftRight]
  by_cases h : i < s
  · have h' : ¬ s ≤ i := by omega
    simp [h']
  · have h' : s ≤ i := by omega
    have : s + (i - s) = i := by omega
    simp [h', this]
theorem dig_low (x s n k : Nat) (h : n * k + n ≤ s) : x % 2 ^ s / 2 ^ (n * k) % 2 ^ n = x / 2 ^ (n * k) % 2 ^ n := by
  apply Nat.eq_of_testBit_eq
  intro i
  rw [← Nat.shiftRight_eq_div_pow, ← Nat.shiftRight_eq_div_pow, Nat.testBit_mod_two_pow, Nat.testBit_mod_two_pow, Nat.testBit_shiftRight, Nat.testBit_shiftRight, Nat.testBit_mod_two_pow]
  by_cases hi : i < n
  · have : n * k + i < s := by omega
    simp [hi, this]
  · simp [hi]
theorem dig_high (x n j k : Nat) : x / 2 ^ (n * j) / 2 ^ (n * k) % 2 ^ n = x / 2 ^ (n * (j + k)) % 2 ^ n := by
  rw [Nat.div_div_eq_div_mul, ← Nat.pow_add, ← Nat.mul_add]
theorem fdiv_nat (a b : Nat) : (a : Int).fdiv (b : Int) = ((a / b : Nat) : Int) := by
  rw [Int.fdiv_eq_ediv_of_nonneg _ (by omega)]; rfl
theorem fmod_nat (a b : Nat) : (a : Int).fmod (b : Int) = ((a % b : Nat) : Int) := by
  rw [Int.fmod_eq_emod_of_nonneg _ (by omega)]; rfl
theorem pow_cast (s : Nat) : (2 : Int) ^ s = ((2 ^ s : Nat) : Int) := by rw [Int.natCast_pow]; rfl
theorem xor_low (a s : Nat) : Builtin.bitXor (a : Int) (((a / 2 ^ s : Nat) : Int) * 2 ^ s) = ((a % 2 ^ s : Nat) : Int) := by
  rw [bitXor_and]
  have e : ((a / 2 ^ s : Nat) : Int) * 2 ^ s = ((a / 2 ^ s * 2 ^ s : Nat) : Int) := by rw [pow_cast, Int.natCast_mul]
  rw [e]
  have b : Builtin.bitAnd (a : Int) ((a / 2 ^ s * 2 ^ s : Nat) : Int) = ((a / 2 ^ s * 2 ^ s : Nat) : Int) := by
    unfold Builtin.bitAnd
    rw [decide_eq_true (by omega), decide_eq_true (by omega)]
    show ((_ &&& _ : Nat) : Int) = _
    rw [Int.toNat_natCast, Int.toNat_natCast, and_high]
  rw [b]
  have := Nat.div_add_mod' a (2 ^ s)
  omega

noncomputable def digit (n x k : Nat) : Nat := x / 2 ^ (n * k) % 2 ^ n
noncomputable def val (n : Nat) : List Int → Int
  | [] => 0
  | d :: r => d + val n r * 2 ^ n
theorem val_append (n : Nat) : ∀ (l r : List Int), val n (l ++ r) = val n l + val n r * 2 ^ (n * l.length)
  | [], r => by simp [val]
  | d :: l, r => by
    rw [List.cons_append, val, val, val_append n l r, List.length_cons, Nat.mul_succ, Int.pow_add, Int.add_mul, Int.mul_assoc, Int.add_assoc]
end
end Mine

namespace Mine
set_option maxRecDepth 100000
set_option maxHeartbeats 8000000
noncomputable section

noncomputable def TS (h : Heap) (P : Addr) (line col : Nat) (qual : Str) : Prop :=
  ∃ ps, h.get? P = some (tabObj ps) ∧ (ps = #[] ∨ ∃ c, ps = #[rawInt line, rawInt col, .ref c] ∧ h.CodeRec (.ref c) qual)
noncomputable def q37 : Str := "_int2digits.<locals>.inner"
noncomputable def q44 : Str := "_digits2int.<locals>.inner"
noncomputable def TabOK (h : Heap) : Prop := TS h 37 62 4 q37 ∧ TS h 44 77 4 q44

theorem CodeRec_le {h h' : Heap} {v : Value} {q : Str} (x : h.CodeRec v q) (l : le h h') : h'.CodeRec v q := let ⟨c, o, vs, t, e, ho, r⟩ := x; ⟨c, o, vs, t, e, l _ _ ho, r⟩
theorem TS.le {h h' : Heap} {P : Addr} {line col : Nat} {qual : Str} (x : TS h P line col qual) (l : le h h') : TS h' P line col qual :=
  let ⟨ps, e, r⟩ := x; ⟨ps, l _ _ e, r.imp id fun ⟨c, e1, k⟩ => ⟨c, e1, CodeRec_le k l⟩⟩
theorem TabOK.le {h h' : Heap} (x : TabOK h) (l : le h h') : TabOK h' := ⟨x.1.le l, x.2.le l⟩

noncomputable def leT (h h' : Heap) : Prop := ∀ b o, b ≠ 37 → b ≠ 44 → h.get? b = some o → h'.get? b = some o
theorem leT.of {h h' : Heap} (l : le h h') : leT h h' := fun b o _ _ e => l b o e
theorem leT.trans {h₁ h₂ h₃ : Heap} (a : leT h₁ h₂) (b : leT h₂ h₃) : leT h₁ h₃ := fun x o n m e => b x o n m (a x o n m e)

section
variable {w : World} {A : Around} {env : Env} {h : Heap} {mg mb : Str → Option Value} {H : Heap} {s : Shared} {E : Value → Shared → Prop}

theorem Gd.up {h' : Heap} (G : Gd w mg mb H) (l₀ : le H h) (l : leT h h') : le H h' := fun b o e =>
  l b o (fun q => by rw [q, G.h37] at e; cases e) (fun q => by rw [q, G.h44] at e; cases e) (l₀ b o e)
theorem tab_ne {h : Heap} (T : TabOK h) {b : Addr} {o : Obj} (e : h.get? b = some o) (ho : ∀ ps, o ≠ tabObj ps) : b ≠ 37 ∧ b ≠ 44 :=
  ⟨fun q => by obtain ⟨ps, e', _⟩ := T.1; rw [q, e'] at e; cases e; exact ho _ rfl, fun q => by obtain ⟨ps, e', _⟩ := T.2; rw [q, e'] at e; cases e; exact ho _ rfl⟩
theorem get_leT {h h' : Heap} (T : TabOK h) (l : leT h h') {b : Addr} {o : Obj} (e : h.get? b = some o) (ho : ∀ ps, o ≠ tabObj ps) : h'.get? b = some o :=
  l b o (tab_ne T e ho).1 (tab_ne T e ho).2 e
theorem Ns_leT {h h' : Heap} {a : Addr} {m : Str → Option Value} (T : TabOK h) (n : h.Ns a m) (l : leT h h') : h'.Ns a m :=
  let ⟨o, es, ep, e, d, r⟩ := n; ⟨o, es, ep, get_leT T l e (fun ps q => by rw [q] at d; cases d), d, r⟩
theorem List_leT {h h' : Heap} {a : Addr} {its : Array Value} (T : TabOK h) (n : h.IsList a its) (l : leT h h') : h'.IsList a its :=
  let ⟨o, e, c, k, d⟩ := n; ⟨o, get_leT T l e (fun ps q => by rw [q] at d; cases d), c, k, d⟩
theorem Tuple_leT {h h' : Heap} {a : Addr} {its : Array Value} (T : TabOK h) (n : h.IsTuple a its) (l : leT h h') : h'.IsTuple a its :=
  let ⟨o, e, c, k, d⟩ := n; ⟨o, get_leT T l e (fun ps q => by rw [q] at d; cases d), c, k, d⟩
theorem Cell_leT {h h' : Heap} {a : Addr} {v : Option Value} (T : TabOK h) (n : h.IsCell a v) (l : leT h h') : h'.IsCell a v :=
  let ⟨o, e, d⟩ := n; ⟨o, get_leT T l e (fun ps q => by rw [q] at d; cases d), d⟩

inductive RetT (s : Shared) (P : Value → Heap → Prop) (f : Flow) (s' : Shared) : Prop
  | mk (v : Value) (h' : Heap) (tk' : Nat) (e : f = .ret v) (e' : s' = St s h' tk') (l : leT s.heap h') (T : TabOK h') (p : P v h')
noncomputable def TrT (w : World) (A : Around) (h : Heap) (t : Sem Value) (P : Value → Heap → Prop) : Prop :=
  ∀ (s : Shared) (Q : Value → Shared → Prop) (E : Value → Shared → Prop), le h s.heap → TabOK s.heap →
    (∀ v h' tk, leT s.heap h' → TabOK h' → P v h' → Q v { s with heap := h', toks := tk }) → wpAny (model PR w) A t Q E s
noncomputable abbrev EvT (w : World) (A : Around) (env : Env) (h : Heap) (e : Expr) (P : Value → Heap → Prop) : Prop := TrT w A h (eval e env) P

theorem ev_callT {f : Str} {p pos : Pos} {e : Expr} {es : List Expr} {a : Addr} {o : Obj} {fd : FuncData} {PL : List Value → Heap → Prop} {P : Value → Heap → Prop}
    (n : Ev w A env h (.Name f p) (isV (.ref a))) (ho : h.get? a = some o) (hd : o.data = .func fd) (b : Evs w A env h pos (e :: es) PL)
    (k : ∀ vs h', le h h' → PL vs h' → TrT w A h' (call (.ref a) vs) P) (hs : starEach (e :: es) env = (false, eval e env) :: starEach es env := by rfl) : EvT w A env h (.Call (.Name f p) (e :: es) [] pos) P :=
  fun s Q E l₀ T q => wpAny_Call_NameR (n s _ _ l₀ fun v h1 tk1 l1 p1 => by
    cases p1
    exact callWith_meth (h₀ := h) hd ho (b _ _ _ (l₀.trans l1) fun vs h2 tk2 l2 p2 => ⟨l₀.trans (l1.trans l2), k vs h2 (l₀.trans (l1.trans l2)) p2 _ _ _ le.rfl (T.le (l1.trans l2)) fun v h3 tk3 l3 T3 p3 => q v h3 tk3 ((leT.of (l1.trans l2)).trans l3) T3 p3⟩) hs)

theorem x_assignT {m : Str → Option Value} {rest : List Stmt} {tk : Nat} {Q : Flow → Shared → Prop} {x : Str} {px pos : Pos} {value : Expr} {P : Value → Heap → Prop} (N : h.Ns env.locals m) (T : TabOK h) (a : EvT w A env h value P)
    (k : ∀ v h1 h2 tk', leT h h1 → TabOK h1 → P v h1 → h1.Ns env.locals m → off env.locals h1 h2 → h2.Ns env.locals (fun y => if y = x then some v else m y) → wpAny (model PR w) A (execs rest env) Q E (St s h2 tk'))
    (hs : swapsWith value (some (.Name x px)) pos.line env = pure false) (hl : env.kindOf x = some .local)
    (hp : (env.scope.kind == .class || (env.scope.kind == .module && env.locals != env.globals)) = false) :
    wpAny (model PR w) A (execs (.Assign [.Name x px] value pos :: rest) env) Q E (St s h tk) :=
  wpAny_execs_cons (wpAny_Assign_Name (a _ _ _ le.rfl T fun v h1 tk1 l1 T1 p1 => wpAny_storeName_local hl (Ns_leT T N l1) (fun h2 n2 s2 => k v h1 h2 _ l1 T1 p1 (Ns_leT T N l1) (off.of_same s2) n2) hp) hs)
theorem x_retT {rest : List Stmt} {tk : Nat} {Q : Flow → Shared → Prop} {e : Expr} {pos : Pos} {P : Value → Heap → Prop} (T : TabOK h) (a : EvT w A env h e P) (k : ∀ v h2 tk', leT h h2 → TabOK h2 → P v h2 → Q (.ret v) (St s h2 tk')) :
    wpAny (model PR w) A (execs (.Return (some e) pos :: rest) env) Q E (St s h tk) :=
  wpAny_execs_cons (wpAny_Return_some (a _ _ _ le.rfl T fun v h1 tk1 l1 T1 p1 => k v h1 tk1 l1 T1 p1))

theorem x_unpack2T {m : Str → Option Value} {rest : List Stmt} {tk : Nat} {Q : Flow → Shared → Prop} {xa xb : Str} {pa pb tpos pos : Pos} {kk : Nat} {value : Expr} {a b : Int}
    (hh : A.handled = none) (N : h.Ns env.locals m) (T : TabOK h) (v : EvT w A env h value (isT2 a b))
    (k : ∀ ta tb h1 h2 tk', leT h h1 → TabOK h1 → off env.locals h1 h2 → h2.Ns env.locals (fun y => if y = xb then some (.int b tb) else if y = xa then some (.int a ta) else m y) → wpAny (model PR w) A (execs rest env) Q E (St s h2 tk'))
    (h1 : swapsWithSole [.Tuple [.Name xa pa, .Name xb pb] kk tpos] value pos.line env = pure false)
    (h2 : swappedStores [.Tuple [.Name xa pa, .Name xb pb] kk tpos] value env = pure none)
    (ka : env.kindOf xa = some .local) (kb : env.kindOf xb = some .local)
    (hp : (env.scope.kind == .class || (env.scope.kind == .module && env.locals != env.globals)) = false) :
    wpAny (model PR w) A (execs (.Assign [.Tuple [.Name xa pa, .Name xb pb] kk tpos] value pos :: rest) env) Q E (St s h tk) := by
  refine wpAny_execs_cons (Rows.Assign_Tuple (v _ _ _ le.rfl T fun u g1 tk1 l1 T1 p1 => ?_) h1 h2)
  obtain ⟨D, ta, tb, rfl, hl⟩ := p1
  rw [arm_assign_Tuple]
  refine wpAny_bind (wpAny_standAt (wpAny_unpack_tuple hh hl rfl rfl fun g2 l2 => ?_))
  have l2' : le g1 g2 := fun b o e => l2 b o (Nat.ne_of_lt (Heap.lt_size e)) e
  have n2 := Ns_le (Ns_leT T N l1) l2'
  refine wpAny_assignInOrder_more (wpAny_assign_Name (wpAny_storeName_local ka n2 (fun g3 n3 s3 => ?_) hp))
  refine wpAny_assignInOrder_more (wpAny_assign_Name (wpAny_storeName_local kb n3 (fun g4 n4 s4 => ?_) hp))
  exact wpAny_assignInOrder_none (k ta tb g2 g4 _ (l1.trans (leT.of l2')) (T1.le l2') ((off.of_same s3).trans (off.of_same s4)) n4)
theorem EvT.of {e : Expr} {P : Value → Heap → Prop} (a : Ev w A env h e P) : EvT w A env h e P := fun s Q E l T q => a s Q E l fun v h' tk l' p => q v h' tk (leT.of l') (T.le l') p

theorem tr_fnT {a : Addr} {name qual : Str} {params : Arguments} {body : List Stmt} {scope : Scope} {dV kV doc pm cdv ct oc : Value} {an od : Option Addr} {osl : Array (Option Value)} {vals : List Value} {binds : List (Str × Value)} {P : Value → Heap → Prop}
    (G : Gd w mg mb H) (l₀ : le H h) (hroom : A.depth < recursionLimit)
    (ho : (KK w).lookup a = some ⟨oc, od, .func (fnOf name qual params body scope dV kV doc pm an cdv ct), osl⟩) (hcd : codeIn (KK w) cdv qual = true)
    (hbind : bindArgs (fnOf name qual params body scope dV kV doc pm an cdv ct) ⟨vals, []⟩ = pure binds)
    (k : ∀ (s : Shared) (L : Addr) (h₁ : Heap) (tk : Nat), le h s.heap → TabOK s.heap → s.heap.get? L = none → FS L (fun x => binds.reverse.lookup x) (le s.heap) h₁ →
      wpAny (model PR w) (A.deeper (callEnv (fnOf name qual params body scope dV kV doc pm an cdv ct) L a)) (execs body (callEnv (fnOf name qual params body scope dV kV doc pm an cdv ct) L a))
        (RetT s P) (fun _ _ => False) (St s h₁ tk))
    (hcell : ∀ x ∈ scope.names, x.2 ≠ .cell := by decide) (hloc : ∀ x ∈ binds, scope.names.lookup x.1 = some .local)
    (hco : scope.isCoroutine = false) (hgen : scope.isGenerator = false) (hk : scope.kind = .function) :
    TrT w A h (call (.ref a) vals) P := fun s Q E l T q => by
  refine wpAny_call (codeAny_call_straight (fd := fnOf name qual params body scope dV kV doc pm an cdv ct) hroom (l _ _ (l₀ _ _ (G.X _ _ ho))) rfl (G.lim.keeps (l₀.trans l)) (codeRec_of (G.X.keeps (l₀.trans l)) hcd) rfl hbind hcell hloc (fun s₁ I => ?_) hco hgen hk)
  obtain ⟨h₁, tk, rfl⟩ := I.same
  refine wpAny_mono (k s _ h₁ tk l T (fresh_none _ (Nat.le_refl _)) ⟨I.ns, I.keep⟩) (fun f s' hf => ?_) fun _ _ e => e.elim
  obtain ⟨v, h', tk', rfl, rfl, l', T', p⟩ := hf
  exact q v h' tk' l' T' p
theorem tr_fnCT {a : Addr} {name qual : Str} {params : Arguments} {body : List Stmt} {scope : Scope} {dV kV doc pm cdv ct oc : Value} {an od : Option Addr} {osl : Array (Option Value)} {vals : List Value} {binds : List (Str × Value)} {P : Value → Heap → Prop}
    (G : Gd w mg mb H) (l₀ : le H h) (hroom : A.depth < recursionLimit)
    (ho : (KK w).lookup a = some ⟨oc, od, .func (fnOf name qual params body scope dV kV doc pm an cdv ct), osl⟩) (hcd : codeIn (KK w) cdv qual = true)
    (hbind : bindArgs (fnOf name qual params body scope dV kV doc pm an cdv ct) ⟨vals, []⟩ = pure binds)
    (hkind : (binds.all fun y => scope.names.lookup y.1 == some .local || scope.names.lookup y.1 == some .cell) = true)
    (k : ∀ (s : Shared) (L : Addr) (h₁ : Heap) (tk : Nat), le h s.heap → TabOK s.heap → L = s.heap.objs.size → h₁.Ns L (bindL (callEnvC (fnOf name qual params body scope dV kV doc pm an cdv ct) L a).kindOf binds fun _ => none) → le s.heap h₁ →
      (∀ n c, (cellsFrom (L + 1) scope.names []).lookup n = some c → h₁.IsCell c (bindC (callEnvC (fnOf name qual params body scope dV kV doc pm an cdv ct) L a).kindOf binds (fun _ => none) n)) →
      wpAny (model PR w) (A.deeper (callEnvC (fnOf name qual params body scope dV kV doc pm an cdv ct) L a)) (execs body (callEnvC (fnOf name qual params body scope dV kV doc pm an cdv ct) L a))
        (RetT s P) (fun _ _ => False) (St s h₁ tk))
    (hco : scope.isCoroutine = false) (hgen : scope.isGenerator = false) (hk : scope.kind = .function) :
    TrT w A h (call (.ref a) vals) P := fun s Q E l T q => by
  refine wpAny_call (codeAny_call_cells (fd := fnOf name qual params body scope dV kV doc pm an cdv ct) hroom (l _ _ (l₀ _ _ (G.X _ _ ho))) rfl (G.lim.keeps (l₀.trans l)) (codeRec_of (G.X.keeps (l₀.trans l)) hcd) rfl hbind rfl (kindsX hkind _) (fun s₁ I => ?_) hco hgen hk)
  obtain ⟨h₁, tk, rfl⟩ := I.toInCall.same
  refine wpAny_mono (k s _ h₁ tk l T rfl I.toInCall.ns I.toInCall.keep I.cell) (fun f s' hf => ?_) fun _ _ e => e.elim
  obtain ⟨v, h', tk', rfl, rfl, l', T', p⟩ := hf
  exact q v h' tk' l' T' p

theorem x_defC {rest : List Stmt} {tk : Nat} {Q : Flow → Shared → Prop} {name qual : Str} {params : Arguments} {body : List Stmt} {scope : Scope} {pos : Pos} {clos : List (Str × Addr)} {c P cI : Addr} {line col : Nat} {v₀ : Option Value}
    (G : Gd w mg mb H) (l₀ : le H h) (hP : TS h P line col qual) (C : CodeHd H c P) (cell : h.IsCell cI v₀)
    (hcode : env.code = .ref c) (hline : pos.line = line) (hcol : pos.col = col) (hq : qualnameIn env name name = qual) (hcl : closureFor scope env = pure clos) (hc : env.cells.lookup name = some cI)
    (k : ∀ f c' ctv doc pm h' tk', (∀ b o, b ≠ P → b ≠ cI → h.get? b = some o → h'.get? b = some o) → h.get? f = none → h'.IsCell cI (some (.ref f)) → h'.get? f = some (fnMade name qual params body scope clos doc pm c' ctv) →
      h'.CodeRec (.ref c') qual → TS h' P line col qual → wpAny (model PR w) A (execs rest env) Q E (St s h' tk'))
    (hg : env.globals = mainGlobals) (hk : env.scope.kind = .function) (hkI : env.kindOf name = some .cell)
    (hd0 : params.defaults = []) (hk0 : params.kw_defaults = []) (ha : annTrees params none env = []) :
    wpAny (model PR w) A (execs (.FunctionDef name params body [] none [] scope none name pos :: rest) env) Q E (St s h tk) := by
  subst hline hcol hq
  obtain ⟨ps, hps, hor⟩ := hP
  obtain ⟨bm, ob, b1, b2, b3, b4, b5, b6⟩ := G.bm
  have hgs := Ns_le G.g l₀
  have hbP : bm ≠ P := fun q => by have e := l₀ _ _ b3; rw [q, hps] at e; cases e; cases b4
  have hbG : bm ≠ mainGlobals := fun q => by
    obtain ⟨o, es, ep, e, hd, _⟩ := G.g
    rw [q, e] at b3; cases b3; rw [hd] at b6; cases b6
  have hgP : mainGlobals ≠ P := fun q => by
    obtain ⟨o, es, ep, e, hd, _⟩ := hgs
    rw [q, hps] at e; cases e; cases hd
  have hcP : cI ≠ P := fun q => by obtain ⟨o, e, d⟩ := cell; rw [q, hps] at e; cases e; cases d
  have hB : h.BuiltinsAt mg P := ⟨bm, ob, b1, b2, hbG, hbP, l₀ _ _ b3, b4, b5, b6⟩
  refine wpAny_execs_cons (nestDef_K hd0 hk0 ha ?_)
  rcases hor with rfl | ⟨c', rfl, hrec⟩
  · refine makeFunction_K (mg := mg) hcl hg hgs hcode (C.keeps l₀) hps trivial rfl hgP hB fun c' ctv doc h1 tk1 hx hge hlt hrec htb => ?_
    have cell1 : (h1.push (fnMade name (qualnameIn env name name) params body scope clos doc ((mg "__name__").getD .none) c' ctv)).IsCell cI v₀ := let ⟨o, e, d⟩ := cell; ⟨o, Heap.get?_push_of_some _ (hx _ _ hcP e), d⟩
    refine wpAny_storeName_cell hk hkI hc cell1 fun h2 cell2 s2 => ?_
    have lt : h.objs.size ≤ h1.objs.size := Nat.le_trans hge (Nat.le_of_lt hlt)
    have cIlt : cI < h.objs.size := let ⟨o, e, d⟩ := cell; Heap.lt_size e
    have hfne : h1.objs.size ≠ cI := Nat.ne_of_gt (Nat.lt_of_lt_of_le cIlt lt)
    have hf : h2.get? h1.objs.size = some (fnMade name (qualnameIn env name name) params body scope clos doc ((mg "__name__").getD .none) c' ctv) := (s2.2 _ hfne).trans (Heap.get?_push_size _ rfl)
    have hcr : h2.CodeRec (.ref c') (qualnameIn env name name) := by
      obtain ⟨c₂, oc, vs, t, e2, hoc, hd, hv⟩ := hrec
      cases e2
      exact ⟨c', oc, vs, t, rfl, (s2.2 _ (Nat.ne_of_gt (Nat.lt_of_lt_of_le cIlt hge))).trans (Heap.get?_push_of_some _ hoc), hd, hv⟩
    refine k _ c' ctv doc _ h2 _ (fun b o nP nI e => (s2.2 b nI).trans (Heap.get?_push_of_some _ (hx b o nP e))) (fresh_none _ lt) cell2 hf hcr ⟨_, (s2.2 _ (Ne.symm hcP)).trans (Heap.get?_push_of_some _ htb), .inr ⟨c', by simp, hcr⟩⟩
  · have hf9 : codeAmong pos #[rawInt (pos.line : Nat), rawInt (pos.col : Nat), .ref c'].toList = some (.ref c') := by simp [codeAmong, rawInt]
    refine makeFunction_hit (mg := mg) hcl hg hgs hcode (C.keeps l₀) hps trivial hf9 hB fun ctv doc h1 tk1 hx hsz => ?_
    have cell1 : (h1.push (fnMade name (qualnameIn env name name) params body scope clos doc ((mg "__name__").getD .none) c' ctv)).IsCell cI v₀ := let ⟨o, e, d⟩ := cell; ⟨o, Heap.get?_push_of_some _ (hx _ _ e), d⟩
    refine wpAny_storeName_cell hk hkI hc cell1 fun h2 cell2 s2 => ?_
    have cIlt : cI < h.objs.size := let ⟨o, e, d⟩ := cell; Heap.lt_size e
    have hfne : h1.objs.size ≠ cI := Nat.ne_of_gt (Nat.lt_of_lt_of_le cIlt hsz)
    have hf : h2.get? h1.objs.size = some (fnMade name (qualnameIn env name name) params body scope clos doc ((mg "__name__").getD .none) c' ctv) := (s2.2 _ hfne).trans (Heap.get?_push_size _ rfl)
    have hcr : h2.CodeRec (.ref c') (qualnameIn env name name) := by
      obtain ⟨c₂, oc, vs, t, e2, hoc, hd, hv⟩ := hrec
      cases e2
      refine ⟨c', oc, vs, t, rfl, (s2.2 _ (fun q => ?_)).trans (Heap.get?_push_of_some _ (hx _ _ hoc)), hd, hv⟩
      obtain ⟨o, e, d⟩ := cell
      rw [← q, hoc] at e; cases e; rw [hd] at d; cases d
    exact k _ c' ctv doc _ h2 _ (fun b o nP nI e => (s2.2 b nI).trans (Heap.get?_push_of_some _ (hx b o e))) (fresh_none _ hsz) cell2 hf hcr ⟨_, (s2.2 _ (Ne.symm hcP)).trans (Heap.get?_push_of_some _ (hx _ _ hps)), .inr ⟨c', rfl, hcr⟩⟩

theorem TS.off {g g' : Heap} {L P : Addr} {line col : Nat} {qual : Str} {m : Str → Option Value} (x : TS g P line col qual) (n : g.Ns L m) (k : off L g g') : TS g' P line col qual := by
  obtain ⟨ps, e, r⟩ := x
  obtain ⟨o, es, ep, eL, dL, _⟩ := n
  refine ⟨ps, k _ _ (fun q => ?_) e, r.imp id fun ⟨c, e1, c₂, o₂, vs, t, e2, ho, hd, hv⟩ => ⟨c, e1, c₂, o₂, vs, t, e2, k _ _ (fun q => ?_) ho, hd, hv⟩⟩
  · rw [q, eL] at e; cases e; cases dL
  · rw [q, eL] at ho; cases ho; rw [hd] at dL; cases dL
theorem TabOK.off {g g' : Heap} {L : Addr} {m : Str → Option Value} (x : TabOK g) (n : g.Ns L m) (k : off L g g') : TabOK g' := ⟨x.1.off n k, x.2.off n k⟩
theorem off_tab {L : Addr} : Off L TabOK := fun g g' ⟨m, n⟩ k T => T.off n k
theorem off_leT {B : Heap} {L : Addr} (n : B.get? L = none) : Off L (leT B) := fun h h' _ k r b o n1 n2 e => k b o (fun q => by rw [q, n] at e; cases e) (r b o n1 n2 e)
theorem off_plain {L a : Addr} {its : Array Value} (n : a ≠ L) : Off L (fun h => h.PlainList a its) := fun h h' _ k ⟨c, e⟩ => ⟨c, k _ _ n e⟩
end
end
end Mine

namespace Mine
set_option maxRecDepth 100000
set_option maxHeartbeats 8000000
noncomputable section

section
variable {w : World} {A : Around} {env : Env} {h : Heap} {mg mb : Str → Option Value} {H : Heap} {s : Shared} {E : Value → Shared → Prop}

theorem tr_made {f c' : Addr} {name qual : Str} {params : Arguments} {body : List Stmt} {scope : Scope} {clos : List (Str × Addr)} {doc pm ctv : Value} {vals : List Value} {binds : List (Str × Value)} {P : Value → Heap → Prop}
    (G : Gd w mg mb H) (l₀ : le H h) (hroom : A.depth < recursionLimit) (ho : h.get? f = some (fnMade name qual params body scope clos doc pm c' ctv)) (hcd : h.CodeRec (.ref c') qual)
    (hbind : bindArgs (fnX name qual params body scope clos .none .none doc pm none (.ref c') ctv) ⟨vals, []⟩ = pure binds)
    (k : ∀ (s : Shared) (L : Addr) (h₁ : Heap) (tk : Nat), le h s.heap → s.heap.get? L = none → FS L (fun x => binds.reverse.lookup x) (le s.heap) h₁ →
      wpAny (model PR w) (A.deeper (callEnv (fnX name qual params body scope clos .none .none doc pm none (.ref c') ctv) L f)) (execs body (callEnv (fnX name qual params body scope clos .none .none doc pm none (.ref c') ctv) L f))
        (Ret s P) (fun _ _ => False) (St s h₁ tk))
    (hcell : ∀ x ∈ scope.names, x.2 ≠ .cell := by decide) (hloc : ∀ x ∈ binds, scope.names.lookup x.1 = some .local)
    (hco : scope.isCoroutine = false) (hgen : scope.isGenerator = false) (hk : scope.kind = .function) :
    Tr w A h (call (.ref f) vals) P := fun s Q E l q => by
  refine wpAny_call (codeAny_call_straight (fd := fnX name qual params body scope clos .none .none doc pm none (.ref c') ctv) hroom (l _ _ ho) rfl (G.lim.keeps (l₀.trans l)) (CodeRec_le hcd l) rfl hbind hcell hloc (fun s₁ I => ?_) hco hgen hk)
  obtain ⟨h₁, tk, rfl⟩ := I.same
  refine wpAny_mono (k s _ h₁ tk l (fresh_none _ (Nat.le_refl _)) ⟨I.ns, I.keep⟩) (fun f s' hf => ?_) fun _ _ e => e.elim
  obtain ⟨v, h', tk', rfl, rfl, l', p⟩ := hf
  exact q v h' tk' l' p

theorem add_ne (L : Nat) {i j : Nat} (h : i ≠ j) : L + i ≠ L + j := by omega
theorem pow_le {a b : Nat} (h : a ≤ b) : (2 : Int) ^ a ≤ 2 ^ b := by
  rw [pow_cast, pow_cast]
  exact Int.ofNat_le.mpr (Nat.pow_le_pow_right (by decide) h)
noncomputable def seg (ds : List Int) (L R : Nat) : List Int := (ds.drop L).take (R - L)
theorem seg_split (ds : List Int) {L M R : Nat} (h1 : L ≤ M) (h2 : M ≤ R) : seg ds L R = seg ds L M ++ seg ds M R := by
  unfold seg
  have e : R - L = (M - L) + (R - M) := by omega
  rw [e, List.take_add, List.drop_drop]
  congr 3; omega
theorem seg_len (ds : List Int) {L R : Nat} (h : R ≤ ds.length) (hl : L ≤ R) : (seg ds L R).length = R - L := by
  unfold seg; rw [List.length_take, List.length_drop]; omega
theorem val_bound {n : Nat} : ∀ {l : List Int}, (∀ d ∈ l, 0 ≤ d ∧ d < 2 ^ n) → 0 ≤ val n l ∧ val n l < 2 ^ (n * l.length)
  | [], _ => by simp [val]
  | d :: r, k => by
    obtain ⟨a, b⟩ := k d (.head _)
    obtain ⟨c, e⟩ := val_bound (n := n) (l := r) fun x hx => k x (.tail _ hx)
    rw [val, List.length_cons, Nat.mul_succ, Int.pow_add]
    have p : (0 : Int) < 2 ^ n := Int.pow_pos (by decide)
    constructor
    · exact Int.add_nonneg a (Int.mul_nonneg c (Int.le_of_lt p))
    · have : val n r * 2 ^ n ≤ (2 ^ (n * r.length) - 1) * 2 ^ n := Int.mul_le_mul_of_nonneg_right (by omega) (Int.le_of_lt p)
      rw [Int.sub_mul, Int.one_mul] at this
      omega

theorem IntsAre.get {vs : List Value} {ns : List Int} (I : IntsAre vs ns) : ∀ (i : Nat), i < ns.length → ∃ t, vs[i]? = some (.int (ns.getD i 0) t) := by
  induction I with
  | nil => intro i hi; exact absurd hi (Nat.not_lt_zero _)
  | cons n t _ ih =>
    intro i hi
    cases i with
    | zero => exact ⟨t, rfl⟩
    | succ i => exact ih i (by simpa using hi)

theorem tr_truthL {a : Addr} {its : Array Value} (x : h.IsList a its) (hs : (its.size : Int) < 2 ^ 63) : TrB w A h (truthy (.ref a)) (!its.isEmpty) := fun s Q E l q =>
  wpAny_truthy_list (List_le x l) hs (q s.heap _ le.rfl)
theorem ev_len {f : Str} {p pos : Pos} {e : Expr} {a : Addr} {its : Array Value} (n : Ev w A env h (.Name f p) (isV (.builtin "len"))) (b : Ev w A env h e (isV (.ref a))) (x : h.IsList a its) (hs : (its.size : Int) < 2 ^ 63)
    (hst : starEach [e] env = (false, eval e env) :: starEach [] env := by rfl) : Ev w A env h (.Call (.Name f p) [e] [] pos) (isI its.size) := by
  refine ev_callB n (evs_cons b evs_nil stbV hst) ?_ hst rfl
  rintro vs h' l' ⟨_, _, rfl, rfl, rfl⟩
  exact fun s Q E l q => Rows.len_list (List_le x (l'.trans l)) hs (q _ s.heap _ le.rfl ⟨_, rfl⟩)

theorem TS.keep {h h' : Heap} {P P' c' : Addr} {line col line' col' : Nat} {qual qual' : Str} {v : Option Value} (x : TS h P line col qual) (y : TS h P' line' col' qual') (hne : P ≠ P') (z : h.IsCell c' v)
    (k : ∀ b o, b ≠ P' → b ≠ c' → h.get? b = some o → h'.get? b = some o) : TS h' P line col qual := by
  obtain ⟨ps, e, r⟩ := x
  obtain ⟨oc, ec, dc⟩ := z
  have hPc : P ≠ c' := fun q => by rw [q, ec] at e; cases e; cases dc
  refine ⟨ps, k _ _ hne hPc e, r.imp id ?_⟩
  rintro ⟨c, e1, c₂, o₂, vs, t, e2, ho, hd, hv⟩
  refine ⟨c, e1, c₂, o₂, vs, t, e2, k _ _ (fun q => ?_) (fun q => ?_) ho, hd, hv⟩
  · obtain ⟨ps', e', r'⟩ := y
    rw [q, e'] at ho; cases ho
    cases hd
    rcases r' with rfl | ⟨c3, rfl, _⟩
    · cases hv
    · cases hv
  · rw [q, ec] at ho; cases ho; rw [hd] at dc; cases dc

theorem d2i_spec (G : Gd w mg mb H) (l₀ : le H h) (hroom : A.depth + 70 < recursionLimit) {v : Value} {n : Nat} {t : Tok} {ds : List Int} (hv : isLI ds v h) (hd : ∀ d ∈ ds, 0 ≤ d ∧ d < 2 ^ n) (hn : n * ds.length ≤ 60) (hn1 : n ≤ 60) (hlen : ds.length ≤ 60) :
    TrT w A h (call (.ref 49) [v, .int n t]) (isI (val n ds)) := by
  obtain ⟨D, ys, rfl, hl, I⟩ := hv
  have hys : ys.size = ds.length := by rw [← Array.length_toList, I.length]
  refine tr_fnCT (hco := rfl) (hgen := rfl) (hk := rfl) (binds := [("digits", .ref D), ("n", .int n t)]) G l₀ (dle (j := 0) hroom rfl) rfl rfl rfl rfl (fun s L h₁ tk ls T hL N l₁ cells => ?_)
  have cD : h₁.IsCell (L + 1) (some (.ref D)) := cells "digits" (L + 1) rfl
  have cN : h₁.IsCell (L + 2) (some (.int n t)) := cells "n" (L + 2) rfl
  have cI : h₁.IsCell (L + 3) none := cells "inner" (L + 3) rfl
  have T1 := T.le l₁
  refine x_defC (hg := rfl) (hk := rfl) (hkI := rfl) (hd0 := rfl) (hk0 := rfl) (ha := rfl) G (l₀.trans (ls.trans l₁)) T1.2 G.c44 cI rfl rfl rfl rfl rfl rfl (fun f c' ctv doc pm h2 tk2 kp hf cI2 hfo hcr hT => ?_)
  obtain ⟨clos, hc1, hc2, hc3, hfo⟩ : ∃ clos : List (Str × Addr), clos.lookup ("digits" : Str) = some (L + 1) ∧ clos.lookup ("n" : Str) = some (L + 2) ∧ clos.lookup ("inner" : Str) = some (L + 3) ∧ h2.get? f = some (fnMade _ _ _ _ _ clos doc pm c' ctv) := ⟨_, rfl, rfl, rfl, hfo⟩
  have lT : leT s.heap h2 := fun b o n1 n2 e => kp b o n2 (Nat.ne_of_lt (Nat.lt_of_lt_of_le (hL ▸ Heap.lt_size e) (Nat.le_add_right _ _))) (l₁ b o e)
  have T2 : TabOK h2 := ⟨T1.1.keep T1.2 (by decide) cI kp, hT⟩
  have g2 : le H h2 := G.up (l₀.trans ls) lT
  have cell2 : ∀ {c v}, h₁.IsCell c v → c ≠ L + 3 → h2.IsCell c v := fun ⟨o, e, d⟩ hne => ⟨o, kp _ _ (tab_ne T1 e (fun ps q => by rw [q] at d; cases d)).2 hne e, d⟩
  have cD2 := cell2 cD (add_ne L (by decide))
  have cN2 := cell2 cN (add_ne L (by decide))
  have hl2 : h2.IsList D ys := List_leT T (List_le hl ls) lT
  have hI : ∀ i : Nat, i < ds.length → ∃ t, ys[i]? = some (.int (ds.getD i 0) t) := fun i hi => by
    obtain ⟨t, e⟩ := IntsAre.get I i hi
    exact ⟨t, by rw [← Array.getElem?_toList]; exact e⟩
  have segB : ∀ P R, R ≤ ds.length → P ≤ R → (val n (seg ds P R)).natAbs < 2 ^ 64 := fun P R h1 h2 => by
    have b := val_bound (n := n) (l := seg ds P R) fun d hd' => hd d (List.mem_of_mem_drop (List.mem_of_mem_take hd'))
    rw [seg_len ds h1 h2] at b
    have := pow_le (Nat.le_trans (Nat.mul_le_mul_left n (show R - P ≤ ds.length from Nat.le_trans (Nat.sub_le _ _) h1)) hn)
    omega
  have key : ∀ d : Nat, ∀ (P R : Nat) (A' : Around) (t1 t2 : Tok), R - P = d → P < R → R ≤ ds.length → A'.depth + d < recursionLimit → Tr w A' h2 (call (.ref f) [.int P t1, .int R t2]) (isI (val n (seg ds P R))) := by
    intro d
    induction d using Nat.strongRecOn with
    | ind d ih =>
      intro P R A' t1 t2 hd1 hPR hR hdep
      refine tr_made (hco := rfl) (hgen := rfl) (hk := rfl) (binds := [("L", .int P t1), ("R", .int R t2)]) G g2 (Nat.lt_of_le_of_lt (Nat.le_add_right _ _) hdep) hfo hcr rfl (fun s' L' h3 tk3 ls' hL' F => ?_) (hloc := locs rfl)
      refine x_if F (off_le hL') (te_eq (ev_add (ev_locI F.ns rfl) ev_int) (ev_locI F.ns rfl)) (fun e h4 tk4 F => ?_) (fun e h4 tk4 F => x_nil ?_)
      · have g4 := ls'.trans F.r
        have eR : R = P + 1 := cast_of e
        have hP : P < ds.length := Nat.lt_of_lt_of_le hPR hR
        obtain ⟨t3, e3⟩ := hI P hP
        refine x_ret F (off_le hL') (P := isI (val n (seg ds P R))) (ev_sub_ (ev_free (Cell_le cD2 g4) hc1) (ev_locI F.ns rfl) stbV ?_) fun v h5 tk5 F p => ⟨v, h5, tk5, rfl, rfl, F.r, p⟩
        rintro v1 v2 h' l rfl ⟨t4, rfl⟩
        refine (tr_item (i := (P : Int)) (List_le hl2 (g4.trans l)) (Int.natCast_nonneg _) (cast63 (Nat.le_trans (Nat.le_of_lt hP) hlen) rfl) (by rw [Int.toNat_natCast]; exact e3)).mono fun v h'' l' e => ⟨t3, ?_⟩
        have : seg ds P R = [ds.getD P 0] := by
          unfold seg
          rw [eR, Nat.add_sub_cancel_left, List.drop_eq_getElem_cons hP, List.take_succ_cons, List.take_zero, List.getD_eq_getElem?_getD, List.getElem?_eq_getElem hP]
          rfl
        rw [this]
        simpa [val, isV] using e
      · have eR : ¬ P + 1 = R := cast_ne e
        have hm : ((P : Int) + R).fdiv (2 ^ (1 : Int).toNat) = (((P + R) / 2 : Nat) : Int) := by
          rw [← Int.natCast_add]
          exact fdiv_nat (P + R) 2
        have hM := mid_half hPR eR
        refine x_int F (off_le hL') (i := (((P + R) / 2 : Nat) : Int)) (hm ▸ ev_shr (ev_add (ev_locI F.ns rfl) (ev_locI F.ns rfl)) ev_int (by decide)) fun t3 h5 tk5 F => ?_
        generalize (P + R) / 2 = M at hM F
        obtain ⟨md1, md2, md3⟩ := mid_d hd1 hM
        have hMR := Nat.le_trans (Nat.le_of_lt hM.2) hR
        have g5 := ls'.trans F.r
        have esh : ((M : Int) - P) * n = ((n * (M - P) : Nat) : Int) := by
          rw [Int.natCast_mul, Int.mul_comm, Int.ofNat_sub (Nat.le_of_lt hM.1)]
        refine x_int F (off_le hL') (i := ((n * (M - P) : Nat) : Int)) (esh ▸ ev_mul (ev_sub (ev_locI F.ns rfl) (ev_locI F.ns rfl)) (Tr.mono (ev_free (Cell_le cN2 g5) hc2) fun _ _ _ e => ⟨_, e⟩) (mid_abs hM.2 hM.1 hR (Nat.le_trans hlen (by decide)))) fun t4 h6 tk6 F => ?_
        have g6 := ls'.trans F.r
        have bsh : n * (M - P) ≤ 60 := Nat.le_trans (Nat.mul_le_mul_left n (Nat.le_trans (Nat.sub_le _ _) hMR)) hn
        have bsc := small_cast bsh rfl
        have e7 : val n (seg ds P R) = val n (seg ds M R) * 2 ^ ((n * (M - P) : Nat) : Int).toNat + val n (seg ds P M) := by
          rw [seg_split ds (Nat.le_of_lt hM.1) (Nat.le_of_lt hM.2), val_append, seg_len ds hMR (Nat.le_of_lt hM.1), Int.toNat_natCast, Int.add_comm]
        rw [e7]
        refine x_ret F (off_le hL') (ev_add (ev_shl (ev_call (ev_free (Cell_le cI2 g6) hc3) (g6 _ _ hfo) rfl (evs_cons (ev_locI F.ns rfl) (evs_cons (ev_locI F.ns rfl) evs_nil stbI) stbI) ?_) (ev_locI F.ns rfl) bsc.1 bsc.2 (segB M R hR (Nat.le_of_lt hM.2)))
          (ev_call (ev_free (Cell_le cI2 g6) hc3) (g6 _ _ hfo) rfl (evs_cons (ev_locI F.ns rfl) (evs_cons (ev_locI F.ns rfl) evs_nil stbI) stbI) ?_)) fun v h5 tk5 F p => ⟨v, h5, tk5, rfl, rfl, F.r, p⟩
        · rintro vs h' l' ⟨_, _, rfl, ⟨_, rfl⟩, _, _, rfl, ⟨_, rfl⟩, rfl⟩
          exact (ih (R - M) md1 M R _ _ _ rfl hM.2 hR (dlt hdep md1)).up (g6.trans l')
        · rintro vs h' l' ⟨_, _, rfl, ⟨_, rfl⟩, _, _, rfl, ⟨_, rfl⟩, rfl⟩
          exact (ih (M - P) md2 P M _ _ _ rfl hM.1 hMR (dlt hdep md2)).up (g6.trans l')
  refine x_retT T2 (EvT.of (P := isI (val n ds)) (ev_if (te_val (ev_cell cD2 rfl) (fun v h' l e => by cases e; exact tr_truthL (List_le hl2 l) (cast63 (hys ▸ hlen) rfl))) (fun e => ?_) fun e => ?_)) fun v h3 tk3 l3 T3 p => ⟨v, h3, tk3, rfl, rfl, lT.trans l3, T3, p⟩
  · have pos : 0 < ds.length := by
      rw [← hys]
      rcases Nat.eq_zero_or_pos ys.size with z | z
      · simp [Array.isEmpty, z] at e
      · exact z
    have full : val n ds = val n (seg ds 0 ys.size) := by
      unfold seg; rw [hys, List.drop_zero, Nat.sub_zero, List.take_length]
    rw [full]
    refine ev_call (ev_cell cI2 rfl) hfo rfl (evs_cons ev_int (evs_cons (ev_len (ev_bi G g2 rfl rfl) (ev_cell cD2 rfl) hl2 (cast63 (hys ▸ hlen) rfl)) evs_nil stbI) stbI) ?_
    rintro vs h' l' ⟨_, _, rfl, ⟨_, rfl⟩, _, _, rfl, ⟨_, rfl⟩, rfl⟩
    exact (key (ys.size - 0) 0 ys.size _ _ _ rfl (by omega) (by omega) (by show A.depth + 1 + (ys.size - 0) < _; omega)).up l'
  · have z : ds = [] := by
      have : ys.size = 0 := by
        simp [Array.isEmpty] at e
        simpa using e
      exact List.length_eq_zero_iff.mp (by omega)
    rw [z]
    exact ev_int
end
end
end Mine

namespace Mine
set_option maxRecDepth 100000
set_option maxHeartbeats 8000000
noncomputable section

section
variable {w : World} {A : Around} {env : Env} {h : Heap} {mg mb : Str → Option Value} {H : Heap} {s : Shared} {E : Value → Shared → Prop} {rest : List Stmt} {tk : Nat} {Q : Flow → Shared → Prop}

theorem wp_made {f c' : Addr} {name qual : Str} {params : Arguments} {body : List Stmt} {scope : Scope} {clos : List (Str × Addr)} {doc pm ctv : Value} {vals : List Value} {binds : List (Str × Value)} {Q : Value → Shared → Prop}
    (G : Gd w mg mb H) (l₀ : le H s.heap) (hroom : A.depth < recursionLimit) (ho : s.heap.get? f = some (fnMade name qual params body scope clos doc pm c' ctv)) (hcd : s.heap.CodeRec (.ref c') qual)
    (hbind : bindArgs (fnX name qual params body scope clos .none .none doc pm none (.ref c') ctv) ⟨vals, []⟩ = pure binds)
    (k : ∀ (L : Addr) (h₁ : Heap) (tk : Nat), s.heap.get? L = none → h₁.Ns L (fun x => binds.reverse.lookup x) → le s.heap h₁ →
      wpAny (model PR w) (A.deeper (callEnv (fnX name qual params body scope clos .none .none doc pm none (.ref c') ctv) L f)) (execs body (callEnv (fnX name qual params body scope clos .none .none doc pm none (.ref c') ctv) L f))
        (fun f s' => Q (match f with | .ret v => v | _ => .none) s') (fun _ _ => False) (St s h₁ tk))
    (hcell : ∀ x ∈ scope.names, x.2 ≠ .cell := by decide) (hloc : ∀ x ∈ binds, scope.names.lookup x.1 = some .local)
    (hco : scope.isCoroutine = false) (hgen : scope.isGenerator = false) (hk : scope.kind = .function) :
    wpAny (model PR w) A (call (.ref f) vals) Q E s := by
  refine wpAny_call (codeAny_call_straight (fd := fnX name qual params body scope clos .none .none doc pm none (.ref c') ctv) hroom ho rfl (G.lim.keeps l₀) hcd rfl hbind hcell hloc (fun s₁ I => ?_) hco hgen hk)
  obtain ⟨h₁, tk, rfl⟩ := I.same
  exact wpAny_mono (k _ h₁ tk (fresh_none _ (Nat.le_refl _)) I.ns I.keep) (fun f s' hf => hf) fun _ _ e => e.elim

theorem tr_listmul {l : Addr} {vs : List Value} {x : Int} {u : Tok} (hl : h.IsList l vs.toArray) (hlo : 0 ≤ x) (hhi : x < 2 ^ 20) (hv : vs.length ≤ 1) :
    Tr w A h (binaryOp .Mult (.ref l) (.int x u)) (fun v h' => ∃ a, v = .ref a ∧ h.get? a = none ∧ h'.IsList a (List.replicate x.toNat vs).flatten.toArray) := fun s Q E l₀ q => by
  obtain ⟨⟨cls, d, data, sl⟩, ho, hcl, k, hd⟩ := List_le hl l₀
  simp only at hcl hd
  subst hcl hd
  have hsz' : vs.toArray.size * x.toNat ≤ 2 ^ 24 := by
    rw [List.size_toArray]
    calc vs.length * x.toNat ≤ 1 * x.toNat := Nat.mul_le_mul_right _ hv
      _ ≤ 2 ^ 24 := by omega
  refine wpAny_binaryOp_repeat_ref (T := "list") (U := "int") (by decide) ⟨_, ho, rfl⟩ (fun s' => typeIs_int s' x u) noFill_list_mul F.fills_int_mul F.slot_int_rmul repeat_list F.slot_int_index.lookup
    (call_meets F.slot_int_rmul (typeIs_int s x u) F.entry_int_rmul (F.args_int_rmul_2 _ _) (lm_int_rmul_list_any x u l vs.toArray k d sl)
      ⟨ho, rfl, ⟨_, ho, rfl⟩, call_meets F.slot_list_mul ⟨_, ho, rfl⟩ F.entry_list_mul (F.args_list_mul_2 _ _)
        (lm_list_mul_any l vs.toArray k d sl x u (by simp [Builtin.List.listFitsIndex]; omega) (by omega) (by simp [Builtin.List.listTooLong, sizeLine]; omega))
        ⟨ho, ?_⟩⟩)
  refine q _ _ _ (le_push _ _) ⟨_, rfl, ?_, _, Heap.get?_push_size _ rfl, rfl, _, by rw [listMul_foldl_if]⟩
  cases e : h.get? s.heap.objs.size with
  | none => rfl
  | some o => exact absurd (Heap.lt_size (l₀ _ _ e)) (Nat.lt_irrefl _)

theorem x_assignC {x : Str} {px pos : Pos} {value : Expr} {P : Value → Heap → Prop} {c : Addr} {v₀ : Option Value} (a : Ev w A env h value P) (cell : h.IsCell c v₀)
    (k : ∀ v h1 h2 tk', le h h1 → P v h1 → off c h1 h2 → h2.IsCell c (some v) → wpAny (model PR w) A (execs rest env) Q E (St s h2 tk'))
    (hc : env.cells.lookup x = some c) (hs : swapsWith value (some (.Name x px)) pos.line env = pure false) (hk : env.scope.kind = .function) (hl : env.kindOf x = some .cell) :
    wpAny (model PR w) A (execs (.Assign [.Name x px] value pos :: rest) env) Q E (St s h tk) :=
  wpAny_execs_cons (wpAny_Assign_Name (a _ _ _ le.rfl fun v h1 tk1 l1 p1 => wpAny_storeName_cell hk hl hc (Cell_le cell l1) fun h2 c2 s2 => k v h1 h2 _ l1 p1 (off.of_same s2) c2) hs)

theorem x_setitem {o i value : Expr} {pos' pos : Pos} {D : Addr} {its : Array Value} {j : Int} {vx : Value} (a : Ev w A env h value (isV vx)) (b : Ev w A env h o (isV (.ref D))) (c : Ev w A env h i (isI j)) (hl : h.IsList D its) (h0 : 0 ≤ j) (h1 : j < 2 ^ 63) (h2 : j < its.size)
    (k : ∀ h1 h2 tk', le h h1 → off D h1 h2 → h2.IsList D (its.setIfInBounds j.toNat vx) → wpAny (model PR w) A (execs rest env) Q E (St s h2 tk'))
    (hs : swapsWith value (some (.Subscript o i pos')) pos.line env = pure false) :
    wpAny (model PR w) A (execs (.Assign [.Subscript o i pos'] value pos :: rest) env) Q E (St s h tk) :=
  wpAny_execs_cons (wpAny_Assign_Subscript (a _ _ _ le.rfl fun v g1 tk1 l1 p1 => b _ _ _ l1 fun v2 g2 tk2 l2 p2 => c _ _ _ (l1.trans l2) fun v3 g3 tk3 l3 ⟨t, p3⟩ => by
    cases p1; cases p2; subst p3
    exact wpAny_setItem_list (List_le hl (l1.trans (l2.trans l3))) h0 h1 h2 fun g4 hl4 s4 => k g3 g4 _ (l1.trans (l2.trans l3)) (off.of_same s4) hl4) hs)

theorem x_callM {f : Str} {p pos pos' : Pos} {e : Expr} {es : List Expr} {a : Addr} {o : Obj} {fd : FuncData} {PL : List Value → Heap → Prop}
    (n : Ev w A env h (.Name f p) (isV (.ref a))) (ho : h.get? a = some o) (hd : o.data = .func fd) (b : Evs w A env h pos (e :: es) PL)
    (k : ∀ vs h1 tk1, le h h1 → PL vs h1 → wpAny (model PR w) A (call (.ref a) vs) (fun _ s' => wpAny (model PR w) A (execs rest env) Q E s') E (St s h1 tk1))
    (hs : starEach (e :: es) env = (false, eval e env) :: starEach es env) (hi : interactive env = false) (hsw : swapsWith (.Call (.Name f p) (e :: es) [] pos) none pos'.line env = pure false) :
    wpAny (model PR w) A (execs (.Expr (.Call (.Name f p) (e :: es) [] pos) pos' :: rest) env) Q E (St s h tk) :=
  wpAny_execs_cons (wpAny_Expr_any (wpAny_Call_NameR (n _ _ _ le.rfl fun v h1 tk1 l1 p1 => by
    cases p1
    exact callWith_meth (h₀ := h) hd ho (b _ _ _ l1 fun vs h2 tk2 l2 p2 => ⟨l1.trans l2, k vs h2 tk2 (l1.trans l2) p2⟩) hs)) hi hsw)

theorem ev_list {es : List Expr} {pos : Pos} {PL : List Value → Heap → Prop} {n : Nat} (b : Evs w A env h pos es PL) (hn : ∀ vs h', PL vs h' → vs.length ≤ sizeLine) :
    Ev w A env h (.List es pos) (fun v h' => ∃ a vs h1, v = .ref a ∧ le h h1 ∧ le h1 h' ∧ h1.get? a = none ∧ PL vs h1 ∧ h'.IsList a vs.toArray) := fun s Q E l q =>
  wpAny_List (b _ _ _ l fun vs h1 tk1 l1 p1 => ⟨hn _ _ p1, q _ _ _ (l1.trans (le_push _ _)) ⟨_, vs, h1, rfl, l.trans l1, le_push _ _, fresh_none _ (Nat.le_refl _), p1, _, Heap.get?_push_size _ rfl, rfl, _, rfl⟩⟩)

theorem x_ifU {test : Expr} {body orelse : List Stmt} {pos : Pos} {b : Bool} (a : Te w A env h test b)
    (k1 : b = true → ∀ h2 tk', le h h2 → wpAny (model PR w) A (execs body env) (cont w A env rest Q E) E (St s h2 tk'))
    (k2 : b = false → ∀ h2 tk', le h h2 → wpAny (model PR w) A (execs orelse env) (cont w A env rest Q E) E (St s h2 tk')) :
    wpAny (model PR w) A (execs (.If test body orelse pos :: rest) env) Q E (St s h tk) :=
  wpAny_execs_cons (wpAny_If (a _ _ _ le.rfl fun h1 tk1 l1 => by
    cases b with
    | true => exact k1 rfl h1 tk1 l1
    | false => exact k2 rfl h1 tk1 l1))
theorem x_retU {e : Expr} {pos : Pos} {P : Value → Heap → Prop} (a : Ev w A env h e P) (k : ∀ v h2 tk', le h h2 → P v h2 → Q (.ret v) (St s h2 tk')) :
    wpAny (model PR w) A (execs (.Return (some e) pos :: rest) env) Q E (St s h tk) :=
  wpAny_execs_cons (wpAny_Return_some (a _ _ _ le.rfl fun v h1 tk1 l1 p1 => k v h1 tk1 l1 p1))
theorem x_retN {pos : Pos} (q : Q (.ret .none) (St s h tk)) : wpAny (model PR w) A (execs (.Return none pos :: rest) env) Q E (St s h tk) := wpAny_execs_cons (wpAny_Return_none q)

theorem repl_flat (v : Value) : ∀ n : Nat, (List.replicate n [v]).flatten = List.replicate n v
  | 0 => rfl
  | n + 1 => by rw [List.replicate_succ, List.flatten_cons, repl_flat v n]; rfl

noncomputable def digs (n x len : Nat) : List Int := (List.range len).map fun k => (digit n x k : Int)
noncomputable def nDig (n x : Nat) : Nat := (Builtin.Int.intBits (x : Int) + n - 1) / n

theorem i2d_spec (G : Gd w mg mb H) (l₀ : le H h) (hroom : A.depth + 200 < recursionLimit) {x n : Nat} {t0 t : Tok} (hx : x < 2 ^ 60) (hn0 : 0 < n) (hn : n ≤ 60) :
    TrT w A h (call (.ref 42) [.int x t0, .int n t]) (isLI (digs n x (nDig n x))) := by
  have hbits : Builtin.Int.intBits (x : Int) ≤ 60 := intBits_le_iff.mpr (by simpa using hx)
  have hnd : ((Builtin.Int.intBits (x : Int) : Int) + n - 1).fdiv n = (nDig n x : Int) := by
    unfold nDig
    rw [← fdiv_nat]
    congr 1
    omega
  have hnd60 : nDig n x ≤ 60 + 60 := by
    unfold nDig
    exact Nat.le_trans (Nat.div_le_self _ _) (by omega)
  refine tr_fnCT (hco := rfl) (hgen := rfl) (hk := rfl) (binds := [("a", .int x t0), ("n", .int n t)]) G l₀ (dle (j := 0) hroom rfl) rfl rfl rfl rfl (fun s L h₁ tk ls T hL N l₁ cells => ?_)
  have cN : h₁.IsCell (L + 1) (some (.int n t)) := cells "n" (L + 1) rfl
  have cD : h₁.IsCell (L + 2) none := cells "a_digits" (L + 2) rfl
  have cI : h₁.IsCell (L + 3) none := cells "inner" (L + 3) rfl
  have T1 := T.le l₁
  refine x_assignC (hs := rfl) (hk := rfl) (hl := rfl) (P := fun v h' => ∃ D t, v = .ref D ∧ h₁.get? D = none ∧ h'.IsList D (List.replicate (nDig n x) (Value.int 0 t)).toArray) (c := L + 2) ?_ cD (fun v h2 h3 tk3 l2 p2 o3 cD3 => ?_) rfl
  · refine ev_binop (P1 := fun v h' => ∃ a t, v = .ref a ∧ h'.IsList a [Value.int 0 t].toArray) (P2 := isI (nDig n x)) (Tr.mono (ev_list (n := 0) (evs_cons ev_int evs_nil stbI) ?_) ?_) ?_ (fun _ _ _ l ⟨a, t, e, x⟩ => ⟨a, t, e, List_le x l⟩) ?_
    · rintro vs h' ⟨_, _, rfl, _, rfl⟩; show 1 ≤ sizeLine; decide
    · rintro v h' l ⟨a, vs, h1, rfl, _, _, _, ⟨_, _, rfl, ⟨t, rfl⟩, rfl⟩, hl⟩
      exact ⟨a, t, rfl, hl⟩
    · rw [← hnd]
      exact ev_fdiv (ev_sub (ev_add (ev_bits (hbase := rfl) (hline := rfl) (ev_locI N rfl)) (ev_cellI cN rfl)) ev_int) (ev_cellI cN rfl) (sm60 hn0 hn).1 (sm60 hn0 hn).2
    · rintro v1 v2 h' l ⟨a, t, rfl, hl⟩ ⟨u, rfl⟩
      refine (tr_listmul hl (sm120 hnd60).1 (sm120 hnd60).2 (Nat.le_refl _)).mono ?_
      rintro v h'' l' ⟨D, rfl, hD, hl'⟩
      refine ⟨D, t, rfl, ?_, ?_⟩
      · cases e : h₁.get? D with
        | none => rfl
        | some o => rw [l _ _ e] at hD; cases hD
      · rw [repl_flat, Int.toNat_natCast] at hl'; exact hl'
  obtain ⟨D, tz, rfl, hD, hl2⟩ := p2
  have nD : h2.Ns L _ := Ns_le N l2
  have cDne : D ≠ L + 2 := fun q => by obtain ⟨o, e, _⟩ := cD; rw [q, e] at hD; cases hD
  have hl3 : h3.IsList D (List.replicate (nDig n x) (Value.int 0 tz)).toArray := let ⟨o, e, r⟩ := hl2; ⟨o, o3 _ _ cDne e, r⟩
  have keep3 : ∀ b o, b ≠ L + 2 → h₁.get? b = some o → h3.get? b = some o := fun b o hb e => o3 b o hb (l2 b o e)
  have cell3 : ∀ {c v}, h₁.IsCell c v → c ≠ L + 2 → h3.IsCell c v := fun ⟨o, e, d⟩ hne => ⟨o, keep3 _ _ hne e, d⟩
  have cN3 := cell3 cN (add_ne L (by decide))
  have cI3 := cell3 cI (add_ne L (by decide))
  have l3 : le s.heap h3 := fun b o e => keep3 b o (Nat.ne_of_lt (Nat.lt_of_lt_of_le (hL ▸ Heap.lt_size e) (Nat.le_add_right _ _))) (l₁ b o e)
  have T3 := T.le l3
  have N3 : h3.Ns L _ := let ⟨o, es, ep, e, r⟩ := N; ⟨o, es, ep, keep3 _ _ (Nat.ne_of_lt (Nat.lt_add_of_pos_right (by decide))) e, r⟩
  refine x_defC (hg := rfl) (hk := rfl) (hkI := rfl) (hd0 := rfl) (hk0 := rfl) (ha := rfl) G (l₀.trans (ls.trans l3)) T3.1 G.c37 cI3 rfl rfl rfl rfl rfl rfl (fun f c' ctv doc pm h4 tk4 kp hf cI4 hfo hcr hT => ?_)
  obtain ⟨clos, hc1, hc2, hc3, hfo⟩ : ∃ clos : List (Str × Addr), clos.lookup ("n" : Str) = some (L + 1) ∧ clos.lookup ("a_digits" : Str) = some (L + 2) ∧ clos.lookup ("inner" : Str) = some (L + 3) ∧ h4.get? f = some (fnMade _ _ _ _ _ clos doc pm c' ctv) := ⟨_, rfl, rfl, rfl, hfo⟩
  have lT : leT s.heap h4 := fun b o n1 n2 e => kp b o n1 (Nat.ne_of_lt (Nat.lt_of_lt_of_le (hL ▸ Heap.lt_size e) (Nat.le_add_right _ _))) (l3 b o e)
  have T4 : TabOK h4 := ⟨hT, T3.2.keep T3.1 (by decide) cI3 kp⟩
  have g4 : le H h4 := G.up (l₀.trans ls) lT
  have cell4 : ∀ {c v}, h3.IsCell c v → c ≠ L + 3 → h4.IsCell c v := fun ⟨o, e, d⟩ hne => ⟨o, kp _ _ (tab_ne T3 e (fun ps q => by rw [q] at d; cases d)).1 hne e, d⟩
  have cN4 := cell4 cN3 (add_ne L (by decide))
  have cD4 := cell4 cD3 (add_ne L (by decide))
  have hl4 : h4.IsList D (List.replicate (nDig n x) (Value.int 0 tz)).toArray := by
    obtain ⟨o, e, c, k, d⟩ := hl3
    refine ⟨o, kp _ _ (tab_ne T3 e (fun ps q => by rw [q] at d; cases d)).1 (fun q => ?_) e, c, k, d⟩
    obtain ⟨o', e', d'⟩ := cI3
    rw [q, e'] at e; cases e; rw [d] at d'; cases d'
  have LneP : L ≠ 37 ∧ L ≠ 44 := by
    obtain ⟨o, es, ep, e, d, r⟩ := N3
    exact tab_ne T3 e (fun ps q => by rw [q] at d; cases d)
  have N4 := N3.at' fun o e => kp _ _ LneP.1 (Nat.ne_of_lt (Nat.lt_add_of_pos_right (by decide))) e
  have ne4 : ∀ {b : Addr} {o : Obj}, h4.get? b = some o → (∀ xs k, o.data ≠ .seq xs k) → b ≠ D := fun {b o} e hd q => by
    obtain ⟨o', e', _, k, d⟩ := hl4
    rw [q, e'] at e; cases e
    exact hd _ _ d
  have HD : H.get? D = none := by
    cases e : H.get? D with
    | none => rfl
    | some o => rw [(l₀.trans (ls.trans l₁)) _ _ e] at hD; cases hD
  have upH : ∀ h', off D h4 h' → le H h' := fun h' k b o e => k b o (fun q => by rw [q, HD] at e; cases e) (g4 b o e)
  have upC : ∀ {c v} h', h4.IsCell c v → off D h4 h' → h'.IsCell c v := fun h' ⟨o, e, d⟩ k => ⟨o, k _ _ (ne4 e (fun xs k q => by rw [q] at d; cases d)) e, d⟩
  have upF : ∀ h', off D h4 h' → h'.get? f = _ := fun h' k => k _ _ (ne4 hfo (fun xs k q => by cases q)) hfo
  have upR : ∀ h', off D h4 h' → h'.CodeRec (.ref c') q37 := fun h' k => let ⟨c, o, vs, t, e, ho, d, r⟩ := hcr; ⟨c, o, vs, t, e, k _ _ (ne4 ho (fun xs k q => by rw [q] at d; cases d)) ho, d, r⟩
  have key : ∀ d : Nat, ∀ (y P R : Nat) (A' : Around) (t1 t2 t3 : Tok) (s' : Shared) (its : Array Value) (Q : Value → Shared → Prop) (E : Value → Shared → Prop), R - P = d → P < R → R ≤ its.size → y < 2 ^ (n * d) → y < 2 ^ 60 → its.size ≤ 200 → A'.depth + d < recursionLimit →
      off D h4 s'.heap → s'.heap.IsList D its →
      (∀ h' tk its', off D s'.heap h' → h'.IsList D its' → its'.size = its.size → (∀ k, k < d → ∃ t, its'[P + k]? = some (.int (digit n y k) t)) → (∀ i, (i < P ∨ R ≤ i) → its'[i]? = its[i]?) → Q .none { s' with heap := h', toks := tk }) →
      wpAny (model PR w) A' (call (.ref f) [.int y t1, .int P t2, .int R t3]) Q E s' := by
    intro d
    induction d using Nat.strongRecOn with
    | ind d ih =>
      intro y P R A' t1 t2 t3 s' its Q E hd hPR hR hy hy60 hd200 hdep ho hli q
      refine wp_made (hco := rfl) (hgen := rfl) (hk := rfl) (binds := [("x", .int y t1), ("L", .int P t2), ("R", .int R t3)]) G (upH _ ho) (Nat.lt_of_le_of_lt (Nat.le_add_right _ _) hdep) (upF _ ho) (upR _ ho) rfl (fun L' h5 tk5 hL' N5 l5 => ?_) (hloc := locs rfl)
      have DL : D ≠ L' := fun q' => by obtain ⟨o, e, _⟩ := hli; rw [q', hL'] at e; cases e
      have oR : ∀ its₁ : Array Value, Off L' (fun h' => off D s'.heap h' ∧ h'.IsList D its₁) := fun its₁ g g' _ k ⟨a, b⟩ =>
        ⟨fun b o nD e => k b o (fun q' => by rw [q', hL'] at e; cases e) (a b o nD e), let ⟨o, e, r⟩ := b; ⟨o, k _ _ DL e, r⟩⟩
      have F : FS L' _ (fun h' => off D s'.heap h' ∧ h'.IsList D its) h5 := ⟨N5, off.of_le l5, List_le hli l5⟩
      refine x_if F (oR its) (te_eq (ev_add (ev_locI F.ns rfl) ev_int) (ev_locI F.ns rfl)) (fun e h6 tk6 F => ?_) (fun e h6 tk6 F => x_nil ?_)
      · have eR : R = P + 1 := cast_of e
        have d1 : d = 1 := by rw [← hd, eR, Nat.add_sub_cancel_left]
        have hPs : P < its.size := Nat.lt_of_lt_of_le hPR hR
        refine x_setitem (hs := rfl) (ev_loc F.ns rfl) (ev_free (upC _ cD4 (ho.trans F.r.1)) hc2) (ev_locI F.ns rfl) F.r.2 (Int.natCast_nonneg _) (cast63 (Nat.le_trans (Nat.le_of_lt hPs) hd200) rfl) (Int.ofNat_lt.mpr hPs) fun h7 h8 tk8 l7 o8 hl8 => x_retN (q h8 tk8 _ ((F.r.1.trans (off.of_le l7)).trans o8) hl8 (by simp) (fun k hk => ⟨t1, ?_⟩) fun i hi => ?_)
        · have k0 : k = 0 := Nat.lt_one_iff.mp (d1 ▸ hk)
          subst k0
          have : digit n y 0 = y := by
            unfold digit
            rw [Nat.mul_zero, Nat.pow_zero, Nat.div_one]
            exact Nat.mod_eq_of_lt (by rw [d1, Nat.mul_one] at hy; exact hy)
          rw [this, Int.toNat_natCast, Nat.add_zero]
          simp [hPs]
        · rw [Int.toNat_natCast, Array.getElem?_setIfInBounds, if_neg (mid_ne hPR hi)]
      · have eR : ¬ P + 1 = R := cast_ne e
        have hm : ((P : Int) + R).fdiv (2 ^ (1 : Int).toNat) = (((P + R) / 2 : Nat) : Int) := by
          rw [← Int.natCast_add]
          exact fdiv_nat (P + R) 2
        have hM := mid_half hPR eR
        refine x_int F (oR its) (i := (((P + R) / 2 : Nat) : Int)) (hm ▸ ev_shr (ev_add (ev_locI F.ns rfl) (ev_locI F.ns rfl)) ev_int (by decide)) fun t4 h7 tk7 F => ?_
        generalize (P + R) / 2 = M at hM F
        obtain ⟨md1, md2, md3⟩ := mid_d hd hM
        have esh : ((M : Int) - P) * n = ((n * (M - P) : Nat) : Int) := by
          rw [Int.natCast_mul, Int.mul_comm, Int.ofNat_sub (Nat.le_of_lt hM.1)]
        refine x_int F (oR its) (i := ((n * (M - P) : Nat) : Int)) (esh ▸ ev_mul (ev_sub (ev_locI F.ns rfl) (ev_locI F.ns rfl)) (Tr.mono (ev_free (upC _ cN4 (ho.trans F.r.1)) hc1) fun _ _ _ e => ⟨_, e⟩) (mid_abs hM.2 hM.1 hR hd200)) fun t5 h8 tk8 F => ?_
        have bsh : n * (M - P) ≤ 60 * 200 := Nat.mul_le_mul hn (mid_200 hM.2 hR hd200)
        have bsc := small_cast bsh rfl
        have eup : (y : Int).fdiv (2 ^ ((n * (M - P) : Nat) : Int).toNat) = ((y / 2 ^ (n * (M - P)) : Nat) : Int) := by
          rw [Int.toNat_natCast, pow_cast, fdiv_nat]
        refine x_int F (oR its) (i := ((y / 2 ^ (n * (M - P)) : Nat) : Int)) (eup ▸ ev_shr (ev_locI F.ns rfl) (ev_locI F.ns rfl) bsc.1) fun t6 h9 tk9 F => ?_
        have upy : y / 2 ^ (n * (M - P)) ≤ y := Nat.div_le_self _ _
        have elo : Builtin.bitXor (y : Int) (((y / 2 ^ (n * (M - P)) : Nat) : Int) * 2 ^ ((n * (M - P) : Nat) : Int).toNat) = ((y % 2 ^ (n * (M - P)) : Nat) : Int) := by
          rw [Int.toNat_natCast, xor_low]
        refine x_int F (oR its) (i := ((y % 2 ^ (n * (M - P)) : Nat) : Int)) (elo ▸ ev_xor (ev_locI F.ns rfl) (ev_shl (ev_locI F.ns rfl) (ev_locI F.ns rfl) bsc.1 bsc.2 (by rw [Int.natAbs_natCast]; exact Nat.lt_trans (Nat.lt_of_le_of_lt upy hy60) (by decide)))) fun t7 h10 tk10 F => ?_
        have o10 := ho.trans F.r.1
        have loy : y % 2 ^ (n * (M - P)) ≤ y := Nat.mod_le _ _
        refine x_callM (hs := rfl) (hi := rfl) (hsw := rfl) (ev_free (upC _ cI4 o10) hc3) (upF _ o10) rfl (evs_cons (ev_locI F.ns rfl) (evs_cons (ev_locI F.ns rfl) (evs_cons (ev_locI F.ns rfl) evs_nil stbI) stbI) stbI) ?_
        rintro vs h11 tk11 l11 ⟨_, _, rfl, ⟨_, rfl⟩, _, _, rfl, ⟨_, rfl⟩, _, _, rfl, ⟨_, rfl⟩, rfl⟩
        have o11 := o10.trans (off.of_le l11)
        refine ih (M - P) md2 (y % 2 ^ (n * (M - P))) P M _ _ _ _ _ its _ _ rfl hM.1 (Nat.le_trans (Nat.le_of_lt hM.2) hR) (Nat.mod_lt _ (Nat.two_pow_pos _)) (Nat.lt_of_le_of_lt loy hy60) hd200 (dlt hdep md2) o11 (List_le F.r.2 l11) ?_
        intro h12 tk12 its1 o12 hl12 sz1 dg1 ot1
        have N12 := (Ns_le F.ns l11).at' fun o e => o12 _ _ (Ne.symm DL) e
        have F : FS L' _ (fun h' => off D s'.heap h' ∧ h'.IsList D its1) h12 := ⟨N12, (F.r.1.trans (off.of_le l11)).trans o12, hl12⟩
        have o12' := ho.trans F.r.1
        refine x_callM (hs := rfl) (hi := rfl) (hsw := rfl) (ev_free (upC _ cI4 o12') hc3) (upF _ o12') rfl (evs_cons (ev_locI F.ns rfl) (evs_cons (ev_locI F.ns rfl) (evs_cons (ev_locI F.ns rfl) evs_nil stbI) stbI) stbI) ?_
        rintro vs h13 tk13 l13 ⟨_, _, rfl, ⟨_, rfl⟩, _, _, rfl, ⟨_, rfl⟩, _, _, rfl, ⟨_, rfl⟩, rfl⟩
        have hyu : y / 2 ^ (n * (M - P)) < 2 ^ (n * (R - M)) := by
          rw [Nat.div_lt_iff_lt_mul (Nat.two_pow_pos _), ← Nat.pow_add, ← Nat.mul_add]
          rw [md3]; exact hy
        refine ih (R - M) md1 (y / 2 ^ (n * (M - P))) M R _ _ _ _ _ its1 _ _ rfl hM.2 (by rw [sz1]; exact hR) hyu (Nat.lt_of_le_of_lt upy hy60) (by rw [sz1]; exact hd200) (dlt hdep md1) (o12'.trans (off.of_le l13)) (List_le F.r.2 l13) ?_
        intro h14 tk14 its2 o14 hl14 sz2 dg2 ot2
        refine x_nil (q h14 tk14 its2 ((F.r.1.trans (off.of_le l13)).trans o14) hl14 (sz2.trans sz1) (fun k hk => ?_) fun i hi => ?_)
        · by_cases hkM : k < M - P
          · obtain ⟨t', e'⟩ := dg1 k hkM
            refine ⟨t', ?_⟩
            rw [ot2 (P + k) (.inl (mid_i hkM)), e']
            have : digit n (y % 2 ^ (n * (M - P))) k = digit n y k := by
              unfold digit
              refine dig_low y _ n k ?_
              rw [← Nat.mul_succ]
              exact Nat.mul_le_mul_left n hkM
            rw [this]
          · obtain ⟨t', e'⟩ := dg2 (k - (M - P)) (mid_k hk hkM md3)
            refine ⟨t', ?_⟩
            rw [mid_p hM.1 hkM, e']
            have : digit n (y / 2 ^ (n * (M - P))) (k - (M - P)) = digit n y k := by
              unfold digit
              rw [dig_high, Nat.add_sub_cancel' (Nat.le_of_not_lt hkM)]
            rw [this]
        · rw [ot2 i (hi.imp (fun q => Nat.lt_trans q hM.1) id), ot1 i (hi.imp id (Nat.le_trans (Nat.le_of_lt hM.2)))]
  have hsz : (List.replicate (nDig n x) (Value.int 0 tz)).toArray.size = nDig n x := by simp
  by_cases hx0 : x = 0
  · subst hx0
    have z : nDig n 0 = 0 := by
      unfold nDig
      exact Nat.div_eq_of_lt (by show 0 + n - 1 < n; omega)
    refine x_ifU ((te_int (ev_locI N4 rfl)).eq (b' := false) rfl) (fun e => by cases e) fun _ h5 tk5 l5 => x_nil ?_
    refine x_retU (ev_cell (Cell_le cD4 l5) rfl) fun v h6 tk6 l6 p => ⟨v, h6, tk6, rfl, rfl, lT.trans (leT.of (l5.trans l6)), T4.le (l5.trans l6), ?_⟩
    cases p
    refine ⟨D, _, rfl, List_le hl4 (l5.trans l6), ?_⟩
    rw [z]
    exact .nil
  · have hb1 : 0 < Builtin.Int.intBits (x : Int) := by
      unfold Builtin.Int.intBits
      rw [if_neg (by simp; omega)]
      omega
    have hge : Builtin.Int.intBits (x : Int) ≤ n * nDig n x := ceil_ge hn0
    have hnd0 : 0 < nDig n x := by
      rcases Nat.eq_zero_or_pos (nDig n x) with z | z
      · rw [z, Nat.mul_zero] at hge; omega
      · exact z
    have hxlt : x < 2 ^ (n * nDig n x) := by
      have := intBits_le_iff.mp (Nat.le_refl (Builtin.Int.intBits (x : Int)))
      rw [Int.natAbs_natCast] at this
      exact Nat.lt_of_lt_of_le this (Nat.pow_le_pow_right (by decide) hge)
    have hne : ((x : Int) != 0) = true := by simp; omega
    refine x_ifU ((te_int (ev_locI N4 rfl)).eq hne) (fun _ h5 tk5 l5 => ?_) (fun e => by cases e)
    refine x_callM (hs := rfl) (hi := rfl) (hsw := rfl) (ev_cell (Cell_le cI4 l5) rfl) (l5 _ _ hfo) rfl (evs_cons (ev_locI (Ns_le N4 l5) rfl) (evs_cons ev_int (evs_cons (ev_len (ev_bi G (g4.trans l5) rfl rfl) (ev_cell (Cell_le cD4 l5) rfl) (List_le hl4 l5) (by rw [hsz]; omega)) evs_nil stbI) stbI) stbI) ?_
    rintro vs h6 tk6 l6 ⟨_, _, rfl, ⟨_, rfl⟩, _, _, rfl, ⟨_, rfl⟩, _, _, rfl, ⟨_, rfl⟩, rfl⟩
    rw [hsz]
    refine key (nDig n x) x 0 (nDig n x) _ _ _ _ _ _ _ _ rfl hnd0 (by rw [hsz]; exact Nat.le_refl _) hxlt hx (by rw [hsz]; omega) (by show A.depth + 1 + _ < _; omega) (off.of_le (l5.trans l6)) (List_le hl4 (l5.trans l6)) ?_
    intro h7 tk7 its o7 hl7 sz7 dg7 _
    have o47 := (off.of_le (L := D) (l5.trans l6)).trans o7
    have T7 : TabOK h7 := by
      refine ⟨?_, ?_⟩
      · obtain ⟨ps, e, r⟩ := T4.1
        exact ⟨ps, o47 _ _ (ne4 e (fun _ _ q => by cases q)) e, r.imp id fun ⟨c, e1, c₂, o₂, vs, t, e2, ho, hd, hv⟩ => ⟨c, e1, c₂, o₂, vs, t, e2, o47 _ _ (ne4 ho (fun _ _ q => by rw [q] at hd; cases hd)) ho, hd, hv⟩⟩
      · obtain ⟨ps, e, r⟩ := T4.2
        exact ⟨ps, o47 _ _ (ne4 e (fun _ _ q => by cases q)) e, r.imp id fun ⟨c, e1, c₂, o₂, vs, t, e2, ho, hd, hv⟩ => ⟨c, e1, c₂, o₂, vs, t, e2, o47 _ _ (ne4 ho (fun _ _ q => by rw [q] at hd; cases hd)) ho, hd, hv⟩⟩
    have sD : s.heap.get? D = none := by
      cases e : s.heap.get? D with
      | none => rfl
      | some o => rw [l₁ _ _ e] at hD; cases hD
    have lT7 : leT s.heap h7 := fun b o n1 n2 e => o47 b o (fun q => by rw [q, sD] at e; cases e) (lT b o n1 n2 e)
    refine x_nil ?_
    refine x_retU (ev_cell (upC _ cD4 o47) rfl) fun v h8 tk8 l8 p => ⟨v, h8, tk8, rfl, rfl, lT7.trans (leT.of l8), T7.le l8, ?_⟩
    cases p
    refine ⟨D, _, rfl, List_le hl7 l8, ?_⟩
    have len : its.toList.length = nDig n x := by rw [Array.length_toList, sz7, hsz]
    have I := ints_of (P := fun j v => ∃ t, v = .int (digit n x j : Int) t) (num := fun j => (digit n x j : Int)) (fun _ _ h => h) its.toList (fun j v e => ?_)
    · rw [len] at I; exact I
    · have hj : j < nDig n x := by rw [← len]; exact (List.getElem?_eq_some_iff.mp e).1
      obtain ⟨t, e'⟩ := dg7 j hj
      rw [Nat.zero_add, ← Array.getElem?_toList, e] at e'
      cases e'
      exact ⟨t, rfl⟩
end
end
end Mine

namespace Mine
set_option maxRecDepth 100000
set_option maxHeartbeats 8000000
noncomputable section

inductive InvW (L : Addr) (n : Nat) (Wt : Nat → Heap → Prop) (Mut : Addr → Prop) (h : Heap) (J : Nat → (Str → Option Value) → Heap → Prop) (s : Shared) (c : Nat) (s' : Shared) : Prop
  | mk (i : Nat) (m : Str → Option Value) (g : Heap) (tk : Nat) (e : s' = St s g tk) (ec : c = n + 1 - i) (le : i ≤ n) (w : Wt i g) (N : g.Ns L m) (j : J i m g) (k : ∀ b o, ¬ Mut b → h.get? b = some o → g.get? b = some o)
theorem inv_dec {i n : Nat} (h : i < n) : n + 1 - (i + 1) < n + 1 - i := by omega
section
variable {w : World} {A : Around} {env : Env} {h : Heap} {mg mb : Str → Option Value} {H : Heap} {s : Shared} {E : Value → Shared → Prop} {rest : List Stmt} {tk : Nat} {Q : Flow → Shared → Prop}

theorem x_forW {x : Str} {px pos : Pos} {iter : Expr} {body : List Stmt} {n : Nat} {P : Nat → Value → Prop} {S : Addr → Prop} {m : Str → Option Value}
    (it : It w A env h iter n P S) (N : h.Ns env.locals m) (Mut : Addr → Prop) (hMut : ∀ b, Mut b → ¬ S b ∧ ∃ o, h.get? b = some o) (hL : Mut env.locals)
    (J : (Addr → Prop) → Nat → (Str → Option Value) → Heap → Prop)
    (JS : ∀ W i m g g', (∀ b, W b → h.get? b = none) → (∀ b, W b → g.get? b = none ∨ ∃ o, g.get? b = some o ∧ NoCode o) → (∃ m', g.Ns env.locals m') → (∀ b o, b ≠ env.locals → ¬ W b → g.get? b = some o → g'.get? b = some o) → J W i m g → J W i m g') (J0 : ∀ W, (∀ b, W b → h.get? b = none) → J W 0 m h)
    (step : ∀ W i v m g tk, i < n → P i v → J W i m g → (∀ b, W b → ∃ o, g.get? b = some o) → (∀ b, W b → h.get? b = none) → g.Ns env.locals (fun y => if y = x then some v else m y) → (∀ b o, ¬ Mut b → h.get? b = some o → g.get? b = some o) →
      wpAny (model PR w) A (execs body env) (LoopP (NextW env.locals Mut (J W (i + 1)) s g) Q) (fun _ _ => False) (St s g tk))
    (k : ∀ W m g tk, J W n m g → g.Ns env.locals m → (∀ b o, ¬ Mut b → h.get? b = some o → g.get? b = some o) → wpAny (model PR w) A (execs rest env) Q E (St s g tk))
    (hx : env.kindOf x = some .local := by rfl) (hp : (env.scope.kind == .class || (env.scope.kind == .module && env.locals != env.globals)) = false := by rfl)
    (hs : ∀ v, foldedSetIterable iter env v = pure v := by intro _; rfl) :
    wpAny (model PR w) A (execs (.For (.Name x px) iter body [] pos :: rest) env) Q E (St s h tk) := by
  refine wpAny_execs_cons (wpAny_For (it _ _ _ le.rfl fun I fp wr Wt h' tk' l' W st hfp hwr hS hex => ?_) hs)
  have LN : ∃ o, h.get? env.locals = some o := let ⟨o, _, _, e, _⟩ := N; ⟨o, e⟩
  have hwr' : ∀ b, b ∈ wr → h.get? b = none := hwr
  have nwr : ∀ b, (∃ o, h.get? b = some o) → b ∉ wr := fun b ⟨o, e⟩ hb => by rw [hwr' b hb] at e; cases e
  have nfp : ∀ b ∈ fp, ¬ Mut b := fun b hb hm => by
    obtain ⟨ns, o, e⟩ := hMut b hm
    rcases hS b hb with q | q
    · rw [show (St s h tk).heap = h from rfl, e] at q; cases q
    · exact ns q
  have Lfp : env.locals ∉ fp := fun hb => nfp _ hb hL
  refine codeAny_forLoop_any (InvW env.locals n Wt Mut h (J (· ∈ wr)) s) ?_ (n + 1)
    ⟨0, m, h', tk', rfl, rfl, Nat.zero_le _, st, Ns_le N l', JS _ 0 m h h' hwr' (fun b hb => .inl (hwr' b hb)) ⟨m, N⟩ (fun b o _ _ e => l' b o e) (J0 _ hwr'), fun b o _ e => l' b o e⟩
  rintro c s' ⟨i, m, g, tk, rfl, rfl, hi, hst, hN, hJ, hb⟩
  by_cases hlt : i < n
  · refine W.item i _ _ _ hlt hst fun v g1 tk1 hP st1 k1 => ?_
    show wpAny (model PR w) A (pure ()) _ _ _
    refine wpAny_pure (wpAny_assign_Name (wpAny_storeName_local hx (hN.at' fun o e => k1 _ o (nwr _ LN) e) (fun g2 n2 s2 => ?_) hp))
    have kk : ∀ b o, b ≠ env.locals → b ∉ wr → g.get? b = some o → g2.get? b = some o := fun b o nb hb' e => (s2.2 b nb).trans (k1 b o hb' e)
    have kb : ∀ b o, ¬ Mut b → h.get? b = some o → g2.get? b = some o := fun b o nm e => kk b o (fun q => nm (q ▸ hL)) (nwr b ⟨o, e⟩) (hb b o nm e)
    have ex2 : ∀ b, b ∈ wr → ∃ o, g2.get? b = some o := fun b hb' => let ⟨o, e, _⟩ := hex _ _ st1 b hb'; ⟨o, (s2.2 b fun q => nwr _ LN (q ▸ hb')).trans e⟩
    refine wpAny_mono (step (· ∈ wr) i v m g2 _ hlt hP (JS _ i m g g2 hwr' (fun b hb => .inr (hex _ _ hst b hb)) ⟨_, hN⟩ kk hJ) ex2 hwr' n2 kb) (fun f s3 hf => ?_) fun _ _ e => e.elim
    cases f with
    | next =>
      obtain ⟨m', g', tk', rfl, n', j', kp⟩ := hf
      refine ⟨n + 1 - (i + 1), inv_dec hlt, i + 1, m', g', tk', rfl, rfl, hlt, W.frame _ _ _ st1 fun b hb' o e => kp b o (nfp b hb') ((s2.2 b (fun q => Lfp (q ▸ hb'))).trans e), n', j', fun b o nm e => kp b o nm (kb b o nm e)⟩
    | brk => exact False.elim hf
    | cont => exact False.elim hf
    | ret v => exact hf
  · have e : i = n := Nat.le_antisymm hi (Nat.le_of_not_lt hlt)
    subst e
    refine W.done _ _ _ hst fun g1 tk1 k1 => ?_
    refine wpAny_execs_nil ?_
    exact k _ m g1 tk1 (JS _ _ m g g1 hwr' (fun b hb => .inr (hex _ _ hst b hb)) ⟨_, hN⟩ (fun b o _ hb' e => k1 b o hb' e) hJ) (hN.at' fun o e => k1 _ o (nwr _ LN) e) fun b o nm e => k1 b o (nwr b ⟨o, e⟩) (hb b o nm e)
theorem x_for {x : Str} {px pos : Pos} {iter : Expr} {body : List Stmt} {n : Nat} {P : Nat → Value → Prop} {S : Addr → Prop} {m : Str → Option Value}
    (it : It w A env h iter n P S) (N : h.Ns env.locals m) (Mut : Addr → Prop) (hMut : ∀ b, Mut b → ¬ S b ∧ ∃ o, h.get? b = some o) (hL : Mut env.locals)
    (J : Nat → (Str → Option Value) → Heap → Prop)
    (JS : ∀ i m g g', (∀ b o, b ≠ env.locals → (∃ o', h.get? b = some o') → g.get? b = some o → g'.get? b = some o) → J i m g → J i m g') (J0 : J 0 m h)
    (step : ∀ i v m g tk, i < n → P i v → J i m g → g.Ns env.locals (fun y => if y = x then some v else m y) → (∀ b o, ¬ Mut b → h.get? b = some o → g.get? b = some o) →
      wpAny (model PR w) A (execs body env) (LoopP (NextW env.locals Mut (J (i + 1)) s g) Q) (fun _ _ => False) (St s g tk))
    (k : ∀ m g tk, J n m g → g.Ns env.locals m → (∀ b o, ¬ Mut b → h.get? b = some o → g.get? b = some o) → wpAny (model PR w) A (execs rest env) Q E (St s g tk))
    (hx : env.kindOf x = some .local) (hp : (env.scope.kind == .class || (env.scope.kind == .module && env.locals != env.globals)) = false)
    (hs : ∀ v, foldedSetIterable iter env v = pure v := by intro _; rfl) :
    wpAny (model PR w) A (execs (.For (.Name x px) iter body [] pos :: rest) env) Q E (St s h tk) :=
  x_forW it N Mut hMut hL (fun _ => J) (fun W i m g g' hW _ _ kk => JS i m g g' fun b o nb ⟨o', e'⟩ => kk b o nb fun hb => by rw [hW b hb] at e'; cases e') (fun _ _ => J0)
    (fun _ i v m g tk hi hP hJ _ _ => step i v m g tk hi hP hJ) (fun _ => k) hx hp hs

theorem it_rev {e : Expr} {rp pos : Pos} {a : Addr} {its : Array Value} (G : Gd w mg mb H) (l₀ : le H h) (hh : A.handled = none) (x : Ev w A env h e (isV (.ref a))) (hl : h.IsList a its)
    (hg : env.globals = mainGlobals) (hb : env.builtins = builtinsNs) (hk : env.scope.kind = .function) (hkl : env.kindOf "reversed" = some .globalImplicit)
    (hs : starEach [e] env = (false, eval e env) :: starEach [] env) :
    It w A env h (.Call (.Name "reversed" rp) [e] [] pos) its.size (fun i v => its[its.size - 1 - i]? = some v) (· = a) := fun s Q E l q =>
  wpAny_Call_NameR ((ev_bi (x := "reversed") (v := .type "reversed") G l₀ rfl rfl (by decide) hg hb hk hkl) s _ _ l fun v h1 tk1 l1 p1 => by
    cases p1
    refine Rows.callWith_type1 ((evs_cons (pos := pos) x evs_nil stbV hs) _ _ _ (l.trans l1) fun vs h2 tk2 l2 p2 => ?_) hs rfl
    obtain ⟨_, _, rfl, rfl, rfl⟩ := p2
    have hl2 := List_le hl (l.trans (l1.trans l2))
    have hne : a ≠ h2.objs.size := by obtain ⟨o, ho, _⟩ := hl2; exact Nat.ne_of_lt (Heap.lt_size ho)
    have lt : s.heap.get? h2.objs.size = none := by
      cases e : s.heap.get? h2.objs.size with
      | none => rfl
      | some o => exact absurd (Heap.lt_size ((l1.trans l2) _ _ e)) (Nat.lt_irrefl _)
    refine call_reversed_list hl2 ?_
    have hit : (h2.push (revObj a ((its.size : Int) - 1))).IsRevIter h2.objs.size a ((its.size : Int) - 1) := ⟨_, Heap.get?_push_size _ rfl, rfl, rfl⟩
    refine wpAny_pyIter_revIter hit ?_
    refine q _ [h2.objs.size, a] [h2.objs.size] _ _ _ ((l1.trans l2).trans (le_push _ _)) (Walks.listRev hh _ a hne its) ⟨Nat.zero_le _, ?_, List_le hl2 (le_push _ _)⟩ ?_ ?_ ?_ (fun i g x b hb => by rw [List.mem_singleton.mp hb]; obtain ⟨_, ⟨o, e, _, hd⟩, _⟩ := x; exact ⟨o, e, noCode hd rfl⟩)
    · simpa using hit
    · intro b hb
      rw [Heap.size_push]
      rcases List.mem_cons.mp hb with rfl | hb
      · exact Nat.lt_succ_self _
      · rw [List.mem_singleton.mp hb]
        obtain ⟨o, ho, _⟩ := hl2
        exact Nat.lt_succ_of_lt (Heap.lt_size ho)
    · intro b hb; rw [List.mem_singleton.mp hb]; exact lt
    · intro b hb
      rcases List.mem_cons.mp hb with rfl | hb
      · exact .inl lt
      · exact .inr (List.mem_singleton.mp hb))

theorem x_append {o elt : Expr} {apos pos pos' : Pos} {D : Addr} {its : Array Value} {P : Value → Heap → Prop} (a : Ev w A env h o (isV (.ref D))) (b : Ev w A env h elt P) (hl : h.PlainList D its) (hsz : its.size ≤ sizeLine)
    (k : ∀ y h1 h2 tk', le h h1 → P y h1 → off D h1 h2 → h2.PlainList D (its.push y) → wpAny (model PR w) A (execs rest env) Q E (St s h2 tk'))
    (hbase : attributeBase o "append" env (eval o env) = eval o env)
    (hfew : ((backTo pos (starEach [elt] env)).all (fun x => !x.1) && (backToKw pos (keywordEach [] env)).all (fun x => x.1.isSome)
      && decide (([elt] : List Expr).length + ([] : List Keyword).length + (if ([] : List Keyword).isEmpty then 0 else 1) < 30)) = true)
    (hline : (apos.endLine == pos.line) = true) (htrees : backTo pos (starEach [elt] env) = [(false, eval elt env)])
    (hi : interactive env = false) (hsw : swapsWith (.Call (.Attribute o "append" apos) [elt] [] pos) none pos'.line env = pure false) :
    wpAny (model PR w) A (execs (.Expr (.Call (.Attribute o "append" apos) [elt] [] pos) pos' :: rest) env) Q E (St s h tk) :=
  wpAny_execs_cons (wpAny_Expr_any (wpAny_Call_append hbase hfew hline htrees (a _ _ _ le.rfl fun v h1 tk1 l1 p1 => by
    cases p1
    obtain ⟨n, e⟩ := hl
    refine ⟨D, its, rfl, ⟨_, n, l1 _ _ e, rfl, rfl, rfl⟩, b _ _ _ l1 fun y h2 tk2 l2 p2 => ?_⟩
    exact wpAny_list_append_plain (hsz := hsz) ⟨n, (l1.trans l2) _ _ e⟩ fun h3 hl3 s3 => k y h2 h3 _ (l1.trans l2) p2 (off.of_same s3) hl3)) hi hsw)

theorem x_reverse {o : Expr} {apos pos pos' : Pos} {D : Addr} {its : Array Value} (a : Ev w A env h o (isV (.ref D))) (hl : h.PlainList D its) (hsz : its.size ≤ sizeLine)
    (k : ∀ h1 h2 tk', le h h1 → off D h1 h2 → h2.PlainList D its.reverse → wpAny (model PR w) A (execs rest env) Q E (St s h2 tk'))
    (hbase : attributeBase o "reverse" env (eval o env) = eval o env) (hline : (apos.endLine == pos.line) = true)
    (hi : interactive env = false) (hsw : swapsWith (.Call (.Attribute o "reverse" apos) [] [] pos) none pos'.line env = pure false) :
    wpAny (model PR w) A (execs (.Expr (.Call (.Attribute o "reverse" apos) [] [] pos) pos' :: rest) env) Q E (St s h tk) :=
  wpAny_execs_cons (wpAny_Expr_any (wpAny_Call_method0_late hbase hline (a _ _ _ le.rfl fun v h1 tk1 l1 p1 => by
    cases p1
    obtain ⟨n, e⟩ := hl
    have e1 := l1 _ _ e
    refine ⟨"list", "list.reverse", F.plainAttrs_list, F.slot_list_reverse, F.type_list_reverse, ⟨_, e1, rfl⟩, (fun a q => by cases q; exact ⟨_, e1, rfl⟩), ?_⟩
    refine callWith_method0 (env := env) (call_meets F.slot_list_reverse ⟨_, e1, rfl⟩ F.entry_list_reverse (F.args_list_reverse_1 _) (AutoListH.list_reverse_list_0 D its n hsz) ⟨e1, ?_⟩)
    have e2 := Heap.get?_update_self (Obj.mapSeq fun x : Array Value => x.reverse) e1 rfl
    refine k h1 _ _ l1 (off.of_same (Heap.SameBut.update ..)) ⟨_, e2⟩)) hi hsw)
end
end
end Mine

namespace Mine
set_option maxRecDepth 100000
set_option maxHeartbeats 8000000
noncomputable section

theorem digs_succ (n x len : Nat) : digs n x (len + 1) = ((x % 2 ^ n : Nat) : Int) :: digs n (x / 2 ^ n) len := by
  unfold digs
  rw [List.range_succ_eq_map, List.map_cons, List.map_map]
  congr 1
  · unfold digit; rw [Nat.mul_zero, Nat.pow_zero, Nat.div_one]
  · apply List.map_congr_left
    intro k _
    show ((digit n x (k + 1) : Nat) : Int) = _
    unfold digit
    rw [Nat.div_div_eq_div_mul, ← Nat.pow_add, Nat.mul_succ, Nat.add_comm]
theorem val_digs (n : Nat) : ∀ (len x : Nat), val n (digs n x len) = ((x % 2 ^ (n * len) : Nat) : Int)
  | 0, x => by show (0 : Int) = _; rw [Nat.mul_zero, Nat.pow_zero, Nat.mod_one]; rfl
  | len + 1, x => by
    rw [digs_succ, val, val_digs n len, Nat.mul_succ, Nat.add_comm, Nat.pow_add, Nat.mod_mul, Int.natCast_add, Int.natCast_mul, pow_cast, Int.mul_comm]
theorem digs_get (n x len i : Nat) (h : i < len) : (digs n x len).getD i 0 = (digit n x i : Int) := by
  unfold digs
  rw [List.getD_eq_getElem?_getD, List.getElem?_map, List.getElem?_range h]; rfl

theorem div_step {n b r d : Nat} {V S : Int} (hb : 0 < b) (hr : r < b) (hd : d < 2 ^ n) (e : V * b + r = S) :
    (r * 2 ^ n + d) / b < 2 ^ n ∧ (r * 2 ^ n + d) % b < b ∧ ((((r * 2 ^ n + d) / b : Nat) : Int) + V * 2 ^ n) * b + ((r * 2 ^ n + d) % b : Nat) = d + S * 2 ^ n := by
  refine ⟨?_, Nat.mod_lt _ hb, ?_⟩
  · rw [Nat.div_lt_iff_lt_mul hb]
    calc r * 2 ^ n + d < r * 2 ^ n + 2 ^ n := by omega
      _ = (r + 1) * 2 ^ n := by rw [Nat.add_mul, Nat.one_mul]
      _ ≤ b * 2 ^ n := Nat.mul_le_mul_right _ hr
      _ = 2 ^ n * b := Nat.mul_comm ..
  · subst e
    have k := Nat.div_add_mod (r * 2 ^ n + d) b
    have k' : (b : Int) * (((r * 2 ^ n + d) / b : Nat) : Int) + ((r * 2 ^ n + d) % b : Nat) = (r : Int) * 2 ^ n + d := by
      have := congrArg (fun x : Nat => (x : Int)) k
      simp only [Int.natCast_add, Int.natCast_mul] at this
      rw [pow_cast]
      exact this
    generalize (((r * 2 ^ n + d) / b : Nat) : Int) = q at k' ⊢
    generalize (((r * 2 ^ n + d) % b : Nat) : Int) = r' at k' ⊢
    generalize (2 : Int) ^ n = p at k' ⊢
    have : (V * b + r) * p = V * p * b + r * p := by
      rw [Int.add_mul]; congr 1; rw [Int.mul_assoc, Int.mul_comm (b : Int) p, ← Int.mul_assoc]
    rw [this, Int.add_mul, Int.mul_comm q]
    omega

theorem ints_push {ys : Array Value} {ns : List Int} {i : Int} {t : Tok} (I : IntsAre ys.toList ns) : IntsAre (ys.push (.int i t)).toList (ns ++ [i]) := by
  rw [Array.toList_push]
  generalize ys.toList = l at I
  induction I with
  | nil => exact .cons _ _ .nil
  | cons n t _ ih => exact .cons _ _ ih
theorem ints_app {vs us : List Value} {ns ms : List Int} (I : IntsAre vs ns) (K : IntsAre us ms) : IntsAre (vs ++ us) (ns ++ ms) := by
  induction I with
  | nil => exact K
  | cons n t _ ih => exact .cons _ _ ih
theorem ints_rev {vs : List Value} {ns : List Int} (I : IntsAre vs ns) : IntsAre vs.reverse ns.reverse := by
  induction I with
  | nil => exact .nil
  | cons n t _ ih => rw [List.reverse_cons, List.reverse_cons]; exact ints_app ih (.cons _ _ .nil)

section
variable {w : World} {A : Around} {env : Env} {h : Heap} {mg mb : Str → Option Value} {H : Heap} {s : Shared} {E : Value → Shared → Prop} {rest : List Stmt} {tk : Nat} {Q : Flow → Shared → Prop}

theorem x_unpack2 {m : Str → Option Value} {R : Heap → Prop} {xa xb : Str} {pa pb tpos pos : Pos} {kk : Nat} {value : Expr} {a b : Int}
    (hh : A.handled = none) (F : FS env.locals m R h) (o : Off env.locals R) (v : Ev w A env h value (isT2 a b))
    (k : ∀ ta tb g1 h2 tk', le h g1 → off env.locals g1 h2 → FS env.locals (fun y => if y = xb then some (.int b tb) else if y = xa then some (.int a ta) else m y) R h2 → wpAny (model PR w) A (execs rest env) Q E (St s h2 tk'))
    (h1 : swapsWithSole [.Tuple [.Name xa pa, .Name xb pb] kk tpos] value pos.line env = pure false)
    (h2 : swappedStores [.Tuple [.Name xa pa, .Name xb pb] kk tpos] value env = pure none)
    (ka : env.kindOf xa = some .local) (kb : env.kindOf xb = some .local)
    (hp : (env.scope.kind == .class || (env.scope.kind == .module && env.locals != env.globals)) = false) :
    wpAny (model PR w) A (execs (.Assign [.Tuple [.Name xa pa, .Name xb pb] kk tpos] value pos :: rest) env) Q E (St s h tk) := by
  refine wpAny_execs_cons (Rows.Assign_Tuple (v _ _ _ le.rfl fun u g1 tk1 l1 p1 => ?_) h1 h2)
  obtain ⟨D, ta, tb, rfl, hl⟩ := p1
  rw [arm_assign_Tuple]
  refine wpAny_bind (wpAny_standAt (wpAny_unpack_tuple hh hl rfl rfl fun g2 l2 => ?_))
  have l2' : le g1 g2 := fun b o e => l2 b o (Nat.ne_of_lt (Heap.lt_size e)) e
  have n2 := Ns_le F.ns (l1.trans l2')
  refine wpAny_assignInOrder_more (wpAny_assign_Name (wpAny_storeName_local ka n2 (fun g3 n3 s3 => ?_) hp))
  refine wpAny_assignInOrder_more (wpAny_assign_Name (wpAny_storeName_local kb n3 (fun g4 n4 s4 => ?_) hp))
  refine wpAny_assignInOrder_none (k ta tb g2 g4 _ (l1.trans l2') ((off.of_same s3).trans (off.of_same s4)) ⟨n4, ?_⟩)
  exact o g2 g4 ⟨m, n2⟩ ((off.of_same s3).trans (off.of_same s4)) (o.up F.ns (l1.trans l2') F.r)

theorem ev_tup2 {e f : Expr} {k : Nat} {pos : Pos} {a b : Int} (x : Ev w A env h e (isI a)) (y : Ev w A env h f (isI b))
    (s1 : starEach [e, f] env = (false, eval e env) :: starEach [f] env := by rfl) (s2 : starEach [f] env = (false, eval f env) :: starEach [] env := by rfl) :
    Ev w A env h (.Tuple [e, f] k pos) (isT2 a b) := fun s Q E l q =>
  wpAny_Tuple ((evs_cons (pos := pos) x (evs_cons y evs_nil stbI s2) stbI s1) _ _ _ l fun vs h1 tk1 l1 p1 => by
    obtain ⟨_, _, rfl, ⟨t, rfl⟩, _, _, rfl, ⟨u, rfl⟩, rfl⟩ := p1
    exact ⟨by show 2 ≤ sizeLine; decide, q _ _ _ (l1.trans (le_push _ _)) ⟨_, t, u, rfl, _, Heap.get?_push_size _ rfl, rfl, _, rfl⟩⟩)

theorem ev_nil {pos : Pos} : Ev w A env h (.List [] pos) (fun v h' => ∃ a, v = .ref a ∧ h.get? a = none ∧ h'.PlainList a #[]) := fun s Q E l q =>
  wpAny_List ((evs_nil (pos := pos)) _ _ _ l fun vs h1 tk1 l1 p1 => by
    cases p1
    refine ⟨Nat.zero_le _, q _ _ _ (l1.trans (le_push _ _)) ⟨_, rfl, ?_, _, Heap.get?_push_size _ rfl⟩⟩
    cases e : h.get? h1.objs.size with
    | none => rfl
    | some o => exact absurd (Heap.lt_size ((l.trans l1) _ _ e)) (Nat.lt_irrefl _))

theorem ps7 {b : Nat} (h : b < 1000) : b < 2 ^ 10 := Nat.lt_trans h (by decide)
theorem ps8 {k n : Nat} (h : k ≤ 48) (hn : n ≤ 10) : k + n - 1 ≤ 58 := by omega
theorem ps9 {k n : Nat} (h : k ≤ 21) (hn : 0 < n) : (k : Int) - n ≤ 4000 := by omega
theorem ps1 (len i : Nat) : len - (i + 1) = len - 1 - i := by omega
theorem ps2 {len i : Nat} (h : i < len) : len - (i + 1) + 1 = len - i := by omega
theorem ps3 {len i : Nat} (h : i < len) : len - 1 - i < len := by omega
theorem ps4 {r b : Nat} (h : r < b) (hb : b < 1000) : (r : Int).natAbs < 2 ^ 64 := by omega
theorem ps5 {r q d : Nat} (h : r * q ≤ 1000 * 2 ^ 10) (hd : d < q) (hq : q ≤ 2 ^ 10) : r * q + d < 2 ^ 21 := by omega
theorem ps6 {b : Nat} (h0 : 0 < b) (h : b < 1000) : (b : Int) ≠ 0 ∧ (b : Int).natAbs < 1073741824 := by omega
theorem digs_drop (n a : Nat) {len i : Nat} (h : i < len) : (digs n a len).drop (len - (i + 1)) = ((digit n a (len - 1 - i) : Nat) : Int) :: (digs n a len).drop (len - i) := by
  have hl : len - 1 - i < (digs n a len).length := by simpa [digs] using ps3 h
  have q := digs_get n a len (len - 1 - i) (ps3 h)
  rw [List.getD_eq_getElem?_getD, List.getElem?_eq_getElem hl, Option.getD_some] at q
  rw [ps1, List.drop_eq_getElem_cons hl, q, show len - 1 - i + 1 = len - i from ps1 len i ▸ ps2 h]
inductive JP (Dq : Addr) (a b n len : Nat) (t1 t2 : Tok) (i : Nat) (m : Str → Option Value) (g : Heap) : Prop
  | mk (r : Nat) (qs : List Int) (its : Array Value) (tr : Tok) (p : g.PlainList Dq its) (I : IntsAre its.toList qs) (l : qs.length = i) (rb : r < b) (hq : ∀ q ∈ qs, 0 ≤ q ∧ q < 2 ^ n) (hv : val n qs.reverse * b + r = val n ((digs n a len).drop (len - i)))
    (m1 : m "r" = some (.int r tr)) (m2 : m "b" = some (.int b t1)) (m3 : m "n" = some (.int n t2)) (m4 : m "q_digits" = some (.ref Dq))
noncomputable def RW (L D : Addr) (its : Array Value) (g g' : Heap) : Prop := (∀ b o, ¬ (b = L ∨ b = D) → g.get? b = some o → g'.get? b = some o) ∧ g'.PlainList D its
theorem off_RW {L D : Addr} {its : Array Value} {g : Heap} (n : D ≠ L) : Off L (RW L D its g) := off_and (fun g1 g2 _ k r b o n e => k b o (fun q => n (.inl q)) (r b o n e)) (off_plain n)
theorem TS.fields {g g' : Heap} {P : Addr} {line col : Nat} {qual : Str} (x : TS g P line col qual) (k : ∀ b o vs, o.data = .fields vs → g.get? b = some o → g'.get? b = some o) : TS g' P line col qual := by
  obtain ⟨ps, e, r⟩ := x
  exact ⟨ps, k _ _ _ rfl e, r.imp id fun ⟨c, e1, c₂, o₂, vs, t, e2, ho, hd, hv⟩ => ⟨c, e1, c₂, o₂, vs, t, e2, k _ _ _ hd ho, hd, hv⟩⟩
theorem TabOK.fields {g g' : Heap} (x : TabOK g) (k : ∀ b o vs, o.data = .fields vs → g.get? b = some o → g'.get? b = some o) : TabOK g' := ⟨x.1.fields k, x.2.fields k⟩

theorem dpos_spec (G : Gd w mg mb H) (l₀ : le H h) (hroom : A.depth + 210 < recursionLimit) (hh : A.handled = none) {a b : Nat} {t0 t1 : Tok} (ha : a < 2 ^ 48) (hb0 : 0 < b) (hb : b < 1000) :
    TrT w A h (call (.ref 56) [.int a t0, .int b t1]) (isT2 ((a / b : Nat) : Int) ((a % b : Nat) : Int)) := by
  have hbb : Builtin.Int.intBits (b : Int) ≤ 10 := intBits_le_iff.mpr (by rw [Int.natAbs_natCast]; exact ps7 hb)
  have hblt := intBits_le_iff.mp (Nat.le_refl (Builtin.Int.intBits (b : Int)))
  rw [Int.natAbs_natCast] at hblt
  have hb1 : 0 < Builtin.Int.intBits (b : Int) := by
    rcases Nat.eq_zero_or_pos (Builtin.Int.intBits (b : Int)) with z | z
    · rw [z] at hblt; exact absurd hblt (Nat.not_lt.mpr hb0)
    · exact z
  refine tr_fnT (hco := rfl) (hgen := rfl) (hk := rfl) (binds := [("a", .int a t0), ("b", .int b t1)]) G l₀ (dle (j := 0) hroom rfl) rfl rfl rfl (fun s L h₁ tk ls T hL F => ?_) (hloc := locs rfl)
  refine x_int F (off_le hL) (ev_bits (hbase := rfl) (hline := rfl) (ev_locI F.ns rfl)) fun t2 h2 tk2 F => ?_
  generalize Builtin.Int.intBits (b : Int) = n at hbb hblt hb1 F
  have g2 := l₀.trans (ls.trans F.r)
  refine x_assignT (hs := rfl) (hl := rfl) (hp := rfl) (P := isLI (digs n a (nDig n a))) F.ns (T.le F.r) (ev_callT (ev_glob G g2 rfl) (g2 _ _ (G.X _ _ rfl)) rfl (evs_cons (ev_locI F.ns rfl) (evs_cons (ev_locI F.ns rfl) evs_nil stbI) stbI) ?_) fun v h3 h4 tk4 lT3 T3 p3 N3 o4 N4 => ?_
  · rintro vs h' l' ⟨_, _, rfl, ⟨_, rfl⟩, _, _, rfl, ⟨_, rfl⟩, rfl⟩
    exact i2d_spec G (g2.trans l') (dle (j := 201) hroom rfl) (Nat.lt_trans ha (by decide)) hb1 (Nat.le_trans hbb (by decide))
  obtain ⟨Da, ya, rfl, hla, Ia⟩ := p3
  have DaL : Da ≠ L := ne_list N3 hla
  have F : FS L _ (fun g => leT s.heap g ∧ TabOK g ∧ g.IsList Da ya) h4 := ⟨N4, off_leT hL _ _ ⟨_, N3⟩ o4 ((leT.of F.r).trans lT3), T3.off N3 o4, off_list DaL _ _ ⟨_, N3⟩ o4 hla⟩
  have oR : Off L (fun g => leT s.heap g ∧ TabOK g ∧ g.IsList Da ya) := off_and (off_leT hL) (off_and off_tab (off_list DaL))
  refine x_int F oR ev_int fun t5 h5 tk5 F => ?_
  have la5 := F.r.2.2
  have F5 := F.r.1
  refine x_assign F oR ev_nil fun v h6 h7 tk7 l6 p6 N6 o7 F => ?_
  obtain ⟨Dq, rfl, hDq, pq⟩ := p6
  have hsz : ya.size = nDig n a := by rw [← Array.length_toList, Ia.length]; simp [digs]
  have abits : Builtin.Int.intBits (a : Int) ≤ 48 := intBits_le_iff.mpr (by rw [Int.natAbs_natCast]; exact ha)
  have hnd : n * nDig n a ≤ 58 := by
    unfold nDig
    exact Nat.le_trans (Nat.mul_div_le _ _) (ps8 abits hbb)
  have hnd1 : nDig n a ≤ 58 := Nat.le_trans (Nat.le_mul_of_pos_left _ hb1) hnd
  have hge : a < 2 ^ (n * nDig n a) := by
    have h1 := intBits_le_iff.mp (Nat.le_refl (Builtin.Int.intBits (a : Int)))
    rw [Int.natAbs_natCast] at h1
    exact Nat.lt_of_lt_of_le h1 (Nat.pow_le_pow_right (by decide) (ceil_ge hb1))
  have hdig : ∀ k, k < nDig n a → ∃ t, ya[k]? = some (.int (digit n a k : Int) t) := fun k hk => by
    obtain ⟨t, e⟩ := IntsAre.get Ia k (by simp [digs]; exact hk)
    rw [digs_get _ _ _ _ hk] at e
    exact ⟨t, by rw [← Array.getElem?_toList]; exact e⟩
  generalize nDig n a = len at hsz hnd hnd1 hge hdig Ia
  have DqL : Dq ≠ L := ne_list N6 pq.isList
  have DqDa : Dq ≠ Da := fun q => by obtain ⟨o, e, _⟩ := la5; rw [← q, hDq] at e; cases e
  have pq7 : h7.PlainList Dq #[] := off_plain DqL _ _ ⟨_, N6⟩ o7 pq
  have g7 : le H h7 := G.up (l₀.trans ls) F.r.1
  refine x_for (hx := rfl) (hp := rfl) (w := w) (it_rev (hg := rfl) (hb := rfl) (hk := rfl) (hkl := rfl) (hs := rfl) G g7 hh (ev_loc F.ns rfl) F.r.2.2) F.ns (fun b => b = L ∨ b = Dq) ?_ (.inl rfl)
    (JP Dq a b n len t1 t2) ?_ ?_ ?_ ?_
  · rintro b (rfl | rfl)
    · exact ⟨Ne.symm DaL, let ⟨o, _, _, e, _⟩ := F.ns; ⟨o, e⟩⟩
    · exact ⟨DqDa, let ⟨k, e⟩ := pq7; ⟨_, e⟩⟩
  · rintro i m g g' k ⟨r, qs, its, tr, ⟨c, e⟩, I, lq, rb, hq, hv, m1, m2, m3, m4⟩
    exact ⟨r, qs, its, tr, ⟨c, k _ _ DqL (let ⟨k, e⟩ := pq7; ⟨_, e⟩) e⟩, I, lq, rb, hq, hv, m1, m2, m3, m4⟩
  · refine ⟨0, [], #[], t5, pq7, .nil, rfl, hb0, (fun _ h => nomatch h), ?_, rfl, rfl, rfl, rfl⟩
    rw [Nat.sub_zero, List.drop_eq_nil_of_le (by simp [digs])]
    simp [val]
  · rintro i v m g tk8 hi hP ⟨r, qs, its, tr, pl, Iq, lq, hr, hq, hval, mr, mb', mn, mq⟩ N8 kb
    have Da7 : ¬ (Da = L ∨ Da = Dq) := fun q => q.elim (fun e => DaL e) fun e => DqDa e.symm
    have gH : le H g := fun b o e => kb b o (fun q => by
      have e7 := g7 b o e
      rcases q with rfl | rfl
      · have : H.get? b = none := by
          cases eH : H.get? b with
          | none => rfl
          | some o' => rw [(l₀.trans ls) _ _ eH] at hL; cases hL
        rw [this] at e; cases e
      · have : h5.get? b = some o := G.up (l₀.trans ls) (F5) _ _ e
        rw [hDq] at this; cases this) (g7 b o e)
    have hil : i < len := hsz ▸ hi
    obtain ⟨t8, e8⟩ := hdig (len - 1 - i) (ps3 hil)
    rw [hsz, e8] at hP
    cases hP
    have F8 : FS L _ (RW L Dq its g) g := ⟨N8, fun _ _ _ e => e, pl⟩
    have o8 : Off L (RW L Dq its g) := off_RW DqL
    have hd : digit n a (len - 1 - i) < 2 ^ n := Nat.mod_lt _ (Nat.two_pow_pos _)
    have hdrop := digs_drop n a hil
    generalize digit n a (len - 1 - i) = d at hd N8 F8 e8 hdrop
    obtain ⟨s1, s2, s3⟩ := div_step hb0 hr hd hval
    have n1m := small_cast hbb rfl
    have p2n : (2 : Nat) ^ n ≤ 2 ^ 10 := Nat.pow_le_pow_right (by decide) hbb
    have xlt : r * 2 ^ n + d < 2 ^ 21 := by
      exact ps5 (Nat.mul_le_mul (Nat.le_of_lt (Nat.lt_trans hr hb)) p2n) hd p2n
    have ex : (r : Int) * 2 ^ (n : Int).toNat + d = ((r * 2 ^ n + d : Nat) : Int) := by
      rw [Int.toNat_natCast, pow_cast, Int.natCast_add, Int.natCast_mul]
    refine x_unpack2 (h1 := rfl) (h2 := rfl) (ka := rfl) (kb := rfl) (hp := rfl) hh F8 o8 (a := (((r * 2 ^ n + d) / b : Nat) : Int)) (b := (((r * 2 ^ n + d) % b : Nat) : Int)) (ev_call (ev_glob G gH rfl) (gH _ _ (G.X _ _ rfl)) rfl
      (evs_cons (ev_add (ev_shl (ev_locI F8.ns mr) (ev_locI F8.ns mn) n1m.1 n1m.2 (ps4 hr hb)) (ev_locI F8.ns rfl)) (evs_cons (ev_locI F8.ns mb') (evs_cons (ev_locI F8.ns mn) evs_nil stbI) stbI) stbI) ?_) fun ta tb g1 h9 tk9 l9 o9 F9 => ?_
    · rintro vs h' l' ⟨_, _, rfl, ⟨_, rfl⟩, _, _, rfl, ⟨_, rfl⟩, _, _, rfl, ⟨_, rfl⟩, rfl⟩
      rw [ex, ← fdiv_nat, ← fmod_nat]
      refine div2_spec G (gH.trans l') (dle (j := 1) hroom rfl) (ps6 hb0 hb).1 (ps6 hb0 hb).2 ?_
      have : Builtin.Int.intBits ((r * 2 ^ n + d : Nat) : Int) ≤ 21 := intBits_le_iff.mpr (by rw [Int.natAbs_natCast]; exact xlt)
      exact ps9 this hb1
    generalize (r * 2 ^ n + d) / b = qd at s1 s3 F9
    generalize (r * 2 ^ n + d) % b = r' at s2 s3 F9
    have isz : its.size = i := by rw [← Array.length_toList, Iq.length, lq]
    refine x_append (hbase := rfl) (hfew := rfl) (hline := rfl) (htrees := rfl) (hi := rfl) (hsw := rfl) (P := isI qd) (ev_loc F9.ns mq) (ev_locI F9.ns rfl) F9.r.2 (by rw [isz]; exact Nat.le_trans (Nat.le_of_lt hil) (Nat.le_trans hnd1 (by decide))) fun y h10 h11 tk11 l10 p10 o11 pl11 => ?_
    obtain ⟨ty, rfl⟩ := p10
    refine x_nil ⟨_, h11, tk11, rfl, (Ns_le F9.ns l10).at' (fun o e => o11 _ _ (Ne.symm DqL) e), ⟨r', qs ++ [(qd : Int)], _, tb, pl11, ints_push Iq, by simp [lq], s2, ?_, ?_, rfl, mb', mn, mq⟩, fun b o nm e => o11 b o (fun q => nm (.inr q)) (l10 b o (F9.r.1 b o nm e))⟩
    · intro q hq'
      rcases List.mem_append.mp hq' with h1 | h1
      · exact hq q h1
      · rw [List.mem_singleton.mp h1]
        exact ⟨Int.natCast_nonneg _, by rw [pow_cast]; exact Int.ofNat_lt.mpr s1⟩
    · rw [hdrop, List.reverse_append, List.reverse_cons, List.reverse_nil, List.nil_append, List.cons_append, List.nil_append, val, val]
      exact s3
  · rintro m g tk8 ⟨r, qs, its, tr, pl, Iq, lq, hr, hq, hval, mr, mb', mn, mq⟩ N8 kb
    have isz : its.size = len := by rw [← Array.length_toList, Iq.length, lq, hsz]
    rw [hsz] at lq hval
    have T8 : TabOK g := F.r.2.1.fields fun b o vs d e => kb b o (fun q => by
      rcases q with rfl | rfl
      · obtain ⟨o', es, ep, e', d', _⟩ := F.ns
        have e2 : some o = some o' := e.symm.trans e'
        cases e2; rw [d] at d'; cases d'
      · obtain ⟨c, e'⟩ := pq7
        rw [e'] at e; cases e; cases d) e
    have sDq : s.heap.get? Dq = none ∨ Dq = 37 ∨ Dq = 44 := by
      by_cases h1 : Dq = 37
      · exact .inr (.inl h1)
      by_cases h2 : Dq = 44
      · exact .inr (.inr h2)
      refine .inl ?_
      cases e : s.heap.get? Dq with
      | none => rfl
      | some o => rw [F5 _ _ h1 h2 e] at hDq; cases hDq
    have lT8 : leT s.heap g := fun b o n1 n2 e => kb b o (fun q => by
      rcases q with rfl | rfl
      · rw [hL] at e; cases e
      · rcases sDq with q | q | q
        · rw [q] at e; cases e
        · exact n1 q
        · exact n2 q) (F.r.1 b o n1 n2 e)
    refine x_reverse (hbase := rfl) (hline := rfl) (hi := rfl) (hsw := rfl) (ev_loc N8 mq) pl (by rw [isz]; exact Nat.le_trans hnd1 (by decide)) fun h9 h10 tk10 l9 o10 pl10 => ?_
    have N10 := (Ns_le N8 l9).at' fun o e => o10 _ _ (Ne.symm DqL) e
    have T10 : TabOK h10 := (T8.le l9).fields fun b o vs d e => o10 b o (fun q => by
      obtain ⟨c, e'⟩ := pl
      have e9 := l9 _ _ e'
      rw [q, e9] at e; cases e; cases d) e
    have lT10 : leT s.heap h10 := fun b o n1 n2 e => o10 b o (fun q => by
      rcases sDq with z | z | z
      · rw [q, z] at e; cases e
      · exact n1 (q.trans z)
      · exact n2 (q.trans z)) (l9 b o (lT8 b o n1 n2 e))
    have g10 : le H h10 := G.up (l₀.trans ls) lT10
    refine x_assignT (hs := rfl) (hl := rfl) (hp := rfl) (P := isI (val n qs.reverse)) N10 T10 (ev_callT (ev_glob G g10 rfl) (g10 _ _ (G.X _ _ rfl)) rfl (evs_cons (P := isLI qs.reverse) (ev_locP N10 mq ?_ stbLI) (evs_cons (ev_locI N10 mn) evs_nil stbI) stbLI) ?_) fun v h11 h12 tk12 lT11 T11 p11 N11 o12 N12 => ?_
    · exact ⟨Dq, its.reverse, rfl, pl10.isList, by rw [Array.toList_reverse]; exact ints_rev Iq⟩
    · rintro vs h' l' ⟨_, _, rfl, q1, _, _, rfl, ⟨_, rfl⟩, rfl⟩
      refine d2i_spec G (g10.trans l') (dle (j := 71) hroom rfl) q1 (fun d hd => hq d (List.mem_reverse.mp hd)) ?_ (Nat.le_trans hbb (by decide)) ?_
      · rw [List.length_reverse, lq]; exact Nat.le_trans hnd (by decide)
      · rw [List.length_reverse, lq]; exact Nat.le_trans hnd1 (by decide)
    obtain ⟨tq, rfl⟩ := p11
    have fin : val n qs.reverse = ((a / b : Nat) : Int) ∧ r = a % b := by
      rw [Nat.sub_self, List.drop_zero, val_digs, Nat.mod_eq_of_lt hge] at hval
      have vb := val_bound (n := n) (l := qs.reverse) fun d hd => hq d (List.mem_reverse.mp hd)
      obtain ⟨V, eV⟩ := Int.eq_ofNat_of_zero_le vb.1
      rw [eV] at hval ⊢
      have e : V * b + r = a := by
        have : ((V * b + r : Nat) : Int) = (a : Int) := by rw [Int.natCast_add, Int.natCast_mul]; exact hval
        exact Int.ofNat.inj this
      constructor
      · congr 1
        rw [← e, Nat.add_comm, Nat.add_mul_div_right _ _ hb0, Nat.div_eq_of_lt hr, Nat.zero_add]
      · rw [← e, Nat.add_comm, Nat.add_mul_mod_self_right, Nat.mod_eq_of_lt hr]
    rw [← fin.1, ← fin.2]
    refine x_retU (ev_tup2 (ev_locI N12 rfl) (ev_locI N12 mr)) fun v h13 tk13 l13 p13 => ⟨v, h13, tk13, rfl, rfl, ?_, (T11.off N11 o12).le l13, p13⟩
    exact (off_leT hL _ _ ⟨_, N11⟩ o12 (lT10.trans lT11)).trans (leT.of l13)
end
end
end Mine

namespace Mine
set_option maxRecDepth 100000
set_option maxHeartbeats 8000000
noncomputable section

theorem neg_div {a b : Int} {c : Nat} (hb : 0 < b) (hc : a = -(c : Int) - 1) : a.fdiv b = Builtin.bitNot ((c : Int).fdiv b) ∧ a.fmod b = b + Builtin.bitNot ((c : Int).fmod b) := by
  rw [Int.fdiv_eq_ediv_of_nonneg _ (by omega), Int.fmod_eq_emod_of_nonneg _ (by omega), Int.fdiv_eq_ediv_of_nonneg _ (by omega), Int.fmod_eq_emod_of_nonneg _ (by omega)]
  unfold Builtin.bitNot
  have h1 := Int.emod_nonneg (c : Int) (b := b) (by omega)
  have h2 := Int.emod_lt_of_pos (c : Int) hb
  have h3 := Int.mul_ediv_add_emod (c : Int) b
  refine (Int.ediv_emod_unique hb).mpr ⟨?_, by omega, by omega⟩
  rw [Int.mul_sub, Int.mul_neg]
  omega

section
variable {w : World} {A : Around} {env : Env} {h : Heap} {mg mb : Str → Option Value} {H : Heap} {s : Shared} {E : Value → Shared → Prop} {rest : List Stmt} {tk : Nat} {Q : Flow → Shared → Prop}

theorem id1 (a : Nat) {b : Nat} (h : 0 < b) : ((b : Int) == 0) = false ∧ decide ((b : Int) < 0) = false ∧ decide ((a : Int) < 0) = false := ⟨beq_eq_false_iff_ne.mpr (by omega), decide_eq_false (by omega), decide_eq_false (by omega)⟩
theorem idm_pos (G : Gd w mg mb H) (l₀ : le H h) (hroom : A.depth + 212 < recursionLimit) (hh : A.handled = none) {a : Nat} {b : Nat} {t0 t1 : Tok} (ha : a < 2 ^ 48) (hb0 : 0 < b) (hb : b < 1000) :
    TrT w A h (call (.ref 63) [.int a t0, .int b t1]) (isT2 ((a : Int).fdiv b) ((a : Int).fmod b)) := by
  have hb0' := hb0
  refine tr_fnT (hco := rfl) (hgen := rfl) (hk := rfl) (binds := [("a", .int a t0), ("b", .int b t1)]) G l₀ (dle (j := 0) hroom rfl) rfl rfl rfl (fun s L h₁ tk ls T hL F => ?_) (hloc := locs rfl)
  refine x_ifU (b := false) ((te_eq (ev_locI F.ns rfl) ev_int).eq (id1 0 hb0').1) (fun e => by cases e) fun _ h2 tk2 l2 => ?_
  have N2 := Ns_le F.ns l2
  refine x_ifU (b := false) ((te_lt (ev_locI N2 rfl) ev_int).eq (id1 0 hb0').2.1) (fun e => by cases e) fun _ h3 tk3 l3 => ?_
  have N3 := Ns_le N2 l3
  refine x_ifU (b := false) ((te_lt (ev_locI N3 rfl) ev_int).eq (id1 a hb0').2.2) (fun e => by cases e) fun _ h4 tk4 l4 => ?_
  have N4 := Ns_le N3 l4
  have l := F.r.trans (l2.trans (l3.trans l4))
  have g4 := l₀.trans (ls.trans l)
  rw [fdiv_nat, fmod_nat]
  refine x_retT (T.le l) (ev_callT (ev_glob G g4 rfl) (g4 _ _ (G.X _ _ rfl)) rfl (evs_cons (ev_locI N4 rfl) (evs_cons (ev_locI N4 rfl) evs_nil stbI) stbI) ?_) fun v h5 tk5 l5 T5 p5 => ⟨v, h5, tk5, rfl, rfl, (leT.of l).trans l5, T5, p5⟩
  rintro vs h' l' ⟨_, _, rfl, ⟨_, rfl⟩, _, _, rfl, ⟨_, rfl⟩, rfl⟩
  exact dpos_spec (A := A.deeper _) G (g4.trans l') (dle (j := 211) hroom rfl) hh ha hb0 hb

theorem idm_spec (G : Gd w mg mb H) (l₀ : le H h) (hroom : A.depth + 214 < recursionLimit) (hh : A.handled = none) {a : Int} {b : Int} {t0 t1 : Tok} (ha : a.natAbs < 2 ^ 48) (hb0 : 0 < b) (hb : b < 1000) :
    TrT w A h (call (.ref 63) [.int a t0, .int b t1]) (isT2 (a.fdiv b) (a.fmod b)) := by
  obtain ⟨b, rfl⟩ := Int.eq_ofNat_of_zero_le (Int.le_of_lt hb0)
  have hb0' : 0 < b := Int.ofNat_lt.mp hb0
  by_cases h0 : 0 ≤ a
  · obtain ⟨a, rfl⟩ := Int.eq_ofNat_of_zero_le h0
    exact idm_pos G l₀ (by omega) hh (by omega) (by omega) (by omega)
  obtain ⟨c, ec⟩ := Int.eq_ofNat_of_zero_le (show 0 ≤ -a - 1 by omega)
  have ec' : a = -(c : Int) - 1 := by omega
  have nd := neg_div hb0 ec'
  refine tr_fnT (hco := rfl) (hgen := rfl) (hk := rfl) (binds := [("a", .int a t0), ("b", .int b t1)]) G l₀ (dle (j := 0) hroom rfl) rfl rfl rfl (fun s L h₁ tk ls T hL F => ?_) (hloc := locs rfl)
  refine x_ifU (b := false) ((te_eq (ev_locI F.ns rfl) ev_int).eq (id1 0 hb0').1) (fun e => by cases e) fun _ h2 tk2 l2 => ?_
  have N2 := Ns_le F.ns l2
  refine x_ifU (b := false) ((te_lt (ev_locI N2 rfl) ev_int).eq (id1 0 hb0').2.1) (fun e => by cases e) fun _ h3 tk3 l3 => ?_
  have N3 := Ns_le N2 l3
  refine x_ifU (b := true) ((te_lt (ev_locI N3 rfl) ev_int).eq (decide_eq_true (by omega))) (fun _ h4 tk4 l4 => ?_) (fun e => by cases e)
  have N4 := Ns_le N3 l4
  have l := F.r.trans (l2.trans (l3.trans l4))
  have g4 := l₀.trans (ls.trans l)
  refine x_unpack2T (h1 := rfl) (h2 := rfl) (ka := rfl) (kb := rfl) (hp := rfl) hh N4 (T.le l) (a := (c : Int).fdiv b) (b := (c : Int).fmod b) (ev_callT (ev_glob G g4 rfl) (g4 _ _ (G.X _ _ rfl)) rfl (evs_cons (ev_inv (ev_locI N4 rfl)) (evs_cons (ev_locI N4 rfl) evs_nil stbI) stbI) ?_) fun ta tb h5 h6 tk6 l5 T5 o6 N6 => ?_
  · rintro vs h' l' ⟨_, _, rfl, ⟨_, rfl⟩, _, _, rfl, ⟨_, rfl⟩, rfl⟩
    have : Builtin.bitNot a = (c : Int) := ec
    rw [this]
    have c48 : c < 2 ^ 48 := by omega
    exact idm_pos (A := A.deeper _) G (g4.trans l') (dle (j := 213) hroom rfl) hh c48 (by omega) (by omega)
  have N5 := Ns_leT (T.le l) N4 l5
  rw [nd.1, nd.2]
  refine x_retU (ev_tup2 (ev_inv (ev_locI N6 rfl)) (ev_add (ev_locI N6 rfl) (ev_inv (ev_locI N6 rfl)))) fun v h7 tk7 l7 p7 => ⟨v, h7, tk7, rfl, rfl, ?_, (T5.off N5 o6).le l7, p7⟩
  exact (off_leT hL _ _ ⟨_, N5⟩ o6 ((leT.of l).trans l5)).trans (leT.of l7)
end
end
end Mine

namespace Mine
set_option maxRecDepth 100000
set_option maxHeartbeats 8000000
noncomputable section

theorem gives_find4 (x y : Str) (i j : Int) (t u v z : Tok) : Gives (Builtin.«str.find» ⟨[.str x t, .str y u, .int i v, .int j z], []⟩) (.int (match Builtin.Str.occurrences x y (fromIndex x.length i) (min (fromIndex x.length j) x.length) 1 with | k :: _ => (k : Int) | [] => -1)) := by
  show Gives (match Builtin.Str.occurrences x y (fromIndex x.length i) (min (fromIndex x.length j) x.length) 1 with | k :: _ => retInt k | [] => (do rule "str.find.not-found"; retInt (-1))) _
  cases Builtin.Str.occurrences x y (fromIndex x.length i) (min (fromIndex x.length j) x.length) 1 with
  | nil => exact .rule (.of_eq rfl)
  | cons k _ => exact .of_eq rfl

noncomputable def find4 (x y : Str) (i j : Int) : Int := match Builtin.Str.occurrences x y (fromIndex x.length i) (min (fromIndex x.length j) x.length) 1 with | k :: _ => (k : Int) | [] => -1

section
variable {w : World} {A : Around} {env : Env} {h : Heap} {mg mb : Str → Option Value} {H : Heap}

theorem ev_smeth {o e : Expr} {es : List Expr} {name : Str} {apos pos : Pos} {x : Str} {id : String} {PL : List Value → Heap → Prop} {P : Value → Heap → Prop}
    (a : Ev w A env h o (isS x)) (b : Evs w A env h pos (e :: es) PL) (slot : Slot "str" name id) (ty : typeOf (.builtin id) = pure (.type "method_descriptor"))
    (k : ∀ t vs h', le h h' → PL vs h' → Tr w A h' (call (.builtin id) (.str x t :: vs)) P)
    (hbase : attributeBase o name env (eval o env) = eval o env)
    (hfew : ((backTo pos (starEach (e :: es) env)).all (fun x => !x.1) && (backToKw pos (keywordEach [] env)).all (fun x => x.1.isSome)
      && decide ((e :: es).length + ([] : List Keyword).length + (if ([] : List Keyword).isEmpty then 0 else 1) < 30)) = true)
    (hline : (apos.endLine == pos.line) = true) (hs : starEach (e :: es) env = (false, eval e env) :: starEach es env)
    (hpl : ((backTo pos (starEach es env)).any fun x => x.1) = false) : Ev w A env h (.Call (.Attribute o name apos) (e :: es) [] pos) P :=
  fun s Q E l₀ q => wpAny_Call_method_lateS hbase hfew hline (a s _ _ l₀ fun ov h1 tk1 l1 p1 => by
    obtain ⟨t, rfl⟩ := p1
    refine ⟨"str", id, F.plainAttrs_str, slot, ty, typeIs_str _ _ _, (fun a e => nomatch e), ?_⟩
    refine callWith_method1 (b _ _ _ (l₀.trans l1) fun vs h2 tk2 l2 p2 => ?_) hs hpl
    exact k t vs h2 (l₀.trans (l1.trans l2)) p2 _ _ _ le.rfl fun v h3 tk3 l3 p3 => q v h3 tk3 (l1.trans (l2.trans l3)) p3)

theorem ev_index {o e : Expr} {apos pos : Pos} {x y : Str} {i : Nat} {r : List Nat} (a : Ev w A env h o (isS x)) (b : Ev w A env h e (isS y)) (ho : Builtin.Str.occurrences x y 0 x.length 1 = i :: r)
    (hbase : attributeBase o "index" env (eval o env) = eval o env)
    (hfew : ((backTo pos (starEach [e] env)).all (fun x => !x.1) && (backToKw pos (keywordEach [] env)).all (fun x => x.1.isSome)
      && decide ([e].length + ([] : List Keyword).length + (if ([] : List Keyword).isEmpty then 0 else 1) < 30)) = true)
    (hline : (apos.endLine == pos.line) = true) (hs : starEach [e] env = (false, eval e env) :: starEach [] env) : Ev w A env h (.Call (.Attribute o "index" apos) [e] [] pos) (isI i) :=
  ev_smeth a (evs_cons b evs_nil stbS hs) F.slot_str_index F.type_str_index (fun t vs h' l p => by
    obtain ⟨_, _, rfl, ⟨u, rfl⟩, rfl⟩ := p
    exact fun s Q E _ q => call_gives F.slot_str_index (typeIs_str _ _ _) F.entry_str_index (F.args_str_index_2 _ _) (gives_str_index x y t u i r ho) (q _ s.heap _ le.rfl ⟨_, rfl⟩)) hbase hfew hline hs rfl
theorem ev_rindex {o e : Expr} {apos pos : Pos} {x y : Str} {i : Nat} (a : Ev w A env h o (isS x)) (b : Ev w A env h e (isS y)) (ho : Builtin.Str.lastOccurrence x y 0 x.length = some i)
    (hbase : attributeBase o "rindex" env (eval o env) = eval o env)
    (hfew : ((backTo pos (starEach [e] env)).all (fun x => !x.1) && (backToKw pos (keywordEach [] env)).all (fun x => x.1.isSome)
      && decide ([e].length + ([] : List Keyword).length + (if ([] : List Keyword).isEmpty then 0 else 1) < 30)) = true)
    (hline : (apos.endLine == pos.line) = true) (hs : starEach [e] env = (false, eval e env) :: starEach [] env) : Ev w A env h (.Call (.Attribute o "rindex" apos) [e] [] pos) (isI i) :=
  ev_smeth a (evs_cons b evs_nil stbS hs) F.slot_str_rindex F.type_str_rindex (fun t vs h' l p => by
    obtain ⟨_, _, rfl, ⟨u, rfl⟩, rfl⟩ := p
    exact fun s Q E _ q => call_gives F.slot_str_rindex (typeIs_str _ _ _) F.entry_str_rindex (F.args_str_rindex_2 _ _) (gives_str_rindex x y t u i ho) (q _ s.heap _ le.rfl ⟨_, rfl⟩)) hbase hfew hline hs rfl
theorem ev_find4 {o e f g : Expr} {apos pos : Pos} {x y : Str} {i j : Int} (a : Ev w A env h o (isS x)) (b : Ev w A env h e (isS y)) (c : Ev w A env h f (isI i)) (d : Ev w A env h g (isI j))
    (hbase : attributeBase o "find" env (eval o env) = eval o env)
    (hfew : ((backTo pos (starEach [e, f, g] env)).all (fun x => !x.1) && (backToKw pos (keywordEach [] env)).all (fun x => x.1.isSome)
      && decide ([e, f, g].length + ([] : List Keyword).length + (if ([] : List Keyword).isEmpty then 0 else 1) < 30)) = true)
    (hline : (apos.endLine == pos.line) = true) (hs : starEach [e, f, g] env = (false, eval e env) :: starEach [f, g] env)
    (hs2 : starEach [f, g] env = (false, eval f env) :: starEach [g] env) (hs3 : starEach [g] env = (false, eval g env) :: starEach [] env)
    (hpl : ((backTo pos (starEach [f, g] env)).any fun x => x.1) = false) : Ev w A env h (.Call (.Attribute o "find" apos) [e, f, g] [] pos) (isI (find4 x y i j)) :=
  ev_smeth a (evs_cons b (evs_cons c (evs_cons d evs_nil stbI hs3) stbI hs2) stbS hs) F.slot_str_find F.type_str_find (fun t vs h' l p => by
    obtain ⟨_, _, rfl, ⟨u, rfl⟩, _, _, rfl, ⟨v, rfl⟩, _, _, rfl, ⟨z, rfl⟩, rfl⟩ := p
    exact fun s Q E _ q => call_gives F.slot_str_find (typeIs_str _ _ _) F.entry_str_find (F.args_str_find_4 _ _ _ _) (gives_find4 x y i j t u v z) (q _ s.heap _ le.rfl ⟨_, rfl⟩)) hbase hfew hline hs hpl

theorem te_notin {l r : Expr} {pos : Pos} {x y : Str} (a : Ev w A env h l (isS y)) (b : Ev w A env h r (isS x)) (hm : behindInMarks .NotIn r = false := by with_unfolding_all rfl) :
    Te w A env h (.Compare l [.NotIn] [r] pos) (!!List.isEmpty (Builtin.Str.occurrences x y 0 x.length 1)) :=
  te_cmp a b stbS (fun _ _ _ _ ⟨_, e1⟩ ⟨_, e2⟩ => by subst e1 e2; exact tr_bool fun _ _ _ q => Rows.notIn_str q) hm
theorem te_eqS {l r : Expr} {pos : Pos} {x y : Str} (a : Ev w A env h l (isS x)) (b : Ev w A env h r (isS y)) (hm : behindInMarks .Eq r = false := by with_unfolding_all rfl) :
    Te w A env h (.Compare l [.Eq] [r] pos) (x == y) :=
  te_cmp a b stbS (fun _ _ _ _ ⟨_, e1⟩ ⟨_, e2⟩ => by subst e1 e2; exact tr_bool fun _ _ _ q => Rows.eq_str q) hm
theorem te_isTrue {l : Expr} {k : Nat} {p pos : Pos} {b : Bool} (a : Ev w A env h l (isB b)) (hm : behindInMarks .Is (.Constant (.bool true) k p) = false := by with_unfolding_all rfl) :
    Te w A env h (.Compare l [.Is] [.Constant (.bool true) k p] pos) b := by
  refine te_cmp (P2 := isB true) a (fun s _ _ _ q => ?_) stbB (fun _ _ _ _ e1 e2 => ?_) hm
  · exact wpAny_Constant_bool (q _ s.heap s.toks le.rfl rfl)
  · cases e1; cases e2
    exact tr_bool fun _ _ _ q => Rows.is_bool (by rw [show (b == true) = b by cases b <;> rfl]; exact q)

theorem ev_itemS {value slice : Expr} {pos : Pos} {x : Str} {i : Int} (a : Ev w A env h value (isS x)) (b : Ev w A env h slice (isI i)) (h0 : 0 ≤ i) (h1 : i < x.length) (h2 : i < 2 ^ 63)
    (hs : ∀ t u, subscripted slice false (.str x t) (.int i u) = operate [.str x t, .int i u] (getItem (.str x t) (.int i u)) := by intro _ _; with_unfolding_all rfl)
    (ht : ∀ t r, letTemporaryGo value (.str x t) r = pure () := by intro _ _; rfl) : Ev w A env h (.Subscript value slice pos) (isS (Txt.item x i)) :=
  ev_sub_ a b stbS fun _ _ _ _ ⟨t, e1⟩ ⟨u, e2⟩ => by
    subst e1 e2
    exact fun s Q E _ q => Rows.item_str (by unfold fitsSsize; simp; omega) (by omega) h1 (fun _ => q _ s.heap _ le.rfl ⟨_, rfl⟩) (hs t u) (ht t)

theorem te_isNotTrue {l : Expr} {k : Nat} {p pos : Pos} {b : Bool} (a : Ev w A env h l (isB b)) (hm : behindInMarks .IsNot (.Constant (.bool true) k p) = false := by with_unfolding_all rfl) :
    Te w A env h (.Compare l [.IsNot] [.Constant (.bool true) k p] pos) (!b) := by
  refine te_cmp (P2 := isB true) a (fun s _ _ _ q => ?_) stbB (fun _ _ _ _ e1 e2 => ?_) hm
  · exact wpAny_Constant_bool (q _ s.heap s.toks le.rfl rfl)
  · cases e1; cases e2
    exact tr_bool fun _ _ _ q => wpAny_isNot_plain rfl (by cases b <;> exact q)

theorem te_str {e : Expr} {x : Str} (a : Ev w A env h e (isS x)) (hx : (x.length : Int) < 2 ^ 63) (he : isTrue e env (eval e env) = (do let v ← eval e env; standAt e.pos; holding [v] (truthy v)) := by rfl) : Te w A env h e ((x.length : Int) != 0) :=
  te_val a (fun _ _ _ ⟨_, e⟩ s Q E _ q => by subst e; exact P.truthy_str (by omega) (q s.heap _ le.rfl)) he
theorem ev_lenS {f : Str} {p pos : Pos} {e : Expr} {x : Str} (n : Ev w A env h (.Name f p) (isV (.builtin "len"))) (b : Ev w A env h e (isS x)) (hx : (x.length : Int) < 2 ^ 63)
    (hst : starEach [e] env = (false, eval e env) :: starEach [] env := by rfl) : Ev w A env h (.Call (.Name f p) [e] [] pos) (isI x.length) := by
  refine ev_callB n (evs_cons b evs_nil stbS hst) ?_ hst rfl
  rintro vs h' l' ⟨_, _, rfl, ⟨t, rfl⟩, rfl⟩
  exact fun s Q E l q => Rows.len_str (by omega) (q _ s.heap _ le.rfl ⟨_, rfl⟩)

theorem ev_slice_su {value e : Expr} {p pos : Pos} {x : Str} {j : Int} (a : Ev w A env h value (isS x)) (b : Ev w A env h e (isI j)) (hsz : x.length ≤ sizeLine)
    (ht : ∀ o r, letTemporaryGo value o r = pure () := by intro _ _; rfl) : Ev w A env h (.Subscript value (.Slice none (some e) none p) pos) (isS (Txt.slice x none (some j))) := fun s Q E l q =>
  wpAny_Subscript_str_slice (a s _ _ l fun v h1 tk1 l1 ⟨t, p1⟩ => by
    subst p1
    refine wpAny_evalPart_none (wpAny_evalPart_some (b _ _ _ (l.trans l1) fun v2 h2 tk2 l2 ⟨u, p2⟩ => ?_))
    subst p2
    exact ⟨x, t, none, some (j, u), rfl, rfl, rfl, post_val_or_str ⟨Nat.le_trans (Txt.slice_le x _ _) hsz, fun t' k => q _ _ k (l1.trans (l2.trans (le_push _ _))) ⟨t', rfl⟩⟩⟩) ht
theorem ev_slice_ls {value e : Expr} {p pos : Pos} {x : Str} {i : Int} (a : Ev w A env h value (isS x)) (b : Ev w A env h e (isI i)) (hsz : x.length ≤ sizeLine)
    (ht : ∀ o r, letTemporaryGo value o r = pure () := by intro _ _; rfl) : Ev w A env h (.Subscript value (.Slice (some e) none none p) pos) (isS (Txt.slice x (some i) none)) := fun s Q E l q =>
  wpAny_Subscript_str_slice (a s _ _ l fun v h1 tk1 l1 ⟨t, p1⟩ => by
    subst p1
    refine wpAny_evalPart_some (b _ _ _ (l.trans l1) fun v2 h2 tk2 l2 ⟨u, p2⟩ => wpAny_evalPart_none ?_)
    subst p2
    exact ⟨x, t, some (i, u), none, rfl, rfl, rfl, post_val_or_str ⟨Nat.le_trans (Txt.slice_le x _ _) hsz, fun t' k => q _ _ k (l1.trans (l2.trans (le_push _ _))) ⟨t', rfl⟩⟩⟩) ht
theorem ev_slice_lu {value e f : Expr} {p pos : Pos} {x : Str} {i j : Int} (a : Ev w A env h value (isS x)) (b : Ev w A env h e (isI i)) (c : Ev w A env h f (isI j)) (hsz : x.length ≤ sizeLine)
    (ht : ∀ o r, letTemporaryGo value o r = pure () := by intro _ _; rfl) : Ev w A env h (.Subscript value (.Slice (some e) (some f) none p) pos) (isS (Txt.slice x (some i) (some j))) := fun s Q E l q =>
  wpAny_Subscript_str_slice (a s _ _ l fun v h1 tk1 l1 ⟨t, p1⟩ => by
    subst p1
    refine wpAny_evalPart_some (b _ _ _ (l.trans l1) fun v2 h2 tk2 l2 ⟨u, p2⟩ => wpAny_evalPart_some (c _ _ _ (l.trans (l1.trans l2)) fun v3 h3 tk3 l3 ⟨u3, p3⟩ => ?_))
    subst p2 p3
    exact ⟨x, t, some (i, u), some (j, u3), rfl, rfl, rfl, post_val_or_str ⟨Nat.le_trans (Txt.slice_le x _ _) hsz, fun t' k => q _ _ k (l1.trans (l2.trans (l3.trans (le_push _ _)))) ⟨t', rfl⟩⟩⟩) ht

noncomputable def isLS (ss : List Str) : Value → Heap → Prop := fun u h => ∃ D ys, u = .ref D ∧ h.IsList D ys ∧ StrsAre ys.toList ss
theorem stbLS {ss : List Str} : Stb (isLS ss) := fun _ _ _ l ⟨D, ys, e, x, r⟩ => ⟨D, ys, e, List_le x l, r⟩
theorem strs_of : ∀ (l : List (Str × Tok)), StrsAre (strValues l) (l.map fun x => x.1)
  | [] => .nil
  | (x, t) :: l => .cons x t (strs_of l)
theorem strs_get {vs : List Value} {ss : List Str} (I : StrsAre vs ss) : ∀ {i : Nat} {v : Value}, vs[i]? = some v → ∃ x t, ss[i]? = some x ∧ v = .str x t := by
  induction I with
  | nil => intro i v e; simp at e
  | cons y t _ ih =>
    intro i v e
    cases i with
    | zero => simp at e; subst e; exact ⟨y, t, by simp, rfl⟩
    | succ i => simpa using ih (by simpa using e)
theorem strs_push {ys : Array Value} {ns : List Str} {i : Str} {t : Tok} (I : StrsAre ys.toList ns) : StrsAre (ys.push (.str i t)).toList (ns ++ [i]) := by
  rw [Array.toList_push]
  generalize ys.toList = l at I
  induction I with
  | nil => exact .cons _ _ .nil
  | cons n t _ ih => exact .cons _ _ ih
theorem strs_len {vs : List Value} {ss : List Str} (I : StrsAre vs ss) : vs.length = ss.length := by
  induction I with
  | nil => rfl
  | cons n t _ ih => simp [ih]

theorem ev_split {o e : Expr} {apos pos : Pos} {x y : Str} (a : Ev w A env h o (isS x)) (b : Ev w A env h e (isS y)) (hy : (y.length == 0) = false) (hx : x.length ≤ sizeLine)
    (hp : (Builtin.Str.partsBetween x (Builtin.Str.occurrences x y 0 x.length (x.length + 1)) y.length).length ≤ sizeLine)
    (hbase : attributeBase o "split" env (eval o env) = eval o env)
    (hfew : ((backTo pos (starEach [e] env)).all (fun x => !x.1) && (backToKw pos (keywordEach [] env)).all (fun x => x.1.isSome)
      && decide ([e].length + ([] : List Keyword).length + (if ([] : List Keyword).isEmpty then 0 else 1) < 30)) = true)
    (hline : (apos.endLine == pos.line) = true) (hs : starEach [e] env = (false, eval e env) :: starEach [] env) : Ev w A env h (.Call (.Attribute o "split" apos) [e] [] pos) (isLS (Txt.split x y)) :=
  ev_smeth a (evs_cons b evs_nil stbS hs) F.slot_str_split F.type_str_split (fun t vs h' l p => by
    obtain ⟨_, _, rfl, ⟨u, rfl⟩, rfl⟩ := p
    refine fun s Q E _ q => SCG.split1 (Fm := fun s' => ∃ h' tk, s' = St s h' tk ∧ le s.heap h') ?_ ⟨s.heap, s.toks, rfl, le.rfl⟩ hy (fun D ll s' hl hF hL => ?_) hx hp
    · rintro s' ob k ⟨h', tk, rfl, l'⟩
      exact ⟨_, k, rfl, l'.trans (le_push _ _)⟩
    · obtain ⟨h', tk, rfl, l'⟩ := hF
      exact q _ h' tk l' ⟨D, _, rfl, hL, by rw [← hl]; exact strs_of ll⟩) hbase hfew hline hs rfl
end
end
end Mine

namespace Mine
set_option maxRecDepth 100000
set_option maxHeartbeats 8000000
noncomputable section

section
variable {w : World} {A : Around} {env : Env} {h : Heap} {mg mb : Str → Option Value} {H : Heap} {s : Shared} {E : Value → Shared → Prop} {rest : List Stmt} {tk : Nat} {Q : Flow → Shared → Prop}

theorem x_swap2 {m : Str → Option Value} {R : Heap → Prop} {xa xb : Str} {pa pb tpos pos : Pos} {kk : Nat} {value : Expr} {a b : Int}
    (hh : A.handled = none) (F : FS env.locals m R h) (o : Off env.locals R) (v : Ev w A env h value (isT2 a b))
    (k : ∀ ta tb h2 tk', FS env.locals (fun y => if y = xa then some (.int a ta) else if y = xb then some (.int b tb) else m y) R h2 → wpAny (model PR w) A (execs rest env) Q E (St s h2 tk'))
    (h1 : swapsWithSole [.Tuple [.Name xa pa, .Name xb pb] kk tpos] value pos.line env = pure false)
    (h2 : swappedStores [.Tuple [.Name xa pa, .Name xb pb] kk tpos] value env = pure (some [xa, xb]))
    (ka : env.kindOf xa = some .local) (kb : env.kindOf xb = some .local)
    (hp : (env.scope.kind == .class || (env.scope.kind == .module && env.locals != env.globals)) = false) :
    wpAny (model PR w) A (execs (.Assign [.Tuple [.Name xa pa, .Name xb pb] kk tpos] value pos :: rest) env) Q E (St s h tk) := by
  refine wpAny_execs_cons (Rows.Assign_Tuple_swapped (v _ _ _ le.rfl fun u g1 tk1 l1 p1 => ?_) h1 h2)
  obtain ⟨D, ta, tb, rfl, hl⟩ := p1
  refine wpAny_unpackItems_tuple (items := #[.int a ta, .int b tb]) hh hl fun g2 l2 => ?_
  have l2' : le g1 g2 := fun b o e => l2 b o (Nat.ne_of_lt (Heap.lt_size e)) e
  have n2 := Ns_le F.ns (l1.trans l2')
  refine wpAny_assignInOrder_more (wpAny_bindName (wpAny_storeName_local kb n2 (fun g3 n3 s3 => ?_) hp))
  refine wpAny_assignInOrder_more (wpAny_bindName (wpAny_storeName_local ka n3 (fun g4 n4 s4 => ?_) hp))
  refine wpAny_assignInOrder_none (k ta tb g4 _ ⟨n4, ?_⟩)
  exact o g2 g4 ⟨m, n2⟩ ((off.of_same s3).trans (off.of_same s4)) (o.up F.ns (l1.trans l2') F.r)

theorem x_assert {m : Str → Option Value} {R : Heap → Prop} {test : Expr} {msg : Option Expr} {pos : Pos} (F : FS env.locals m R h) (o : Off env.locals R) (a : Te w A env h test true)
    (k : ∀ h2 tk', FS env.locals m R h2 → wpAny (model PR w) A (execs rest env) Q E (St s h2 tk')) :
    wpAny (model PR w) A (execs (.Assert test msg pos :: rest) env) Q E (St s h tk) :=
  wpAny_execs_cons (wpAny_Assert_holds (a _ _ _ le.rfl fun h1 tk1 l1 => ⟨rfl, k h1 tk1 (F.up o l1)⟩))

theorem tr_itemN {value slice : Expr} {l : Addr} {its : Array Value} {i : Int} {t : Tok} {v : Value} (x : h.IsList l its) (h0 : i < 0) (h1 : -(its.size : Int) ≤ i) (hf : -(2 ^ 63) ≤ i) (hx : its[(i + its.size).toNat]? = some v)
    (hs : subscripted slice false (.ref l) (.int i t) = operate [.ref l, .int i t] (getItem (.ref l) (.int i t)) := by with_unfolding_all rfl) : Tr w A h (subscriptTail value slice (.ref l) (.int i t)) (isV v) :=
  fun s Q E l₀ q => tail_any (List_le x l₀).typeIs slot_list_getitem.lookup (wpAny_getItem_list_neg (List_le x l₀) h0 h1 hf hx (q v s.heap s.toks le.rfl rfl)) hs

noncomputable def emGo (got : Str) (ep : Int) : List Str → Int → Bool
  | [], _ => true
  | u :: r, sp => if find4 got u sp ep < 0 then false else emGo got ep r (find4 got u sp ep + u.length)

inductive JEll (got : Str) (ws : List Str) (t1 tb : Tok) (i : Nat) (m : Str → Option Value) : Prop
  | mk (sp : Int) (ts : Tok) (m1 : m "got" = some (.str got t1)) (m2 : m "endpos" = some (.int got.length tb)) (m3 : m "startpos" = some (.int sp ts)) (e : emGo got got.length (ws.drop i) sp = emGo got got.length ws 0)
theorem strs_last {vs : List Value} {ss : List Str} (I : StrsAre vs ss) {i : Nat} {x : Str} (e : ss[i]? = some x) : ∃ t, vs[i]? = some (.str x t) := by
  induction I generalizing i with
  | nil => simp at e
  | cons y t _ ih =>
    cases i with
    | zero => simp at e; subst e; exact ⟨t, by simp⟩
    | succ i => simpa using ih (by simpa using e)

theorem ell_spec (G : Gd w mg mb H) (l₀ : le H h) (hroom : A.depth + 1 < recursionLimit) (hh : A.handled = none) {want got : Str} {t0 t1 : Tok} (ws : List Str) (hw : Txt.split want "..." = ws)
    (hin : (!!List.isEmpty (Builtin.Str.occurrences want "..." 0 want.length 1)) = false) (hl2 : 2 ≤ ws.length) (hf : ws[0]? = some ("" : Str)) (hl : ws[ws.length - 1]? = some ("" : Str)) (hsz : want.length ≤ 100) (hgot : got.length ≤ 100) (hws : ∀ x ∈ ws, x.length ≤ 100) (hln : ws.length ≤ 100)
    (hp : (Builtin.Str.partsBetween want (Builtin.Str.occurrences want "..." 0 want.length (want.length + 1)) ("..." : Str).length).length ≤ sizeLine) :
    Tr w A h (call (.ref 21) [.str want t0, .str got t1]) (isB (emGo got got.length ws 0)) := by
  refine tr_fn (hco := rfl) (hgen := rfl) (hk := rfl) (binds := [("want", .str want t0), ("got", .str got t1)]) G l₀ (dle (j := 0) hroom rfl) rfl rfl rfl (fun s L h₁ tk ls hL F => ?_) (hloc := locs rfl)
  have g1 := l₀.trans (ls.trans F.r)
  refine x_skip F (off_le hL) ((te_notin (ev_glob G g1 rfl |>.mono fun _ _ _ e => ⟨_, e⟩) (ev_locS F.ns rfl)).eq hin) fun h2 tk2 F => ?_
  have g2 := l₀.trans (ls.trans F.r)
  refine x_assign F (off_le hL) (ev_split (hbase := rfl) (hfew := rfl) (hline := rfl) (hs := rfl) (ev_locS F.ns rfl) (ev_glob G g2 rfl |>.mono fun _ _ _ e => ⟨_, e⟩) rfl (Nat.le_trans hsz (by decide)) hp) fun v h3 h4 tk4 l3 p3 N3 o4 F => ?_
  rw [hw] at p3
  obtain ⟨D, ys, rfl, hD, I⟩ := p3
  have DL : D ≠ L := ne_list N3 hD
  have hD4 : h4.IsList D ys := off_list DL _ _ ⟨_, N3⟩ o4 hD
  have ysz : ys.size = ws.length := by rw [← Array.length_toList, strs_len I]
  have F : FS L _ (fun g => le s.heap g ∧ g.IsList D ys) h4 := ⟨F.ns, F.r, hD4⟩
  have oR : Off L (fun g => le s.heap g ∧ g.IsList D ys) := off_and (off_le hL) (off_list DL)
  have g4 := l₀.trans (ls.trans F.r.1)
  refine x_assert F oR ((te_ge (ev_len (ev_bi G g4 rfl rfl) (ev_loc F.ns rfl) F.r.2 (cast63 (ysz ▸ hln) rfl)) ev_int).eq (by simp; omega)) fun h5 tk5 F => ?_
  have g5 := l₀.trans (ls.trans F.r.1)
  refine x_swap2 (h1 := rfl) (h2 := rfl) (ka := rfl) (kb := rfl) (hp := rfl) hh F oR (ev_tup2 ev_int (ev_lenS (ev_bi G g5 rfl rfl) (ev_locS F.ns rfl) (cast63 hgot rfl))) fun ta tb h6 tk6 F => ?_
  obtain ⟨tf, ef⟩ := strs_last I hf
  obtain ⟨tl, el⟩ := strs_last I hl
  refine x_assign (P := isV (.str "" tf)) F oR (ev_sub_ (ev_loc F.ns rfl) ev_int stbV fun v1 v2 h' l' e1 ⟨_, e2⟩ => by cases e1; subst e2; exact tr_item (List_le F.r.2 l') (by decide) (by decide) (by simpa using ef)) fun v h7 h8 tk8 l7 p7 N7 o8 F => ?_
  cases p7
  refine x_skip F oR ((te_str (x := "") (ev_locS F.ns rfl) (by decide)).eq rfl) fun h9 tk9 F => ?_
  refine x_assign (P := isV (.str "" tl)) F oR (ev_sub_ (ev_loc F.ns rfl) (ev_neg ev_int) stbV fun v1 v2 h' l' e1 ⟨_, e2⟩ => by cases e1; subst e2; exact tr_itemN (List_le F.r.2 l') (by decide) (by omega) (by decide) (by rw [← Array.getElem?_toList, show ((-1 : Int) + ys.size).toNat = ws.length - 1 by omega]; exact el)) fun v h10 h11 tk11 l10 p10 N10 o11 F => ?_
  cases p10
  refine x_skip F oR ((te_str (x := "") (ev_locS F.ns rfl) (by decide)).eq rfl) fun h12 tk12 F => ?_
  refine x_skip F oR ((te_gt (ev_locI F.ns rfl) (ev_locI F.ns rfl)).eq (by simp)) fun h13 tk13 F => ?_
  have nL : ∀ {g : Heap} {m}, g.Ns L m → ∃ o, g.get? L = some o := fun n => let ⟨o, _, _, e, _⟩ := n; ⟨o, e⟩
  refine x_for (hx := rfl) (hp := rfl) (w := w) (it_list hh (ev_loc F.ns rfl) F.r.2) F.ns (fun b => b = L) (fun b e => ⟨fun q => DL (q.symm.trans e), e ▸ nL F.ns⟩) rfl
    (fun i m _ => JEll got ws t1 tb i m) ?_ ?_ ?_ ?_
  · exact fun i m g g' _ x => x
  · exact ⟨0, ta, rfl, rfl, rfl, rfl⟩
  · rintro i v m g tk14 hi hP ⟨sp, ts, m1, m2, m3, hgo⟩ N kb
    rw [← Array.getElem?_toList] at hP
    obtain ⟨x, tx, ex, rfl⟩ := strs_get I hP
    have hxl : x.length ≤ 100 := hws x (List.mem_of_getElem? ex)
    rw [show ws.drop i = x :: ws.drop (i + 1) by
      obtain ⟨hlt, e⟩ := List.getElem?_eq_some_iff.mp ex
      rw [← e]; exact List.drop_eq_getElem_cons hlt] at hgo
    have up : le s.heap g := fun b o e => kb b o (fun q => by rw [q, hL] at e; cases e) (F.r.1 b o e)
    have F14 : FS L _ (fun g' => ∀ b o, b ≠ L → g.get? b = some o → g'.get? b = some o) g := ⟨N, fun _ _ _ e => e⟩
    have o14 : Off L (fun g' => ∀ b o, b ≠ L → g.get? b = some o → g'.get? b = some o) := fun g1 g2 _ k r b o n e => k b o n (r b o n e)
    refine x_int F14 o14 (ev_find4 (hbase := rfl) (hfew := rfl) (hline := rfl) (hs := rfl) (hs2 := rfl) (hs3 := rfl) (hpl := rfl) (ev_locS F14.ns m1) (ev_locS F14.ns rfl) (ev_locI F14.ns m3) (ev_locI F14.ns m2)) fun t15 h15 tk15 F15 => ?_
    rw [emGo] at hgo
    refine x_if F15 o14 (te_lt (ev_locI F15.ns rfl) ev_int) (fun q h16 tk16 F16 => ?_) fun q h16 tk16 F16 => ?_
    · rw [if_pos (of_decide_eq_true q)] at hgo
      refine x_ret (P := isB false) F16 o14 (fun s _ _ _ q => wpAny_Constant_bool (q _ s.heap s.toks le.rfl rfl)) fun v h17 tk17 F17 p => ?_
      cases p
      refine ⟨_, h17, tk17, rfl, rfl, fun b o e => F17.r b o (fun q => by rw [q, hL] at e; cases e) (up b o e), ?_⟩
      show Value.bool false = _
      rw [← hgo]
    · rw [if_neg (of_decide_eq_false q)] at hgo
      refine x_nil ?_
      have gH : le H h16 := fun b o e => F16.r b o (fun q => by have e' := (l₀.trans ls) _ _ e; rw [q, hL] at e'; cases e') (up b o (l₀.trans ls b o e))
      refine x_iadd F16 o14 rfl (ev_lenS (ev_bi G gH rfl rfl) (ev_locS F16.ns rfl) (cast63 hxl rfl)) fun t17 h17 tk17 F17 => ?_
      exact x_nil ⟨_, h17, tk17, rfl, F17.ns, ⟨_, t17, m1, m2, rfl, hgo⟩, F17.r⟩
  · rintro m g tk14 ⟨sp, ts, m1, m2, m3, hgo⟩ N kb
    rw [List.drop_eq_nil_of_le (by omega)] at hgo
    have up : le s.heap g := fun b o e => kb b o (fun q => by rw [q, hL] at e; cases e) (F.r.1 b o e)
    refine x_ret (P := isB true) (R := le s.heap) ⟨N, up⟩ (off_le hL) (fun s _ _ _ q => wpAny_Constant_bool (q _ s.heap s.toks le.rfl rfl)) fun v h17 tk17 F17 p => ?_
    cases p
    refine ⟨_, h17, tk17, rfl, rfl, F17.r, ?_⟩
    show Value.bool true = _
    rw [← hgo]; rfl
end
end
end Mine

namespace Mine
set_option maxRecDepth 100000
set_option maxHeartbeats 8000000
noncomputable section

noncomputable def mkW (word letter : Str) (f p : Int) : Str := Txt.slice word none (some f) ++ letter ++ Txt.slice word (some (f + 1)) (some p) ++ letter ++ Txt.slice word (some (p + 1)) none
noncomputable def placesW (f n : Nat) : List Int := (List.range n).map fun k : Nat => (f : Int) + 1 + (k : Int) * 1
noncomputable def innerW (word letter : Str) (f n : Nat) : List Str := ((placesW f n).filter fun p => Txt.item word p == "-").map (mkW word letter f)
noncomputable def front (word : Str) : Nat := (Builtin.Str.occurrences word "-" 0 word.length 1).headD 0
noncomputable def okW (word : Str) : Bool := word.length == 6 && !(Builtin.Str.occurrences word "-" 0 word.length 1).isEmpty && decide (front word < 6)
noncomputable def growW (letter : Str) (ws : List Str) : List Str := ws.flatMap fun word => innerW word letter (front word) (5 - front word)
noncomputable def stageW : Nat → List Str
  | 0 => ["------"]
  | i + 1 => growW ⟨#[(("abc" : Str).cps[i]?).getD 0]⟩ (stageW i)

inductive JW1 (L : Addr) (W : Addr → Prop) (i : Nat) (m : Str → Option Value) (g : Heap) : Prop
  | mk (D : Addr) (its : Array Value) (m1 : m "words" = some (.ref D)) (n : D ≠ L) (w : ¬ W D) (l : g.IsList D its) (s : StrsAre its.toList (stageW i))
inductive JW2 (Dl : Addr) (c : Nat) (u : Tok) (st : List Str) (k : Nat) (m' : Str → Option Value) (g' : Heap) : Prop
  | mk (ls : Array Value) (p : g'.PlainList Dl ls) (z : ls.size ≤ 5 * k) (s : StrsAre ls.toList (growW ⟨#[c]⟩ (st.take k))) (m1 : m' "letter" = some (.str ⟨#[c]⟩ u)) (m2 : m' "longer" = some (.ref Dl))
inductive JW3 (Dl : Addr) (c : Nat) (u : Tok) (st : List Str) (k : Nat) (word : Str) (tw : Tok) (f : Nat) (t9 : Tok) (j : Nat) (m' : Str → Option Value) (g' : Heap) : Prop
  | mk (lg : Array Value) (p : g'.PlainList Dl lg) (z : lg.size ≤ 5 * k + j) (s : StrsAre lg.toList (growW ⟨#[c]⟩ (st.take k) ++ innerW word ⟨#[c]⟩ f j)) (m1 : m' "letter" = some (.str ⟨#[c]⟩ u)) (m2 : m' "longer" = some (.ref Dl)) (m3 : m' "word" = some (.str word tw)) (m4 : m' "front" = some (.int f t9))
theorem innerW_succ (word letter : Str) (f n : Nat) : innerW word letter f (n + 1) = innerW word letter f n ++ (if Txt.item word ((f : Int) + 1 + (n : Int) * 1) == "-" then [mkW word letter f ((f : Int) + 1 + (n : Int) * 1)] else []) := by
  unfold innerW placesW
  rw [List.range_succ, List.map_append, List.filter_append, List.map_append]
  congr 1
  simp only [List.map_cons, List.map_nil, List.filter_cons, List.filter_nil]
  split <;> rfl

theorem wo1 {f j : Nat} (h : j < ((6 : Int) - (f + 1)).toNat) : (0 : Int) ≤ (f : Int) + 1 + j * 1 ∧ (f : Int) + 1 + j * 1 < 6 ∧ (f : Int) + 1 + j * 1 < 2 ^ 63 := by omega
theorem wo2 {f : Nat} (h : f < 6) : -(2 ^ 62) ≤ (f : Int) + 1 ∧ (f : Int) + 1 < 2 ^ 62 := by omega
theorem wo3 (f : Nat) : ((6 : Int) - (f + 1)).toNat = 5 - f := by omega
theorem wo4 {z k j f : Nat} (h : z ≤ 5 * k + j) (hk : k < 15) (hj : j < ((6 : Int) - (f + 1)).toNat) : z ≤ 2 ^ 24 ∧ z + 1 ≤ 5 * k + (j + 1) ∧ z ≤ 5 * k + (j + 1) := by omega
theorem wo5 {z k f : Nat} (h : z ≤ 5 * k + ((6 : Int) - (f + 1)).toNat) : z ≤ 5 * (k + 1) := by omega
theorem wo6 {a b c : Nat} (h1 : a ≤ 6) (h2 : b ≤ 6) (h3 : c ≤ 6) : a + 1 ≤ 30 ∧ a + 1 + b ≤ 30 ∧ a + 1 + b + 1 ≤ 30 ∧ a + 1 + b + 1 + c ≤ 30 := by omega
section
variable {w : World} {A : Around} {env : Env} {h : Heap} {mg mb : Str → Option Value} {H : Heap} {s : Shared} {E : Value → Shared → Prop} {rest : List Stmt} {tk : Nat} {Q : Flow → Shared → Prop}

theorem iseof_spec (G : Gd w mg mb H) (l₀ : le H h) (hroom : A.depth < recursionLimit) {x : Int} {t : Tok} : Tr w A h (call (.ref 73) [.int x t]) (isB (x == 0)) := by
  refine tr_fn (hco := rfl) (hgen := rfl) (hk := rfl) (binds := [("x", .int x t)]) G l₀ hroom rfl rfl rfl (fun s L h₁ tk ls hL F => ?_) (hloc := locs rfl)
  have g1 := l₀.trans (ls.trans F.r)
  refine x_ret (P := isB (x == 0)) F (off_le hL) (ev_ii (ev_locI F.ns rfl) (ev_glob G g1 rfl |>.mono fun _ _ _ e => ⟨_, e⟩) fun _ _ _ => tr_eq) fun v h2 tk2 F2 p => ⟨v, h2, tk2, rfl, rfl, F2.r, p⟩

theorem ev_list1S {e : Expr} {pos : Pos} {x : Str} (a : Ev w A env h e (isS x)) (hs : starEach [e] env = (false, eval e env) :: starEach [] env := by rfl) :
    Ev w A env h (.List [e] pos) (isLS [x]) := fun s Q E l q =>
  wpAny_List ((evs_cons (pos := pos) a evs_nil stbS hs) _ _ _ l fun vs h1 tk1 l1 p1 => by
    obtain ⟨_, _, rfl, ⟨t, rfl⟩, rfl⟩ := p1
    exact ⟨by show 1 ≤ sizeLine; decide, q _ _ _ (l1.trans (le_push _ _)) ⟨_, _, rfl, ⟨_, Heap.get?_push_size _ rfl, rfl, _, rfl⟩, .cons _ _ .nil⟩⟩)

theorem words_spec (G : Gd w mg mb H) (l₀ : le H h) (hroom : A.depth + 1 < recursionLimit) (hh : A.handled = none) (hok : ∀ i, i < 3 → (stageW i).length ≤ 15 ∧ ∀ x ∈ stageW i, okW x = true) :
    Tr w A h (call (.ref 80) []) (isLS (stageW 3)) := by
  refine tr_fn (hco := rfl) (hgen := rfl) (hk := rfl) (binds := []) G l₀ (dle (j := 0) hroom rfl) rfl rfl rfl (fun s L h₁ tk ls hL F => ?_) (hloc := locs rfl)
  refine x_assign F (off_le hL) (ev_list1S ev_str) fun v h3 h4 tk4 l3 p3 N3 o4 F => ?_
  obtain ⟨D, ys, rfl, hD, I⟩ := p3
  have DL : D ≠ L := ne_list N3 hD
  have hD4 : h4.IsList D ys := off_list DL _ _ ⟨_, N3⟩ o4 hD
  have nL : ∀ {g : Heap} {m}, g.Ns L m → ∃ o, g.get? L = some o := fun n => let ⟨o, _, _, e, _⟩ := n; ⟨o, e⟩
  refine x_forW (w := w) (it_str (x := "abc") hh (by kernel_rfl) ev_str) F.ns (fun b => b = L) (fun b e => ⟨id, e ▸ nL F.ns⟩) rfl
    (JW1 L) ?_ ?_ ?_ ?_
  · rintro W i m g g' hW _ _ kk ⟨D, its, m1, nD, nW, ⟨o, e, r⟩, I⟩
    exact ⟨D, its, m1, nD, nW, ⟨o, kk D o nD nW e, r⟩, I⟩
  · exact fun W hW => ⟨D, ys, rfl, DL, fun q => (by obtain ⟨o, e, _⟩ := hD4; rw [hW D q] at e; cases e), hD4, I⟩
  · rintro W i v m g tk5 hi ⟨c, u, hc, rfl⟩ ⟨D, its, m1, DL, nW, hD, I⟩ exW hW N kb
    have hi3 : i < 3 := hi
    obtain ⟨hlen, hokw⟩ := hok i hi3
    have up : le s.heap g := fun b o e => kb b o (fun q => by rw [q, hL] at e; cases e) (F.r b o e)
    have F5 : FS L _ (fun g' => off L g g' ∧ g'.IsList D its) g := ⟨N, fun _ _ _ e => e, hD⟩
    have o5 : Off L (fun g' => off L g g' ∧ g'.IsList D its) := off_and (fun g1 g2 _ k r => r.trans k) (off_list DL)
    refine x_assign F5 o5 ev_nil fun v h6 h7 tk7 l6 p6 N6 o7 F7 => ?_
    obtain ⟨Dl, rfl, hDl, pl⟩ := p6
    have DlL : Dl ≠ L := ne_list N6 pl.isList
    have DlD : Dl ≠ D := fun q => by obtain ⟨o, e, _⟩ := hD; rw [← q, hDl] at e; cases e
    have pl7 : h7.PlainList Dl #[] := off_plain DlL _ _ ⟨_, N6⟩ o7 pl
    have isz : its.size = (stageW i).length := by rw [← Array.length_toList, strs_len I]
    refine x_for (hx := rfl) (hp := rfl) (w := w) (it_list hh (ev_loc F7.ns m1) F7.r.2) F7.ns (fun b => b = L ∨ b = Dl) ?_ (.inl rfl)
      (JW2 Dl c u (stageW i)) ?_ ?_ ?_ ?_
    · rintro b (rfl | rfl)
      · exact ⟨Ne.symm DL, nL F7.ns⟩
      · exact ⟨DlD, let ⟨k, e⟩ := pl7; ⟨_, e⟩⟩
    · rintro k m' g1 g2 kk ⟨ls, ⟨c', e⟩, z, s, m1, m2⟩
      exact ⟨ls, ⟨c', kk _ _ DlL (let ⟨k, e⟩ := pl7; ⟨_, e⟩) e⟩, z, s, m1, m2⟩
    · exact ⟨#[], pl7, Nat.zero_le _, .nil, rfl, rfl⟩
    · rintro k v m' g1 tk8 hk hP ⟨lg, plg, lsz, Il, m2, m3⟩ N8 kb8
      rw [← Array.getElem?_toList] at hP
      obtain ⟨word, tw, ew, rfl⟩ := strs_get I hP
      have hw := hokw word (List.mem_of_getElem? ew)
      unfold okW at hw
      simp only [Bool.and_eq_true, beq_iff_eq, Bool.not_eq_true', decide_eq_true_eq] at hw
      obtain ⟨⟨wl, wo⟩, wf⟩ := hw
      obtain ⟨f, r, ho⟩ : ∃ f r, Builtin.Str.occurrences word "-" 0 word.length 1 = f :: r := by
        cases e : Builtin.Str.occurrences word "-" 0 word.length 1 with
        | nil => rw [e] at wo; cases wo
        | cons f r => exact ⟨f, r, rfl⟩
      have hfr : front word = f := by unfold front; rw [ho]; rfl
      rw [hfr] at wf
      have F8 : FS L _ (RW L Dl lg g1) g1 := ⟨N8, fun _ _ _ e => e, plg⟩
      have o8 : ∀ lg, Off L (RW L Dl lg g1) := fun lg => off_RW DlL
      refine x_int F8 (o8 _) (ev_index (hbase := rfl) (hfew := rfl) (hline := rfl) (hs := rfl) (ev_locS F8.ns rfl) ev_str ho) fun t9 h9 tk9 F9 => ?_
      have up7 : le s.heap h7 := fun b o e => F7.r.1 b o (fun q => by rw [q, hL] at e; cases e) (up b o e)
      have gH : ∀ {g}, (∀ b o, ¬ (b = L ∨ b = Dl) → h7.get? b = some o → g.get? b = some o) → le H g := fun kg b o e => by
        have e' := (l₀.trans ls) _ _ e
        exact kg b o (fun q => by
          rcases q with rfl | rfl
          · rw [hL] at e'; cases e'
          · rw [up b o e'] at hDl; cases hDl) (up7 b o e')
      have wsz : word.length ≤ sizeLine := by rw [wl]; decide
      refine x_for (hx := rfl) (hp := rfl) (w := w) (it_range2 (hg := rfl) (hb := rfl) (hk := rfl) (hl := rfl) (hs := rfl) (hs' := rfl) (hs2 := rfl) G (gH fun b o n e => F9.r.1 b o n (kb8 b o n e)) hh (ev_add (ev_locI F9.ns rfl) ev_int) ev_int (wo2 wf) (by decide)) F9.ns (fun b => b = L ∨ b = Dl) ?_ (.inl rfl)
        (JW3 Dl c u (stageW i) k word tw f t9) ?_ ?_ ?_ ?_
      · rintro b (rfl | rfl)
        · exact ⟨id, nL F9.ns⟩
        · exact ⟨id, let ⟨k, e⟩ := F9.r.2; ⟨_, e⟩⟩
      · rintro j m' g1 g2 kk ⟨ls, ⟨c', e⟩, z, s, m1, m2, m3, m4⟩
        exact ⟨ls, ⟨c', kk _ _ DlL (let ⟨k, e⟩ := F9.r.2; ⟨_, e⟩) e⟩, z, s, m1, m2, m3, m4⟩
      · refine ⟨lg, F9.r.2, lsz, ?_, m2, m3, rfl, rfl⟩
        show StrsAre lg.toList (_ ++ [])
        rw [List.append_nil]; exact Il
      · rintro j v m' g2 tk10 hj ⟨tp, rfl⟩ ⟨lg', plg', lsz', Il', q1, q2, q3, q4⟩ N10 kb10
        obtain ⟨hj0, hj', hj63⟩ := wo1 hj
        have hz := wo4 lsz' (Nat.lt_of_lt_of_le hk (isz ▸ hlen)) hj
        have F10 : FS L _ (RW L Dl lg' g2) g2 := ⟨N10, fun _ _ _ e => e, plg'⟩
        have o10 : Off L (RW L Dl lg' g2) := off_RW DlL
        have hin := innerW_succ word ⟨#[c]⟩ f j
        refine x_if F10 o10 (te_eqS (ev_itemS (ev_locS F10.ns q3) (ev_locI F10.ns rfl) hj0 (by rw [wl]; exact hj') hj63) ev_str) (fun q h11 tk11 F11 => ?_) fun q h11 tk11 F11 => ?_
        · rw [if_pos q] at hin
          have c6 : ∀ a b, (Txt.slice word a b).length ≤ 6 := fun a b => Nat.le_trans (Txt.slice_le _ _ _) (Nat.le_of_eq wl)
          refine x_append (hbase := rfl) (hfew := rfl) (hline := rfl) (htrees := rfl) (hi := rfl) (hsw := rfl) (P := isS (mkW word ⟨#[c]⟩ f ((f : Int) + 1 + j * 1))) (ev_loc F11.ns q2) ?_ F11.r.2 hz.1 fun y h12 h13 tk13 l12 p12 o13 pl13 => ?_
          · refine ev_cat (ev_cat (ev_cat (ev_cat (ev_slice_su (ev_locS F11.ns q3) (ev_locI F11.ns q4) wsz) (ev_locS F11.ns q1) ?_) (ev_slice_lu (ev_locS F11.ns q3) (ev_add (ev_locI F11.ns q4) ev_int) (ev_locI F11.ns rfl) wsz) ?_) (ev_locS F11.ns q1) ?_) (ev_slice_ls (ev_locS F11.ns q3) (ev_add (ev_locI F11.ns rfl) ev_int) wsz) ?_
            all_goals
              try simp only [size_cat]
              refine Nat.le_trans (m := 30) ?_ (by decide)
              have z := wo6 (c6 none (some f)) (c6 (some (f + 1)) (some ((f : Int) + 1 + j * 1))) (c6 (some ((f : Int) + 1 + j * 1 + 1)) none)
              first | exact z.1 | exact z.2.1 | exact z.2.2.1 | exact z.2.2.2
          · obtain ⟨ty, rfl⟩ := p12
            refine x_nil (x_nil ⟨_, h13, tk13, rfl, (Ns_le F11.ns l12).at' (fun o e => o13 _ _ (Ne.symm DlL) e), ⟨_, pl13, by rw [Array.size_push]; exact hz.2.1, ?_, q1, q2, q3, q4⟩, fun b o nm e => o13 b o (fun q => nm (.inr q)) (l12 b o (F11.r.1 b o nm e))⟩)
            rw [hin, ← List.append_assoc]
            exact strs_push Il'
        · rw [if_neg (by rw [q]; decide), List.append_nil] at hin
          exact x_nil (x_nil ⟨_, h11, tk11, rfl, F11.ns, ⟨lg', F11.r.2, hz.2.2, by rw [hin]; exact Il', q1, q2, q3, q4⟩, F11.r.1⟩)
      · rintro m' g2 tk10 ⟨lg', plg', lsz', Il', q1, q2, q3, q4⟩ N10 kb10
        refine x_nil ⟨_, g2, tk10, rfl, N10, ⟨lg', plg', wo5 lsz', ?_, q1, q2⟩, fun b o nm e => kb10 b o nm (F9.r.1 b o nm e)⟩
        have e1 : (stageW i).take (k + 1) = (stageW i).take k ++ [word] := by rw [List.take_add_one, ew]; rfl
        rw [e1]
        unfold growW at Il' ⊢
        rw [List.flatMap_append, List.flatMap_singleton, hfr]
        rw [wo3] at Il'
        exact Il'
    · rintro m' g1 tk8 ⟨lg, plg, lsz, Il, m2, m3⟩ N8 kb8
      rw [isz, List.take_length] at Il
      have F8 : FS L _ (fun g' => off L g1 g') g1 := ⟨N8, fun _ _ _ e => e⟩
      refine x_assign F8 (fun g1 g2 _ k r => r.trans k) (ev_loc F8.ns m3) fun v h9 h10 tk10 l9 p9 N9 o10 F10 => ?_
      cases p9
      refine x_nil ⟨_, h10, tk10, rfl, F10.ns, ⟨Dl, lg, rfl, DlL, fun q => (by obtain ⟨o, e⟩ := exW Dl q; rw [hDl] at e; cases e), ?_, ?_⟩, fun b o nm e => F10.r b o nm (kb8 b o (fun q => q.elim nm fun q => by rw [q, hDl] at e; cases e) (F7.r.1 b o nm e))⟩
      · obtain ⟨o, e, r⟩ := plg.isList
        exact ⟨o, F10.r Dl o DlL e, r⟩
      · have : stageW (i + 1) = growW ⟨#[c]⟩ (stageW i) := by
          show growW ⟨#[(("abc" : Str).cps[i]?).getD 0]⟩ (stageW i) = _
          rw [hc]; rfl
        rw [this]; exact Il
  · rintro W m g tk5 ⟨D, its, m1, DL, nW, hD, I⟩ N kb
    have up : le s.heap g := fun b o e => kb b o (fun q => by rw [q, hL] at e; cases e) (F.r b o e)
    refine x_ret (P := isLS (stageW 3)) (R := le s.heap) ⟨N, up⟩ (off_le hL) (ev_locP N m1 ⟨D, its, rfl, hD, I⟩ stbLS) fun v h17 tk17 F17 p => ⟨_, h17, tk17, rfl, rfl, F17.r, p⟩
end
end
end Mine

namespace Mine
set_option maxRecDepth 100000
set_option maxHeartbeats 8000000
noncomputable section

theorem ne_cell {h : Heap} {a c : Addr} {its : Array Value} {v : Option Value} (l : h.IsList a its) (x : h.IsCell c v) : a ≠ c := by
  rintro rfl
  obtain ⟨o, e, _, _, d⟩ := l
  obtain ⟨o', e', d'⟩ := x
  rw [e] at e'; cases e'; rw [d] at d'; cases d'

section
variable {w : World} {A : Around} {env : Env} {h : Heap} {mg mb : Str → Option Value} {H : Heap} {s : Shared} {E : Value → Shared → Prop} {rest : List Stmt} {tk : Nat} {Q : Flow → Shared → Prop}

inductive InvC (L c : Addr) (n : Nat) (Wt : Nat → Heap → Prop) (Mut : Addr → Prop) (h : Heap) (J : Nat → (Str → Option Value) → Prop) (s : Shared) (d : Nat) (s' : Shared) : Prop
  | mk (i : Nat) (m : Str → Option Value) (v' : Option Value) (g : Heap) (tk : Nat) (e : s' = St s g tk) (ec : d = n + 1 - i) (le : i ≤ n) (w : Wt i g) (N : g.Ns L m) (C : g.IsCell c v') (j : J i m) (k : ∀ b o, ¬ Mut b → h.get? b = some o → g.get? b = some o)
inductive NextC (L c : Addr) (Mut : Addr → Prop) (J : (Str → Option Value) → Prop) (s : Shared) (g : Heap) (s' : Shared) : Prop
  | mk (m' : Str → Option Value) (v' : Option Value) (g' : Heap) (tk' : Nat) (e : s' = St s g' tk') (n : g'.Ns L m') (C : g'.IsCell c v') (j : J m') (k : ∀ b o, ¬ Mut b → g.get? b = some o → g'.get? b = some o)
theorem x_forC {x : Str} {px pos : Pos} {iter : Expr} {body : List Stmt} {n : Nat} {P : Nat → Value → Prop} {S : Addr → Prop} {m : Str → Option Value} {c : Addr} {v₀ : Option Value}
    (it : It w A env h iter n P S) (N : h.Ns env.locals m) (C : h.IsCell c v₀) (Mut : Addr → Prop) (hMut : ∀ b, Mut b → ¬ S b ∧ ∃ o, h.get? b = some o) (hC : Mut c)
    (J : Nat → (Str → Option Value) → Prop) (J0 : J 0 m)
    (step : ∀ i v m g tk, i < n → P i v → J i m → g.Ns env.locals m → g.IsCell c (some v) → (∀ b o, ¬ Mut b → h.get? b = some o → g.get? b = some o) →
      wpAny (model PR w) A (execs body env) (LoopP (NextC env.locals c Mut (J (i + 1)) s g) Q) (fun _ _ => False) (St s g tk))
    (k : ∀ m v' g tk, J n m → g.Ns env.locals m → g.IsCell c v' → (∀ b o, ¬ Mut b → h.get? b = some o → g.get? b = some o) → wpAny (model PR w) A (execs rest env) Q E (St s g tk))
    (hk : env.scope.kind = .function) (hx : env.kindOf x = some .cell) (hcl : env.cells.lookup x = some c)
    (hs : ∀ v, foldedSetIterable iter env v = pure v := by intro _; rfl) :
    wpAny (model PR w) A (execs (.For (.Name x px) iter body [] pos :: rest) env) Q E (St s h tk) := by
  refine wpAny_execs_cons (wpAny_For (it _ _ _ le.rfl fun I fp wr Wt h' tk' l' W st hfp hwr hS hex => ?_) hs)
  have nwr : ∀ b, (∃ o, h.get? b = some o) → b ∉ wr := fun b ⟨o, e⟩ hb => by rw [show h.get? b = none from hwr b hb] at e; cases e
  have nfp : ∀ b ∈ fp, ¬ Mut b := fun b hb hm => by
    obtain ⟨ns, o, e⟩ := hMut b hm
    rcases hS b hb with q | q
    · rw [show (St s h tk).heap = h from rfl, e] at q; cases q
    · exact ns q
  have ne : ∀ {g : Heap} {m v}, g.Ns env.locals m → g.IsCell c v → env.locals ≠ c := fun n ⟨o, e, d⟩ q => by
    obtain ⟨o', _, _, e', d', _⟩ := n
    rw [q, e] at e'; cases e'; rw [d] at d'; cases d'
  have Lw : env.locals ∉ wr := nwr _ (let ⟨o, _, _, e, _⟩ := N; ⟨o, e⟩)
  have Cw : c ∉ wr := nwr _ (let ⟨o, e, _⟩ := C; ⟨o, e⟩)
  refine codeAny_forLoop_any (InvC env.locals c n Wt Mut h J s) ?_ (n + 1)
    ⟨0, m, v₀, h', tk', rfl, rfl, Nat.zero_le _, st, Ns_le N l', Cell_le C l', J0, fun b o _ e => l' b o e⟩
  rintro d s' ⟨i, m, v', g, tk, rfl, rfl, hi, hst, hN, hC', hJ, hb⟩
  by_cases hlt : i < n
  · refine W.item i _ _ _ hlt hst fun v g1 tk1 hP st1 k1 => ?_
    show wpAny (model PR w) A (pure ()) _ _ _
    have C1 : g1.IsCell c v' := let ⟨o, e, d⟩ := hC'; ⟨o, k1 _ _ Cw e, d⟩
    refine wpAny_pure (wpAny_assign_Name (wpAny_storeName_cell hk hx hcl C1 fun g2 c2 s2 => ?_))
    have N2 : g2.Ns env.locals m := (hN.at' fun o e => k1 _ o Lw e).at' fun o e => (s2.2 _ (ne hN hC')).trans e
    have kb : ∀ b o, ¬ Mut b → h.get? b = some o → g2.get? b = some o := fun b o nm e => (s2.2 b fun q => nm (q ▸ hC)).trans (k1 b o (nwr b ⟨o, e⟩) (hb b o nm e))
    refine wpAny_mono (step i v m g2 _ hlt hP hJ N2 c2 kb) (fun f s3 hf => ?_) fun _ _ e => e.elim
    cases f with
    | next =>
      obtain ⟨m', v2, g', tk', rfl, n', C3, j', kp⟩ := hf
      refine ⟨n + 1 - (i + 1), inv_dec hlt, i + 1, m', v2, g', tk', rfl, rfl, hlt, W.frame _ _ _ st1 fun b hb' o e => kp b o (nfp b hb') ((s2.2 b (fun q => nfp b hb' (q ▸ hC))).trans e), n', C3, j', fun b o nm e => kp b o nm (kb b o nm e)⟩
    | brk => exact False.elim hf
    | cont => exact False.elim hf
    | ret v => exact hf
  · have e : i = n := Nat.le_antisymm hi (Nat.le_of_not_lt hlt)
    subst e
    refine W.done _ _ _ hst fun g1 tk1 k1 => ?_
    refine wpAny_execs_nil ?_
    exact k m v' g1 tk1 hJ (hN.at' fun o e => k1 _ o Lw e) (let ⟨o, e, d⟩ := hC'; ⟨o, k1 _ _ Cw e, d⟩) fun b o nm e => k1 b o (nwr b ⟨o, e⟩) (hb b o nm e)

theorem x_comp {m : Str → Option Value} {R : Heap → Prop} {elt iter : Expr} {x y : Str} {px py : Pos} {ifs : List Expr} {scope : Scope} {cl : List (Str × Addr)} {pos spos : Pos} {n : Nat} {P : Nat → Value → Prop} {S : Addr → Prop}
    (p : Value → Bool) (F : Value → Value → Prop) (f : FS env.locals m R h) (o : Off env.locals R)
    (it : It w A env h iter n P S) (hsz : n ≤ sizeLine) (hclos : closureFor scope env = pure cl)
    (ht : ∀ C i v h₃ m₃, P i v → le h h₃ → h₃.Ns C m₃ → m₃ x = some v → TrB w A h₃ (forIn ifs true fun c r => if r = true then do let ok ← isTrue c (compEnvC scope cl C env) (eval c (compEnvC scope cl C env)); pure (ForInStep.yield ok) else pure (ForInStep.yield r)) (p v))
    (he : ∀ C i v h₃ m₃, P i v → p v = true → le h h₃ → h₃.Ns C m₃ → m₃ x = some v → Tr w A h₃ (eval elt (compEnvC scope cl C env)) (fun y _ => F v y))
    (k : ∀ D h2 tk' ys (vs : List Value), off env.locals h h2 → FS env.locals (fun z => if z = y then some (.ref D) else m z) R h2 → h2.IsList D ys → vs.length = n → (∀ j v, vs[j]? = some v → P j v) → Paired F (vs.filter p) ys.toList →
      wpAny (model PR w) A (execs rest env) Q E (St s h2 tk'))
    (hsw : swapsWith (.ListComp elt [⟨.Name x px, iter, ifs, 0⟩] scope pos) (some (.Name y py)) spos.line env = pure true)
    (hcell : ∀ y ∈ scope.names, y.2 ≠ .cell := by decide) (hkind : scope.kind = .function) (hnames : ∀ y ∈ scope.names, y.2 = .local → scope.names.lookup y.1 = some .local := by decide) (hx : scope.names.lookup x = some .local)
    (hy : env.kindOf y = some .local) (hp : (env.scope.kind == .class || (env.scope.kind == .module && env.locals != env.globals)) = false)
    (hs : ∀ x, foldedSetIterable iter env x = pure x := by intro _; rfl) :
    wpAny (model PR w) A (execs (.Assign [.Name y py] (.ListComp elt [⟨.Name x px, iter, ifs, 0⟩] scope pos) spos :: rest) env) Q E (St s h tk) := by
  refine wpAny_execs_cons (wpAny_Assign_ListComp_free p F hsw hclos hcell hkind hnames hx hy hp (it _ _ _ le.rfl fun I fp wr Wt h' tk' l' W st hfp hwr _ _ => ?_) hs)
  have l' : le h h' := l'
  have hwr : ∀ b ∈ wr, h.get? b = none := hwr
  have up : ∀ s₃ : Shared, (∀ b o, b ∉ wr → h'.get? b = some o → s₃.heap.get? b = some o) → le h s₃.heap := fun s₃ k b o e => k b o (fun hm => by have := hwr b hm; rw [e] at this; cases this) (l' b o e)
  refine ⟨I, fp, wr, n, P, Wt, m, rfl, W, hsz, st, hfp, fun hm => ?_, Ns_le f.ns l', ⟨fun C i v s₃ m₃ E' _ hP hn hm k _ => ?_, fun C i v s₃ m₃ E' _ hP hp hn hm k _ => ?_⟩, fun D h₂ tk₂ ys vs hD hl hpl hlen hPj hF hN kk => ?_⟩
  · obtain ⟨o, _, _, e, _⟩ := f.ns
    rw [hwr _ hm] at e; cases e
  · exact ht C i v s₃.heap m₃ hP (up s₃ k) hn hm s₃ _ _ le.rfl fun h₄ tk₄ l₄ => ⟨rfl, h₄, tk₄, rfl, l₄⟩
  · exact he C i v s₃.heap m₃ hP hp (up s₃ k) hn hm s₃ _ _ le.rfl fun y h₄ tk₄ l₄ f => ⟨f, h₄, tk₄, rfl, l₄⟩
  · have ko : off env.locals h h₂ := fun b o nb e => kk b o nb (fun hm => by rw [hwr b hm] at e; cases e) (l' b o e)
    exact k D h₂ tk₂ ys vs ko ⟨hN, o h h₂ ⟨m, f.ns⟩ ko f.r⟩ hl hlen hPj hF

noncomputable def PairsR (w : World) (A : Around) (env : Env) (h : Heap) (pos : Pos) (ks : List (Option Expr)) (vs : List Expr) (kvs : List (Str × Int)) : Prop :=
  ∀ (s : Shared) (Q : List (Value × Value) → Shared → Prop) (E : Value → Shared → Prop), le h s.heap →
    (∀ ps tk, ps.map (fun p => (keyS p.1, intOf p.2)) = kvs.map (fun q => (some q.1, some q.2)) → Q ps { s with toks := tk }) → wpAny (model PR w) A (evalPairs (pairTrees ks vs env pos)) Q E s
theorem pairs_nil {pos : Pos} : PairsR w A env h pos [] [] [] := fun s Q E _ q => pairTrees_nil_walk (q [] s.toks rfl)
theorem pairs_cons {pos p1 p2 : Pos} {ks : List (Option Expr)} {vs : List Expr} {x : Str} {i : Int} {a b : Nat} {kvs : List (Str × Int)} (r : PairsR w A env h pos ks vs kvs) :
    PairsR w A env h pos (some (.Constant (.str x) a p1) :: ks) (.Constant (.int i) b p2 :: vs) ((x, i) :: kvs) := fun s Q E l q =>
  pairTrees_cons_walk (wpAny_Constant_str (wpAny_Constant_int (r _ _ _ l fun ps tk e => q _ tk (by rw [List.map_cons, List.map_cons, e]; rfl))))
noncomputable def valI (kvs : List (Str × Int)) (k : Str) : Int := ((kvs.find? fun kv => kv.1 = k).map (·.2)).getD 0
theorem keyS_str {v : Value} {x : Str} (h : keyS v = some x) : ∃ t, v = .str x t := by
  cases v <;> cases h
  exact ⟨_, rfl⟩
theorem pairs_str {ps : List (Value × Value)} {kvs : List (Str × Int)} (e : ps.map (fun p => (keyS p.1, intOf p.2)) = kvs.map (fun q => (some q.1, some q.2))) :
    allStrKeys ps = true ∧ (strPairs ps).map (·.1) = kvs.map (·.1) ∧ ∀ k t, ∃ t', (valueAt (strPairs ps) k).getD (.int 0 t) = .int (valI kvs k) t' := by
  induction ps generalizing kvs with
  | nil => cases kvs with
    | nil => exact ⟨rfl, rfl, fun k t => ⟨t, rfl⟩⟩
    | cons q r => cases e
  | cons p r ih => cases kvs with
    | nil => cases e
    | cons q kvs =>
      obtain ⟨e0, e3⟩ := List.cons.inj e
      obtain ⟨e1, e2⟩ := Prod.mk.inj e0
      obtain ⟨kv, vv⟩ := p
      obtain ⟨x, i⟩ := q
      obtain ⟨a1, a2, a3⟩ := ih e3
      obtain ⟨t2, e2⟩ := intOf_is e2
      obtain ⟨t1, e1⟩ : ∃ t1, kv = .str x t1 := keyS_str e1
      subst e1
      have e2 : vv = .int i t2 := e2
      subst e2
      refine ⟨a1, congrArg (x :: ·) a2, fun k t => ?_⟩
      show ∃ t', (((((x, Value.int i t2) :: strPairs r).find? fun kv => kv.1 = k).map (·.2)).getD (.int 0 t)) = Value.int ((((((x, i) : Str × Int) :: kvs).find? fun kv => kv.1 = k).map (·.2)).getD 0) t'
      rw [List.find?_cons, List.find?_cons]
      by_cases hk : x = k
      · rw [decide_eq_true hk]; exact ⟨t2, rfl⟩
      · rw [decide_eq_false hk]; exact a3 k t
noncomputable def isM (w : World) (h₀ : Heap) (kvs : List (Str × Int)) : Value → Heap → Prop := fun v h => ∃ d f, v = .ref d ∧ h₀.get? d = none ∧ (d == sysModules) = false ∧ Heap.MapOf (strKind PR w) h d f ∧ ∀ k t, ∃ t', (f k).getD (.int 0 t) = .int (valI kvs k) t'
theorem ev_dict {keys : List (Option Expr)} {values : List Expr} {pos : Pos} {kvs : List (Str × Int)} (G : Gd w mg mb H) (l₀ : le H h) (r : PairsR w A env h pos keys values kvs) (hn : (kvs.map (·.1)).Nodup)
    (hall : keys.all (·.isSome) = true) (hl : keys.length = values.length) (h0 : keys ≠ []) (hlen : keys.length ≤ 15) :
    Ev w A env h (.Dict keys values pos) (isM w h kvs) := fun s Q E l q =>
  wpAny_Dict_walk (knd := strKind PR w) hall hl h0 hlen (r _ _ _ (l.trans (le_push _ _)) fun ps tk e => by
    obtain ⟨a1, a2, a3⟩ := pairs_str e
    refine display_done_str (P := fun h' => Q (.ref s.heap.objs.size) { heap := h', gens := s.gens, drawn := s.drawn, toks := tk + ps.length, os := s.os }) a1 (by rw [a2]; exact hn) (Heap.DictOf.new s.heap) fun h' hm sb => q _ h' _ (fun b o e => (sb.2 b (Nat.ne_of_lt (Heap.lt_size e))).trans (Heap.get?_push_of_some _ e)) ⟨_, _, rfl, notIn l (fresh_none _ (Nat.le_refl _)), ?_, hm.mapOf, a3⟩
    have big : 109 < s.heap.objs.size := Heap.lt_size (l _ _ (l₀ _ _ (G.X 109 _ rfl)))
    exact beq_eq_false_iff_ne.mpr fun e => by rw [e] at big; exact absurd big (by decide))
theorem ev_dictE {keys : List (Option Expr)} {values : List Expr} {pos : Pos} {kvs : List (Str × Int)} {e : Expr} (hE : Expr.Dict keys values pos = e) (G : Gd w mg mb H) (l₀ : le H h) (r : PairsR w A env h pos keys values kvs) (hn : (kvs.map (·.1)).Nodup)
    (hall : keys.all (·.isSome) = true) (hl : keys.length = values.length) (h0 : keys ≠ []) (hlen : keys.length ≤ 15) : Ev w A env h e (isM w h kvs) := hE ▸ ev_dict G l₀ r hn hall hl h0 hlen
end
end
end Mine

namespace Mine
set_option maxRecDepth 100000
set_option maxHeartbeats 8000000
noncomputable section

noncomputable def letW (k : Nat) : Str := ⟨#[(("abc" : Str).cps[k]?).getD 0]⟩
noncomputable def occW (word : Str) (k : Nat) : List Nat := Builtin.Str.occurrences word (letW k) 0 word.length 1
noncomputable def lstW (word : Str) (k : Nat) : Option Nat := Builtin.Str.lastOccurrence word (letW k) 0 word.length
noncomputable def lfW (word : Str) (k : Nat) : Nat := (occW word k).headD 0
noncomputable def rtW (word : Str) (k : Nat) : Nat := (lstW word k).getD 0
noncomputable def okL (word : Str) (k : Nat) : Bool := !(occW word k).isEmpty && (lstW word k).isSome && decide (lfW word k < rtW word k) && decide (rtW word k < 6)
noncomputable def facW (c : Int → Nat) (st : Int) (word : Str) (k : Nat) : Int := upW c st (lfW word k) (rtW word k)
noncomputable def prodW (c : Int → Nat) (st : Int) (word : Str) : Nat → Int
  | 0 => 1
  | k + 1 => prodW c st word k * facW c st word k
noncomputable def patsS : List Str := ["...a...b...a...b...", "...a...c...a...c...", "...b...c...b...c..."]
noncomputable def meetsW (word p : Str) : Bool := emGo word word.length (Txt.split p "...") 0
noncomputable def oddW (word : Str) : Bool := (((patsS.filter (meetsW word)).length : Nat) : Int).fmod 2 == 1
noncomputable def termW (c : Int → Nat) (st : Int) (word : Str) : Int := if 0 < prodW c st word 3 then (if oddW word then -prodW c st word 3 else prodW c st word 3) else 0
noncomputable def totW (c : Int → Nat) (st : Int) (ws : List Str) : Int := (ws.map (termW c st)).sum
noncomputable def ownL : List (Str × Int) := [("**", 35), ("//", 47), ("<<", 33), (">>", 34), ("==", 27), ("<=", 29), (">=", 30), ("*=", 38), ("/=", 39)]
theorem own_all : ∀ a b : Fin 5, valI ownL (sgS a ++ sgS b) = opNum a b := by decide +kernel
theorem op_small : ∀ a b : Fin 5, 0 ≤ opNum a b ∧ opNum a b < 50 := by decide +kernel
theorem own_val {a b : Nat} (ha : a < 5) (hb : b < 5) : valI ownL (sgS a ++ sgS b) = opNum a b := own_all ⟨a, ha⟩ ⟨b, hb⟩
theorem sq5 : ∀ d : Fin 5, 0 ≤ ((d.val : Nat) : Int) ^ 2 ∧ ((d.val : Nat) : Int) ^ 2 ≤ 16 := by decide
theorem up_lin {a x st : Int} (b : 0 ≤ a ∧ a < 50) (m1 : 0 ≤ x) (m2 : x ≤ st * 16) : 0 ≤ a + x ∧ a + x < 50 + 16 * st := by omega
theorem up_z {st : Int} (h : 0 ≤ st) : 0 < 50 + 16 * st := by omega
theorem up_d {i j : Nat} (hij : i < j) (hj : j < 6) : ∃ d : Nat, (j : Int) - i - 1 = d ∧ d ≤ 4 := ⟨j - i - 1, by omega, by omega⟩
theorem up_r {i : Nat} (h : i < 6) : (0 : Int) ≤ i ∧ (i : Int) < 6 := by omega
theorem up_p {k : Nat} {x : Int} (h : 0 ≤ x ∧ x ≤ 3000 ^ k) (p : (3000 : Int) ^ k ≤ 9000000) : x.natAbs < 2 ^ 64 := by omega
theorem up_st {st : Int} (h : 0 ≤ st ∧ st < 100) : st.natAbs < 2 ^ 64 := by omega
theorem up_ij {i j : Nat} (hi : i < j) (hj : j < 6) : ((j : Int) - i - 1).natAbs < 2 ^ 64 := by omega
theorem up_not {x : Int} (h : decide (0 < x) = false) (b : 0 ≤ x) : x = 0 := by have := of_decide_eq_false h; omega
theorem up_small {c : Int → Nat} {st : Int} (hst : 0 ≤ st) (i j : Nat) (hij : i < j) (hj : j < 6) (hi : c i < 5) (hj' : c j < 5) : 0 ≤ upW c st i j ∧ upW c st i j < 50 + 16 * st := by
  have b := op_small ⟨_, hi⟩ ⟨_, hj'⟩
  unfold upW
  split
  · exact ⟨Int.le_refl _, up_z hst⟩
  have b : 0 ≤ opNum (c i) (c j) ∧ opNum (c i) (c j) < 50 := b
  have e : ∃ d : Nat, (j : Int) - i - 1 = d ∧ d ≤ 4 := up_d hij hj
  obtain ⟨d, e, hd⟩ := e
  rw [e]
  have s := sq5 ⟨d, Nat.lt_succ_of_le hd⟩
  have m1 := Int.mul_nonneg hst s.1
  have m2 := Int.mul_le_mul_of_nonneg_left s.2 hst
  exact up_lin b m1 m2
theorem up_bound {c : Int → Nat} {st : Int} (hst : 0 ≤ st ∧ st < 100) (i j : Nat) (hij : i < j) (hj : j < 6) (hi : c i < 5) (hj' : c j < 5) : 0 ≤ upW c st i j ∧ upW c st i j < 3000 := by
  have := up_small hst.1 i j hij hj hi hj'
  omega
theorem prod_bound {c : Int → Nat} {st : Int} {word : Str} (n : Nat) (hf : ∀ k, k < n → 0 ≤ facW c st word k ∧ facW c st word k < 3000) : 0 ≤ prodW c st word n ∧ prodW c st word n ≤ 3000 ^ n := by
  induction n with
  | zero => show 0 ≤ (1 : Int) ∧ (1 : Int) ≤ 3000 ^ 0; decide
  | succ n ih =>
    have a := ih fun k hk => hf k (by omega)
    have b := hf n (by omega)
    rw [prodW, Int.pow_succ]
    exact ⟨Int.mul_nonneg a.1 b.1, Int.mul_le_mul a.2 (by omega) b.1 (Int.le_trans a.1 a.2)⟩
theorem tot_snoc {c : Int → Nat} {st : Int} (l : List Str) (x : Str) : totW c st (l ++ [x]) = totW c st l + termW c st x := by
  unfold totW
  rw [List.map_append, List.sum_append]
  simp

theorem pow3 {k : Nat} (h : k < 3) : (3000 : Int) ^ k ≤ 9000000 := by
  rcases (show k = 0 ∨ k = 1 ∨ k = 2 by omega) with rfl | rfl | rfl <;> decide
theorem okL_spec {word : Str} {k : Nat} (h : okL word k = true) : ∃ i r j, occW word k = i :: r ∧ lstW word k = some j ∧ lfW word k = i ∧ rtW word k = j ∧ i < j ∧ j < 6 := by
  unfold okL lfW rtW at h
  simp only [Bool.and_eq_true, Bool.not_eq_true', decide_eq_true_eq] at h
  obtain ⟨⟨⟨h1, h2⟩, h3⟩, h4⟩ := h
  cases e : occW word k with
  | nil => rw [e] at h1; cases h1
  | cons i r =>
    obtain ⟨j, e'⟩ := Option.isSome_iff_exists.mp h2
    rw [e, e'] at h3; rw [e'] at h4
    exact ⟨i, r, j, rfl, e', by unfold lfW; rw [e]; rfl, by unfold rtW; rw [e']; rfl, h3, h4⟩
theorem term_pos {c : Int → Nat} {st : Int} {word : Str} (h : 0 < prodW c st word 3) : termW c st word = if oddW word = true then -prodW c st word 3 else prodW c st word 3 := by unfold termW; rw [if_pos h]
theorem term_zero {c : Int → Nat} {st : Int} {word : Str} (h : ¬ 0 < prodW c st word 3) : termW c st word = 0 := by unfold termW; rw [if_neg h]
theorem list_same {ys : Array Value} {vs : List Value} (hl : vs.length = ys.size) (hP : ∀ (j : Nat) v, vs[j]? = some v → ys[j]? = some v) : vs = ys.toList := by
  obtain ⟨l⟩ := ys
  refine List.ext_getElem? fun j => ?_
  cases e : vs[j]? with
  | some v => exact ((List.getElem?_toArray ..).symm.trans (hP j v e)).symm
  | none => rw [List.getElem?_eq_none_iff] at e; have hl : vs.length = l.length := hl; exact (List.getElem?_eq_none (show l.length ≤ j by omega)).symm

section
variable {w : World} {A : Around} {env : Env} {h : Heap} {mg mb : Str → Option Value} {H : Heap} {s : Shared} {E : Value → Shared → Prop} {rest : List Stmt} {tk : Nat} {Q : Flow → Shared → Prop}

theorem ev_list3S {a b c : Expr} {pos : Pos} {x y z : Str} (ha : Ev w A env h a (isS x)) (hb : Ev w A env h b (isS y)) (hc : Ev w A env h c (isS z))
    (h1 : starEach [a, b, c] env = (false, eval a env) :: starEach [b, c] env) (h2 : starEach [b, c] env = (false, eval b env) :: starEach [c] env) (h3 : starEach [c] env = (false, eval c env) :: starEach [] env) :
    Ev w A env h (.List [a, b, c] pos) (isLS [x, y, z]) := fun s Q E l q =>
  wpAny_List ((evs_cons (pos := pos) ha (evs_cons hb (evs_cons hc evs_nil stbS h3) stbS h2) stbS h1) _ _ _ l fun vs h1 tk1 l1 p1 => by
    obtain ⟨_, _, rfl, ⟨t, rfl⟩, _, _, rfl, ⟨u, rfl⟩, _, _, rfl, ⟨v, rfl⟩, rfl⟩ := p1
    exact ⟨by show 3 ≤ sizeLine; decide, q _ _ _ (l1.trans (le_push _ _)) ⟨_, _, rfl, ⟨_, Heap.get?_push_size _ rfl, rfl, _, rfl⟩, .cons _ _ (.cons _ _ (.cons _ _ .nil))⟩⟩)

theorem strs_mem {vs : List Value} {ss : List Str} (I : StrsAre vs ss) (P : Str → Bool) : (vs.filter fun v => ((keyS v).map P).getD false).length = (ss.filter P).length := by
  induction I with
  | nil => rfl
  | cons n t _ ih =>
    rw [List.filter_cons, List.filter_cons]
    show (if P n = true then _ else _ : List Value).length = _
    split
    · rw [List.length_cons, List.length_cons, ih]
    · exact ih
theorem paired_len {F : Value → Value → Prop} {l₁ l₂ : List Value} (h : Paired F l₁ l₂) : l₁.length = l₂.length := by
  induction h with
  | nil => rfl
  | cons _ _ ih => rw [List.length_cons, List.length_cons, ih]

end
end
end Mine

namespace Mine
set_option maxRecDepth 100000
set_option maxHeartbeats 8000000
noncomputable section

inductive JA1 (c : Int → Nat) (st : Int) (v : Value) (t : Tok) (d D : Addr) (i : Nat) (m : Str → Option Value) : Prop
  | mk (tt : Tok) (m1 : m "total" = some (.int (totW c st ((stageW 3).take i)) tt)) (m2 : m "signs" = some v) (m3 : m "step" = some (.int st t)) (m4 : m "own" = some (.ref d)) (m5 : m "patterns" = some (.ref D))
inductive JA2 (c : Int → Nat) (st : Int) (v : Value) (t : Tok) (d D : Addr) (word : Str) (i : Nat) (tt : Tok) (k : Nat) (m : Str → Option Value) : Prop
  | mk (tp : Tok) (m0 : m "product" = some (.int (prodW c st word k) tp)) (m1 : m "total" = some (.int (totW c st ((stageW 3).take i)) tt)) (m2 : m "signs" = some v) (m3 : m "step" = some (.int st t)) (m4 : m "own" = some (.ref d)) (m5 : m "patterns" = some (.ref D))
section
variable {w : World} {A : Around} {env : Env} {h : Heap} {mg mb : Str → Option Value} {H : Heap} {s : Shared} {E : Value → Shared → Prop} {rest : List Stmt} {tk : Nat} {Q : Flow → Shared → Prop}

theorem ownNd : (ownL.map (·.1)).Nodup := by decide +kernel
theorem all_spec (G : Gd w mg mb H) (l₀ : le H h) (hroom : A.depth + 2 < recursionLimit) (hh : A.handled = none) {c : Int → Nat} {st : Int} {v : Value} {t : Tok} (hv : Sgn c v h) (hst : 0 ≤ st ∧ st < 100)
    (hok : ∀ i, i < 3 → (stageW i).length ≤ 15 ∧ ∀ x ∈ stageW i, okW x = true) (hwl : (stageW 3).length ≤ 100) (hwd : ∀ x ∈ stageW 3, x.length = 6 ∧ okL x 0 = true ∧ okL x 1 = true ∧ okL x 2 = true)
    (hpt : ∀ p ∈ patsS, p.length ≤ 100 ∧ (!!List.isEmpty (Builtin.Str.occurrences p "..." 0 p.length 1)) = false ∧ (Txt.split p "...").length = 6 ∧ (Txt.split p "...")[0]? = some ("" : Str) ∧ (Txt.split p "...")[5]? = some ("" : Str) ∧ (∀ x ∈ Txt.split p "...", x.length ≤ 100) ∧ (Builtin.Str.partsBetween p (Builtin.Str.occurrences p "..." 0 p.length (p.length + 1)) ("..." : Str).length).length ≤ 10) :
    Tr w A h (call (.ref 85) [v, .int st t]) (isI (totW c st (stageW 3))) := by
  refine tr_fnC (hco := rfl) (hgen := rfl) (hk := rfl) (binds := [("signs", v), ("step", .int st t)]) G l₀ (dle (j := 0) hroom rfl) rfl rfl rfl rfl (fun s L h₁ tk ls hL N l₁ cells => ?_)
  have cW : h₁.IsCell (L + 1) none := cells "word" (L + 1) rfl
  have nL : s.heap.get? L = none := fresh_none _ (by rw [hL]; exact Nat.le_refl _)
  have nC : s.heap.get? (L + 1) = none := fresh_none _ (by rw [hL]; exact Nat.le_succ _)
  have LC : L + 1 ≠ L := Nat.succ_ne_self L
  have lv : ∀ {g : Heap} {m}, g.Ns L m → ∃ o, g.get? L = some o := fun n => let ⟨o, _, _, e, _⟩ := n; ⟨o, e⟩
  have F : FS L _ (fun g => le s.heap g ∧ g.IsCell (L + 1) none) h₁ := ⟨N, l₁, cW⟩
  have oR : Off L (fun g => le s.heap g ∧ g.IsCell (L + 1) none) := off_and (off_le nL) (off_cell LC)
  generalize hE : Expr.Dict _ _ _ = e at *
  refine x_assign (P := isM w h₁ ownL) F oR (ev_dictE hE G (l₀.trans (ls.trans l₁)) (pairs_cons (pairs_cons (pairs_cons (pairs_cons (pairs_cons (pairs_cons (pairs_cons (pairs_cons (pairs_cons pairs_nil))))))))) ownNd rfl rfl (List.cons_ne_nil _ _) (by decide)) (fun d h2 h3 tk3 l2 p2 N2 o3 F => ?_) (by subst hE; rfl)
  subst hE
  obtain ⟨d, f, rfl, dn, ds, hm, hf⟩ := p2
  have dL : d ≠ L := fun q => by obtain ⟨o, e⟩ := lv N; rw [← q, dn] at e; cases e
  have dC : d ≠ L + 1 := fun q => by obtain ⟨o, e, _⟩ := cW; rw [← q, dn] at e; cases e
  have hm3 : Heap.MapOf (strKind PR w) h3 d f := let ⟨o, es, ep, e, r⟩ := hm; ⟨o, es, ep, o3 d o dL e, r⟩
  have F : FS L _ (fun g => (le s.heap g ∧ g.IsCell (L + 1) none) ∧ Heap.MapOf (strKind PR w) g d f) h3 := ⟨F.ns, F.r, hm3⟩
  have oR : Off L (fun g => (le s.heap g ∧ g.IsCell (L + 1) none) ∧ Heap.MapOf (strKind PR w) g d f) := off_and oR fun _ _ _ k ⟨o, es, ep, e, r⟩ => ⟨o, es, ep, k d o dL e, r⟩
  refine x_assign F oR (ev_list3S (h1 := rfl) (h2 := rfl) (h3 := rfl) ev_str ev_str ev_str) fun D h4 h5 tk5 l4 p4 N4 o5 F => ?_
  obtain ⟨D, ys, rfl, hD, I⟩ := p4
  have DL : D ≠ L := ne_list N4 hD
  have hD5 : h5.IsList D ys := off_list DL _ _ ⟨_, N4⟩ o5 hD
  have F : FS L _ (fun g => ((le s.heap g ∧ g.IsCell (L + 1) none) ∧ Heap.MapOf (strKind PR w) g d f) ∧ g.IsList D ys) h5 := ⟨F.ns, F.r, hD5⟩
  refine x_int F (off_and oR (off_list DL)) ev_int fun t6 h6 tk6 F => ?_
  obtain ⟨N6, ⟨⟨l6, C6⟩, M6⟩, D6⟩ := F
  have g6 := l₀.trans (ls.trans l6)
  refine x_forC (hk := rfl) (hx := rfl) (hcl := rfl) (w := w) (c := L + 1) (P := fun i v => ∃ word tw, (stageW 3)[i]? = some word ∧ v = .str word tw) (S := fun b => ¬ (b = L ∨ b = L + 1)) (n := (stageW 3).length)
    (it_made hh (ev_call0 (ev_glob G g6 rfl) (g6 _ _ (G.X _ _ rfl)) rfl fun h' l' => words_spec (A := A.deeper _) G (g6.trans l') (dle (j := 2) hroom rfl) hh hok) fun v h' l' p => ?_) N6 C6 (fun b => b = L ∨ b = L + 1) ?_ (.inr rfl)
    (JA1 c st v t d D) ⟨t6, rfl, rfl, rfl, rfl, rfl⟩ ?_ ?_
  · obtain ⟨W, its, rfl, hW, IW⟩ := p
    refine ⟨W, its, rfl, hW, by rw [← Array.length_toList, strs_len IW], fun i v e => ?_, fun q => ?_⟩
    · rw [← Array.getElem?_toList] at e
      exact strs_get IW e
    · exact q.elim (ne_list (Ns_le N6 l') hW) (ne_cell hW (Cell_le C6 l'))
  · rintro b (rfl | rfl)
    · exact ⟨fun q => q (.inl rfl), lv N6⟩
    · exact ⟨fun q => q (.inr rfl), let ⟨o, e, _⟩ := C6; ⟨o, e⟩⟩
  · rintro i v' m g tk7 hi ⟨word, tw, ew, rfl⟩ ⟨tt, m1, m2, m3, m4, m5⟩ N7 C7 kb
    have up : le s.heap g := fun b o e => kb b o (fun q => by rcases q with rfl | rfl; (rw [nL] at e; cases e); (rw [nC] at e; cases e)) (l6 b o e)
    have leA : ∀ {x}, off L g x → le s.heap x := fun k b o e => k b o (fun q => by rw [q, nL] at e; cases e) (up b o e)
    have gA : ∀ {x}, off L g x → le H x := fun k => l₀.trans (ls.trans (leA k))
    have sA : ∀ {x}, off L g x → Sgn c v x := fun k => stbG _ _ _ (ls.trans (leA k)) hv
    have cA : ∀ {x}, off L g x → x.IsCell (L + 1) (some (.str word tw)) := fun k => let ⟨o, e, r⟩ := C7; ⟨o, k _ o LC e, r⟩
    have mA : ∀ {x}, off L g x → Heap.MapOf (strKind PR w) x d f := fun k => let ⟨o, es, ep, e, r⟩ := M6; ⟨o, es, ep, k d o dL (kb d o (fun q => q.elim dL dC) e), r⟩
    have lA : ∀ {x}, off L g x → x.IsList D ys := fun k => let ⟨o, e, r⟩ := D6; ⟨o, k D o DL (kb D o (fun q => q.elim DL (ne_cell D6 C6)) e), r⟩
    have c5 : ∀ i : Nat, i < 6 → c i < 5 := let ⟨_, _, _, _, r⟩ := hv; fun i h1 => (r i (up_r h1).1 (up_r h1).2).1
    have oR : Off L (off L g) := fun _ _ _ k r => r.trans k
    obtain ⟨wl, w0, w1, w2⟩ := hwd word (List.mem_of_getElem? ew)
    have okk : ∀ k, k < 3 → okL word k = true := fun k hk => by
      match k, hk with
      | 0, _ => exact w0
      | 1, _ => exact w1
      | 2, _ => exact w2
    have fb : ∀ k, k < 3 → 0 ≤ facW c st word k ∧ facW c st word k < 3000 := fun k hk => by
      obtain ⟨i, r, j, _, _, e1, e2, hij, hj⟩ := okL_spec (okk k hk)
      unfold facW; rw [e1, e2]
      exact up_bound hst i j hij hj (c5 i (Nat.lt_trans hij hj)) (c5 j hj)
    refine x_int (R := off L g) ⟨N7, fun _ _ _ e => e⟩ oR ev_int fun t8 h8 tk8 F8 => ?_
    refine x_for (hx := rfl) (hp := rfl) (w := w) (it_str (x := "abc") hh (by kernel_rfl) ev_str) F8.ns (fun b => b = L) (fun b e => ⟨id, e ▸ lv F8.ns⟩) rfl
      (fun k m' _ => JA2 c st v t d D word i tt k m')
      (fun i m g g' _ x => x) ⟨t8, rfl, m1, m2, m3, m4, m5⟩ ?_ ?_
    · rintro k v'' m' g1 tk9 hk ⟨ch, u, hc, rfl⟩ ⟨tp, q1, q2, q3, q4, q5, q6⟩ N9 kb9
      have hk : k < 3 := hk
      have o1 : off L g g1 := fun b o n e => kb9 b o n (F8.r b o n e)
      have eL : letW k = ⟨#[ch]⟩ := by unfold letW; rw [hc]; rfl
      obtain ⟨i0, r0, j0, ho, hl, e1, e2, hij, hj⟩ := okL_spec (okk k hk)
      unfold occW at ho; unfold lstW at hl
      rw [eL] at ho hl
      have oG : Off L (off L g1) := fun _ _ _ k r => r.trans k
      refine x_int (R := off L g1) ⟨N9, fun _ _ _ e => e⟩ oG (ev_index (hbase := rfl) (hfew := rfl) (hline := rfl) (hs := rfl) (Tr.mono (ev_cell (cA o1) rfl) fun _ _ _ e => ⟨_, e⟩) (ev_locS N9 rfl) ho) fun t10 h10 tk10 F10 => ?_
      refine x_int F10 oG (ev_rindex (hbase := rfl) (hfew := rfl) (hline := rfl) (hs := rfl) (Tr.mono (ev_cell (cA (o1.trans F10.r)) rfl) fun _ _ _ e => ⟨_, e⟩) (ev_locS F10.ns rfl) hl) fun t11 h11 tk11 F11 => ?_
      have o11 := o1.trans F11.r
      have z : facW c st word k = if opNum (c i0) (c j0) = 0 then 0 else opNum (c i0) (c j0) + st * ((j0 : Int) - i0 - 1) ^ (2 : Int).toNat := by
        unfold facW upW; rw [e1, e2]; rfl
      have hi0 := Nat.lt_trans hij hj
      have ob := op_small ⟨_, c5 i0 hi0⟩ ⟨_, c5 j0 hj⟩
      refine x_int F11 oG (i := opNum (c i0) (c j0)) (ev_get (hbase := rfl) (hline := rfl) (htrees := rfl) (x := sgS (c i0) ++ sgS (c j0)) (ev_loc F11.ns q5) (mA o11) ds (ev_cat (ev_sign (ev_locP F11.ns q3 (sA o11) stbG) (ev_locI F11.ns rfl) (up_r hi0)) (ev_sign (ev_locP F11.ns q3 (sA o11) stbG) (ev_locI F11.ns rfl) (up_r hj)) (by rw [sg_len, sg_len]; decide)) ev_int
        (fun t => own_val (c5 i0 hi0) (c5 j0 hj) ▸ hf _ t)) fun t12 h12 tk12 F12 => ?_
      have pb := prod_bound (c := c) (st := st) (word := word) k fun k' hk' => fb k' (Nat.lt_trans hk' hk)
      refine x_imul (hl := rfl) (hk := rfl) (hp := rfl) (j := facW c st word k) F12 oG q1 (ev_if (te_gt (ev_locI F12.ns rfl) ev_int)
        (fun e => Tr.mono (ev_add (ev_locI F12.ns rfl) (ev_mul (ev_locI F12.ns q4) (ev_pow (ev_sub (ev_sub (ev_locI F12.ns rfl) (ev_locI F12.ns rfl)) ev_int) ev_int (by decide) (by decide) (up_ij hij hj)) (up_st hst))) fun _ _ _ p => by rw [z, if_neg (Int.ne_of_gt (of_decide_eq_true e))]; exact p)
        (fun e => Tr.mono ev_int fun _ _ _ p => by rw [z, if_pos (up_not e ob.1)]; exact p))
        (up_p pb (pow3 hk)) fun t13 h13 tk13 F13 => ?_
      exact x_nil ⟨_, h13, tk13, rfl, F13.ns, ⟨t13, rfl, q2, q3, q4, q5, q6⟩, F13.r⟩
    · rintro m' g2 tk10 ⟨tp, q1, q2, q3, q4, q5, q6⟩ N10 kb10
      have o2 : off L g g2 := fun b o n e => kb10 b o n (F8.r b o n e)
      have esn : (stageW 3).take (i + 1) = (stageW 3).take i ++ [word] := by rw [List.take_add_one, ew]; rfl
      have fin : ∀ {x : Heap}, off L g x → ∀ b o, ¬ (b = L ∨ b = L + 1) → g.get? b = some o → x.get? b = some o := fun k b o n e => k b o (fun q => n (.inl q)) e
      refine x_if (R := off L g) ⟨N10, o2⟩ oR (te_gt (ev_locI N10 q1) ev_int) (fun e h11 tk11 F11 => ?_) fun e h11 tk11 F11 => ?_
      · refine x_comp (hsw := rfl) (hkind := rfl) (hx := rfl) (hy := rfl) (hp := rfl) (w := w) (fun v => ((keyS v).map (meetsW word)).getD false) (fun _ _ => True) F11 oR (it_list hh (ev_loc F11.ns q6) (lA F11.r)) (by rw [← Array.length_toList, strs_len I]; decide) rfl (fun C i v h₃ m₃ hP l n hm => ?_) (fun C i v h₃ m₃ hP hp l n hm => ?_) fun D2 h12 tk12 ys2 vs o12 F12 hD2 hlen hPj hF => ?_
        · rw [← Array.getElem?_toList] at hP
          obtain ⟨x, tx, ex, rfl⟩ := strs_get I hP
          have g3 : le H h₃ := (gA F11.r).trans l
          obtain ⟨p1, p2, p3, p4, p5, p6, p7⟩ := hpt x (List.mem_of_getElem? ex)
          refine tests1 (te_isTrue (b := meetsW word x) (ev_call (ev_glob G g3 rfl) (g3 _ _ (G.X _ _ rfl)) rfl (evs_cons (ev_locS n hm) (evs_cons (Tr.mono (ev_cell (Cell_le (cA F11.r) l) rfl) fun _ _ _ e => ⟨_, e⟩) evs_nil stbS) stbS) ?_))
          rintro vs h' l' ⟨_, _, rfl, ⟨_, rfl⟩, _, _, rfl, ⟨_, rfl⟩, rfl⟩
          exact ell_spec (A := A.deeper _) G (g3.trans l') (dle (j := 2) hroom rfl) hh _ rfl p2 (p3 ▸ (by decide)) p4 (by rw [p3]; exact p5) p1 (wl ▸ (by decide)) p6 (p3 ▸ (by decide)) (Nat.le_trans p7 (by decide))
        · exact Tr.mono (ev_loc n hm) fun _ _ _ _ => trivial
        · have evs : vs = ys.toList := list_same hlen hPj
          have en : ys2.size = (patsS.filter (meetsW word)).length := by
            rw [← Array.length_toList, ← paired_len hF, evs]
            exact strs_mem I _
          have sm : ys2.size < 100 := by rw [en]; exact Nat.lt_of_le_of_lt (List.length_filter_le _ _) (by decide)
          refine x_iadd (j := if oddW word = true then -prodW c st word 3 else prodW c st word 3) F12 oR q2 (ev_if (c := oddW word) ((te_eq (ev_mod (ev_len (ev_bi G (gA F12.r) rfl rfl) (ev_loc F12.ns rfl) hD2 (by omega)) ev_int (by decide)) ev_int).eq (by rw [en]; rfl))
            (fun e => Tr.mono (ev_neg (ev_locI F12.ns q1)) fun _ _ _ p => by rw [if_pos e]; exact p) (fun e => Tr.mono (ev_locI F12.ns q1) fun _ _ _ p => by rw [if_neg (by rw [e]; decide)]; exact p)) fun t13 h13 tk13 F13 => ?_
          refine x_nil (x_nil ⟨_, _, h13, tk13, rfl, F13.ns, cA F13.r, ⟨t13, ?_, q3, q4, q5, q6⟩, fin F13.r⟩)
          rw [esn, tot_snoc, term_pos (of_decide_eq_true e)]; rfl
      · refine x_nil (x_nil ⟨_, _, h11, tk11, rfl, F11.ns, cA F11.r, ⟨tt, ?_, q3, q4, q5, q6⟩, fin F11.r⟩)
        rw [esn, tot_snoc, term_zero (of_decide_eq_false e), Int.add_zero]; exact q2
  · rintro m v' g tk7 ⟨tt, m1, _⟩ N7 C7 kb
    rw [List.take_length] at m1
    have up : le s.heap g := fun b o e => kb b o (fun q => by rcases q with rfl | rfl; (rw [nL] at e; cases e); (rw [nC] at e; cases e)) (l6 b o e)
    exact x_ret (R := le s.heap) ⟨N7, up⟩ (off_le nL) (ev_locI N7 m1) fun v h17 tk17 F17 p => ⟨_, h17, tk17, rfl, rfl, F17.r, p⟩
end
end
end Mine

namespace Mine
set_option maxRecDepth 100000
set_option maxHeartbeats 8000000
noncomputable section

theorem words_ok : ∀ i, i < 3 → (stageW i).length ≤ 15 ∧ ∀ x ∈ stageW i, okW x = true := by
  have k : ∀ i : Fin 3, (stageW i).length ≤ 15 ∧ (stageW i).all okW = true := by decide +kernel
  exact fun i hi => ⟨(k ⟨i, hi⟩).1, fun x hx => List.all_eq_true.mp (k ⟨i, hi⟩).2 x hx⟩
noncomputable def goodW (x : Str) : Bool := x.length == 6 && okL x 0 && okL x 1 && okL x 2
theorem words_good : (stageW 3).all goodW = true := by decide +kernel
theorem words_len : (stageW 3).length ≤ 100 := by decide +kernel
theorem words_do : ∀ x ∈ stageW 3, x.length = 6 ∧ okL x 0 = true ∧ okL x 1 = true ∧ okL x 2 = true := fun x hx => by
  have h := List.all_eq_true.mp words_good x hx
  unfold goodW at h
  simp only [Bool.and_eq_true, beq_iff_eq] at h
  exact ⟨h.1.1.1, h.1.1.2, h.1.2, h.2⟩
noncomputable def patOk (p : Str) : Bool := decide (p.length ≤ 100) && !(!!List.isEmpty (Builtin.Str.occurrences p "..." 0 p.length 1)) && decide ((Txt.split p "...").length = 6) && decide ((Txt.split p "...")[0]? = some ("" : Str)) && decide ((Txt.split p "...")[5]? = some ("" : Str)) &&
  (Txt.split p "...").all (fun x => decide (x.length ≤ 100)) && decide ((Builtin.Str.partsBetween p (Builtin.Str.occurrences p "..." 0 p.length (p.length + 1)) ("..." : Str).length).length ≤ 10)
theorem pats_good : patsS.all patOk = true := by decide +kernel
theorem pats_do : ∀ p ∈ patsS, p.length ≤ 100 ∧ (!!List.isEmpty (Builtin.Str.occurrences p "..." 0 p.length 1)) = false ∧ (Txt.split p "...").length = 6 ∧ (Txt.split p "...")[0]? = some ("" : Str) ∧ (Txt.split p "...")[5]? = some ("" : Str) ∧ (∀ x ∈ Txt.split p "...", x.length ≤ 100) ∧
    (Builtin.Str.partsBetween p (Builtin.Str.occurrences p "..." 0 p.length (p.length + 1)) ("..." : Str).length).length ≤ 10 := fun p hp => by
  have h := List.all_eq_true.mp pats_good p hp
  unfold patOk at h
  simp only [Bool.and_eq_true, decide_eq_true_eq, Bool.not_eq_true', List.all_eq_true] at h
  exact ⟨h.1.1.1.1.1.1, h.1.1.1.1.1.2, h.1.1.1.1.2, h.1.1.1.2, h.1.1.2, h.1.2, h.2⟩

noncomputable def dataW (x : Str) : (Int × Int) × (Int × Int) × (Int × Int) × Bool := ((lfW x 0, rtW x 0), (lfW x 1, rtW x 1), (lfW x 2, rtW x 2), oddW x)
theorem words_data : (stageW 3).map dataW = [((0, 1), (2, 3), (4, 5), false), ((0, 1), (2, 4), (3, 5), true), ((0, 1), (2, 5), (3, 4), false), ((0, 2), (1, 3), (4, 5), true), ((0, 2), (1, 4), (3, 5), false), ((0, 2), (1, 5), (3, 4), true), ((0, 3), (1, 2), (4, 5), false), ((0, 3), (1, 4), (2, 5), true), ((0, 3), (1, 5), (2, 4), false), ((0, 4), (1, 2), (3, 5), true), ((0, 4), (1, 3), (2, 5), false), ((0, 4), (1, 5), (2, 3), true), ((0, 5), (1, 2), (3, 4), false), ((0, 5), (1, 3), (2, 4), true), ((0, 5), (1, 4), (2, 3), false)] := by decide +kernel
end
end Mine

namespace Mine
set_option maxRecDepth 100000
set_option maxHeartbeats 8000000
noncomputable section

noncomputable abbrev RE := Lean.Grind.CommRing.Expr
noncomputable abbrev RC := Lean.Grind.CommRing.Context Int
noncomputable def pfW (W : Int → Int → Int) : Int := W 0 1 * W 2 3 * W 4 5 + (-(W 0 1 * W 2 4 * W 3 5) + (W 0 1 * W 2 5 * W 3 4 + (-(W 0 2 * W 1 3 * W 4 5) + (W 0 2 * W 1 4 * W 3 5 + (-(W 0 2 * W 1 5 * W 3 4) + (W 0 3 * W 1 2 * W 4 5 + (-(W 0 3 * W 1 4 * W 2 5) + (W 0 3 * W 1 5 * W 2 4 + (-(W 0 4 * W 1 2 * W 3 5) + (W 0 4 * W 1 3 * W 2 5 + (-(W 0 4 * W 1 5 * W 2 3) + (W 0 5 * W 1 2 * W 3 4 + (-(W 0 5 * W 1 3 * W 2 4) + (W 0 5 * W 1 4 * W 2 3 + (0)))))))))))))))
noncomputable def pfE : RE := (.add (.mul (.mul (.var 0) (.var 9)) (.var 14)) (.add (.neg (.mul (.mul (.var 0) (.var 10)) (.var 13))) (.add (.mul (.mul (.var 0) (.var 11)) (.var 12)) (.add (.neg (.mul (.mul (.var 1) (.var 6)) (.var 14))) (.add (.mul (.mul (.var 1) (.var 7)) (.var 13)) (.add (.neg (.mul (.mul (.var 1) (.var 8)) (.var 12))) (.add (.mul (.mul (.var 2) (.var 5)) (.var 14)) (.add (.neg (.mul (.mul (.var 2) (.var 7)) (.var 11))) (.add (.mul (.mul (.var 2) (.var 8)) (.var 10)) (.add (.neg (.mul (.mul (.var 3) (.var 5)) (.var 13))) (.add (.mul (.mul (.var 3) (.var 6)) (.var 11)) (.add (.neg (.mul (.mul (.var 3) (.var 8)) (.var 9))) (.add (.mul (.mul (.var 4) (.var 5)) (.var 12)) (.add (.neg (.mul (.mul (.var 4) (.var 6)) (.var 10))) (.add (.mul (.mul (.var 4) (.var 7)) (.var 9)) (.num 0))))))))))))))))
noncomputable def pfI (ij ia ib ic id ja jb jc jd ab ac ad bc bd cd : Int) : Int :=
  ij * (ab * cd - ac * bd + ad * bc) - ia * (jb * cd - jc * bd + jd * bc) + ib * (ja * cd - jc * ad + jd * ac) - ic * (ja * bd - jb * ad + jd * ab) + id * (ja * bc - jb * ac + jc * ab)
noncomputable def pfG (ij ia ib ic id ja jb jc jd ab ac ad bc bd cd : RE) : RE := (.add (.sub (.add (.sub (.mul ij (.add (.sub (.mul ab cd) (.mul ac bd)) (.mul ad bc))) (.mul ia (.add (.sub (.mul jb cd) (.mul jc bd)) (.mul jd bc)))) (.mul ib (.add (.sub (.mul ja cd) (.mul jc ad)) (.mul jd ac)))) (.mul ic (.add (.sub (.mul ja bd) (.mul jb ad)) (.mul jd ab)))) (.mul id (.add (.sub (.mul ja bc) (.mul jb ac)) (.mul jc ab))))
noncomputable def coreE (ij ia ib ic id ja jb jc jd ab ac ad bc bd cd : RE) : RE := (.add (.sub (.mul (.add (.sub (.mul ij ab) (.mul ia jb)) (.mul ib ja)) (.add (.sub (.mul ij cd) (.mul ic jd)) (.mul id jc))) (.mul (.add (.sub (.mul ij ac) (.mul ia jc)) (.mul ic ja)) (.add (.sub (.mul ij bd) (.mul ib jd)) (.mul id jb)))) (.mul (.add (.sub (.mul ij ad) (.mul ia jd)) (.mul id ja)) (.add (.sub (.mul ij bc) (.mul ib jc)) (.mul ic jb))))
noncomputable def ctxI (ij ia ib ic id ja jb jc jd ab ac ad bc bd cd : Int) : RC := (.branch 7 (.branch 3 (.branch 1 (.leaf (ij)) (.branch 2 (.leaf (ia)) (.leaf (ib)))) (.branch 5 (.branch 4 (.leaf (ic)) (.leaf (id))) (.branch 6 (.leaf (ja)) (.leaf (jb))))) (.branch 11 (.branch 9 (.branch 8 (.leaf (jc)) (.leaf (jd))) (.branch 10 (.leaf (ab)) (.leaf (ac)))) (.branch 13 (.branch 12 (.leaf (ad)) (.leaf (bc))) (.branch 14 (.leaf (bd)) (.leaf (cd))))))
theorem core (ij ia ib ic id ja jb jc jd ab ac ad bc bd cd : Int) :
    (ij * ab - ia * jb + ib * ja) * (ij * cd - ic * jd + id * jc) - (ij * ac - ia * jc + ic * ja) * (ij * bd - ib * jd + id * jb) + (ij * ad - ia * jd + id * ja) * (ij * bc - ib * jc + ic * jb) = ij * pfI ij ia ib ic id ja jb jc jd ab ac ad bc bd cd :=
  Lean.Grind.CommRing.Expr.eq_of_toPoly_eq (ctxI ij ia ib ic id ja jb jc jd ab ac ad bc bd cd) (coreE (.var 0) (.var 1) (.var 2) (.var 3) (.var 4) (.var 5) (.var 6) (.var 7) (.var 8) (.var 9) (.var 10) (.var 11) (.var 12) (.var 13) (.var 14)) (.mul (.var 0) (pfG (.var 0) (.var 1) (.var 2) (.var 3) (.var 4) (.var 5) (.var 6) (.var 7) (.var 8) (.var 9) (.var 10) (.var 11) (.var 12) (.var 13) (.var 14))) (by decide +kernel)
theorem by_core (W : Int → Int → Int) {i j a b c d : Int} (h : others i j = [a, b, c, d]) : byOne W i j =
    W i j * pfI (W i j) (W i a) (W i b) (W i c) (W i d) (W j a) (W j b) (W j c) (W j d) (W a b) (W a c) (W a d) (W b c) (W b d) (W c d) := by
  unfold byOne led
  rw [h]
  exact core ..
theorem by_coreE (W : Int → Int → Int) {i j a b c d ia ib ic id ja jb jc jd : Int} (h : others i j = [a, b, c, d]) (e1 : W i a = ia) (e2 : W i b = ib) (e3 : W i c = ic) (e4 : W i d = id) (e5 : W j a = ja) (e6 : W j b = jb) (e7 : W j c = jc) (e8 : W j d = jd) {r : Int}
    (k : pfI (W i j) ia ib ic id ja jb jc jd (W a b) (W a c) (W a d) (W b c) (W b d) (W c d) = r) : byOne W i j = W i j * r := by
  subst e1 e2 e3 e4 e5 e6 e7 e8 k; exact by_core W h
noncomputable def ctxW (W : Int → Int → Int) : RC := (.branch 7 (.branch 3 (.branch 1 (.leaf (W 0 1)) (.branch 2 (.leaf (W 0 2)) (.leaf (W 0 3)))) (.branch 5 (.branch 4 (.leaf (W 0 4)) (.leaf (W 0 5))) (.branch 6 (.leaf (W 1 2)) (.leaf (W 1 3))))) (.branch 11 (.branch 9 (.branch 8 (.leaf (W 1 4)) (.leaf (W 1 5))) (.branch 10 (.leaf (W 2 3)) (.leaf (W 2 4)))) (.branch 13 (.branch 12 (.leaf (W 2 5)) (.leaf (W 3 4))) (.branch 14 (.leaf (W 3 5)) (.leaf (W 4 5))))))
theorem pfG_den (ctx : RC) (ij ia ib ic id ja jb jc jd ab ac ad bc bd cd : RE) : (pfG ij ia ib ic id ja jb jc jd ab ac ad bc bd cd).denote ctx = pfI (ij.denote ctx) (ia.denote ctx) (ib.denote ctx) (ic.denote ctx) (id.denote ctx) (ja.denote ctx) (jb.denote ctx) (jc.denote ctx) (jd.denote ctx) (ab.denote ctx) (ac.denote ctx) (ad.denote ctx) (bc.denote ctx) (bd.denote ctx) (cd.denote ctx) := rfl
theorem pfE_den (W : Int → Int → Int) : pfE.denote (ctxW W) = pfW W := rfl
theorem even_ {W : Int → Int → Int} {e : RE} (h : (e.toPoly == pfE.toPoly) = true) : e.denote (ctxW W) = pfW W * 1 := by
  rw [Lean.Grind.CommRing.Expr.eq_of_toPoly_eq (ctxW W) _ _ h, pfE_den, Int.mul_one]
theorem odd_ {W : Int → Int → Int} {e : RE} (h : (e.toPoly == (Lean.Grind.CommRing.Expr.neg pfE).toPoly) = true) : e.denote (ctxW W) = pfW W * -1 := by
  rw [Lean.Grind.CommRing.Expr.eq_of_toPoly_eq (ctxW W) _ _ h, Int.mul_neg_one, ← pfE_den]; rfl
theorem six {P : Int → Prop} (h0 : P 0) (h1 : P 1) (h2 : P 2) (h3 : P 3) (h4 : P 4) (h5 : P 5) {i : Int} (hi : 0 ≤ i) (h : i < 6) : P i := by
  obtain ⟨n, rfl⟩ := Int.eq_ofNat_of_zero_le hi
  have hn : n < 6 := Int.ofNat_lt.mp h
  match n, hn with
  | 0, _ => exact h0
  | 1, _ => exact h1
  | 2, _ => exact h2
  | 3, _ => exact h3
  | 4, _ => exact h4
  | 5, _ => exact h5
theorem tanner (W : Int → Int → Int) (anti : ∀ i j, j < i → W i j = - W j i) {i j : Int} (hi : 0 ≤ i) (hij : i < j) (hj : j < 6) : byOne W i j = W i j * (pfW W * (-1) ^ (j - i - 1).toNat) := by
  have a10 : W 1 0 = - W 0 1 := anti _ _ (by decide)
  have a20 : W 2 0 = - W 0 2 := anti _ _ (by decide)
  have a30 : W 3 0 = - W 0 3 := anti _ _ (by decide)
  have a40 : W 4 0 = - W 0 4 := anti _ _ (by decide)
  have a50 : W 5 0 = - W 0 5 := anti _ _ (by decide)
  have a21 : W 2 1 = - W 1 2 := anti _ _ (by decide)
  have a31 : W 3 1 = - W 1 3 := anti _ _ (by decide)
  have a41 : W 4 1 = - W 1 4 := anti _ _ (by decide)
  have a51 : W 5 1 = - W 1 5 := anti _ _ (by decide)
  have a32 : W 3 2 = - W 2 3 := anti _ _ (by decide)
  have a42 : W 4 2 = - W 2 4 := anti _ _ (by decide)
  have a52 : W 5 2 = - W 2 5 := anti _ _ (by decide)
  have a43 : W 4 3 = - W 3 4 := anti _ _ (by decide)
  have a53 : W 5 3 = - W 3 5 := anti _ _ (by decide)
  have a54 : W 5 4 = - W 4 5 := anti _ _ (by decide)
  clear anti
  have no : ∀ {p q : Int} {C : Prop}, q ≤ p → p < q → C := fun a b => absurd b (Int.not_lt.mpr a)
  refine six (P := fun i => ∀ j : Int, 0 ≤ j → j < 6 → i < j → byOne W i j = W i j * (pfW W * (-1) ^ (j - i - 1).toNat)) (fun j h0 h6 => ?_) (fun j h0 h6 => ?_) (fun j h0 h6 => ?_) (fun j h0 h6 => ?_) (fun j h0 h6 => ?_) (fun j h0 h6 => ?_) hi (by omega) j (by omega) hj hij
  · refine six (P := fun j => (0 : Int) < j → byOne W 0 j = W 0 j * (pfW W * (-1) ^ (j - 0 - 1).toNat)) (no (by decide)) (fun _ => ?_) (fun _ => ?_) (fun _ => ?_) (fun _ => ?_) (fun _ => ?_) h0 h6
    · exact by_coreE W (show others 0 1 = [2, 3, 4, 5] by decide) rfl rfl rfl rfl rfl rfl rfl rfl ((pfG_den (ctxW W) (.var 0) (.var 1) (.var 2) (.var 3) (.var 4) (.var 5) (.var 6) (.var 7) (.var 8) (.var 9) (.var 10) (.var 11) (.var 12) (.var 13) (.var 14)).symm.trans (even_ (by decide +kernel)))
    · exact by_coreE W (show others 0 2 = [1, 3, 4, 5] by decide) rfl rfl rfl rfl a21 rfl rfl rfl ((pfG_den (ctxW W) (.var 1) (.var 0) (.var 2) (.var 3) (.var 4) (.neg (.var 5)) (.var 9) (.var 10) (.var 11) (.var 6) (.var 7) (.var 8) (.var 12) (.var 13) (.var 14)).symm.trans (odd_ (by decide +kernel)))
    · exact by_coreE W (show others 0 3 = [1, 2, 4, 5] by decide) rfl rfl rfl rfl a31 a32 rfl rfl ((pfG_den (ctxW W) (.var 2) (.var 0) (.var 1) (.var 3) (.var 4) (.neg (.var 6)) (.neg (.var 9)) (.var 12) (.var 13) (.var 5) (.var 7) (.var 8) (.var 10) (.var 11) (.var 14)).symm.trans (even_ (by decide +kernel)))
    · exact by_coreE W (show others 0 4 = [1, 2, 3, 5] by decide) rfl rfl rfl rfl a41 a42 a43 rfl ((pfG_den (ctxW W) (.var 3) (.var 0) (.var 1) (.var 2) (.var 4) (.neg (.var 7)) (.neg (.var 10)) (.neg (.var 12)) (.var 14) (.var 5) (.var 6) (.var 8) (.var 9) (.var 11) (.var 13)).symm.trans (odd_ (by decide +kernel)))
    · exact by_coreE W (show others 0 5 = [1, 2, 3, 4] by decide) rfl rfl rfl rfl a51 a52 a53 a54 ((pfG_den (ctxW W) (.var 4) (.var 0) (.var 1) (.var 2) (.var 3) (.neg (.var 8)) (.neg (.var 11)) (.neg (.var 13)) (.neg (.var 14)) (.var 5) (.var 6) (.var 7) (.var 9) (.var 10) (.var 12)).symm.trans (even_ (by decide +kernel)))
  · refine six (P := fun j => (1 : Int) < j → byOne W 1 j = W 1 j * (pfW W * (-1) ^ (j - 1 - 1).toNat)) (no (by decide)) (no (by decide)) (fun _ => ?_) (fun _ => ?_) (fun _ => ?_) (fun _ => ?_) h0 h6
    · exact by_coreE W (show others 1 2 = [0, 3, 4, 5] by decide) a10 rfl rfl rfl a20 rfl rfl rfl ((pfG_den (ctxW W) (.var 5) (.neg (.var 0)) (.var 6) (.var 7) (.var 8) (.neg (.var 1)) (.var 9) (.var 10) (.var 11) (.var 2) (.var 3) (.var 4) (.var 12) (.var 13) (.var 14)).symm.trans (even_ (by decide +kernel)))
    · exact by_coreE W (show others 1 3 = [0, 2, 4, 5] by decide) a10 rfl rfl rfl a30 a32 rfl rfl ((pfG_den (ctxW W) (.var 6) (.neg (.var 0)) (.var 5) (.var 7) (.var 8) (.neg (.var 2)) (.neg (.var 9)) (.var 12) (.var 13) (.var 1) (.var 3) (.var 4) (.var 10) (.var 11) (.var 14)).symm.trans (odd_ (by decide +kernel)))
    · exact by_coreE W (show others 1 4 = [0, 2, 3, 5] by decide) a10 rfl rfl rfl a40 a42 a43 rfl ((pfG_den (ctxW W) (.var 7) (.neg (.var 0)) (.var 5) (.var 6) (.var 8) (.neg (.var 3)) (.neg (.var 10)) (.neg (.var 12)) (.var 14) (.var 1) (.var 2) (.var 4) (.var 9) (.var 11) (.var 13)).symm.trans (even_ (by decide +kernel)))
    · exact by_coreE W (show others 1 5 = [0, 2, 3, 4] by decide) a10 rfl rfl rfl a50 a52 a53 a54 ((pfG_den (ctxW W) (.var 8) (.neg (.var 0)) (.var 5) (.var 6) (.var 7) (.neg (.var 4)) (.neg (.var 11)) (.neg (.var 13)) (.neg (.var 14)) (.var 1) (.var 2) (.var 3) (.var 9) (.var 10) (.var 12)).symm.trans (odd_ (by decide +kernel)))
  · refine six (P := fun j => (2 : Int) < j → byOne W 2 j = W 2 j * (pfW W * (-1) ^ (j - 2 - 1).toNat)) (no (by decide)) (no (by decide)) (no (by decide)) (fun _ => ?_) (fun _ => ?_) (fun _ => ?_) h0 h6
    · exact by_coreE W (show others 2 3 = [0, 1, 4, 5] by decide) a20 a21 rfl rfl a30 a31 rfl rfl ((pfG_den (ctxW W) (.var 9) (.neg (.var 1)) (.neg (.var 5)) (.var 10) (.var 11) (.neg (.var 2)) (.neg (.var 6)) (.var 12) (.var 13) (.var 0) (.var 3) (.var 4) (.var 7) (.var 8) (.var 14)).symm.trans (even_ (by decide +kernel)))
    · exact by_coreE W (show others 2 4 = [0, 1, 3, 5] by decide) a20 a21 rfl rfl a40 a41 a43 rfl ((pfG_den (ctxW W) (.var 10) (.neg (.var 1)) (.neg (.var 5)) (.var 9) (.var 11) (.neg (.var 3)) (.neg (.var 7)) (.neg (.var 12)) (.var 14) (.var 0) (.var 2) (.var 4) (.var 6) (.var 8) (.var 13)).symm.trans (odd_ (by decide +kernel)))
    · exact by_coreE W (show others 2 5 = [0, 1, 3, 4] by decide) a20 a21 rfl rfl a50 a51 a53 a54 ((pfG_den (ctxW W) (.var 11) (.neg (.var 1)) (.neg (.var 5)) (.var 9) (.var 10) (.neg (.var 4)) (.neg (.var 8)) (.neg (.var 13)) (.neg (.var 14)) (.var 0) (.var 2) (.var 3) (.var 6) (.var 7) (.var 12)).symm.trans (even_ (by decide +kernel)))
  · refine six (P := fun j => (3 : Int) < j → byOne W 3 j = W 3 j * (pfW W * (-1) ^ (j - 3 - 1).toNat)) (no (by decide)) (no (by decide)) (no (by decide)) (no (by decide)) (fun _ => ?_) (fun _ => ?_) h0 h6
    · exact by_coreE W (show others 3 4 = [0, 1, 2, 5] by decide) a30 a31 a32 rfl a40 a41 a42 rfl ((pfG_den (ctxW W) (.var 12) (.neg (.var 2)) (.neg (.var 6)) (.neg (.var 9)) (.var 13) (.neg (.var 3)) (.neg (.var 7)) (.neg (.var 10)) (.var 14) (.var 0) (.var 1) (.var 4) (.var 5) (.var 8) (.var 11)).symm.trans (even_ (by decide +kernel)))
    · exact by_coreE W (show others 3 5 = [0, 1, 2, 4] by decide) a30 a31 a32 rfl a50 a51 a52 a54 ((pfG_den (ctxW W) (.var 13) (.neg (.var 2)) (.neg (.var 6)) (.neg (.var 9)) (.var 12) (.neg (.var 4)) (.neg (.var 8)) (.neg (.var 11)) (.neg (.var 14)) (.var 0) (.var 1) (.var 3) (.var 5) (.var 7) (.var 10)).symm.trans (odd_ (by decide +kernel)))
  · refine six (P := fun j => (4 : Int) < j → byOne W 4 j = W 4 j * (pfW W * (-1) ^ (j - 4 - 1).toNat)) (no (by decide)) (no (by decide)) (no (by decide)) (no (by decide)) (no (by decide)) (fun _ => ?_) h0 h6
    · exact by_coreE W (show others 4 5 = [0, 1, 2, 3] by decide) a40 a41 a42 a43 a50 a51 a52 a53 ((pfG_den (ctxW W) (.var 14) (.neg (.var 3)) (.neg (.var 7)) (.neg (.var 10)) (.neg (.var 12)) (.neg (.var 4)) (.neg (.var 8)) (.neg (.var 11)) (.neg (.var 13)) (.var 0) (.var 1) (.var 2) (.var 5) (.var 6) (.var 9)).symm.trans (even_ (by decide +kernel)))
  · refine six (P := fun j => (5 : Int) < j → byOne W 5 j = W 5 j * (pfW W * (-1) ^ (j - 5 - 1).toNat)) (no (by decide)) (no (by decide)) (no (by decide)) (no (by decide)) (no (by decide)) (no (by decide)) h0 h6
end
end Mine

namespace Mine
set_option maxRecDepth 100000
set_option maxHeartbeats 8000000
noncomputable section

theorem wt_anti {c : Int → Nat} {st : Int} (i j : Int) (h : j < i) : Wt c st i j = - Wt c st j i := by
  unfold Wt; rw [if_pos h, if_neg (by omega), if_neg (by omega)]
theorem wt_up {c : Int → Nat} {st : Int} {i j : Int} (h : i < j) : Wt c st i j = upW c st i j := by
  unfold Wt; rw [if_neg (by omega), if_neg (by omega)]
noncomputable def sgD (W : Int → Int → Int) (d : (Int × Int) × (Int × Int) × (Int × Int) × Bool) : Int :=
  if d.2.2.2 = true then -(1 * W d.1.1 d.1.2 * W d.2.1.1 d.2.1.2 * W d.2.2.1.1 d.2.2.1.2) else 1 * W d.1.1 d.1.2 * W d.2.1.1 d.2.1.2 * W d.2.2.1.1 d.2.2.1.2
theorem term_is {c : Int → Nat} {st : Int} (hst : 0 ≤ st ∧ st < 100) (hc : ∀ i : Nat, i < 6 → c i < 5) {x : Str} (hx : x ∈ stageW 3) : termW c st x = sgD (Wt c st) (dataW x) := by
  obtain ⟨_, h0, h1, h2⟩ := words_do x hx
  have f : ∀ k, okL x k = true → facW c st x k = Wt c st (lfW x k) (rtW x k) ∧ 0 ≤ facW c st x k := fun k hk => by
    obtain ⟨i, r, j, _, _, e1, e2, hij, hj⟩ := okL_spec hk
    unfold facW; rw [e1, e2]
    exact ⟨(wt_up (by omega)).symm, (up_bound hst i j hij hj (hc i (by omega)) (hc j hj)).1⟩
  have p : prodW c st x 3 = 1 * Wt c st (lfW x 0) (rtW x 0) * Wt c st (lfW x 1) (rtW x 1) * Wt c st (lfW x 2) (rtW x 2) := by
    show 1 * facW c st x 0 * facW c st x 1 * facW c st x 2 = _
    rw [(f 0 h0).1, (f 1 h1).1, (f 2 h2).1]
  have nn : 0 ≤ prodW c st x 3 := Int.mul_nonneg (Int.mul_nonneg (Int.mul_nonneg Int.one_nonneg (f 0 h0).2) (f 1 h1).2) (f 2 h2).2
  unfold sgD dataW
  rw [← p]
  by_cases h : 0 < prodW c st x 3
  · exact term_pos h
  · rw [term_zero h, show prodW c st x 3 = 0 by omega]
    split <;> rfl
theorem tot_pf {c : Int → Nat} {st : Int} (hst : 0 ≤ st ∧ st < 100) (hc : ∀ i : Nat, i < 6 → c i < 5) : totW c st (stageW 3) = pfW (Wt c st) := by
  have e : (stageW 3).map (termW c st) = ((stageW 3).map dataW).map (sgD (Wt c st)) := by
    rw [List.map_map]
    exact List.map_congr_left fun x hx => term_is hst hc hx
  unfold totW
  rw [e, words_data]
  generalize Wt c st = W
  simp only [List.map_cons, List.map_nil, List.sum_cons, List.sum_nil, sgD, Int.one_mul, if_true, Bool.false_eq_true, if_false]
  rfl
end
end Mine

namespace Mine
set_option maxRecDepth 100000
set_option maxHeartbeats 8000000
noncomputable section

section
variable {w : World} {A : Around} {env : Env} {h : Heap} {mg mb : Str → Option Value} {H : Heap} {s : Shared} {E : Value → Shared → Prop} {rest : List Stmt} {tk : Nat} {Q : Flow → Shared → Prop}

noncomputable abbrev dictO : Obj := { cls := .type "dict", data := .dict #[] }
noncomputable abbrev cellO : Obj := { cls := .type "cell", data := .cell none }
noncomputable abbrev envCell (scope : Scope) (cl : List (Str × Addr)) (x : Str) (C : Addr) (env : Env) : Env := compEnvC scope ((x, C + 1) :: cl) C env

theorem new_envC {scope : Scope} {cl : List (Str × Addr)} {x : Str} {Q : Env → Shared → Prop} (hp : ∀ h, pushCells h scope.names = h.push cellO) (hc : ∀ n, cellsFrom n scope.names cl = (x, n) :: cl)
    (hQ : Q { scope := scope, locals := s.heap.objs.size, globals := env.globals, cells := (x, s.heap.objs.size + 1) :: cl, qual := env.qual, func := none, code := env.code, frame := env.frame, builtins := env.builtins } { s with heap := (s.heap.push dictO).push cellO }) :
    wpAny (model PR w) A (newFunctionEnv scope env.globals cl [] env.qual none .none (some env)) Q E s := by
  simp only [newFunctionEnv, Option.isSome_some, if_true]
  refine wpAny_bind (wpAny_alloc ?_)
  refine wpAny_bind (wpAny_layCells _ (fun name kind cells => by cases hkc : kind == NameKind.cell <;> simp [hkc]) _ _ _ _ ?_)
  rw [hp, hc, show ({ s with heap := s.heap.push dictO } : Shared).heap.objs.size = s.heap.objs.size + 1 from Heap.size_push ..]
  rw [List.forIn_nil]
  exact wpAny_bind (wpAny_pure (wpAny_pure hQ))

noncomputable def RowsAt (G : Nat → Array Value → Prop) (D : Addr) (wr : List Addr) (i : Nat) (ys : Array Value) (g : Heap) : Prop :=
  ys.size = i ∧ ∀ j, j < i → ∃ T its, ys[j]? = some (.ref T) ∧ g.IsList T its ∧ T ≠ D ∧ T ∉ wr ∧ G j its

inductive InvR (L c D : Addr) (n : Nat) (Wt : Nat → Heap → Prop) (wr : List Addr) (m : Str → Option Value) (G : Nat → Array Value → Prop) (s : Shared) (k : Nat) (s' : Shared) : Prop
  | mk (i : Nat) (g : Heap) (tk : Nat) (ys : Array Value) (v' : Option Value) (e : s' = PySem.Shared.mk g s.gens s.drawn tk s.os) (w : Wt i g) (p : g.PlainList D ys) (N : g.Ns L m) (C : g.IsCell c v') (le : i ≤ n) (ek : k = n + 1 - i) (r : RowsAt G D wr i ys g)
    (kp : ∀ b o, b ≠ c → b ∉ wr → b ≠ D → s.heap.get? b = some o → g.get? b = some o)
theorem loop_comp {elt iter : Expr} {x : Str} {px pos : Pos} {scope : Scope} {n : Nat} {P : Nat → Value → Prop} {I D c : Addr} {fp wr : List Addr} {St : Nat → Heap → Prop} {cenv : Env} {m : Str → Option Value} {Rr : Result → Shared → Prop}
    (W : Walks PR w A I fp wr n P St) (hlive : ∀ i g, St i g → ∀ b ∈ wr, ∃ o, g.get? b = some o) (hsz : n ≤ sizeLine) (G : Nat → Array Value → Prop)
    (hk : cenv.scope.kind = .function) (hx : cenv.kindOf x = some .cell) (hcl : cenv.cells.lookup x = some c)
    (hDf : D ∉ fp) (hcf : c ∉ fp) (hLf : cenv.locals ∉ fp) (hst : St 0 s.heap) (hacc : s.heap.PlainList D #[]) (hC : s.heap.IsCell c none) (hN : s.heap.Ns cenv.locals m)
    (he : ∀ i v g, i < n → P i v → g.IsCell c (some v) → (∀ b o, b ≠ c → b ∉ wr → b ≠ D → s.heap.get? b = some o → g.get? b = some o) →
      Tr w A g (eval elt cenv) (fun y g' => ∃ T its, y = .ref T ∧ g.get? T = none ∧ g'.IsList T its ∧ G i its))
    (hR : ∀ g tk ys, g.Ns cenv.locals m → RowsAt G D wr n ys g → g.IsList D ys → (∀ b o, b ≠ c → b ∉ wr → b ≠ D → s.heap.get? b = some o → g.get? b = some o) → Rr (.ok .next) (PySem.Shared.mk g s.gens s.drawn tk s.os)) :
    codeAny (model PR w) A (.compLoop (.ListComp elt [⟨.Name x px, iter, [], 0⟩] scope pos) 0 (.ref I) (.ref D) cenv) Rr s := by
  have Dw : D ∉ wr := fun q => hDf (W.sub _ q)
  have cw : c ∉ wr := fun q => hcf (W.sub _ q)
  have Dc : D ≠ c := ne_cell hacc.isList hC
  have Lc : cenv.locals ≠ c := fun q => by obtain ⟨o, _, _, e, d, _⟩ := hN; obtain ⟨o', e', d'⟩ := hC; rw [q, e'] at e; cases e; rw [d] at d'; cases d'
  have LD : D ≠ cenv.locals := ne_list hN hacc.isList
  have Lw : cenv.locals ∉ wr := fun q => hLf (W.sub _ q)
  refine codeAny_compLoop_tests (InvR cenv.locals c D n St wr m G s) ?_ (n + 1)
    ⟨0, s.heap, s.toks, #[], none, rfl, hst, hacc, hN, hC, Nat.zero_le _, rfl, ⟨rfl, fun j hj => absurd hj (Nat.not_lt_zero _)⟩, fun _ _ _ _ _ e => e⟩
  rintro k s' ⟨i, g, tk, ys, v', rfl, hst', hacc', hN', hC', hi, rfl, ⟨ysz, hrow⟩, kp⟩
  by_cases hlt : i < n
  · refine W.item i _ _ _ hlt hst' fun v g1 tk1 hP st1 k1 => ?_
    have C1 : g1.IsCell c v' := let ⟨o, e, d⟩ := hC'; ⟨o, k1 c o cw e, d⟩
    refine wpAny_assign_Name (wpAny_storeName_cell hk hx hcl C1 fun g2 c2 s2 => ?_)
    have st2 : St (i + 1) g2 := W.frame _ _ _ st1 fun b hb o e => (s2.2 b fun q => hcf (q ▸ hb)).trans e
    have up2 : ∀ b o, b ≠ c → b ∉ wr → g.get? b = some o → g2.get? b = some o := fun b o nc nw e => (s2.2 b nc).trans (k1 b o nw e)
    refine wpAny_tests_nil ?_
    rw [if_pos rfl]
    refine he i v g2 hlt hP c2 (fun b o nc nw nD e => up2 b o nc nw (kp b o nc nw nD e)) _ _ _ le.rfl fun y g3 tk3 l3 ⟨T, its, e, hT, hl, hG⟩ => ?_
    subst e
    have l3 : le g2 g3 := l3
    have hacc2 : g2.PlainList D ys := hacc'.at fun o e => up2 D o Dc Dw e
    have TD : T ≠ D := fun q => by obtain ⟨k, e⟩ := hacc2; rw [← q, hT] at e; cases e
    have Tw : T ∉ wr := fun hm => by obtain ⟨o, e⟩ := hlive _ _ st2 T hm; rw [hT] at e; cases e
    refine wpAny_list_append_plain (hsz := by omega) (hacc2.at fun o e => l3 D o e) fun g4 hl4 s4 => ?_
    refine ⟨n + 1 - (i + 1), inv_dec hlt, i + 1, g4, tk3, _, some v, rfl, W.frame _ _ _ st2 fun b hb o e => (s4.2 b fun q => hDf (q ▸ hb)).trans (l3 b o e), hl4,
      ((hN'.at' fun o e => up2 _ o Lc Lw e).at' fun o e => l3 _ o e).at' fun o e => (s4.2 _ (Ne.symm LD)).trans e, let ⟨o, e, d⟩ := c2; ⟨o, (s4.2 c (Ne.symm Dc)).trans (l3 c o e), d⟩, hlt, rfl, ⟨by rw [Array.size_push, ysz], fun j hj => ?_⟩,
      fun b o nc nw nD e => (s4.2 b nD).trans (l3 b o (up2 b o nc nw (kp b o nc nw nD e)))⟩
    rw [Array.getElem?_push, ysz]
    by_cases hji : j = i
    · rw [if_pos hji]
      exact ⟨T, its, rfl, let ⟨o, e, r⟩ := hl; ⟨o, (s4.2 T TD).trans e, r⟩, TD, Tw, hji ▸ hG⟩
    · rw [if_neg hji]
      obtain ⟨T', its', e1, hl', nD, nw, g'⟩ := hrow j (by omega)
      exact ⟨T', its', e1, let ⟨o, e, r⟩ := hl'; ⟨o, (s4.2 T' nD).trans (l3 T' o (up2 T' o (ne_cell hl' hC') nw e)), r⟩, nD, nw, g'⟩
  · have e : i = n := Nat.le_antisymm hi (Nat.le_of_not_lt hlt)
    subst e
    refine W.done _ _ _ hst' fun g1 tk1 k1 => ?_
    refine hR g1 tk1 ys (hN'.at' fun o e => k1 _ o Lw e) ⟨ysz, fun j hj => ?_⟩ (hacc'.at fun o e => k1 _ o Dw e).isList fun b o nc nw nD e => k1 b o nw (kp b o nc nw nD e)
    obtain ⟨T', its', e1, hl', nD, nw, g'⟩ := hrow j hj
    exact ⟨T', its', e1, let ⟨o, e, r⟩ := hl'; ⟨o, k1 T' o nw e, r⟩, nD, nw, g'⟩

theorem x_compC {m : Str → Option Value} {R : Heap → Prop} {elt iter : Expr} {x y : Str} {px py : Pos} {scope : Scope} {cl : List (Str × Addr)} {pos spos : Pos} {n : Nat} {P : Nat → Value → Prop} {S : Addr → Prop}
    (G : Nat → Array Value → Prop) (f : FS env.locals m R h) (o : Off env.locals R) (it : It w A env h iter n P S) (hsz : n ≤ sizeLine) (hclos : closureFor scope env = pure cl)
    (he : ∀ C i v g, i < n → P i v → le h g → g.IsCell (C + 1) (some v) → Tr w A g (eval elt (envCell scope cl x C env)) (fun y g' => ∃ T its, y = .ref T ∧ g.get? T = none ∧ g'.IsList T its ∧ G i its))
    (k : ∀ D h2 tk' ys, FS env.locals (fun z => if z = y then some (.ref D) else m z) R h2 → h2.IsList D ys → off env.locals h h2 → (ys.size = n ∧ ∀ j, j < n → ∃ T its, ys[j]? = some (.ref T) ∧ h2.IsList T its ∧ G j its) →
      wpAny (model PR w) A (execs rest env) Q E (St s h2 tk'))
    (hsw : swapsWith (.ListComp elt [⟨.Name x px, iter, [], 0⟩] scope pos) (some (.Name y py)) spos.line env = pure true)
    (hpu : ∀ h, pushCells h scope.names = h.push cellO := by intro _; rfl) (hce : ∀ n, cellsFrom n scope.names cl = (x, n) :: cl := by intro _; rfl)
    (hkind : scope.kind = .function) (hnames : ∀ y ∈ scope.names, y.2 = .local → scope.names.lookup y.1 = some .local := by decide) (hx : ∀ C, (envCell scope cl x C env).kindOf x = some .cell := by intro _; rfl)
    (hy : env.kindOf y = some .local) (hp : (env.scope.kind == .class || (env.scope.kind == .module && env.locals != env.globals)) = false)
    (hs : ∀ x, foldedSetIterable iter env x = pure x := by intro _; rfl) :
    wpAny (model PR w) A (execs (.Assign [.Name y py] (.ListComp elt [⟨.Name x px, iter, [], 0⟩] scope pos) spos :: rest) env) Q E (St s h tk) := by
  refine wpAny_execs_cons ?_
  rw [exec_Assign_Name_used _ _ _ _ hsw]
  refine wpAny_bind (wpAny_standAt (wpAny_bind ?_))
  show wpAny _ A (do let _ ← comprehension (.ListComp elt [⟨.Name x px, iter, [], 0⟩] scope pos) scope env _ (newList []) false (eval iter env) (some (assign (.Name y py) env))) _ _ _
  refine wpAny_bind (wpAny_mono (wpAny_comprehension_free (use := some (assign (.Name y py) env)) (Q := fun _ s' => wpAny (model PR w) A (execs rest env) Q E s') rfl hs hclos hkind hnames (it _ _ _ le.rfl fun I fp wr Wt h' tk' l' W st hfp hwr hS hex => ?_)) (fun _ s' hq => wpAny_pure (wpAny_pure hq)) fun _ _ e => e)
  have l' : le h h' := l'
  have hwr : ∀ b ∈ wr, h.get? b = none := hwr
  refine wpAny_newObj_type (new_envC hpu hce ?_)
  dsimp only
  have sz1 : (h'.push { cls := .type "list", dict := none, data := .seq ([] : List Value).toArray }).objs.size = h'.objs.size + 1 := Heap.size_push ..
  rw [sz1]
  have sz2 : ((h'.push { cls := .type "list", dict := none, data := .seq ([] : List Value).toArray }).push dictO).objs.size = h'.objs.size + 1 + 1 := (Heap.size_push ..).trans (by rw [sz1])
  have up0 : le h' (((h'.push { cls := .type "list", dict := none, data := .seq ([] : List Value).toArray }).push dictO).push cellO) := (le_push _ _).trans ((le_push _ _).trans (le_push _ _))
  have hD : Heap.PlainList (((h'.push { cls := .type "list", dict := none, data := .seq ([] : List Value).toArray }).push dictO).push cellO) h'.objs.size #[] := ⟨_, (le_push _ _) _ _ ((le_push _ _) _ _ (Heap.get?_push_size h' rfl))⟩
  have hN := (Heap.Ns.new (h'.push { cls := .type "list", dict := none, data := .seq ([] : List Value).toArray }) (.type "dict")).keeps (le_push _ cellO)
  have hC : Heap.IsCell (((h'.push { cls := .type "list", dict := none, data := .seq ([] : List Value).toArray }).push dictO).push cellO) (h'.objs.size + 1 + 1) none := ⟨_, (sz2 ▸ Heap.get?_push_size _ rfl), rfl⟩
  rw [sz1] at hN
  generalize (((h'.push { cls := .type "list", dict := none, data := .seq ([] : List Value).toArray }).push dictO).push cellO) = g0 at up0 hD hN hC ⊢
  have L0 : ∃ o, h.get? env.locals = some o := let ⟨o, _, _, e, _⟩ := f.ns; ⟨o, e⟩
  have fr : ∀ a, h'.objs.size ≤ a → h.get? a = none := fun a ha => notIn l' (fresh_none _ ha)
  have Lne : ∀ a, h'.objs.size ≤ a → env.locals ≠ a := fun a ha q => by obtain ⟨o, e⟩ := L0; rw [q, fr a ha] at e; cases e
  have nfp : ∀ a, h'.objs.size ≤ a → a ∉ fp := fun a ha q => absurd (hfp a q) (Nat.not_lt.mpr ha)
  have old : ∀ {g : Heap}, (∀ b o, b ≠ h'.objs.size + 1 + 1 → b ∉ wr → b ≠ h'.objs.size → g0.get? b = some o → g.get? b = some o) → le h g := fun kk b o e => kk b o (fun q => by rw [q, fr _ (by omega)] at e; cases e) (fun q => by rw [hwr b q] at e; cases e) (fun q => by rw [q, fr _ (Nat.le_refl _)] at e; cases e) (up0 b o (l' b o e))
  have loop : ∀ s₃ : Shared, s₃ = St s g0 tk' → codeAny (model PR w) A (.compLoop (.ListComp elt [⟨.Name x px, iter, [], 0⟩] scope pos) 0 (.ref I) (.ref h'.objs.size) (envCell scope cl x (h'.objs.size + 1) env))
      (compPost (model PR w) A E (some (assign (.Name y py) env)) (fun _ s' => wpAny (model PR w) A (execs rest env) Q E s') (.ref h'.objs.size) (h'.objs.size + 1)) s₃ := by
    rintro s₃ rfl
    refine loop_comp W (fun i g x b hb => let ⟨o, e, _⟩ := hex i g x b hb; ⟨o, e⟩) hsz G hkind (hx _) (by simp [compEnvC]) (nfp _ (Nat.le_refl _)) (nfp _ (by omega)) (nfp _ (Nat.le_succ _)) (W.frame _ _ _ st fun b _ o e => up0 b o e) hD hC hN
      (fun i v g hi hP hc kk => he _ i v g hi hP (old kk) hc) fun g tk2 ys hN2 hrow hl kk => ?_
    have lg := old kk
    have nL : h'.objs.size ≠ env.locals := Ne.symm (Lne _ (Nat.le_refl _))
    have nLC : env.locals ≠ h'.objs.size + 1 := Lne _ (by omega)
    show wpAny _ A (assign (.Name y py) env (.ref h'.objs.size)) _ _ _
    refine wpAny_assign_Name (wpAny_storeName_local hy (Ns_le f.ns lg) (fun g2 n2 s2 => ?_) hp)
    refine ⟨_, hN2.at' fun o e => (s2.2 _ (Ne.symm nLC)).trans e, fun g3 s3 => ?_⟩
    have kk3 : ∀ b o, b ≠ env.locals → b ≠ h'.objs.size + 1 → g.get? b = some o → g3.get? b = some o := fun b o n1 n2 e => (s3.2 b n2).trans ((s2.2 b n1).trans e)
    have of : off env.locals h g3 := fun b o nb e => kk3 b o nb (fun q => by rw [q, fr _ (by omega)] at e; cases e) (lg b o e)
    refine k h'.objs.size g3 _ ys ⟨n2.at' fun o e => (s3.2 _ nLC).trans e, o h g3 ⟨m, f.ns⟩ of f.r⟩ (let ⟨o, e, r⟩ := hl; ⟨o, kk3 _ o nL (Nat.ne_of_lt (Nat.lt_succ_self _)) e, r⟩) of ⟨hrow.1, fun j hj => ?_⟩
    obtain ⟨T, its, e1, hl', _, _, g'⟩ := hrow.2 j hj
    exact ⟨T, its, e1, let ⟨o, e, r⟩ := hl'; ⟨o, kk3 T o (ne_list (Ns_le f.ns lg) hl') (ne_list hN2 hl') e, r⟩, g'⟩
  exact codeAny_compStart_list (loop _ rfl) (W.self 0 _ _ _ (W.frame _ _ _ st fun b _ o e => up0 b o e) (loop _ rfl))
end
end
end Mine

namespace Mine
set_option maxRecDepth 100000
set_option maxHeartbeats 8000000
noncomputable section

theorem pick_mem {its : Array Value} {lo hi st : Option Int} {v : Value} (h : v ∈ slicePick its lo hi st) : v ∈ its := by
  unfold slicePick at h
  rw [List.mem_toArray, List.mem_filterMap] at h
  obtain ⟨k, _, e⟩ := h
  exact Array.mem_of_getElem? e

section
variable {w : World} {A : Around} {env : Env} {h : Heap} {mg mb : Str → Option Value} {H : Heap} {s : Shared} {E : Value → Shared → Prop} {rest : List Stmt} {tk : Nat} {Q : Flow → Shared → Prop}

noncomputable def isInt : Value → Heap → Prop := fun v _ => ∃ i t, v = .int i t
theorem stbInt : Stb isInt := fun _ _ _ _ x => x
theorem ev_addX {l r : Expr} {pos : Pos} (a : Ev w A env h l isInt) (b : Ev w A env h r isInt) : Ev w A env h (.BinOp l .Add r pos) isInt :=
  ev_binop a b stbInt fun _ _ _ _ ⟨_, _, e1⟩ ⟨_, _, e2⟩ => by subst e1 e2; exact Tr.mono (tr_int fun _ _ _ q => Rows.add_int q) fun _ _ _ p => ⟨_, p⟩

theorem x_setC {m : Str → Option Value} {x : Str} {px pos : Pos} {value : Expr} {P : Value → Heap → Prop} {c : Addr} {v₀ : Option Value} (N : h.Ns env.locals m) (C : h.IsCell c v₀) (a : Ev w A env h value P)
    (k : ∀ v h1 h2 tk', le h h1 → P v h1 → off c h1 h2 → h2.IsCell c (some v) → h2.Ns env.locals m → wpAny (model PR w) A (execs rest env) Q E (St s h2 tk'))
    (hs : swapsWith value (some (.Name x px)) pos.line env = pure false) (hk : env.scope.kind = .function) (hl : env.kindOf x = some .cell) (hc : env.cells.lookup x = some c) :
    wpAny (model PR w) A (execs (.Assign [.Name x px] value pos :: rest) env) Q E (St s h tk) :=
  wpAny_execs_cons (wpAny_Assign_Name (a _ _ _ le.rfl fun v h1 tk1 l1 p1 => wpAny_storeName_cell hk hl hc (Cell_le C l1) fun h2 c2 s2 =>
    k v h1 h2 _ l1 p1 (off.of_same s2) c2 ((Ns_le N l1).at' fun o e => (s2.2 _ (fun q => by
      obtain ⟨o', _, _, e', d', _⟩ := Ns_le N l1
      obtain ⟨o2, e2, d2⟩ := Cell_le C l1
      rw [q, e2] at e'; cases e'; rw [d2] at d'; cases d')).trans e)) hs)

theorem tr_sum {D : Addr} {ys : Array Value} (hh : A.handled = none) (hl : h.IsList D ys) (hi : AllInts ys) : ∃ i, Tr w A h (call (.builtin "sum") [.ref D]) (isI i) := by
  obtain ⟨xs, rfl⟩ := hi.items
  exact ⟨_, fun s Q E l q => sum_intListG hh (List_le hl l) fun h' tk t' kk => q _ h' tk kk ⟨t', rfl⟩⟩
theorem ev_sumX {f : Str} {p pos : Pos} {e : Expr} {P : Value → Heap → Prop} (hh : A.handled = none) (n : Ev w A env h (.Name f p) (isV (.builtin "sum"))) (b : Ev w A env h e P)
    (k : ∀ v h', P v h' → ∃ D ys, v = .ref D ∧ h'.IsList D ys ∧ AllInts ys) (st : Stb P) (hst : starEach [e] env = (false, eval e env) :: starEach [] env := by rfl) : Ev w A env h (.Call (.Name f p) [e] [] pos) isInt := by
  refine ev_callB n (evs_cons b evs_nil st hst) ?_ hst rfl
  rintro vs h' l' ⟨v, _, rfl, p, rfl⟩
  obtain ⟨D, ys, rfl, hl, hi⟩ := k v h' p
  obtain ⟨i, t⟩ := tr_sum (w := w) hh hl hi
  exact t.mono fun _ _ _ p => ⟨i, p⟩
theorem ev_sum {f : Str} {p pos : Pos} {e : Expr} {D : Addr} {ys : Array Value} (hh : A.handled = none) (hl : h.IsList D ys) (hi : AllInts ys) (n : Ev w A env h (.Name f p) (isV (.builtin "sum"))) (b : Ev w A env h e (isV (.ref D)))
    (hst : starEach [e] env = (false, eval e env) :: starEach [] env := by rfl) : ∃ i, Ev w A env h (.Call (.Name f p) [e] [] pos) (isI i) := by
  obtain ⟨i, t⟩ := tr_sum (w := w) hh hl hi
  refine ⟨i, ev_callB n (evs_cons b evs_nil stbV hst) ?_ hst rfl⟩
  rintro vs h' l' ⟨v, _, rfl, rfl, rfl⟩
  exact t.up l'

noncomputable def isPick (its : Array Value) (lo hi st : Option Int) : Value → Heap → Prop := fun v h => ∃ a, v = .ref a ∧ h.IsList a (slicePick its lo hi st)
theorem ev_pick_u {value e : Expr} {p pos : Pos} {a : Addr} {its : Array Value} {j : Int} (x : Ev w A env h value (isV (.ref a))) (hl : h.IsList a its) (hsz : its.size ≤ sizeLine) (b : Ev w A env h e (isI j))
    (ht : ∀ o r, letTemporaryGo value o r = pure () := by intro _ _; rfl) : Ev w A env h (.Subscript value (.Slice none (some e) none p) pos) (isPick its none (some j) none) := fun s Q E l q =>
  wpAny_Subscript_list_slice (x s _ _ l fun v h1 tk1 l1 p1 => by
    cases p1
    refine wpAny_evalPart_none (wpAny_evalPart_some (b _ _ _ (l.trans l1) fun v2 h2 tk2 l2 ⟨u, p2⟩ => ?_))
    subst p2
    refine ⟨a, its, none, some j, rfl, List_le hl (l.trans (l1.trans l2)), hsz, .none, .int _ _, q _ _ _ (l1.trans (l2.trans ((le_push _ _).trans (le_push _ _)))) ⟨_, rfl, ?_⟩⟩
    exact (Heap.size_push h2 { cls := .type "slice", data := .fields #[.none, .int j u, .none] }) ▸ ⟨_, Heap.get?_push_size _ rfl, rfl, _, rfl⟩) ht
theorem ev_pick_l {value e : Expr} {p pos : Pos} {a : Addr} {its : Array Value} {j : Int} (x : Ev w A env h value (isV (.ref a))) (hl : h.IsList a its) (hsz : its.size ≤ sizeLine) (b : Ev w A env h e (isI j))
    (ht : ∀ o r, letTemporaryGo value o r = pure () := by intro _ _; rfl) : Ev w A env h (.Subscript value (.Slice (some e) none none p) pos) (isPick its (some j) none none) := fun s Q E l q =>
  wpAny_Subscript_list_slice (x s _ _ l fun v h1 tk1 l1 p1 => by
    cases p1
    refine wpAny_evalPart_some (b _ _ _ (l.trans l1) fun v2 h2 tk2 l2 ⟨u, p2⟩ => wpAny_evalPart_none ?_)
    subst p2
    refine ⟨a, its, some j, none, rfl, List_le hl (l.trans (l1.trans l2)), hsz, .int _ _, .none, q _ _ _ (l1.trans (l2.trans ((le_push _ _).trans (le_push _ _)))) ⟨_, rfl, ?_⟩⟩
    exact (Heap.size_push h2 { cls := .type "slice", data := .fields #[.int j u, .none, .none] }) ▸ ⟨_, Heap.get?_push_size _ rfl, rfl, _, rfl⟩) ht
theorem ev_pick3 {value e1 e2 e3 : Expr} {p pos : Pos} {a : Addr} {its : Array Value} {i j k : Int} (x : Ev w A env h value (isV (.ref a))) (hl : h.IsList a its) (hsz : its.size ≤ sizeLine) (b1 : Ev w A env h e1 (isI i)) (b2 : Ev w A env h e2 (isI j)) (b3 : Ev w A env h e3 (isI k)) (hk : k ≠ 0)
    (ht : ∀ o r, letTemporaryGo value o r = pure () := by intro _ _; rfl) : Ev w A env h (.Subscript value (.Slice (some e1) (some e2) (some e3) p) pos) (isPick its (some i) (some j) (some k)) := fun s Q E l q =>
  wpAny_Subscript_Slice_step (T := "list") list_getitem_lookup (x s _ _ l fun v h1 tk1 l1 p1 => wpAny_Slice (by
    cases p1
    refine wpAny_evalPart_some (b1 _ _ _ (l.trans l1) fun v2 h2 tk2 l2 ⟨u2, p2⟩ => wpAny_evalPart_some (b2 _ _ _ (l.trans (l1.trans l2)) fun v3 h3 tk3 l3 ⟨u3, p3⟩ => wpAny_evalPart_some (b3 _ _ _ (l.trans (l1.trans (l2.trans l3))) fun v4 h4 tk4 l4 ⟨u4, p4⟩ => ?_)))
    subst p2 p3 p4
    have up := l1.trans (l2.trans (l3.trans l4))
    have hl4 := (List_le hl (l.trans up)).push { cls := .type "slice", data := .fields #[.int i u2, .int j u3, .int k u4] }
    refine ⟨hl4.typeIs, wpAny_getItem_list_slice hl4 (Heap.IsSliceOf.new ..) (.int i u2) (.int j u3) (.int k u4) (fun e => hk (Option.some.inj e)) ?_ hsz⟩
    exact q _ _ _ (up.trans ((le_push _ _).trans (le_push _ _))) ⟨_, rfl, _, Heap.get?_push_size _ rfl, rfl, _, rfl⟩)) ht

theorem ev_catL {l r : Expr} {pos : Pos} {its : Array Value} {P2 : Value → Heap → Prop} {b : Addr} (x : Ev w A env h l (isV (.ref b))) (hl : h.PlainList b its) (y : Ev w A env h r P2) (st : Stb P2) (k : ∀ v h', P2 v h' → ∃ D, v = .ref D ∧ ∃ ys, h'.PlainList D ys ∧ ys.size ≤ 100) (hsz : its.size ≤ 100) :
    Ev w A env h (.BinOp l .Add r pos) (fun v h' => ∃ D D2 ys, v = .ref D ∧ P2 (.ref D2) h' ∧ h'.PlainList D2 ys ∧ h'.IsList D (its ++ ys)) := fun s Q E l₀ q =>
  wpAny_BinOp (x s _ _ l₀ fun v1 h1 tk1 l1 p1 => y _ _ _ (l₀.trans l1) fun v2 h2 tk2 l2 p2 => by
    cases p1
    obtain ⟨D2, rfl, ys, ⟨n2, e2⟩, sz⟩ := k v2 h2 p2
    obtain ⟨n1, e1⟩ := hl
    exact P.add_list (l := b) (b := D2) (items := its) (items2 := ys) ((l₀.trans (l1.trans l2)) _ _ e1) e2
      (q _ _ _ (l1.trans (l2.trans (le_push _ _))) ⟨_, D2, ys, rfl, st _ _ _ (le_push _ _) p2, ⟨n2, le_push _ _ _ _ e2⟩, ⟨_, Heap.get?_push_size _ rfl, rfl, _, rfl⟩⟩) (Nat.le_trans (Nat.add_le_add hsz sz) (by decide)))

theorem keepTS {g g' : Heap} {P : Addr} {line col : Nat} {qual : Str} (x : TS g P line col qual) (k1 : ∀ o, g.get? P = some o → g'.get? P = some o) (k2 : ∀ b o, g.get? b = some o → ¬ NoCode o → g'.get? b = some o) : TS g' P line col qual := by
  obtain ⟨ps, e, r⟩ := x
  exact ⟨ps, k1 _ e, r.imp id fun ⟨c, e1, c₂, o₂, vs, t, e2, ho, hd, hv⟩ => ⟨c, e1, c₂, o₂, vs, t, e2, k2 _ _ ho (fun q => q vs hd _ _ hv), hd, hv⟩⟩
theorem keepT {g g' : Heap} (T : TabOK g) (bad : Addr → Prop) (hb : ∀ b, bad b → ∀ o, g.get? b = some o → NoCode o ∧ ∀ ps, o ≠ tabObj ps) (k : ∀ b o, ¬ bad b → g.get? b = some o → g'.get? b = some o) : TabOK g' := by
  have k2 : ∀ b o, g.get? b = some o → ¬ NoCode o → g'.get? b = some o := fun b o e n => k b o (fun q => n (hb b q o e).1) e
  refine ⟨keepTS T.1 (fun o e => k _ o (fun q => ?_) e) k2, keepTS T.2 (fun o e => k _ o (fun q => ?_) e) k2⟩
  · obtain ⟨ps, e', _⟩ := T.1
    exact (hb _ q _ e').2 ps rfl
  · obtain ⟨ps, e', _⟩ := T.2
    exact (hb _ q _ e').2 ps rfl
theorem ns_plain {g : Heap} {L : Addr} {m : Str → Option Value} (n : g.Ns L m) : ∀ o, g.get? L = some o → NoCode o ∧ ∀ ps, o ≠ tabObj ps := fun o e => by
  obtain ⟨o', _, _, e', d', _⟩ := n
  rw [e] at e'; cases e'
  exact ⟨fun vs q => (by rw [d'] at q; cases q), fun ps q => (by rw [q] at d'; cases d')⟩
theorem cell_plain {g : Heap} {c : Addr} {v : Option Value} (n : g.IsCell c v) : ∀ o, g.get? c = some o → NoCode o ∧ ∀ ps, o ≠ tabObj ps := fun o e => by
  obtain ⟨o', e', d'⟩ := n
  rw [e] at e'; cases e'
  exact ⟨fun vs q => (by rw [d'] at q; cases q), fun ps q => (by rw [q] at d'; cases d')⟩

noncomputable def offT (L : Addr) (h h' : Heap) : Prop := ∀ b o, b ≠ L → b ≠ 37 → b ≠ 44 → h.get? b = some o → h'.get? b = some o
inductive NextT (L : Addr) (J : (Str → Option Value) → Prop) (s : Shared) (g : Heap) (s' : Shared) : Prop
  | mk (m' : Str → Option Value) (g' : Heap) (tk' : Nat) (e : s' = St s g' tk') (n : g'.Ns L m') (j : J m') (T : TabOK g') (k : offT L g g')
theorem x_forT {x : Str} {px pos : Pos} {iter : Expr} {body : List Stmt} {n : Nat} {P : Nat → Value → Prop} {m : Str → Option Value}
    (it : It w A env h iter n P (fun _ => False)) (N : h.Ns env.locals m) (T : TabOK h) (J : Nat → (Str → Option Value) → Prop) (J0 : J 0 m)
    (step : ∀ i v m g tk, i < n → P i v → J i m → TabOK g → g.Ns env.locals (fun y => if y = x then some v else m y) → offT env.locals h g →
      wpAny (model PR w) A (execs body env) (LoopP (NextT env.locals (J (i + 1)) s g) Q) (fun _ _ => False) (St s g tk))
    (k : ∀ m g tk, J n m → TabOK g → g.Ns env.locals m → offT env.locals h g → wpAny (model PR w) A (execs rest env) Q E (St s g tk))
    (hx : env.kindOf x = some .local) (hp : (env.scope.kind == .class || (env.scope.kind == .module && env.locals != env.globals)) = false)
    (hs : ∀ v, foldedSetIterable iter env v = pure v := by intro _; rfl) :
    wpAny (model PR w) A (execs (.For (.Name x px) iter body [] pos :: rest) env) Q E (St s h tk) := by
  have nor : ∀ b, b ≠ env.locals ∧ b ≠ 37 ∧ b ≠ 44 → ¬ (b = env.locals ∨ b = 37 ∨ b = 44) := fun b n q => by exact q.elim n.1 fun q => q.elim n.2.1 n.2.2
  refine x_forW it N (fun b => b = env.locals ∨ b = 37 ∨ b = 44) (fun b hb => ⟨id, ?_⟩) (.inl rfl) (fun W i m g => J i m ∧ TabOK g) ?_ (fun W hW => ⟨J0, T⟩) ?_ ?_ hx hp hs
  · rcases hb with rfl | rfl | rfl
    · obtain ⟨o, _, _, e, _⟩ := N; exact ⟨o, e⟩
    · obtain ⟨ps, e, _⟩ := T.1; exact ⟨_, e⟩
    · obtain ⟨ps, e, _⟩ := T.2; exact ⟨_, e⟩
  · rintro W i m g g' hW live ⟨m', N'⟩ kk ⟨j, Tg⟩
    have tb : ∀ P, P = 37 ∨ P = 44 → ¬ W P := fun P hP hw => by
      have e := hW P hw
      rcases hP with rfl | rfl
      · obtain ⟨ps, e', _⟩ := T.1; rw [e] at e'; cases e'
      · obtain ⟨ps, e', _⟩ := T.2; rw [e] at e'; cases e'
    have k2 : ∀ b o, g.get? b = some o → ¬ NoCode o → g'.get? b = some o := fun b o e n => kk b o (fun q => n (ns_plain N' o (q ▸ e)).1) (fun hw => by
      rcases live b hw with q | ⟨o', e', nc⟩
      · rw [e] at q; cases q
      · rw [e] at e'; cases e'; exact n nc) e
    refine ⟨j, keepTS Tg.1 (fun o e => kk _ o (fun q => ?_) (tb _ (.inl rfl)) e) k2, keepTS Tg.2 (fun o e => kk _ o (fun q => ?_) (tb _ (.inr rfl)) e) k2⟩
    · obtain ⟨ps, e', _⟩ := Tg.1
      exact (ns_plain N' _ (q ▸ e')).2 ps rfl
    · obtain ⟨ps, e', _⟩ := Tg.2
      exact (ns_plain N' _ (q ▸ e')).2 ps rfl
  · rintro W i v m g tk hi hP ⟨j, Tg⟩ _ _ N' kb
    refine wpAny_mono (step i v m g tk hi hP j Tg N' fun b o n1 n2 n3 e => kb b o (nor b ⟨n1, n2, n3⟩) e) (fun f s' hf => ?_) fun _ _ e => e
    cases f with
    | next => obtain ⟨m', g', tk', e, n', j', T', kp⟩ := hf; exact ⟨m', g', tk', e, n', ⟨j', T'⟩, fun b o n e => kp b o (fun q => n (.inl q)) (fun q => n (.inr (.inl q))) (fun q => n (.inr (.inr q))) e⟩
    | brk => exact hf
    | cont => exact hf
    | ret v => exact hf
  · rintro W m g tk ⟨j, Tg⟩ N' kb
    exact k m g tk j Tg N' fun b o n1 n2 n3 e => kb b o (nor b ⟨n1, n2, n3⟩) e
end
end
end Mine

namespace Mine
set_option maxRecDepth 100000
set_option maxHeartbeats 8000000
noncomputable section

noncomputable def Wb (c : Int → Nat) (st i j : Int) : Int := if (0 ≤ i ∧ i < 6) ∧ (0 ≤ j ∧ j < 6) then Wt c st i j else 0
section
variable {c : Int → Nat} {st : Int}
theorem wb_in {i j : Int} (hi : 0 ≤ i ∧ i < 6) (hj : 0 ≤ j ∧ j < 6) : Wb c st i j = Wt c st i j := if_pos ⟨hi, hj⟩
theorem wb_anti (i j : Int) (h : j < i) : Wb c st i j = - Wb c st j i := by
  unfold Wb
  by_cases h1 : (0 ≤ i ∧ i < 6) ∧ (0 ≤ j ∧ j < 6)
  · rw [if_pos h1, if_pos h1.symm, wt_anti i j h]
  · rw [if_neg h1, if_neg fun q => h1 q.symm]; rfl
theorem lab {x st : Int} (h : 0 ≤ x ∧ x < 50 + 16 * st) (hs : st < 10) : x.natAbs < 1000 := by omega
theorem wb_small (hst : 0 ≤ st ∧ st < 10) (hc : ∀ i : Int, 0 ≤ i → i < 6 → c i < 5) (i j : Int) : (Wb c st i j).natAbs < 1000 := by
  have up : ∀ i j : Int, 0 ≤ i → i < j → j < 6 → (Wb c st i j).natAbs < 1000 := fun i j h0 h1 h2 => by
    have h3 := Int.lt_trans h1 h2
    have h4 := Int.le_trans h0 (Int.le_of_lt h1)
    rw [wb_in ⟨h0, h3⟩ ⟨h4, h2⟩, wt_up h1]
    obtain ⟨i, rfl⟩ := Int.eq_ofNat_of_zero_le h0
    obtain ⟨j, rfl⟩ := Int.eq_ofNat_of_zero_le h4
    exact lab (up_small hst.1 i j (Int.ofNat_lt.mp h1) (Int.ofNat_lt.mp h2) (hc _ h0 h3) (hc _ h4 h2)) hst.2
  by_cases h1 : (0 ≤ i ∧ i < 6) ∧ (0 ≤ j ∧ j < 6)
  · obtain ⟨⟨a, b⟩, ⟨d, e⟩⟩ := h1
    rcases Int.lt_trichotomy i j with h | h | h
    · exact up i j a h e
    · subst h; rw [wb_in ⟨a, b⟩ ⟨a, b⟩]; unfold Wt; rw [if_neg (Int.lt_irrefl _), if_pos rfl]; decide
    · rw [wb_anti i j h, Int.natAbs_neg]; exact up j i d h b
  · unfold Wb; rw [if_neg h1]; decide
theorem pf_wb : pfW (Wb c st) = pfW (Wt c st) := rfl
theorem some_op (h3 : ∀ i : Int, 0 ≤ i → i < 3 → c i < 4) (hc : ∀ i : Int, 0 ≤ i → i < 6 → c i < 5) : ∃ i j : Nat, i < j ∧ j < 6 ∧ opNum (c i) (c j) ≠ 0 := by
  have eq : ∀ a b : Fin 5, a.val = b.val → opNum a b ≠ 0 := by decide +kernel
  have eqn : ∀ i j : Nat, i < j → j < 6 → c i = c j → ∃ i j : Nat, i < j ∧ j < 6 ∧ opNum (c i) (c j) ≠ 0 := fun i j h1 h2 e => ⟨i, j, h1, h2, eq ⟨_, hc i (by omega) (by omega)⟩ ⟨_, hc j (by omega) (by omega)⟩ e⟩
  have to4 : ∀ a : Fin 4, opNum a 4 ≠ 0 := by decide
  have f0 : c (0 : Nat) < 4 := h3 0 (by decide) (by decide)
  have f1 : c (1 : Nat) < 4 := h3 1 (by decide) (by decide)
  have f2 : c (2 : Nat) < 4 := h3 2 (by decide) (by decide)
  have f3 : c (3 : Nat) < 5 := hc 3 (by decide) (by decide)
  have f4 : c (4 : Nat) < 5 := hc 4 (by decide) (by decide)
  by_cases h : c (3 : Nat) = 4
  · exact ⟨0, 3, by decide, by decide, by rw [h]; exact to4 ⟨_, f0⟩⟩
  by_cases h' : c (4 : Nat) = 4
  · exact ⟨0, 4, by decide, by decide, by rw [h']; exact to4 ⟨_, f0⟩⟩
  have pig : ∀ a b d e f : Fin 4, a = b ∨ a = d ∨ a = e ∨ a = f ∨ b = d ∨ b = e ∨ b = f ∨ d = e ∨ d = f ∨ e = f := by decide +kernel
  have := pig ⟨_, f0⟩ ⟨_, f1⟩ ⟨_, f2⟩ ⟨_, show c (3 : Nat) < 4 by omega⟩ ⟨_, show c (4 : Nat) < 4 by omega⟩
  simp only [Fin.mk.injEq] at this
  rcases this with q | q | q | q | q | q | q | q | q | q
  · exact eqn 0 1 (by decide) (by decide) q
  · exact eqn 0 2 (by decide) (by decide) q
  · exact eqn 0 3 (by decide) (by decide) q
  · exact eqn 0 4 (by decide) (by decide) q
  · exact eqn 1 2 (by decide) (by decide) q
  · exact eqn 1 3 (by decide) (by decide) q
  · exact eqn 1 4 (by decide) (by decide) q
  · exact eqn 2 3 (by decide) (by decide) q
  · exact eqn 2 4 (by decide) (by decide) q
  · exact eqn 3 4 (by decide) (by decide) q
theorem lpos {a x : Int} (b : 0 ≤ a) (n : a ≠ 0) (p : 0 ≤ x) : 0 < a + x := by omega
theorem some_wb (hst : 1 ≤ st ∧ st < 10) (h3 : ∀ i : Int, 0 ≤ i → i < 3 → c i < 4) (hc : ∀ i : Int, 0 ≤ i → i < 6 → c i < 5) : ∃ i j : Nat, i < j ∧ j < 6 ∧ 0 < Wb c st i j := by
  obtain ⟨i, j, hij, hj, ho⟩ := some_op h3 hc
  refine ⟨i, j, hij, hj, ?_⟩
  have ri := up_r (Nat.lt_trans hij hj)
  have rj := up_r hj
  rw [wb_in ri rj, wt_up (Int.ofNat_lt.mpr hij)]
  have b : 0 ≤ opNum (c i) (c j) := (op_small ⟨_, hc i ri.1 ri.2⟩ ⟨_, hc j rj.1 rj.2⟩).1
  unfold upW
  rw [if_neg ho]
  obtain ⟨d, e, _⟩ := up_d hij hj
  rw [e]
  exact lpos b ho (Int.mul_nonneg (Int.le_trans (by decide) hst.1) (by rw [Int.pow_succ, Int.pow_succ, Int.pow_zero, Int.one_mul]; exact Int.mul_nonneg (Int.natCast_nonneg _) (Int.natCast_nonneg _)))
end
theorem by_small {W : Int → Int → Int} (hW : ∀ i j, (W i j).natAbs < 1000) {i j : Int} (hi : 0 ≤ i) (hij : i < j) (hj : j < 6) : (byOne W i j).natAbs < 2 ^ 48 := by
  have l := led_small hW
  obtain ⟨a, b, c, d, e, _⟩ := others_is hi hij hj
  unfold byOne
  rw [e]
  exact Nat.lt_trans (abs3 (abs2 (l ..) (l ..)) (abs2 (l ..) (l ..)) (abs2 (l ..) (l ..))) (by decide)
theorem div_out {a b k : Int} (hb : 0 < b) (h : a = b * k) : a.fdiv b = k ∧ a.fmod b = 0 := by
  rw [h]
  exact ⟨Int.mul_fdiv_cancel_left _ (by omega), Int.mul_fmod_right _ _⟩
theorem item4 {i : Int} (h0 : 0 ≤ i) (h4 : i < 4) : Txt.item "<>*/" i = sgS i.toNat := by
  have k : ∀ i : Fin 4, Txt.item "<>*/" (i.val : Int) = sgS i.val := by decide +kernel
  obtain ⟨i, rfl⟩ := Int.eq_ofNat_of_zero_le h0
  exact k ⟨i, by omega⟩
theorem fmod_range (x : Int) {n : Int} (hn : 0 < n) : 0 ≤ x.fmod n ∧ x.fmod n < n := ⟨Int.fmod_nonneg_of_pos x hn, Int.fmod_lt_of_pos x hn⟩

theorem lw0 {i : Nat} (h : i < 6) : (0 + (i : Int) * 1).toNat < 6 ∧ (0 ≤ 0 + (i : Int) * 1 ∧ 0 + (i : Int) * 1 < 6) ∧ 0 + (i : Int) * 1 < 2 ^ 63 ∧ (-(2 ^ 62) ≤ 0 + (i : Int) * 1 + 1 ∧ 0 + (i : Int) * 1 + 1 < 2 ^ 62) := by omega
theorem lw1 {i j : Nat} (hj : j < 6) (hi : i < 6) : j < i + 1 + (6 - (0 + (i : Int) * 1 + 1)).toNat := by omega
theorem lw2 {i k : Nat} (h : k < (6 - (0 + (i : Int) * 1 + 1)).toNat) : i < i + 1 + k ∧ i + 1 + k < 6 := by omega
theorem lw2b (i k : Nat) : (0 + (i : Int) * 1 + 1 + (k : Int) * 1) = ((i + 1 + k : Nat) : Int) := by omega
theorem lw2c {i j : Nat} (h : i < j) (h6 : j < 6) : ((0 : Int) ≤ i ∧ (i : Int) < 6) ∧ ((0 : Int) ≤ j ∧ (j : Int) < 6) ∧ 0 ≤ (j : Int) - i - 1 ∧ (j : Int) - i - 1 ≤ 1000000 := by omega
theorem lw3 {j : Int} (h0 : 0 ≤ j) (h6 : j < 6) : j.toNat < 6 ∧ 0 + ((j.toNat : Nat) : Int) * 1 = j := by omega
theorem lw6 {st : Int} (h : 1 ≤ st ∧ st < 10) : (0 ≤ st ∧ st < 100) ∧ (0 ≤ st ∧ st < 10) := by omega
theorem lw7 {x : Int} (h : 0 ≤ x ∧ x < 4) : x.toNat < 4 ∧ x.toNat < 5 ∧ x < 2 ^ 63 := by omega
theorem lw8 (i : Nat) : ((i : Nat) : Int) = 0 + (i : Int) * 1 := by omega
theorem lw9 {x : Int} (h : 0 ≤ x ∧ x < 9) : 1 ≤ 1 + x ∧ 1 + x < 10 := by omega
theorem lw10 {i j' k : Nat} (h : j' < i + 1 + (k + 1)) (n : ¬ j' = i + 1 + k) : j' < i + 1 + k := by omega
theorem lw11 {x : Int} (h : x.natAbs < 1000) : x < 1000 := by omega
theorem lw12 {a x : Int} (h : 0 ≤ a) : 0 ≤ a + 1 ∧ a ≤ a + 1 ∧ 0 < a + 1 := by omega
noncomputable def SgA (b : Nat) : Value → Value → Prop := fun _ y => ∃ k u, k < b ∧ y = .str (sgS k) u
theorem sg_of {b : Nat} {vs : List Value} {ys : List Value} (h : Paired (SgA b) vs ys) : ∃ ks : List Nat, ks.length = ys.length ∧ (∀ k ∈ ks, k < b) ∧ ∀ i, i < ys.length → ∃ u, ys[i]? = some (.str (sgS (ks.getD i 0)) u) := by
  induction h with
  | nil => exact ⟨[], rfl, nofun, fun i hi => absurd hi (Nat.not_lt_zero _)⟩
  | cons f _ ih =>
    obtain ⟨k, u, hk, rfl⟩ := f
    obtain ⟨ks, e, hks, hg⟩ := ih
    refine ⟨k :: ks, by rw [List.length_cons, List.length_cons, e], fun x hx => ?_, fun i hi => ?_⟩
    · rcases List.mem_cons.mp hx with rfl | hx
      · exact hk
      · exact hks x hx
    · cases i with
      | zero => exact ⟨u, rfl⟩
      | succ i => exact hg i (Nat.lt_of_succ_lt_succ hi)
theorem sg_six {y1 y2 : Array Value} {k1 k2 : List Nat} {b1 : Nat} (hb : b1 ≤ 5) (s1 : y1.toList.length = 3) (l1 : k1.length = 3) (l2 : k2.length = 3) (m1 : ∀ k ∈ k1, k < b1) (m2 : ∀ k ∈ k2, k < 5)
    (g1 : ∀ i, i < 3 → ∃ u, y1.toList[i]? = some (.str (sgS (k1.getD i 0)) u)) (g2 : ∀ i, i < 3 → ∃ u, y2.toList[i]? = some (.str (sgS (k2.getD i 0)) u)) :
    (∀ i : Int, 0 ≤ i → i < 3 → (k1 ++ k2).getD i.toNat 0 < b1) ∧ ∀ i : Int, 0 ≤ i → i < 6 → (k1 ++ k2).getD i.toNat 0 < 5 ∧ ∃ t, (y1 ++ y2)[i.toNat]? = some (.str (sgS ((k1 ++ k2).getD i.toNat 0)) t) := by
  have lo : ∀ n : Nat, n < 3 → (k1 ++ k2).getD n 0 = k1.getD n 0 := fun n h => by simp [List.getD_eq_getElem?_getD, List.getElem?_append_left (l1 ▸ h)]
  have gd : ∀ (l : List Nat) (n : Nat), n < l.length → l.getD n 0 ∈ l := fun l n h => by rw [List.getD_eq_getElem?_getD, List.getElem?_eq_getElem h]; exact List.getElem_mem h
  have hi' : ∀ n : Nat, 3 ≤ n → (k1 ++ k2).getD n 0 = k2.getD (n - 3) 0 := fun n h => by simp [List.getD_eq_getElem?_getD, List.getElem?_append_right (l1 ▸ h), l1]
  have key : ∀ n : Nat, n < 6 → (k1 ++ k2).getD n 0 < 5 ∧ ∃ t, (y1 ++ y2)[n]? = some (.str (sgS ((k1 ++ k2).getD n 0)) t) := fun n h6 => by
    rw [← Array.getElem?_toList, Array.toList_append]
    by_cases h : n < 3
    · rw [lo n h, List.getElem?_append_left (s1 ▸ h)]
      exact ⟨Nat.lt_of_lt_of_le (m1 _ (gd _ _ (l1 ▸ h))) hb, g1 n h⟩
    · have h := Nat.le_of_not_lt h
      have h3 : n - 3 < 3 := Nat.sub_lt_left_of_lt_add h h6
      rw [hi' n h, List.getElem?_append_right (s1 ▸ h), s1]
      exact ⟨m2 _ (gd _ _ (l2 ▸ h3)), g2 _ h3⟩
  refine ⟨fun i h0 h3 => ?_, fun i h0 h6 => ?_⟩ <;> obtain ⟨n, rfl⟩ := Int.eq_ofNat_of_zero_le h0
  · have h := Int.ofNat_lt.mp h3
    rw [Int.toNat_natCast, lo n h]; exact m1 _ (gd _ _ (l1 ▸ h))
  · exact key n (Int.ofNat_lt.mp h6)
end
end Mine

namespace Mine
set_option maxRecDepth 100000
set_option maxHeartbeats 8000000
noncomputable section

noncomputable def fdAt (w : World) (a : Addr) : FuncData := match (KK w).lookup a with
  | some ⟨_, _, .func fd, _⟩ => fd
  | _ => default
noncomputable def bodyAt (w : World) (a : Addr) : List Stmt := match (fdAt w a).body with
  | .stmts b => b
  | _ => []
theorem fn_body {w : World} {a : Addr} {name qual : Str} {params : Arguments} {body : List Stmt} {scope : Scope} {dV kV doc pm cdv ct oc : Value} {an od : Option Addr} {osl : Array (Option Value)} {X : Str → List Stmt → Scope → Prop}
    (ho : (KK w).lookup a = some ⟨oc, od, .func (fnOf name qual params body scope dV kV doc pm an cdv ct), osl⟩) (k : X name body scope) : X (fdAt w a).name (bodyAt w a) (fdAt w a).scope := by
  unfold bodyAt fdAt
  rw [ho]
  exact k

noncomputable def offs (L : Addr) (h h' : Heap) : Prop := ∀ b o, b ≠ L → b ≠ L + 2 → b ≠ L + 3 → b ≠ L + 4 → h.get? b = some o → h'.get? b = some o
theorem offs.trans {L : Addr} {h₁ h₂ h₃ : Heap} (a : offs L h₁ h₂) (b : offs L h₂ h₃) : offs L h₁ h₃ := fun x o n1 n2 n3 n4 e => b x o n1 n2 n3 n4 (a x o n1 n2 n3 n4 e)
theorem offs.le {L : Addr} {h₁ h₂ : Heap} (a : le h₁ h₂) : offs L h₁ h₂ := fun x o _ _ _ _ e => a x o e
theorem offs.of {L c : Addr} {h₁ h₂ : Heap} (a : off c h₁ h₂) (hc : c = L ∨ c = L + 2 ∨ c = L + 3 ∨ c = L + 4) : offs L h₁ h₂ := fun x o n1 n2 n3 n4 e => a x o (by rcases hc with rfl | rfl | rfl | rfl <;> assumption) e

theorem offC {g g' : Heap} {a c : Addr} {v : Option Value} (k : off a g g') (x : g.IsCell c v) (n : c ≠ a) : g'.IsCell c v := let ⟨o, e, d⟩ := x; ⟨o, k _ o n e, d⟩
theorem offLs {g g' : Heap} {a D : Addr} {its : Array Value} (k : off a g g') (x : g.IsList D its) (n : D ≠ a) : g'.IsList D its := let ⟨o, e, d⟩ := x; ⟨o, k _ o n e, d⟩
theorem offP {g g' : Heap} {a D : Addr} {its : Array Value} (k : off a g g') (x : g.PlainList D its) (n : D ≠ a) : g'.PlainList D its := let ⟨o, e⟩ := x; ⟨o, k _ _ n e⟩

theorem offSg {g g' : Heap} {a : Addr} {v v' : Value} {w₀ : Option Value} {c : Int → Nat} (k : off a g g') (x : Sgn c v g) (C : g.IsCell a w₀) : Sgn c v g' := let ⟨D, its, e, hl, r⟩ := x; ⟨D, its, e, offLs k hl (ne_cell hl C), r⟩
theorem offSN {g g' : Heap} {L : Addr} {m : Str → Option Value} {v : Value} {c : Int → Nat} (k : off L g g') (x : Sgn c v g) (N : g.Ns L m) : Sgn c v g' := let ⟨D, its, e, hl, r⟩ := x; ⟨D, its, e, offLs k hl (ne_list N hl), r⟩
theorem offMN {g g' : Heap} {L : Addr} {m : Str → Option Value} {v : Value} {W : Int → Int → Int} (k : off L g g') (x : Mat W v g) (N : g.Ns L m) : Mat W v g' := let ⟨D, its, e, hl, r⟩ := x; ⟨D, its, e, offLs k hl (ne_list N hl), fun i a b => let ⟨q, row, e1, hr, z⟩ := r i a b; ⟨q, row, e1, offLs k hr (ne_list N hr), z⟩⟩
theorem offTL {g g' : Heap} {L a : Addr} {m : Str → Option Value} {its : Array Value} (k : offT L g g') (T : TabOK g) (N : g.Ns L m) (x : g.IsList a its) : g'.IsList a its := by
  have n := ne_list N x
  obtain ⟨o, e, c, r⟩ := x
  have t := tab_ne T e fun ps q => by rw [q] at c; cases c
  exact ⟨o, k _ o n t.1 t.2 e, c, r⟩
theorem offTM {g g' : Heap} {L : Addr} {m : Str → Option Value} {v : Value} {W : Int → Int → Int} (k : offT L g g') (T : TabOK g) (N : g.Ns L m) (x : Mat W v g) : Mat W v g' :=
  let ⟨D, its, e, hl, r⟩ := x; ⟨D, its, e, offTL k T N hl, fun i a b => let ⟨q, row, e1, hr, z⟩ := r i a b; ⟨q, row, e1, offTL k T N hr, z⟩⟩
theorem offT.trans {L : Addr} {h₁ h₂ h₃ : Heap} (a : offT L h₁ h₂) (b : offT L h₂ h₃) : offT L h₁ h₃ := fun x o n1 n2 n3 e => b x o n1 n2 n3 (a x o n1 n2 n3 e)
theorem offT.le {L : Addr} {h₁ h₂ : Heap} (a : le h₁ h₂) : offT L h₁ h₂ := fun x o _ _ _ e => a x o e
theorem paired_get {F : Value → Value → Prop} {vs ys : List Value} (h : Paired F vs ys) : ∀ {i : Nat} {v : Value}, vs[i]? = some v → ∃ y, ys[i]? = some y ∧ F v y := by
  induction h with
  | nil => intro i v e; simp at e
  | cons f _ ih =>
    intro i v e
    cases i with
    | zero => simp at e; subst e; exact ⟨_, rfl, f⟩
    | succ i => exact ih (by simpa using e)

inductive JL1 (W : Int → Int → Int) (D4 : Addr) (td : Tok) (i : Nat) (m : Str → Option Value) : Prop
  | mk (a : Int) (ta : Tok) (m1 : m "asked" = some (.int a ta)) (m2 : m "rows" = some (.ref D4)) (m3 : m "due" = some (.int (pfW W) td)) (a0 : 0 ≤ a) (ha : ∀ i' j' : Nat, i' < i → i' < j' → j' < 6 → 0 < W i' j' → 0 < a)
inductive JL2 (W : Int → Int → Int) (D4 : Addr) (td t : Tok) (i k : Nat) (m : Str → Option Value) : Prop
  | mk (a : Int) (ta : Tok) (m1 : m "asked" = some (.int a ta)) (m2 : m "rows" = some (.ref D4)) (m3 : m "due" = some (.int (pfW W) td)) (m4 : m "i" = some (.int (0 + (i : Int) * 1) t)) (a0 : 0 ≤ a) (ha : ∀ i' j' : Nat, i' < i → i' < j' → j' < 6 → 0 < W i' j' → 0 < a) (hc : ∀ j' : Nat, i < j' → j' < i + 1 + k → 0 < W i j' → 0 < a)
inductive EndL (L : Addr) (h : Heap) (s : Shared) (f : Flow) (s' : Shared) : Prop
  | mk (h' : Heap) (tk' : Nat) (e : f = .ret (.bool true)) (e' : s' = St s h' tk') (T : TabOK h') (k : ∀ b o, b ≠ L → b ≠ L + 2 → b ≠ L + 3 → b ≠ L + 4 → b ≠ 37 → b ≠ 44 → h.get? b = some o → h'.get? b = some o)
section
variable {w : World} {A : Around} {env : Env} {h : Heap} {mg mb : Str → Option Value} {H : Heap} {s : Shared} {E : Value → Shared → Prop} {rest : List Stmt} {tk : Nat} {Q : Flow → Shared → Prop}

noncomputable def allI (n : Nat) : List Value → Heap → Prop := fun vs _ => vs.length = n ∧ ∀ v ∈ vs, ∃ i t, v = .int i t
theorem evs_i0 {pos : Pos} : Evs w A env h pos [] (allI 0) := fun s Q E l q => evs_nil (pos := pos) s Q E l fun v h' tk l' p => q v h' tk l' (by subst p; exact ⟨rfl, nofun⟩)
theorem evs_i1 {pos p : Pos} {i : Int} {k n : Nat} {rest : List Expr} (b : Evs w A env h pos rest (allI n)) (hs : starEach (.Constant (.int i) k p :: rest) env = (false, eval (.Constant (.int i) k p) env) :: starEach rest env := by rfl) : Evs w A env h pos (.Constant (.int i) k p :: rest) (allI (n + 1)) :=
  fun s Q E l q => evs_cons ev_int b stbI hs s Q E l fun v h' tk l' p => q v h' tk l' (by
    obtain ⟨_, vs, rfl, ⟨t, rfl⟩, e, hv⟩ := p
    exact ⟨by rw [List.length_cons, e], fun v hm => (List.mem_cons.mp hm).elim (fun q => ⟨_, _, q⟩) (hv v)⟩)
theorem ev_listI {es : List Expr} {pos : Pos} {n : Nat} (b : Evs w A env h pos es (allI n)) (hn : n ≤ 100) : Ev w A env h (.List es pos) (fun v h' => ∃ D its, v = .ref D ∧ h'.IsList D its ∧ its.size = n ∧ AllInts its) := fun s Q E l q =>
  wpAny_List (b _ _ _ l fun vs h1 tk1 l1 ⟨e, hv⟩ => ⟨by rw [e]; exact Nat.le_trans hn (by decide), q _ _ _ (l1.trans (le_push _ _)) ⟨_, _, rfl, ⟨_, Heap.get?_push_size _ rfl, rfl, _, rfl⟩, e, fun v hm => hv v (List.mem_toArray.mp hm)⟩⟩)

theorem all_of_paired {F : Value → Value → Prop} {vs : List Value} {ys : Array Value} (h : Paired F vs ys.toList) (k : ∀ v y, F v y → ∃ i t, y = .int i t) : AllInts ys := fun y hy => by
  obtain ⟨v, f⟩ := Paired.right h y (Array.mem_toList_iff.mpr hy)
  exact k v y f
theorem filter_true {vs : List Value} : vs.filter (fun _ => true) = vs := List.filter_eq_self.mpr fun _ _ => rfl

theorem sum_all (w : World) {D : Addr} {ys : Array Value} (hi : AllInts ys) : ∃ i, ∀ {A : Around} {h : Heap}, A.handled = none → h.IsList D ys → Tr w A h (call (.builtin "sum") [.ref D]) (isI i) := by
  obtain ⟨xs, rfl⟩ := hi.items
  exact ⟨_, fun hh hl s Q E l q => sum_intListG hh (List_le hl l) fun h' tk t' kk => q _ h' tk kk ⟨t', rfl⟩⟩
theorem ev_mulR {l r : Expr} {pos : Pos} {x y : Int} (a : Ev w A env h l (isI x)) (b : Ev w A env h r (isI y)) (hy : y.natAbs < 2 ^ 64) : Ev w A env h (.BinOp l .Mult r pos) (isI (x * y)) :=
  ev_binop a b stbI fun _ _ _ _ ⟨_, e1⟩ ⟨_, e2⟩ => by subst e1 e2; exact tr_int fun _ _ _ q => Rows.mul_int q (IntMulOk.of_right (intBits_le_64 (by omega) (by omega)))
theorem sign_small (n : Nat) : ((-1 : Int) ^ n).natAbs < 2 ^ 64 := by rw [Int.natAbs_pow]; simp
theorem pick_up3 {ys : Array Value} (h : ys.size = 6) : (slicePick ys none (some 3) none).size = 3 := by
  show (slicePick ys none (some ((3 : Nat) : Int)) none).size = 3
  rw [slicePick_upto', List.size_toArray, List.length_take, Array.length_toList, h]; rfl
theorem pick_lo3 {ys : Array Value} (h : ys.size = 6) : (slicePick ys (some 3) none none).size = 3 := by
  show (slicePick ys (some ((3 : Nat) : Int)) none none).size = 3
  rw [slicePick_from', List.size_toArray, List.length_drop, Array.length_toList, h]

theorem law_go (G : Gd w mg mb H) (hroom : A.depth + 300 < recursionLimit) (hh : A.handled = none) {L fa S : Addr} {cd : Value} {m₀ : Str → Option Value} {items : Array Value}
    (g1 : le H h) (T : TabOK h) (N : h.Ns L m₀) (fr : ∀ k, k ≤ 4 → H.get? (L + k) = none)
    (c1 : h.IsCell (L + 1) (some (.ref S))) (c2 : h.IsCell (L + 2) none) (c3 : h.IsCell (L + 3) none) (c4 : h.IsCell (L + 4) none) (hS : h.IsList S items) (hi : AllInts items) (hz : items.size ≤ 100) :
    wpAny (model PR w) (A.deeper (envOfC (fdAt w 109).name (fdAt w 109).scope L fa cd)) (execs (bodyAt w 109) (envOfC (fdAt w 109).name (fdAt w 109).scope L fa cd))
      (EndL L h s) (fun _ _ => False) (St s h tk) := by
  refine fn_body (a := 109) (X := fun name body scope => wpAny (model PR w) (A.deeper (envOfC name scope L fa cd)) (execs body (envOfC name scope L fa cd))
      (EndL L h s) (fun _ _ => False) (St s h tk)) rfl ?_
  have gA : ∀ {x}, offs L h x → le H x := fun k b o e => k b o (fun q => by have := fr 0 (by decide); rw [Nat.add_zero, ← q, e] at this; cases this) (fun q => by rw [q, fr 2 (by decide)] at e; cases e) (fun q => by rw [q, fr 3 (by decide)] at e; cases e) (fun q => by rw [q, fr 4 (by decide)] at e; cases e) (g1 b o e)
  have ne : ∀ {g : Heap} {m c v}, g.Ns L m → g.IsCell c v → c ≠ L := fun n ⟨o, e, d⟩ q => by
    obtain ⟨o', _, _, e', d', _⟩ := n
    rw [q, e'] at e; cases e; rw [d] at d'; cases d'
  have scr : ∀ {x}, offs L h x → x.IsCell (L + 1) (some (.ref S)) ∧ x.IsList S items := fun k => ⟨let ⟨o, e, d⟩ := c1; ⟨o, k _ o (ne N c1) (add_ne L (by decide)) (add_ne L (by decide)) (add_ne L (by decide)) e, d⟩,
    let ⟨o, e, r⟩ := hS; ⟨o, k _ o (ne_list N hS) (ne_cell hS c2) (ne_cell hS c3) (ne_cell hS c4) e, r⟩⟩
  -- starts
  refine x_setC (hs := rfl) (hk := rfl) (hl := rfl) (hc := rfl) N c2 (ev_listI (evs_i1 (evs_i1 (evs_i1 (evs_i1 (evs_i1 (evs_i1 evs_i0)))))) (by decide)) fun v h2 h3 tk3 l2 p2 o3 C2 N3 => ?_
  obtain ⟨D0, its0, rfl, hD0, sz0, all0⟩ := p2
  have O3 : offs L h h3 := (offs.le l2).trans (offs.of o3 (.inr (.inl rfl)))
  have C3 : h3.IsCell (L + 3) none := offC o3 (Cell_le c3 l2) (add_ne L (by decide))
  have C4 : h3.IsCell (L + 4) none := offC o3 (Cell_le c4 l2) (add_ne L (by decide))
  have D03 : h3.IsList D0 its0 := offLs o3 hD0 (ne_cell hD0 (Cell_le c2 l2))
  have oR : ∀ g, Off L (off L g) := fun g _ _ _ k r => r.trans k
  -- numbers
  refine x_comp (hsw := rfl) (hkind := rfl) (hx := rfl) (hy := rfl) (hp := rfl) (w := w) (R := off L h3) (fun _ => true) (fun _ y => ∃ i t, y = .int i t) ⟨N3, fun _ _ _ e => e⟩ (oR _) (it_lt (it_range1 (hg := rfl) (hb := rfl) (hk := rfl) (hl := rfl) (hs := rfl) (N := 6) G (gA O3) hh ev_int (by decide))) (by decide) rfl (fun _ _ _ _ _ _ _ _ _ => tests0) (fun C i v g m hP _ lg n hm => ?_) fun D1 h4 tk4 ys1 vs1 o4 F4 hD1 hlen1 _ hF1 => ?_
  · obtain ⟨hi6, t, rfl⟩ := hP
    have O4 : offs L h g := O3.trans (offs.le lg)
    have hi6 : i < 6 := hi6
    refine ev_addX (ev_sub_ (P1 := isV (.ref D0)) (ev_cell (Cell_le C2 lg) rfl) (ev_locI n hm) stbV fun v1 v2 h' l' e1 ⟨t2, e2⟩ => ?_) (ev_sumX hh (ev_bi G (gA O4) rfl rfl)
      (ev_comp (hkind := rfl) (hx := rfl) (fun _ => true) (fun _ y => ∃ i t, y = .int i t) (it_made (S := fun _ => True) (n := (slicePick items (some (0 + (i : Int) * 1)) (some 18) (some 6)).size) (PI := fun j v => (slicePick items (some (0 + (i : Int) * 1)) (some 18) (some 6))[j]? = some v) hh
        (ev_pick3 (ev_cell (scr O4).1 rfl) (scr O4).2 (Nat.le_trans hz (by decide)) (ev_locI n hm) ev_int ev_int (by decide)) fun v h' l' p => ?_) (Nat.le_trans (slicePick_size_le ..) (Nat.le_trans hz (by decide))) rfl (fun _ _ _ _ _ _ _ _ _ => tests0) fun C' j x g' m' hx _ lg' n' hm' => ?_) (fun v h' p => ?_) ?_)
    · cases e1; subst e2
      have hlt : (0 + (i : Int) * 1).toNat < its0.size := sz0 ▸ (lw0 hi6).1
      exact Tr.mono (tr_item (List_le D03 (lg.trans l')) (lw0 hi6).2.1.1 (lw0 hi6).2.2.1 (Array.getElem?_eq_getElem hlt)) fun u _ _ q => by cases q; exact all0 _ (Array.getElem_mem hlt)
    · obtain ⟨a, rfl, hl⟩ := p
      exact ⟨a, _, rfl, hl, rfl, fun _ _ e => e, trivial⟩
    · obtain ⟨x, tx, rfl⟩ := hi x (pick_mem (Array.mem_of_getElem? hx))
      exact Tr.mono (ev_mod (ev_locI n' hm') ev_int (by decide)) fun _ _ _ p => ⟨_, p⟩
    · obtain ⟨D, ys, vs, rfl, _, hl, _, _, _, hF⟩ := p
      exact ⟨D, ys, rfl, hl, all_of_paired hF fun _ _ e => e⟩
    · exact stbMade
  have sz1 : ys1.size = 6 := by rw [← Array.length_toList, ← paired_len hF1, filter_true, hlen1]; rfl
  have all1 : AllInts ys1 := all_of_paired hF1 fun _ _ e => e
  have O4 : offs L h h4 := O3.trans (offs.of o4 (.inl rfl))
  have N4 : h4.Ns L _ := F4.ns
  have C24 : h4.IsCell (L + 2) (some (.ref D0)) := offC o4 C2 (ne N3 C2)
  have C34 : h4.IsCell (L + 3) none := offC o4 C3 (ne N3 C3)
  have C44 : h4.IsCell (L + 4) none := offC o4 C4 (ne N3 C4)
  -- signs
  have pickI : ∀ {lo hi' st : Option Int} {j : Nat} {x : Value}, (slicePick ys1 lo hi' st)[j]? = some x → ∃ n t, x = .int n t := fun e => all1 _ (pick_mem (Array.mem_of_getElem? e))
  have psz : ∀ lo hi' st, (slicePick ys1 lo hi' st).size ≤ sizeLine := fun lo hi' st => Nat.le_trans (slicePick_size_le ..) (by rw [sz1]; decide)
  refine x_setC (hs := rfl) (hk := rfl) (hl := rfl) (hc := rfl) N4 C34 (ev_comp (hkind := rfl) (hx := rfl) (fun _ => true) (SgA 4) (it_made (S := fun _ => True) (n := (slicePick ys1 none (some 3) none).size) (PI := fun j v => (slicePick ys1 none (some 3) none)[j]? = some v) hh
    (ev_pick_u (ev_loc N4 rfl) hD1 (by rw [sz1]; decide) ev_int) fun v h' l' ⟨a, e, hl⟩ => ⟨a, _, e, hl, rfl, fun _ _ e => e, trivial⟩) (psz _ _ _) rfl (fun _ _ _ _ _ _ _ _ _ => tests0) fun C j x g m hx _ lg n hm => ?_) fun v h5 h6 tk6 l5 p5 o6 C36 N6 => ?_
  · obtain ⟨x, tx, rfl⟩ := pickI hx
    have r := fmod_range x (show (0 : Int) < 4 by decide)
    exact Tr.mono (ev_itemS (x := "<>*/") ev_str (ev_mod (ev_locI n hm) ev_int (by decide)) r.1 r.2 (lw7 r).2.2) fun _ _ _ ⟨u, e⟩ => ⟨(x.fmod 4).toNat, u, (lw7 r).1, by rw [e, item4 r.1 r.2]⟩
  obtain ⟨D2, ys2, vs2, rfl, _, hl2, hp2, hlen2, _, hF2⟩ := p5
  have O6 : offs L h h6 := O4.trans ((offs.le l5).trans (offs.of o6 (.inr (.inr (.inl rfl)))))
  have D26 : h6.PlainList D2 ys2 := offP o6 hp2 (ne_cell hl2 (Cell_le C34 l5))
  have D16 : h6.IsList D1 ys1 := offLs o6 (List_le hD1 l5) (ne_cell (List_le hD1 l5) (Cell_le C34 l5))
  have C46 : h6.IsCell (L + 4) none := offC o6 (Cell_le C44 l5) (add_ne L (by decide))
  have sz2 : ys2.size = 3 := by
    rw [← Array.length_toList, ← paired_len hF2, filter_true, hlen2, pick_up3 sz1]
  refine x_setC (hs := rfl) (hk := rfl) (hl := rfl) (hc := rfl) N6 C36 (ev_catL (ev_cell C36 rfl) D26 (ev_comp (hkind := rfl) (hx := rfl) (fun _ => true) (SgA 5) (it_made (S := fun _ => True) (n := (slicePick ys1 (some 3) none none).size) (PI := fun j v => (slicePick ys1 (some 3) none none)[j]? = some v) hh
    (ev_pick_l (ev_loc N6 rfl) D16 (by rw [sz1]; decide) ev_int) fun v h' l' ⟨a, e, hl⟩ => ⟨a, _, e, hl, rfl, fun _ _ e => e, trivial⟩) (psz _ _ _) rfl (fun _ _ _ _ _ _ _ _ _ => tests0) fun C j x g m hx _ lg n hm => ?_)
    stbMade (fun v h' ⟨D, ys, vs, e, a, b, c, hl, _, hF⟩ => ⟨D, e, ys, c, ?_⟩) (by rw [sz2]; decide)) fun v h7 h8 tk8 l7 p7 o8 C38 N8 => ?_
  · obtain ⟨x, tx, rfl⟩ := pickI hx
    have r := fmod_range (x.fdiv 4) (show (0 : Int) < 4 by decide)
    exact ev_if (te_gt (ev_mod (ev_locI n hm) ev_int (by decide)) ev_int) (fun _ => Tr.mono ev_str fun _ _ _ ⟨u, e⟩ => ⟨4, u, by decide, e⟩) fun _ =>
      Tr.mono (ev_itemS (x := "<>*/") ev_str (ev_mod (ev_fdiv (ev_locI n hm) ev_int (by decide) (by decide)) ev_int (by decide)) r.1 r.2 (lw7 r).2.2) fun _ _ _ ⟨u, e⟩ => ⟨((x.fdiv 4).fmod 4).toNat, u, (lw7 r).2.1, by rw [e, item4 r.1 r.2]⟩
  · rw [← Array.length_toList, ← paired_len hF, filter_true, hl]
    exact Nat.le_trans (slicePick_size_le ..) (by rw [sz1]; decide)
  obtain ⟨D3, D3', ys3, rfl, ⟨_, ys3', vs3, e3, _, hl3, _, hlen3, _, hF3⟩, hp3, hcat⟩ := p7
  cases e3
  have e3 : ys3' = ys3 := by
    obtain ⟨n3, e⟩ := hp3
    obtain ⟨o, e', _, _, d'⟩ := hl3
    rw [e] at e'; cases e'; cases d'; rfl
  subst e3
  have sz3 : ys3'.size = 3 := by
    rw [← Array.length_toList, ← paired_len hF3, filter_true, hlen3, pick_lo3 sz1]
  obtain ⟨k1, kl1, km1, kg1⟩ := sg_of hF2
  obtain ⟨k2, kl2, km2, kg2⟩ := sg_of hF3
  have e2 : ys2.toList.length = 3 := (Array.length_toList ..).trans sz2
  have e3 : ys3'.toList.length = 3 := (Array.length_toList ..).trans sz3
  rw [e2] at kl1 kg1; rw [e3] at kl2 kg2
  obtain ⟨lo3, in6⟩ := sg_six (b1 := 4) (by decide) e2 kl1 kl2 km1 km2 kg1 kg2
  have c5 : ∀ i : Int, 0 ≤ i → i < 6 → (fun i : Int => (k1 ++ k2).getD i.toNat 0) i < 5 := fun i a b => (in6 i a b).1
  have lo3 : ∀ i : Int, 0 ≤ i → i < 3 → (fun i : Int => (k1 ++ k2).getD i.toNat 0) i < 4 := lo3
  have SG : Sgn (fun i : Int => (k1 ++ k2).getD i.toNat 0) (.ref D3) h8 := ⟨D3, _, rfl, offLs o8 hcat (ne_cell hcat (Cell_le C36 l7)), in6⟩
  generalize (fun i : Int => (k1 ++ k2).getD i.toNat 0) = c at c5 lo3 SG
  clear in6 kg1 kg2 km1 km2 kl1 kl2
  have O8 : offs L h h8 := O6.trans ((offs.le l7).trans (offs.of o8 (.inr (.inr (.inl rfl)))))
  have D18 : h8.IsList D1 ys1 := offLs o8 (List_le D16 l7) (ne_cell (List_le D16 l7) (Cell_le C36 l7))
  have C48 : h8.IsCell (L + 4) none := offC o8 (Cell_le C46 l7) (add_ne L (by decide))
  -- step
  obtain ⟨Ts, hTs⟩ := sum_all w (D := D1) all1
  refine x_setC (hs := rfl) (hk := rfl) (hl := rfl) (hc := rfl) (P := isI (1 + Ts.fmod 9)) N8 C48 (ev_add ev_int (ev_mod (ev_callB (ev_bi G (gA O8) rfl rfl) (evs_cons (ev_loc N8 rfl) evs_nil stbV) fun vs h' l' ⟨_, _, e1, e2, e3⟩ => ?_) ev_int (by decide))) fun v h9 h10 tk10 l9 p9 o10 C40 N10 => ?_
  · cases e2; subst e3 e1
    exact hTs hh (List_le D18 l')
  obtain ⟨tst, rfl⟩ := p9
  have r9 := fmod_range Ts (show (0 : Int) < 9 by decide)
  have hst := lw9 r9
  generalize 1 + Ts.fmod 9 = st at hst C40
  have O10 : offs L h h10 := O8.trans ((offs.le l9).trans (offs.of o10 (.inr (.inr (.inr rfl)))))
  have S10 : Sgn c (.ref D3) h10 := offSg (v' := .none) o10 (stbG _ _ _ l9 SG) (Cell_le C48 l9)
  have C30 : h10.IsCell (L + 3) (some (.ref D3)) := offC o10 (Cell_le C38 l9) (add_ne L (by decide))
  -- rows
  refine x_compC (hsw := rfl) (hkind := rfl) (hy := rfl) (hp := rfl) (w := w) (R := off L h10) (fun i its => ∀ j : Int, 0 ≤ j → j < 6 → ∃ t, its[j.toNat]? = some (.int (Wb c st i j) t)) ⟨N10, fun _ _ _ e => e⟩ (oR _) (it_lt (it_range1 (hg := rfl) (hb := rfl) (hk := rfl) (hl := rfl) (hs := rfl) (N := 6) G (gA O10) hh ev_int (by decide))) (by decide) rfl (fun C i v g hi hP lg hc => ?_) fun D4 h11 tk11 ys F11 hD4 o11 ⟨szr, rows⟩ => ?_
  · obtain ⟨hi6, t, rfl⟩ := hP
    have hi6 : i < 6 := hi6
    have Og : offs L h g := O10.trans (offs.le lg)
    refine Tr.mono (ev_comp (hkind := rfl) (hx := rfl) (fun _ => true) (fun v y => ∀ x t, v = .int x t → ∃ u, y = .int (Wb c st i x) u) (it_lt (it_range1 (hg := rfl) (hb := rfl) (hk := rfl) (hl := rfl) (hs := rfl) (N := 6) G (gA Og) hh ev_int (by decide))) (by decide) rfl (fun _ _ _ _ _ _ _ _ _ => tests0) (fun C' j x g' m' hx _ lg' n' hm' => ?_)) fun v h' l ⟨D, ys, vs, e, nD, hl, _, hlen, hPj, hF⟩ => ⟨D, ys, e, nD, hl, fun j h0 h6 => ?_⟩
    · obtain ⟨hj6, t', rfl⟩ := hx
      have hj6 : j < 6 := hj6
      have Og' : offs L h g' := Og.trans (offs.le lg')
      refine Tr.mono (ev_call (P := isI (Wt c st (0 + (i : Int) * 1) (0 + (j : Int) * 1))) (ev_glob G (gA Og') rfl) ((gA Og') _ _ (G.X _ _ rfl)) rfl (evs_cons (ev_cell (Cell_le C30 (lg.trans lg')) rfl) (evs_cons (ev_cell (Cell_le hc lg') rfl) (evs_cons (ev_locI n' hm') (evs_cons (ev_cell (Cell_le C40 (lg.trans lg')) rfl) evs_nil stbV) stbI) stbV) stbV) ?_) fun y _ _ p x u e => ?_
      · rintro vs h'' l'' ⟨_, _, rfl, rfl, _, _, rfl, rfl, _, _, rfl, ⟨_, rfl⟩, _, _, rfl, rfl, rfl⟩
        exact weight_spec (A := A.deeper _) G ((gA Og').trans l'') (dle (j := 2) hroom rfl) (stbG _ _ _ (lg.trans (lg'.trans l'')) S10) (lw6 hst).1 (lw0 hi6).2.1 (lw0 hj6).2.1
      · cases e
        rw [wb_in (lw8 i ▸ (lw0 hi6).2.1) (lw0 hj6).2.1, lw8 i]
        exact p
    · rw [filter_true] at hF
      obtain ⟨v', ev⟩ : ∃ v', vs[j.toNat]? = some v' := ⟨_, List.getElem?_eq_getElem (show j.toNat < vs.length by rw [hlen]; exact (lw3 h0 h6).1)⟩
      obtain ⟨_, t', rfl⟩ := hPj _ _ ev
      obtain ⟨y, ey, f⟩ := paired_get hF ev
      obtain ⟨u, rfl⟩ := f _ _ rfl
      rw [Array.getElem?_toList] at ey
      exact ⟨u, by rw [ey, (lw3 h0 h6).2]⟩
  have N11 : h11.Ns L _ := F11.ns
  have O11 : offs L h h11 := O10.trans (offs.of o11 (.inl rfl))
  have M11 : Mat (Wb c st) (.ref D4) h11 := ⟨D4, ys, rfl, hD4, fun i h0 h1 => by
    obtain ⟨Tr', its, e, hl, g⟩ := rows i.toNat (lw3 h0 h1).1
    exact ⟨Tr', its, e, hl, fun j a b => by have := g j a b; rwa [Int.toNat_of_nonneg h0] at this⟩⟩
  have C31 := offC o11 C30 (ne N10 C30)
  have C41 := offC o11 C40 (ne N10 C40)
  have S11 := offSN o11 S10 N10
  -- due, asked
  refine x_int (R := off L h11) (i := pfW (Wb c st)) ⟨N11, fun _ _ _ e => e⟩ (oR _) (Tr.mono (ev_call (P := isI (totW c st (stageW 3))) (ev_glob G (gA O11) rfl) ((gA O11) _ _ (G.X _ _ rfl)) rfl (evs_cons (ev_cell C31 rfl) (evs_cons (ev_cell C41 rfl) evs_nil stbV) stbV) ?_) fun _ _ _ p => ?_) fun td h12 tk12 F12 => ?_
  · rintro vs h' l' ⟨_, _, rfl, rfl, _, _, rfl, rfl, rfl⟩
    exact all_spec (A := A.deeper _) G ((gA O11).trans l') (dle (j := 3) hroom rfl) hh (stbG _ _ _ l' S11) (lw6 hst).1 words_ok words_len words_do pats_do
  · rw [pf_wb, ← tot_pf (lw6 hst).1 fun i hi => c5 i (Int.natCast_nonneg _) (Int.ofNat_lt.mpr hi)]; exact p
  refine x_int F12 (oR _) ev_int fun tz h13 tk13 F13 => ?_
  have N13 : h13.Ns L _ := F13.ns
  have O13 : offs L h h13 := O11.trans (offs.of F13.r (.inl rfl))
  have M13 : Mat (Wb c st) (.ref D4) h13 := offMN F13.r M11 N11
  have T13 : TabOK h13 := keepT T (fun b => b = L ∨ b = L + 2 ∨ b = L + 3 ∨ b = L + 4) (fun b hb => by
    rcases hb with rfl | rfl | rfl | rfl
    · exact ns_plain N
    · exact cell_plain c2
    · exact cell_plain c3
    · exact cell_plain c4) fun b o n e => O13 b o (fun q => n (.inl q)) (fun q => n (.inr (.inl q))) (fun q => n (.inr (.inr (.inl q)))) (fun q => n (.inr (.inr (.inr q)))) e
  clear C24 C34 C44 C46 C48 C36 C38 C40 C30 C31 C41 C2 C3 C4 D03 D16 D18 D26 S10 S11 SG M11 rows hcat
  have hW : ∀ i j, (Wb c st i j).natAbs < 1000 := wb_small (lw6 hst).2 c5
  obtain ⟨io, jo, hio, hjo, hpo⟩ := some_wb hst lo3 c5
  have anti : ∀ i j, j < i → Wb c st i j = - Wb c st j i := wb_anti
  generalize Wb c st = W at hW hpo M13 anti N13 F13
  have gB : ∀ {x}, offT L h13 x → le H x := fun k b o e => k b o (fun q => by have := fr 0 (by decide); rw [Nat.add_zero, ← q, e] at this; cases this) (fun q => by rw [q, G.h37] at e; cases e) (fun q => by rw [q, G.h44] at e; cases e) (gA O13 b o e)
  refine x_forT (hx := rfl) (hp := rfl) (it_lt (it_range1 (hg := rfl) (hb := rfl) (hk := rfl) (hl := rfl) (hs := rfl) (N := 6) G (gA O13) hh ev_int (by decide))) N13 T13 (JL1 W D4 td)
    ⟨0, tz, rfl, rfl, rfl, by decide, fun i' _ q => absurd q (Nat.not_lt_zero _)⟩ ?_ ?_
  · rintro i v m g tk14 hi ⟨_, t, rfl⟩ ⟨a, ta, m1, m2, m3, a0, ha⟩ Tg Ng kb
    have hi : i < 6 := hi
    refine x_forT (hx := rfl) (hp := rfl) (it_lt (it_range2 (hg := rfl) (hb := rfl) (hk := rfl) (hl := rfl) (hs := rfl) (hs' := rfl) (hs2 := rfl) (M := 0 + (i : Int) * 1 + 1) (N := 6) G (gB kb) hh (ev_add (ev_locI Ng rfl) ev_int) ev_int (lw0 hi).2.2.2 (by decide))) Ng Tg
      (JL2 W D4 td t i)
      ⟨a, ta, m1, m2, m3, rfl, a0, ha, fun j' q1 q2 => absurd q2 (Nat.not_lt.mpr q1)⟩ ?_ ?_
    · rintro k v m' g' tk15 hk ⟨_, t', rfl⟩ ⟨a', ta', q1, q2, q3, q4, b0, hb, hc⟩ Tg' Ng' kb'
      have hk : k < (6 - (0 + (i : Int) * 1 + 1)).toNat := hk
      have ok := kb.trans kb'
      have M' : Mat W (.ref D4) g' := offTM ok T13 N13 M13
      have ei : (0 + (i : Int) * 1) = (i : Int) := (lw8 i).symm
      have ej := lw2b i k
      obtain ⟨nij, nj6⟩ := lw2 hk
      have q4' := q4
      rw [ei] at q4
      rw [ej] at Ng'
      generalize hJ : i + 1 + k = j at Ng' nij nj6
      obtain ⟨r1, r2, w1, w2⟩ := lw2c nij nj6
      have hij : (i : Int) < j := Int.ofNat_lt.mpr nij
      have hj6 := r2.2
      have J' : ∀ {x : Int}, 0 ≤ x → a' ≤ x → (0 < W i j → 0 < x) → 0 ≤ x ∧ (∀ i' j' : Nat, i' < i → i' < j' → j' < 6 → 0 < W i' j' → 0 < x) ∧ ∀ j' : Nat, i < j' → j' < i + 1 + (k + 1) → 0 < W i j' → 0 < x := fun x0 le hx =>
        ⟨x0, fun i' j' a b c d => Int.lt_of_lt_of_le (hb i' j' a b c d) le, fun j' a b d => by
          by_cases e : j' = j
          · subst e; exact hx d
          · exact Int.lt_of_lt_of_le (hc j' a (lw10 b (fun q => e (q.trans hJ))) d) le⟩
      refine x_ifU (te_gt (ev_mat (ev_locP Ng' q2 M' stbM) (ev_locI Ng' q4) (ev_locI Ng' rfl) r1 r2) ev_int) (fun e h15 tk16 l15 => ?_) fun e h15 tk16 l15 => ?_
      · have e : 0 < W i j := of_decide_eq_true e
        have N15 := Ns_le Ng' l15
        have M15 := stbM _ _ _ l15 M'
        have g15 := (gB ok).trans l15
        have T15 := Tg'.le l15
        have dv := div_out e (tanner W anti r1.1 hij hj6)
        refine x_unpack2T (h1 := rfl) (h2 := rfl) (ka := rfl) (kb := rfl) (hp := rfl) (a := (byOne W i j).fdiv (W i j)) (b := (byOne W i j).fmod (W i j)) hh N15 T15 (ev_callT (ev_glob G g15 rfl) (g15 _ _ (G.X _ _ rfl)) rfl (evs_cons (ev_call (P := isI (byOne W i j)) (ev_glob G g15 rfl) (g15 _ _ (G.X _ _ rfl)) rfl (evs_cons (ev_locP N15 q2 M15 stbM) (evs_cons (ev_locI N15 q4) (evs_cons (ev_locI N15 rfl) evs_nil stbI) stbI) stbM) ?_)
          (evs_cons (ev_mat (ev_locP N15 q2 M15 stbM) (ev_locI N15 q4) (ev_locI N15 rfl) r1 r2) evs_nil stbI) stbI) ?_) fun tq tr h16 h17 tk17 l16 T16 o17 N17 => ?_
        · rintro vs h'' l'' ⟨_, _, rfl, M'', _, _, rfl, ⟨_, rfl⟩, _, _, rfl, ⟨_, rfl⟩, rfl⟩
          exact by_spec (A := A.deeper _) G (g15.trans l'') (dle (j := 2) hroom rfl) hh hW M'' r1.1 hij hj6
        · rintro vs h'' l'' ⟨_, _, rfl, ⟨_, rfl⟩, _, _, rfl, ⟨_, rfl⟩, rfl⟩
          exact idm_spec (A := A.deeper _) G (g15.trans l'') (dle (j := 215) hroom rfl) hh (by_small hW r1.1 hij hj6) e (lw11 (hW i j))
        rw [dv.1, dv.2] at N17
        have N16 := Ns_leT T15 N15 l16
        have T17 := T16.off N16 o17
        have ok17 : offT L g' h17 := (offT.le l15).trans fun b o n1 n2 n3 e => o17 b o n1 (l16 b o n2 n3 e)
        have g17 := gB (ok.trans ok17)
        refine x_ifU (b := false) (TrB.eq (te_or (te_isNotTrue (b := true) (ev_call (ev_glob G g17 rfl) (g17 _ _ (G.X _ _ rfl)) rfl (evs_cons (ev_locI N17 rfl) evs_nil stbI) ?_)) fun _ => te_ne (ev_locI N17 rfl) (ev_mulR (ev_locI N17 q3) (ev_pow (ev_neg ev_int) (ev_sub (ev_sub (ev_locI N17 rfl) (ev_locI N17 q4)) ev_int) w1 w2 (by decide)) (sign_small _))) ?_) (fun e => by cases e) fun _ h18 tk18 l18 => ?_
        · rintro vs h'' l'' ⟨_, _, rfl, ⟨_, rfl⟩, rfl⟩
          exact iseof_spec (A := A.deeper _) G (g17.trans l'') (dle (j := 1) hroom rfl)
        · show (pfW W * (-1) ^ ((j : Int) - i - 1).toNat != pfW W * (-1) ^ ((j : Int) - i - 1).toNat) = false
          exact bne_self_eq_false _
        · refine x_nil ?_
          have o18 : Off L (fun x => TabOK x ∧ offT L g' x) := off_and off_tab fun _ _ _ k r b o n1 n2 n3 e => k b o n1 (r b o n1 n2 n3 e)
          refine x_iadd (R := fun x => TabOK x ∧ offT L g' x) ⟨Ns_le N17 l18, T17.le l18, ok17.trans (offT.le l18)⟩ o18 q1 ev_int fun t19 h19 tk19 F19 => ?_
          have j1 := J' (lw12 (x := 0) b0).1 (lw12 (x := 0) b0).2.1 fun _ => (lw12 (x := 0) b0).2.2
          exact x_nil (x_nil ⟨_, h19, tk19, rfl, F19.ns, ⟨a' + 1, t19, rfl, q2, q3, q4', j1.1, j1.2.1, j1.2.2⟩, F19.r.1, F19.r.2⟩)
      · exact x_nil (x_nil ⟨_, h15, tk16, rfl, Ns_le Ng' l15, ⟨a', ta', q1, q2, q3, q4', (J' b0 (Int.le_refl _) fun q => absurd q (of_decide_eq_false e)).1, (J' b0 (Int.le_refl _) fun q => absurd q (of_decide_eq_false e)).2.1, (J' b0 (Int.le_refl _) fun q => absurd q (of_decide_eq_false e)).2.2⟩, Tg'.le l15, offT.le l15⟩)
    · rintro m' g' tk15 ⟨a', ta', q1, q2, q3, q4, b0, hb, hc⟩ Tg' Ng' kb'
      refine x_nil ⟨m', g', tk15, rfl, Ng', ⟨a', ta', q1, q2, q3, b0, fun i' j' p1 p2 p3 p4 => ?_⟩, Tg', kb'⟩
      by_cases e : i' = i
      · subst e; exact hc j' p2 (lw1 p3 (Nat.lt_trans p2 p3)) p4
      · exact hb i' j' (Nat.lt_of_le_of_ne (Nat.le_of_lt_succ p1) e) p2 p3 p4
  · rintro m g tk14 ⟨a, ta, m1, m2, m3, a0, ha⟩ Tg Ng kb
    have pos : 0 < a := ha io jo (Nat.lt_trans hio hjo) hio hjo hpo
    refine x_retU (P := isB true) (Tr.mono (ev_ii (ev_locI Ng m1) ev_int fun _ _ _ => tr_gt) fun _ _ _ p => by rw [decide_eq_true pos] at p; exact p) fun v h15 tk15 l15 p => ?_
    cases p
    exact ⟨h15, tk15, rfl, rfl, Tg.le l15, fun b o n1 n2 n3 n4 n5 n6 e => l15 b o (kb b o n1 n5 n6 (O13 b o n1 n2 n3 n4 e))⟩
end
end
end Mine

namespace Mine
set_option maxRecDepth 100000
set_option maxHeartbeats 8000000
noncomputable section

noncomputable abbrev ghostL (h : Heap) : Heap := ghostOf h [(48, 44), (41, 37)]
theorem fin_go {w : World} {s₁ : Shared} {mg mb : Str → Option Value} {loose : List Str} {mean : ExcName → Option Value} {h₁ : Heap} {tk : Nat} {fa S : Addr} {cd : Value} {m : Str → Option Value} {xs : List Int} {as : List Value} {o1 o2 o3 o4 : Obj}
    {Q : Flow → Shared → Prop} {E : Value → Shared → Prop} (X : (KK w).In (ghostL s₁.heap)) (T : Top topProg loose mean mg mb (ghostL s₁.heap)) (F : Fr (ghostL s₁.heap) s₁.heap.objs.size h₁ m)
    (hl : (ghostL s₁.heap).IsList S as.toArray) (hi : IntsAre as xs) (hn : xs.length ≤ 63) (k44 : CodeHd (ghostL s₁.heap) 48 44) (k37 : CodeHd (ghostL s₁.heap) 41 37)
    (N : News (ghostL s₁.heap) s₁.heap.objs.size h₁ [(s₁.heap.objs.size + 1 + 1 + 1 + 1, o4), (s₁.heap.objs.size + 1 + 1 + 1, o3), (s₁.heap.objs.size + 1 + 1, o2), (s₁.heap.objs.size + 1, o1), (44, tabObj #[]), (37, tabObj #[])])
    (d4 : o4.data = .cell none) (d3 : o3.data = .cell none) (d2 : o2.data = .cell none) (d1 : o1.data = .cell (some (.ref S)))
    (q : ∀ h' tk', (∀ b o, (ghostL s₁.heap).get? b = some o → h'.get? b = some o) → GrownAll [(48, 44), (41, 37)] h' → Q (.ret (.bool true)) ⟨h', s₁.gens, s₁.drawn, tk', s₁.os⟩) :
    wpAny (model PR w) (callerA.deeper (envOfC (fdAt w 109).name (fdAt w 109).scope s₁.heap.objs.size fa cd)) (execs (bodyAt w 109) (envOfC (fdAt w 109).name (fdAt w 109).scope s₁.heap.objs.size fa cd)) Q E ⟨h₁, s₁.gens, s₁.drawn, tk, s₁.os⟩ := by
  have n44 : (ghostL s₁.heap).get? 44 = none := (N (44, tabObj #[]) (.tail _ (.tail _ (.tail _ (.tail _ (.head _)))))).2.2
  have n37 : (ghostL s₁.heap).get? 37 = none := (N (37, tabObj #[]) (.tail _ (.tail _ (.tail _ (.tail _ (.tail _ (.head _))))))).2.2
  have G : Gd w mg mb (ghostL s₁.heap) := ⟨X, T.g, T.b, T.nolimit, T.builtins, T.bmain, k37, k44, n37, n44⟩
  have above : ∀ k b o, (ghostL s₁.heap).get? b = some o → b ≠ s₁.heap.objs.size + k := fun k b o e => Nat.ne_of_lt (Nat.lt_of_lt_of_le (Heap.lt_size e) (Nat.le_trans F.above (Nat.le_add_right _ _)))
  have c1 : h₁.IsCell (s₁.heap.objs.size + 1) (some (.ref S)) := ⟨o1, (N (_, o1) (.tail _ (.tail _ (.tail _ (.head _))))).1, d1⟩
  have c2 : h₁.IsCell (s₁.heap.objs.size + 2) none := ⟨o2, (N (_, o2) (.tail _ (.tail _ (.head _)))).1, d2⟩
  have c3 : h₁.IsCell (s₁.heap.objs.size + 3) none := ⟨o3, (N (_, o3) (.tail _ (.head _))).1, d3⟩
  have c4 : h₁.IsCell (s₁.heap.objs.size + 4) none := ⟨o4, (N (_, o4) (.head _)).1, d4⟩
  have T0 : TabOK h₁ := ⟨⟨#[], (N (37, tabObj #[]) (.tail _ (.tail _ (.tail _ (.tail _ (.tail _ (.head _))))))).1, .inl rfl⟩, ⟨#[], (N (44, tabObj #[]) (.tail _ (.tail _ (.tail _ (.tail _ (.head _)))))).1, .inl rfl⟩⟩
  have hlen : as.length = xs.length := hi.length
  refine wpAny_mono (law_go (s := s₁) (tk := tk) (A := callerA) (cd := cd) (fa := fa) G (by decide) rfl F.keep T0 F.ns (fun k _ => fresh_none _ (Nat.le_trans F.above (Nat.le_add_right _ _))) c1 c2 c3 c4 (List_le hl F.keep) hi.allInts (by show as.length ≤ 100; rw [hlen]; exact Nat.le_trans hn (by decide))) (fun f s' ⟨h', tk', e1, e2, T', kp⟩ => ?_) fun _ _ e => e.elim
  subst e1 e2
  refine q h' tk' (fun b o e => kp b o (above 0 b o e) (above 2 b o e) (above 3 b o e) (above 4 b o e) (fun q => by rw [q, n37] at e; cases e) (fun q => by rw [q, n44] at e; cases e) (F.keep b o e)) ⟨?_, ?_, trivial⟩
  · obtain ⟨ps, e, _⟩ := T'.2; exact ⟨ps, e⟩
  · obtain ⟨ps, e, _⟩ := T'.1; exact ⟨ps, e⟩
end
end Mine
set_option maxRecDepth 100000 in
set_option maxHeartbeats 8000000 in
theorem PySem.Challenge.cw_qu0054_01_holds : PySem.Challenge.rw_qu0054_01.Holds :=
  Mine.hd (by
    k_go0
    rename_i hI hr hn hn2 hD h₁ tk₁ o4 o3 o2 o1 d4 d3 d2 d1 X0 X' T' K' F' ck N' l0
    refine Mine.fin_go X' T' F' lifted hI (by omega) (by assumption) (by assumption) N' (d4.trans (by rfl)) (d3.trans (by rfl)) (d2.trans (by rfl)) (d1.trans (by rfl)) fun h' tk' keep grown => ?_
    refine ⟨⟨.inl ⟨.bool true, .bool true, [], rfl, fun _ => rfl, .bool true, ?_, fun _ => ⟨List.nodup_nil, nofun⟩⟩, keep, rfl, ?_⟩, grown⟩
    · first | kernel_rfl | exact Eq.refl true
    · assumption)
