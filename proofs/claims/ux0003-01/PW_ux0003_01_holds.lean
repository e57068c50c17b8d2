import PyProof.Rows.All
import Wide.All
import OpenK.AllK
import Wide.FinOn
import PySem.Challenge.RW_ux0003_01
set_option linter.all false
set_option Elab.async false
section
open PySem PySem.W PyProof.Rows PySem.Calls
namespace Mine
abbrev prog : Program := PySem.Challenge.pw_ux0003_01

/-- scalars -/
inductive Sc where
  | none
  | bool (b : Bool)
  | int (i : Int)
  | str (x : Str)
def Sc.Is : Value → Sc → Prop
  | .none, .none => True
  | .bool b, .bool c => b = c
  | .int i _, .int j => i = j
  | .str x _, .str y => x = y
  | _, _ => False
theorem is_none {v : Value} (h : Sc.Is v .none) : v = .none := by cases v <;> first | rfl | cases h
theorem is_bool {v : Value} {b : Bool} (h : Sc.Is v (.bool b)) : v = .bool b := by cases v <;> (cases h; try rfl)
theorem is_int {v : Value} {i : Int} (h : Sc.Is v (.int i)) : ∃ t, v = .int i t := by cases v <;> (cases h; try exact ⟨_, rfl⟩)
theorem is_str {v : Value} {x : Str} (h : Sc.Is v (.str x)) : ∃ t, v = .str x t := by cases v <;> (cases h; try exact ⟨_, rfl⟩)

/-- data -/
inductive D where
  | sc (x : Sc)
  | ints (ns : List Int)
  | strs (ys : List Str)
  | pair (a b : D)
  | key
  | ownI (ns : List Int)
  | ownS (ys : List Str)

abbrev D.int (i : Int) : D := .sc (.int i)
abbrev D.str (x : Str) : D := .sc (.str x)
abbrev D.bool (b : Bool) : D := .sc (.bool b)

/-- the code table of _law_place: the one object of the top that the call turns -/
abbrev P0 : Addr := 106
def lamQual : Str := "_law_place.<locals>.<lambda>"
def Tab (h : Heap) : Prop := ∃ ps, h.get? P0 = some (tabObj ps) ∧ TriplesOk ps.toList ∧ ∀ pos cv, codeAmong pos ps.toList = some cv → ∃ c, cv = .ref c ∧ h.CodeRec cv lamQual

/-- what lies below lo is kept, but the table -/
def KeptBelow (lo : Nat) (h h' : Heap) : Prop := (∀ b o, b < lo → b ≠ P0 → h.get? b = some o → h'.get? b = some o) ∧ (Tab h → Tab h')
def KpH (h h' : Heap) : Prop := (∀ b o, b ≠ P0 → h.get? b = some o → h'.get? b = some o) ∧ (Tab h → Tab h')
def Kp (s s' : Shared) : Prop := ∃ h' tk, s' = { s with heap := h', toks := tk } ∧ KpH s.heap h'
def KpL (lo : Nat) (s s' : Shared) : Prop := ∃ h' tk, s' = { s with heap := h', toks := tk } ∧ KeptBelow lo s.heap h'

theorem tab_of_keeps {h h' : Heap} (hk : ∀ b o, h.get? b = some o → h'.get? b = some o) (t : Tab h) : Tab h' :=
  let ⟨ps, a, b, c⟩ := t; ⟨ps, hk _ _ a, b, fun pos cv e => let ⟨d, e1, e2⟩ := c pos cv e; ⟨d, e1, e2.keeps hk⟩⟩
theorem KpH.refl (h : Heap) : KpH h h := ⟨fun _ _ _ e => e, id⟩
theorem KpH.trans {a b c : Heap} (x : KpH a b) (y : KpH b c) : KpH a c := ⟨fun q o n e => y.1 q o n (x.1 q o n e), fun t => y.2 (x.2 t)⟩
theorem KpH.of_keeps {h h' : Heap} (hk : ∀ b o, h.get? b = some o → h'.get? b = some o) : KpH h h' := ⟨fun b o _ e => hk b o e, tab_of_keeps hk⟩
theorem KpH.below {lo : Nat} {h h' : Heap} (x : KpH h h') : KeptBelow lo h h' := ⟨fun b o _ n e => x.1 b o n e, x.2⟩
theorem KeptBelow.trans {lo : Nat} {a b c : Heap} (x : KeptBelow lo a b) (y : KeptBelow lo b c) : KeptBelow lo a c := ⟨fun q o l n e => y.1 q o l n (x.1 q o l n e), fun t => y.2 (x.2 t)⟩
theorem KeptBelow.mono {lo lo' : Nat} {a b : Heap} (x : KeptBelow lo a b) (h : lo' ≤ lo) : KeptBelow lo' a b := ⟨fun q o l n e => x.1 q o (Nat.lt_of_lt_of_le l h) n e, x.2⟩
theorem Kp.refl (s : Shared) : Kp s s := ⟨s.heap, s.toks, rfl, .refl _⟩
theorem Kp.trans {a b c : Shared} (x : Kp a b) (y : Kp b c) : Kp a c := by
  obtain ⟨h1, t1, rfl, k1⟩ := x
  obtain ⟨h2, t2, rfl, k2⟩ := y
  exact ⟨h2, t2, rfl, k1.trans k2⟩
theorem Kp.of_keeps {s s' : Shared} (x : Keeps s s') : Kp s s' := by
  obtain ⟨h1, t1, rfl, k1⟩ := x
  exact ⟨h1, t1, rfl, .of_keeps k1⟩
theorem Kp.tok (s : Shared) (t : Nat) : Kp s { s with toks := t } := ⟨s.heap, t, rfl, .refl _⟩
theorem Kp.mk {s : Shared} {h : Heap} {t : Nat} (k : KpH s.heap h) : Kp s { s with heap := h, toks := t } := ⟨h, t, rfl, k⟩
theorem Kp.heap {s s' : Shared} (x : Kp s s') : KpH s.heap s'.heap := by obtain ⟨h, t, rfl, k⟩ := x; exact k
theorem Kp.kpl {lo : Nat} {s s' : Shared} (x : Kp s s') : KpL lo s s' := by obtain ⟨h, t, rfl, k⟩ := x; exact ⟨h, t, rfl, k.below⟩
theorem KpL.trans {lo : Nat} {a b c : Shared} (x : KpL lo a b) (y : KpL lo b c) : KpL lo a c := by
  obtain ⟨h1, t1, rfl, k1⟩ := x
  obtain ⟨h2, t2, rfl, k2⟩ := y
  exact ⟨h2, t2, rfl, k1.trans k2⟩
theorem KpL.refl (lo : Nat) (s : Shared) : KpL lo s s := (Kp.refl s).kpl
theorem KpL.heap {lo : Nat} {s s' : Shared} (x : KpL lo s s') : KeptBelow lo s.heap s'.heap := by obtain ⟨h, t, rfl, k⟩ := x; exact k
theorem Kp.push (s : Shared) (o : Obj) : Kp s { s with heap := s.heap.push o } := ⟨_, s.toks, rfl, .of_keeps fun _ _ e => Heap.get?_push_of_some _ e⟩
theorem Kp.push_tok (s : Shared) (o : Obj) (t : Nat) : Kp s { s with heap := s.heap.push o, toks := t } := ⟨_, t, rfl, .of_keeps fun _ _ e => Heap.get?_push_of_some _ e⟩

/-- what is visible: not hidden (hidden: what somebody may still turn) -/
def Vis (hid : Addr → Prop) (h : Heap) (a : Addr) (o : Obj) : Prop := h.get? a = some o ∧ ¬ hid a

def Rep (key : Value) (V : Addr → Obj → Prop) : Value → D → Prop
  | v, .sc x => Sc.Is v x
  | v, .ints ns => ∃ a o vs n, v = .ref a ∧ V a o ∧ o.cls = .type "list" ∧ o.data = .seq (List.toArray vs) n ∧ IntsAre vs ns
  | v, .strs ys => ∃ a o vs n, v = .ref a ∧ V a o ∧ o.cls = .type "list" ∧ o.data = .seq (List.toArray vs) n ∧ StrsAre vs ys
  | v, .pair x y => ∃ a o p q n, v = .ref a ∧ V a o ∧ o.cls = .type "tuple" ∧ o.data = .seq #[p, q] n ∧ Rep key V p x ∧ Rep key V q y
  | v, .key => v = key
  | _, .ownI _ => False
  | _, .ownS _ => False
theorem Rep.mono {key : Value} {V V' : Addr → Obj → Prop} (hv : ∀ a o, V a o → V' a o) : ∀ {d : D} {v : Value}, Rep key V v d → Rep key V' v d
  | .sc _, _, h => h
  | .ints _, _, ⟨a, o, vs, n, e, x, r⟩ => ⟨a, o, vs, n, e, hv _ _ x, r⟩
  | .strs _, _, ⟨a, o, vs, n, e, x, r⟩ => ⟨a, o, vs, n, e, hv _ _ x, r⟩
  | .pair _ _, _, ⟨a, o, p, q, n, e, x, c, d, r1, r2⟩ => ⟨a, o, p, q, n, e, hv _ _ x, c, d, r1.mono hv, r2.mono hv⟩
  | .key, _, h => h
  | .ownI _, _, h => h.elim
  | .ownS _, _, h => h.elim
theorem vis_kp {hid : Addr → Prop} {h h' : Heap} (k : KpH h h') (h106 : hid P0) : ∀ a o, Vis hid h a o → Vis hid h' a o := fun a o x => ⟨k.1 a o (fun e => x.2 (e ▸ h106)) x.1, x.2⟩
theorem rep_ints {key : Value} {hid : Addr → Prop} {h : Heap} {v : Value} {ns : List Int} (r : Rep key (Vis hid h) v (.ints ns)) : ∃ a vs, v = .ref a ∧ h.IsList a vs.toArray ∧ IntsAre vs ns ∧ ¬ hid a :=
  let ⟨a, o, vs, n, e, x, c, d, i⟩ := r; ⟨a, vs, e, ⟨o, x.1, c, n, d⟩, i, x.2⟩
theorem rep_strs {key : Value} {hid : Addr → Prop} {h : Heap} {v : Value} {ys : List Str} (r : Rep key (Vis hid h) v (.strs ys)) : ∃ a vs, v = .ref a ∧ h.IsList a vs.toArray ∧ StrsAre vs ys ∧ ¬ hid a :=
  let ⟨a, o, vs, n, e, x, c, d, i⟩ := r; ⟨a, vs, e, ⟨o, x.1, c, n, d⟩, i, x.2⟩
theorem ints_rep {key : Value} {hid : Addr → Prop} {h : Heap} {a : Addr} {vs : List Value} {ns : List Int} (hl : h.IsList a vs.toArray) (hi : IntsAre vs ns) (hn : ¬ hid a) : Rep key (Vis hid h) (.ref a) (.ints ns) :=
  let ⟨o, e, c, n, d⟩ := hl; ⟨a, o, vs, n, rfl, ⟨e, hn⟩, c, d, hi⟩
theorem strs_rep {key : Value} {hid : Addr → Prop} {h : Heap} {a : Addr} {vs : List Value} {ys : List Str} (hl : h.IsList a vs.toArray) (hi : StrsAre vs ys) (hn : ¬ hid a) : Rep key (Vis hid h) (.ref a) (.strs ys) :=
  let ⟨o, e, c, n, d⟩ := hl; ⟨a, o, vs, n, rfl, ⟨e, hn⟩, c, d, hi⟩
theorem vis_more {hid hid' : Addr → Prop} {h : Heap} (k : ∀ a, hid' a → hid a) : ∀ a o, Vis hid h a o → Vis hid' h a o := fun a o x => ⟨x.1, fun e => x.2 (k a e)⟩

/-- true: all is kept; false: all but the table -/
def KR (b : Bool) (s s' : Shared) : Prop := match b with | true => Keeps s s' | false => Kp s s'
theorem KR.of_keeps {b : Bool} {s s' : Shared} (x : Keeps s s') : KR b s s' := by cases b; exact Kp.of_keeps x; exact x
theorem KR.kp {b : Bool} {s s' : Shared} (x : KR b s s') : Kp s s' := by cases b; exact x; exact Kp.of_keeps x
theorem KR.trans {b : Bool} {s s' s'' : Shared} (x : KR b s s') (y : KR b s' s'') : KR b s s'' := by
  cases b
  · exact Kp.trans x y
  · obtain ⟨h1, t1, rfl, k1⟩ := x
    obtain ⟨h2, t2, rfl, k2⟩ := y
    exact ⟨h2, t2, rfl, fun b o e => k2 b o (k1 b o e)⟩
theorem keeps_refl (s : Shared) : Keeps s s := ⟨s.heap, s.toks, rfl, fun _ _ e => e⟩
theorem keeps_tok (s : Shared) (t : Nat) : Keeps s { s with toks := t } := ⟨s.heap, t, rfl, fun _ _ e => e⟩
theorem keeps_push (s : Shared) (o : Obj) (t : Nat) : Keeps s { s with heap := s.heap.push o, toks := t } := ⟨_, t, rfl, fun _ _ e => Heap.get?_push_of_some _ e⟩
theorem keeps_mk {s : Shared} {h : Heap} {t : Nat} (k : ∀ b o, s.heap.get? b = some o → h.get? b = some o) : Keeps s { s with heap := h, toks := t } := ⟨h, t, rfl, k⟩
theorem keeps_heap {s s' : Shared} (x : Keeps s s') : ∀ b o, s.heap.get? b = some o → s'.heap.get? b = some o := by obtain ⟨h, t, rfl, k⟩ := x; exact k
theorem KR.refl {b : Bool} (s : Shared) : KR b s s := .of_keeps (keeps_refl s)
theorem KR.tok {b : Bool} (s : Shared) (t : Nat) : KR b s { s with toks := t } := .of_keeps (keeps_tok s t)
theorem KR.heap {b : Bool} {s s' : Shared} (x : KR b s s') : KpH s.heap s'.heap := x.kp.heap

/-- the defs of the text that stand at the top -/
def FnOk (h : Heap) (a : Addr) (params : Arguments) (body : List Stmt) (scope : Scope) (qual : Str) (dV kV : Value) : Prop :=
  ∃ name doc pm an cdv ct o, h.get? a = some o ∧ o.data = .func (fnX name qual params body scope [] dV kV doc pm an cdv ct) ∧ h.CodeRec cdv qual

def globTab : List (Str × Addr) := [("parse257", 46), ("bisect_right", 55), ("bisect_left", 64), ("b1_set", 72), ("in_table_b1", 82), ("_law_signs", 87), ("_law_text", 94), ("_law_told", 99), ("_law_needed", 104), ("_law_place", 111), ("_law_found", 118), ("error_reply", 37)]
def biTab : List Str := ["len", "range", "list", "chr", "ord", "sum", "enumerate", "zip", "str", "min"]
structure Ctx where
  w : World
  key : Value
  lo : Nat
  mg : Str → Option Value
  mb : Str → Option Value
  bb : ∀ x : Str, x ≠ "__name__" → mb x = bootBuiltins x
  gl : ∀ x a, globTab.lookup x = some a → mg x = some (.ref a)
  nobi : ∀ x, biTab.contains x = true → mg x = none
  Md : Heap → Prop
  stable : ∀ h h', KeptBelow lo h h' → Md h → Md h'
  g : ∀ h, Md h → h.Ns mainGlobals mg
  b : ∀ h, Md h → h.Ns builtinsNs mb
  lim : ∀ h, Md h → h.NoLimit
  big : ∀ h, Md h → lo ≤ h.objs.size
  plo : P0 < lo
  tk : Nat
  opn : Addr → Prop
  opx : ∀ h, Md h → ∀ a, opn a → ∃ o, h.get? a = some o

def Calm (n : Nat) (A : Around) : Prop := A.handled = none ∧ A.depth + n < 1000 ∧ A.units + 10 * n < 5000
theorem Calm.less {n m : Nat} {A : Around} (x : Calm n A) (h : m ≤ n) : Calm m A := ⟨x.1, by have := x.2.1; omega, by have := x.2.2; omega⟩

def D.isOwn : D → Bool
  | .ownI _ | .ownS _ => true
  | _ => false

/-- the environment, read -/
structure EnvE (C : Ctx) (hid : Addr → Prop) (env : Env) (ρ : List (Str × D)) (s : Shared) : Prop where
  kind : env.scope.kind = .function
  glob : env.globals = mainGlobals
  bi : env.builtins = builtinsNs
  tok : C.tk ≤ s.toks
  md : C.Md s.heap
  tab : Tab s.heap
  h106 : hid P0
  hin : ∀ a, hid a → ∃ o, s.heap.get? a = some o
  L106 : env.locals ≠ P0
  opn : ∀ a, C.opn a → ¬ hid a
  cc : ∀ x, (env.kindOf x = some .cell ∨ env.kindOf x = some .free) → (env.cells.lookup x).isSome = true
  loc : ∃ m, s.heap.Ns env.locals m ∧ ∀ x d, ρ.lookup x = some d → d.isOwn = false → env.kindOf x = some .local → ∃ v, m x = some v ∧ Rep C.key (Vis hid s.heap) v d
  cel : ∀ x d, ρ.lookup x = some d → d.isOwn = false → (env.kindOf x = some .cell ∨ env.kindOf x = some .free) → ∃ c v, env.cells.lookup x = some c ∧ c ≠ P0 ∧ s.heap.IsCell c (some v) ∧ Rep C.key (Vis hid s.heap) v d

theorem ns_kp {h h' : Heap} {a : Addr} {m : Str → Option Value} (k : KpH h h') (ha : a ≠ P0) (x : h.Ns a m) : h'.Ns a m :=
  let ⟨o, es, ep, e, r⟩ := x; ⟨o, es, ep, k.1 _ _ ha e, r⟩
theorem cell_kp {h h' : Heap} {c : Addr} {v : Option Value} (k : KpH h h') (ha : c ≠ P0) (x : h.IsCell c v) : h'.IsCell c v :=
  let ⟨o, e, r⟩ := x; ⟨o, k.1 _ _ ha e, r⟩
theorem hin_kp {hid : Addr → Prop} {h h' : Heap} (k : KpH h h') (t : Tab h) (x : ∀ a, hid a → ∃ o, h.get? a = some o) : ∀ a, hid a → ∃ o, h'.get? a = some o := fun a ha => by
  by_cases e : a = P0
  · obtain ⟨ps, q, _⟩ := k.2 t
    exact ⟨_, e ▸ q⟩
  · obtain ⟨o, q⟩ := x a ha
    exact ⟨o, k.1 a o e q⟩
theorem EnvE.kp {C : Ctx} {hid : Addr → Prop} {env : Env} {ρ : List (Str × D)} {s s' : Shared} (x : EnvE C hid env ρ s) (k : KpH s.heap s'.heap) (ht : s.toks ≤ s'.toks) : EnvE C hid env ρ s' where
  kind := x.kind
  glob := x.glob
  bi := x.bi
  tok := Nat.le_trans x.tok ht
  md := C.stable _ _ k.below x.md
  tab := k.2 x.tab
  h106 := x.h106
  hin := hin_kp k x.tab x.hin
  L106 := x.L106
  opn := x.opn
  cc := x.cc
  loc := let ⟨m, a, b⟩ := x.loc; ⟨m, ns_kp k x.L106 a, fun y d e o q => let ⟨v, e1, r⟩ := b y d e o q; ⟨v, e1, r.mono (vis_kp k x.h106)⟩⟩
  cel := fun y d e o q => let ⟨c, v, e1, e2, e3, r⟩ := x.cel y d e o q; ⟨c, v, e1, e2, cell_kp k e2 e3, r.mono (vis_kp k x.h106)⟩
theorem EnvE.fresh {C : Ctx} {hid : Addr → Prop} {env : Env} {ρ : List (Str × D)} {s : Shared} (x : EnvE C hid env ρ s) {a : Addr} (h : s.heap.get? a = none) : ¬ hid a := fun q => by
  obtain ⟨o, e⟩ := x.hin a q
  rw [h] at e; cases e
theorem get_size (h : Heap) : h.get? h.objs.size = none := Heap.get?_none_of_le (Nat.le_refl _)

/-- an expression gives d -/
structure Ev (C : Ctx) (b : Bool) (n : Nat) (sc : Scope) (ρ : List (Str × D)) (e : Expr) (d : D) : Prop where
  all : ∀ (A : Around) (env : Env) (hid : Addr → Prop) (s : Shared) (E : Value → Shared → Prop), env.scope = sc → Calm n A → EnvE C hid env ρ s →
    wpAny (model prog C.w) A (eval e env) (fun v s' => KR b s s' ∧ Rep C.key (Vis hid s'.heap) v d) E s
/-- a test answers c -/
structure Tr (C : Ctx) (b : Bool) (n : Nat) (sc : Scope) (ρ : List (Str × D)) (e : Expr) (c : Bool) : Prop where
  all : ∀ (A : Around) (env : Env) (hid : Addr → Prop) (s : Shared) (E : Value → Shared → Prop), env.scope = sc → Calm n A → EnvE C hid env ρ s →
    wpAny (model prog C.w) A (isTrue e env (eval e env)) (fun v s' => v = c ∧ KR b s s') E s

section
variable {C : Ctx} {b : Bool} {n : Nat} {sc : Scope} {ρ : List (Str × D)}

theorem Ev.go {e : Expr} {d : D} (h : Ev C b n sc ρ e d) {A : Around} {env : Env} {hid : Addr → Prop} {s : Shared} {E : Value → Shared → Prop} {Q : Value → Shared → Prop} (hs : env.scope = sc) (hA : Calm n A) (X : EnvE C hid env ρ s)
    (k : ∀ v s', KR b s s' → s.toks ≤ s'.toks → EnvE C hid env ρ s' → Rep C.key (Vis hid s'.heap) v d → Q v s') : wpAny (model prog C.w) A (eval e env) Q E s :=
  wpAny_mono (wpAny_toks (h.all A env hid s E hs hA X)) (fun v s' x => k v s' x.2.1 x.1 (X.kp x.2.1.heap x.1) x.2.2) fun _ _ x => x.2
theorem Tr.go {e : Expr} {c : Bool} (h : Tr C b n sc ρ e c) {A : Around} {env : Env} {hid : Addr → Prop} {s : Shared} {E : Value → Shared → Prop} {Q : Bool → Shared → Prop} (hs : env.scope = sc) (hA : Calm n A) (X : EnvE C hid env ρ s)
    (k : ∀ s', KR b s s' → s.toks ≤ s'.toks → EnvE C hid env ρ s' → Q c s') : wpAny (model prog C.w) A (isTrue e env (eval e env)) Q E s :=
  wpAny_mono (wpAny_toks (h.all A env hid s E hs hA X)) (fun v s' x => x.2.1 ▸ k s' x.2.2 x.1 (X.kp x.2.2.heap x.1)) fun _ _ x => x.2
theorem Ev.weak {e : Expr} {d : D} (h : Ev C true n sc ρ e d) : Ev C b n sc ρ e d := .mk fun A env hid s E hs hA X =>
  wpAny_mono (h.all A env hid s E hs hA X) (fun _ _ x => ⟨.of_keeps x.1, x.2⟩) fun _ _ x => x
theorem Ev.more {m : Nat} {e : Expr} {d : D} (h : Ev C b n sc ρ e d) (hm : n ≤ m) : Ev C b m sc ρ e d := .mk fun A env hid s E hs hA X => h.all A env hid s E hs (hA.less hm) X
theorem Tr.weak {e : Expr} {c : Bool} (h : Tr C true n sc ρ e c) : Tr C b n sc ρ e c := .mk fun A env hid s E hs hA X =>
  wpAny_mono (h.all A env hid s E hs hA X) (fun _ _ x => ⟨x.1, .of_keeps x.2⟩) fun _ _ x => x

theorem Ev.var {x : Str} {p : Pos} {d : D} (hd : ρ.lookup x = some d) (ho : d.isOwn = false := by rfl)
    (hk : (match sc.names.lookup x with | some .local | some .cell | some .free => true | _ => false) = true := by rfl)
    (hb : (x == ("__debug__" : Str)) = false := by decide) (hn : (x == ("__classdict__" : Str)) = false := by decide) : Ev C b n sc ρ (.Name x p) d := by
  refine .mk ?_
  rintro A env hid s E rfl hA X
  have hko : env.kindOf x = env.scope.names.lookup x := rfl
  cases hl : env.scope.names.lookup x with
  | none => rw [hl] at hk; cases hk
  | some k =>
    rw [hl] at hk hko
    cases k <;> first | cases hk | skip
    · obtain ⟨m, hm, hv⟩ := X.loc
      obtain ⟨v, e1, r⟩ := hv x d hd ho hko
      exact wpAny_Name (wpAny_loadName_local X.kind hko hm e1 ⟨.refl _, r⟩) hb
    · obtain ⟨c, v, e1, e2, e3, r⟩ := X.cel x d hd ho (.inl hko)
      exact wpAny_Name (wpAny_loadName_cell X.kind hko e1 e3 ⟨.refl _, r⟩) hb
    · obtain ⟨c, v, e1, e2, e3, r⟩ := X.cel x d hd ho (.inr hko)
      exact wpAny_Name (wpAny_loadName_free X.kind hko e1 e3 ⟨.refl _, r⟩ hn) hb
theorem Ev.int {i : Int} {k : Nat} {p : Pos} : Ev C b n sc ρ (.Constant (.int i) k p) (.int i) := .mk fun A env hid s E _ _ _ =>
  wpAny_Constant_int ⟨.tok _ _, rfl⟩
theorem Ev.str {x : Str} {k : Nat} {p : Pos} : Ev C b n sc ρ (.Constant (.str x) k p) (.str x) := .mk fun A env hid s E _ _ _ =>
  wpAny_Constant_str ⟨.tok _ _, rfl⟩
theorem Ev.bool {c : Bool} {k : Nat} {p : Pos} : Ev C b n sc ρ (.Constant (.bool c) k p) (.bool c) := .mk fun A env hid s E _ _ _ =>
  wpAny_Constant_bool ⟨.refl _, rfl⟩

/-- what a step over two values gives -/
def Bop (C : Ctx) (n : Nat) (op : Operator) (x y d : D) : Prop := ∀ (A : Around) (hid : Addr → Prop) (s : Shared) (E : Value → Shared → Prop) (u v : Value), Calm n A →
  (∀ a, s.heap.get? a = none → ¬ hid a) → Rep C.key (Vis hid s.heap) u x → Rep C.key (Vis hid s.heap) v y →
      wpAny (model prog C.w) A (binaryOp op u v) (fun z s' => Keeps s s' ∧ Rep C.key (Vis hid s'.heap) z d) E s
theorem Ev.bin {l r : Expr} {op : Operator} {p : Pos} {x y : D} {d : D} (hl : Ev C b n sc ρ l x) (hr : Ev C b n sc ρ r y) (h : Bop C n op x y d) : Ev C b n sc ρ (.BinOp l op r p) d := by
  refine .mk ?_
  rintro A env hid s E hs hA X
  refine wpAny_BinOp (hl.go hs hA X fun u s₁ k1 t1 X1 ru => hr.go hs hA X1 fun v s₂ k2 t2 X2 rv => ?_)
  refine wpAny_mono (h A hid s₂ E u v hA (fun a => X2.fresh) (ru.mono (vis_kp k2.heap X.h106)) rv) ?_ fun _ _ e => e
  rintro z s₃ ⟨k3, rz⟩
  exact ⟨(k1.trans k2).trans (.of_keeps k3), rz⟩
theorem Bop.addInt {i j : Int} : Bop C n .Add (.int i) (.int j) (.int (i + j)) := fun A hid s E u v hA _ ru rv => by
  obtain ⟨t, rfl⟩ := is_int ru
  obtain ⟨t', rfl⟩ := is_int rv
  exact add_int ⟨keeps_tok _ _, rfl⟩
theorem Bop.subInt {i j : Int} : Bop C n .Sub (.int i) (.int j) (.int (i - j)) := fun A hid s E u v hA _ ru rv => by
  obtain ⟨t, rfl⟩ := is_int ru
  obtain ⟨t', rfl⟩ := is_int rv
  exact sub_int ⟨keeps_tok _ _, rfl⟩
theorem Bop.modInt {i j : Int} (hj : j ≠ 0) : Bop C n .Mod (.int i) (.int j) (.int (Int.fmod i j)) := fun A hid s E u v hA _ ru rv => by
  obtain ⟨t, rfl⟩ := is_int ru
  obtain ⟨t', rfl⟩ := is_int rv
  exact mod_int' hj ⟨keeps_tok _ _, rfl⟩
theorem Bop.divInt {i j : Int} (hj : j ≠ 0) (hs : j.natAbs < 1073741824) : Bop C n .FloorDiv (.int i) (.int j) (.int (Int.fdiv i j)) := fun A hid s E u v hA _ ru rv => by
  obtain ⟨t, rfl⟩ := is_int ru
  obtain ⟨t', rfl⟩ := is_int rv
  exact floordiv_int hj ⟨keeps_tok _ _, rfl⟩ (.inl (PyProof.noPylong_small hs))
theorem Bop.addStr {x y : Str} (hz : x.length + y.length ≤ 10000) : Bop C n .Add (.str x) (.str y) (.str (x ++ y)) := fun A hid s E u v hA _ ru rv => by
  obtain ⟨t, rfl⟩ := is_str ru
  obtain ⟨t', rfl⟩ := is_str rv
  exact add_str (fun _ _ => ⟨keeps_tok _ _, rfl⟩) (by rw [sizeLine_eq]; omega)

/-- a comparison -/
def Cmp (C : Ctx) (n : Nat) (op : CmpOp) (x y : D) (c : Bool) : Prop := ∀ (A : Around) (hid : Addr → Prop) (s : Shared) (E : Value → Shared → Prop) (u v : Value), Calm n A →
  Rep C.key (Vis hid s.heap) u x → Rep C.key (Vis hid s.heap) v y → wpAny (model prog C.w) A (compareOp op u v) (fun z s' => Keeps s s' ∧ z = .bool c) E s
theorem Ev.cmp {l r : Expr} {op : CmpOp} {p : Pos} {x y : D} {c : Bool} (hl : Ev C b n sc ρ l x) (hr : Ev C b n sc ρ r y) (h : Cmp C n op x y c) (hm : behindInMarks op r = false := by rfl) :
    Ev C b n sc ρ (.Compare l [op] [r] p) (.bool c) := by
  refine .mk ?_
  rintro A env hid s E hs hA X
  refine wpAny_Compare1 (hl.go hs hA X fun u s₁ k1 t1 X1 ru => hr.go hs hA X1 fun v s₂ k2 t2 X2 rv => ?_) hm
  refine wpAny_mono (h A hid s₂ E u v hA (ru.mono (vis_kp k2.heap X.h106)) rv) ?_ fun _ _ e => e
  rintro z s₃ ⟨k3, rfl⟩
  exact ⟨(k1.trans k2).trans (.of_keeps k3), rfl⟩
theorem Tr.cmp {l r : Expr} {op : CmpOp} {p : Pos} {x y : D} {c : Bool} (hl : Ev C b n sc ρ l x) (hr : Ev C b n sc ρ r y) (h : Cmp C n op x y c) (hm : behindInMarks op r = false := by rfl) :
    Tr C b n sc ρ (.Compare l [op] [r] p) c := by
  refine .mk ?_
  rintro A env hid s E hs hA X
  refine wpAny_isTrue_Compare1 (hl.go hs hA X fun u s₁ k1 t1 X1 ru => hr.go hs hA X1 fun v s₂ k2 t2 X2 rv => ?_) hm
  refine wpAny_mono (h A hid s₂ E u v hA (ru.mono (vis_kp k2.heap X.h106)) rv) ?_ fun _ _ e => e
  rintro z s₃ ⟨k3, rfl⟩
  exact wpAny_truthy_bool ⟨rfl, (k1.trans k2).trans (.of_keeps k3)⟩
theorem Tr.not {x : Expr} {p : Pos} {c : Bool} (h : Tr C b n sc ρ x c) : Tr C b n sc ρ (.UnaryOp .Not x p) (!c) := .mk fun A env hid s E hs hA X =>
  wpAny_isTrue_Not (h.go hs hA X fun s' k _ _ => ⟨rfl, k⟩)
theorem Tr.val {e : Expr} {c : Bool} (h : Ev C b n sc ρ e (.bool c)) (hp : ∀ env whole, isTrue e env whole = (do let v ← whole; standAt e.pos; holding [v] (truthy v)) := by intro _ _; rfl) : Tr C b n sc ρ e c := .mk fun A env hid s E hs hA X =>
  wpAny_isTrue_value (h.go hs hA X fun v s' k _ _ r => by
    obtain rfl := is_bool r
    exact wpAny_truthy_bool ⟨rfl, k⟩) (hp _ _)
/-- every one of the tests answers True -/
structure TrAll (C : Ctx) (b : Bool) (n : Nat) (sc : Scope) (ρ : List (Str × D)) (es : List Expr) (c : Bool) : Prop where
  all : ∀ (A : Around) (env : Env) (hid : Addr → Prop) (s : Shared) (E : Value → Shared → Prop), env.scope = sc → Calm n A → EnvE C hid env ρ s →
    wpAny (model prog C.w) A (allTrue .And es env) (fun v s' => v = c ∧ KR b s s') E s
theorem TrAll.nil : TrAll C b n sc ρ [] true := .mk fun A env hid s E hs hA X => wpAny_allTrue_And_nil ⟨rfl, .refl _⟩
theorem TrAll.stop {x : Expr} {es : List Expr} (h : Tr C b n sc ρ x false) : TrAll C b n sc ρ (x :: es) false := .mk fun A env hid s E hs hA X =>
  wpAny_allTrue_And_cons (h.go hs hA X fun s' k _ _ => ⟨rfl, k⟩)
theorem TrAll.cons {x : Expr} {es : List Expr} {c d : Bool} (h : Tr C b n sc ρ x c) (hd : c = true → TrAll C b n sc ρ es d) : TrAll C b n sc ρ (x :: es) (c && d) := by
  cases c with
  | false => exact .stop h
  | true =>
    refine .mk ?_
    intro A env hid s E hs hA X
    refine wpAny_allTrue_And_cons (h.go hs hA X fun s' k t X' => ?_)
    exact wpAny_mono ((hd rfl).all A env hid s' E hs hA X') (fun v s'' x => ⟨by simpa using x.1, k.trans x.2⟩) fun _ _ x => x
theorem Tr.and {es : List Expr} {p : Pos} {c : Bool} (h : TrAll C b n sc ρ es c) : Tr C b n sc ρ (.BoolOp .And es p) c := .mk fun A env hid s E hs hA X =>
  wpAny_isTrue_BoolOp (h.all A env hid s E hs hA X)

theorem Cmp.ltInt {i j : Int} : Cmp C n .Lt (.int i) (.int j) (decide (i < j)) := fun A hid s E u v hA ru rv => by
  obtain ⟨t, rfl⟩ := is_int ru
  obtain ⟨t', rfl⟩ := is_int rv
  exact lt_int ⟨keeps_refl _, rfl⟩
theorem Cmp.gtInt {i j : Int} : Cmp C n .Gt (.int i) (.int j) (decide (j < i)) := fun A hid s E u v hA ru rv => by
  obtain ⟨t, rfl⟩ := is_int ru
  obtain ⟨t', rfl⟩ := is_int rv
  exact gt_int ⟨keeps_refl _, rfl⟩
theorem Cmp.geInt {i j : Int} : Cmp C n .GtE (.int i) (.int j) (decide (j ≤ i)) := fun A hid s E u v hA ru rv => by
  obtain ⟨t, rfl⟩ := is_int ru
  obtain ⟨t', rfl⟩ := is_int rv
  exact ge_int ⟨keeps_refl _, rfl⟩
theorem Cmp.eqInt {i j : Int} : Cmp C n .Eq (.int i) (.int j) (i == j) := fun A hid s E u v hA ru rv => by
  obtain ⟨t, rfl⟩ := is_int ru
  obtain ⟨t', rfl⟩ := is_int rv
  exact eq_int ⟨keeps_refl _, rfl⟩
theorem Cmp.neInt {i j : Int} : Cmp C n .NotEq (.int i) (.int j) (i != j) := fun A hid s E u v hA ru rv => by
  obtain ⟨t, rfl⟩ := is_int ru
  obtain ⟨t', rfl⟩ := is_int rv
  exact ne_int ⟨keeps_refl _, rfl⟩
theorem Cmp.eqStr {x y : Str} : Cmp C n .Eq (.str x) (.str y) (x == y) := fun A hid s E u v hA ru rv => by
  obtain ⟨t, rfl⟩ := is_str ru
  obtain ⟨t', rfl⟩ := is_str rv
  exact eq_str ⟨keeps_refl _, rfl⟩
theorem Cmp.neStr {x y : Str} : Cmp C n .NotEq (.str x) (.str y) (x != y) := fun A hid s E u v hA ru rv => by
  obtain ⟨t, rfl⟩ := is_str ru
  obtain ⟨t', rfl⟩ := is_str rv
  exact ne_str ⟨keeps_refl _, rfl⟩
theorem Cmp.isNotBool {p q : Bool} : Cmp C n .IsNot (.bool p) (.bool q) (!(p == q)) := fun A hid s E u v hA ru rv => by
  obtain rfl := is_bool ru
  obtain rfl := is_bool rv
  refine wpAny_isNot_plain rfl ⟨keeps_refl _, ?_⟩
  cases p <;> cases q <;> rfl
theorem Cmp.ltBool {p q : Bool} : Cmp C n .Lt (.bool p) (.bool q) (!p && q) := fun A hid s E u v hA ru rv => by
  obtain rfl := is_bool ru
  obtain rfl := is_bool rv
  refine lt_bool ⟨keeps_refl _, ?_⟩
  cases p <;> cases q <;> rfl
theorem Cmp.inInts {i : Int} {ns : List Int} : Cmp C n .In (.int i) (.ints ns) (ns.any (· == i)) := fun A hid s E u v hA ru rv => by
  obtain ⟨t, rfl⟩ := is_int ru
  obtain ⟨a, vs, rfl, hl, hi, _⟩ := rep_ints rv
  exact in_list_ints hl hi ⟨keeps_refl _, rfl⟩
theorem Cmp.notInInts {i : Int} {ns : List Int} : Cmp C n .NotIn (.int i) (.ints ns) (!(ns.any (· == i))) := fun A hid s E u v hA ru rv => by
  obtain ⟨t, rfl⟩ := is_int ru
  obtain ⟨a, vs, rfl, hl, hi, _⟩ := rep_ints rv
  exact notin_list_ints hl hi ⟨keeps_refl _, rfl⟩
theorem Cmp.notInStrs {x : Str} {ys : List Str} : Cmp C n .NotIn (.str x) (.strs ys) (!(ys.any (· == x))) := fun A hid s E u v hA ru rv => by
  obtain ⟨t, rfl⟩ := is_str ru
  obtain ⟨a, vs, rfl, hl, hi, _⟩ := rep_strs rv
  exact notin_list_strs hl hi ⟨keeps_refl _, rfl⟩
theorem Cmp.neInts {ns ms : List Int} : Cmp C n .NotEq (.ints ns) (.ints ms) (!decide (ns = ms)) := fun A hid s E u v hA ru rv => by
  obtain ⟨a, vs, rfl, hl, hi, _⟩ := rep_ints ru
  obtain ⟨a', vs', rfl, hl', hi', _⟩ := rep_ints rv
  exact ne_intsK hl hi hl' hi' (by have := hA.2.2; unfold cLine; omega) ⟨keeps_refl _, rfl⟩
end
end Mine
end
section
open PySem PySem.W PyProof.Rows PySem.Calls
namespace Mine
section
variable {C : Ctx} {b : Bool} {n : Nat} {sc : Scope} {ρ : List (Str × D)}

theorem Ev.weaken {e : Expr} {d : D} {m : Nat} (h : Ev C b n sc ρ e d) (hm : n ≤ m) : Ev C b m sc ρ e d := h.more hm

/-- an item by an int -/
def Itm (C : Ctx) (n : Nat) (x : D) (k : Int) (d : D) : Prop := ∀ (A : Around) (hid : Addr → Prop) (s : Shared) (E : Value → Shared → Prop) (u : Value) (t : Tok), Calm n A →
  Rep C.key (Vis hid s.heap) u x → ∃ T id, typeLookup (.type T) "__getitem__" = pure (some (.builtin id)) ∧ s.TypeIs u T ∧
    wpAny (model prog C.w) A (getItem u (.int k t)) (fun z s' => Keeps s s' ∧ Rep C.key (Vis hid s'.heap) z d) E s
theorem Ev.item {value slice : Expr} {pos : Pos} {x d : D} {k : Int} (hv : Ev C b n sc ρ value x) (hi : Ev C b n sc ρ slice (.int k)) (h : Itm C n x k d)
    (hs : ∀ o i, subscripted slice false o i = operate [o, i] (getItem o i) := by intro _ _; rfl) : Ev C b n sc ρ (.Subscript value slice pos) d := by
  refine .mk ?_
  rintro A env hid s E hsc hA X
  refine Subscript_ (hv.go hsc hA X fun u s₁ k1 t1 X1 ru => hi.go hsc hA X1 fun v s₂ k2 t2 X2 rv => ?_)
  obtain ⟨t, rfl⟩ := is_int rv
  obtain ⟨T, id, hl, hT, hg⟩ := h A hid s₂ E u t hA (ru.mono (vis_kp k2.heap X.h106))
  refine tail_any hT hl (wpAny_mono hg ?_ fun _ _ e => e) (hs _ _)
  rintro z s₃ ⟨k3, r⟩
  exact ⟨(k1.trans k2).trans (.of_keeps k3), r⟩
theorem Itm.ints {ns : List Int} {k : Int} {i : Int} (h0 : 0 ≤ k) (hk : k < 2 ^ 63) (h : ns[k.toNat]? = some i) : Itm C n (.ints ns) k (.int i) := fun A hid s E u t hA r => by
  obtain ⟨a, vs, rfl, hl, hi, _⟩ := rep_ints r
  obtain ⟨t', e⟩ := hi.get _ _ h
  exact ⟨"list", _, slot_list_getitem.lookup, hl.typeIs, wpAny_getItem_list (x := .int i t') hl h0 hk (by simpa using e) ⟨keeps_refl _, rfl⟩⟩
theorem Itm.strs {ys : List Str} {k : Int} {y : Str} (h0 : 0 ≤ k) (hk : k < 2 ^ 63) (h : ys[k.toNat]? = some y) : Itm C n (.strs ys) k (.str y) := fun A hid s E u t hA r => by
  obtain ⟨a, vs, rfl, hl, hi, _⟩ := rep_strs r
  obtain ⟨t', e⟩ := hi.get _ _ h
  exact ⟨"list", _, slot_list_getitem.lookup, hl.typeIs, wpAny_getItem_list (x := .str y t') hl h0 hk (by simpa using e) ⟨keeps_refl _, rfl⟩⟩
theorem Itm.last {ns : List Int} {i : Int} (hz : ns.length < 2 ^ 62) (h : ns.getLast? = some i) : Itm C n (.ints ns) (-1) (.int i) := fun A hid s E u t hA r => by
  obtain ⟨a, vs, rfl, hl, hi, _⟩ := rep_ints r
  have hlen := hi.length
  have hne : ns ≠ [] := by rintro rfl; cases h
  have hpos : 0 < ns.length := List.length_pos_iff.mpr hne
  rw [List.getLast?_eq_getElem?] at h
  obtain ⟨t', e⟩ := hi.get _ _ h
  refine ⟨"list", _, slot_list_getitem.lookup, hl.typeIs, wpAny_getItem_list_neg hl (by decide) ?_ (by decide) (x := .int i t') ?_ ⟨keeps_refl _, rfl⟩⟩
  · simp only [List.size_toArray]; omega
  · have : (-1 + (vs.toArray.size : Int)).toNat = ns.length - 1 := by simp only [List.size_toArray]; omega
    rw [this]; simpa using e
theorem Itm.str {x : Str} {k : Int} {c : Nat} (h0 : 0 ≤ k) (hk : k < 2 ^ 63) (h : x.cps[k.toNat]? = some c) : Itm C n (.str x) k (.str ⟨#[c]⟩) := fun A hid s E u t hA r => by
  obtain ⟨t', rfl⟩ := is_str r
  have hlt : k.toNat < x.cps.size := by
    rcases Nat.lt_or_ge k.toNat x.cps.size with q | q
    · exact q
    · rw [Array.getElem?_eq_none q] at h; cases h
  refine ⟨"str", _, F.slot_str_getitem.lookup, typeIs_str _ _ _, P.getItem_str (c := c) ?_ ?_ ?_⟩
  · simp only [Bool.or_eq_false_iff, decide_eq_false_iff_not]; omega
  · rw [seqIndex_of h0 (show k < x.length by unfold Str.length; omega)]; exact h
  · exact ⟨keeps_tok _ _, rfl⟩

/-- a slice's part -/
def Pt (C : Ctx) (b : Bool) (n : Nat) (sc : Scope) (ρ : List (Str × D)) (e : Option Expr) (i : Option Int) : Prop := match e, i with
  | none, none => True
  | some e, some i => Ev C b n sc ρ e (.int i)
  | _, _ => False
theorem Pt.go {e : Option Expr} {i : Option Int} (h : Pt C b n sc ρ e i) {A : Around} {env : Env} {hid : Addr → Prop} {s : Shared} {E : Value → Shared → Prop} {Q : Value → Shared → Prop} (hs : env.scope = sc) (hA : Calm n A) (X : EnvE C hid env ρ s)
    (k : ∀ (p : Option (Int × Tok)) s', p.map (·.1) = i → KR b s s' → s.toks ≤ s'.toks → EnvE C hid env ρ s' → Q (partValue p) s') : wpAny (model prog C.w) A (evalPart e env) Q E s := by
  cases e with
  | none => cases i with
    | none => exact wpAny_evalPart_none (k none s rfl (.refl _) (Nat.le_refl _) X)
    | some _ => exact h.elim
  | some e => cases i with
    | none => exact h.elim
    | some i => exact wpAny_evalPart_some (Ev.go h hs hA X fun v s' k1 t1 X1 r => by
        obtain ⟨t, rfl⟩ := is_int r
        exact k (some (i, t)) s' rfl k1 t1 X1)
theorem isPart_of : ∀ p : Option (Int × Tok), IsPart (partValue p) (p.map (·.1))
  | none => .none
  | some (i, t) => .int i t
/-- a slice of a value -/
def Slc (C : Ctx) (n : Nat) (x : D) (lo hi st : Option Int) (d : D) : Prop := ∀ (A : Around) (hid : Addr → Prop) (s : Shared) (E : Value → Shared → Prop) (u : Value) (a : Addr) (l h k : Option (Int × Tok)), Calm n A →
  l.map (·.1) = lo → h.map (·.1) = hi → k.map (·.1) = st → s.heap.IsSlice a l h k → (∀ a, s.heap.get? a = none → ¬ hid a) →
  Rep C.key (Vis hid s.heap) u x → ∃ T id, typeLookup (.type T) "__getitem__" = pure (some (.builtin id)) ∧ s.TypeIs u T ∧
    wpAny (model prog C.w) A (getItem u (.ref a)) (fun z s' => Keeps s s' ∧ Rep C.key (Vis hid s'.heap) z d) E s
theorem Ev.slice {value : Expr} {lower upper step : Option Expr} {p pos : Pos} {x d : D} {lo hi st : Option Int} (hv : Ev C b n sc ρ value x) (hl : Pt C b n sc ρ lower lo) (hu : Pt C b n sc ρ upper hi) (hk : Pt C b n sc ρ step st)
    (h : Slc C n x lo hi st d) : Ev C b n sc ρ (.Subscript value (.Slice lower upper step p) pos) d := by
  refine .mk ?_
  rintro A env hid s E hsc hA X
  refine Subscript_ (hv.go hsc hA X fun u s₁ k1 t1 X1 ru => wpAny_Slice (hl.go hsc hA X1 fun pl s₂ e2 k2 t2 X2 => hu.go hsc hA X2 fun pu s₃ e3 k3 t3 X3 => hk.go hsc hA X3 fun pk s₄ e4 k4 t4 X4 => ?_))
  have kk := keeps_push s₄ { cls := .type "slice", data := .fields #[partValue pl, partValue pu, partValue pk] } s₄.toks
  have X5 := X4.kp (KR.of_keeps (b := true) kk).heap (Nat.le_refl _)
  have r5 := ((ru.mono (vis_kp k2.heap X.h106)).mono (vis_kp k3.heap X.h106)).mono (vis_kp k4.heap X.h106) |>.mono (vis_kp (KR.of_keeps (b := true) kk).heap X.h106)
  obtain ⟨T, id, q1, q2, q3⟩ := h A hid _ E u s₄.heap.objs.size pl pu pk hA e2 e3 e4 ⟨_, Heap.get?_push_size _ rfl, rfl, rfl⟩ (fun a => X5.fresh) r5
  have hs : subscripted (.Slice lower upper step p) false u (.ref s₄.heap.objs.size) = operate [.ref s₄.heap.objs.size, u] (getItem u (.ref s₄.heap.objs.size)) ∨
      subscripted (.Slice lower upper step p) false u (.ref s₄.heap.objs.size) = operate [u, .ref s₄.heap.objs.size] (getItem u (.ref s₄.heap.objs.size)) := by
    cases step with
    | none => exact .inl rfl
    | some _ => exact .inr rfl
  have fin : wpAny (model prog C.w) A (getItem u (.ref s₄.heap.objs.size)) (fun z s' => KR b s s' ∧ Rep C.key (Vis hid s'.heap) z d) E { s₄ with heap := s₄.heap.push { cls := .type "slice", data := .fields #[partValue pl, partValue pu, partValue pk] } } :=
    wpAny_mono q3 (fun z s' y => ⟨((((k1.trans k2).trans k3).trans k4).trans (.of_keeps kk)).trans (.of_keeps y.1), y.2⟩) fun _ _ e => e
  rcases hs with hs | hs
  · exact tail_any q2 q1 fin hs
  · exact tail_any q2 q1 fin hs
theorem Slc.str {x : Str} {lo hi : Option Int} (hz : x.length ≤ 10000) : Slc C n (.str x) lo hi none (.str (Txt.slice x lo hi)) := by
  intro A hid s E u a l h k hA e1 e2 e3 hsl hf r
  obtain ⟨t, rfl⟩ := is_str r
  subst e1 e2
  have : k = none := by cases k with | none => rfl | some _ => cases e3
  subst this
  exact ⟨"str", _, F.slot_str_getitem.lookup, typeIs_str _ _ _, wpAny_getItem_str_slice hsl rfl
    (post_val_or_str ⟨Nat.le_trans (Txt.slice_le x _ _) (by rw [sizeLine_eq]; omega), fun t' k => ⟨keeps_tok _ _, rfl⟩⟩)⟩
theorem Slc.ints {ns : List Int} {lo hi st : Option Int} (hz : ns.length ≤ 10000) (h0 : st ≠ some 0) : Slc C n (.ints ns) lo hi st (.ints (pickNums ns lo hi st)) := by
  intro A hid s E u a l h k hA e1 e2 e3 hsl hf r
  obtain ⟨b, vs, rfl, hl, hi, hn⟩ := rep_ints r
  subst e1 e2 e3
  refine ⟨"list", _, slot_list_getitem.lookup, hl.typeIs, wpAny_getItem_list_slice hl hsl (isPart_of _) (isPart_of _) (isPart_of _) h0 ?_ (by rw [sizeLine_eq]; simp only [List.size_toArray]; have := hi.length; omega)⟩
  refine ⟨keeps_push _ _ _, ints_rep (vs := (slicePick vs.toArray _ _ _).toList) ⟨_, Heap.get?_push_size _ rfl, rfl, _, by simp; rfl⟩ (hi.pick _ _ _) (hf _ (get_size _))⟩

theorem add_go {prog : Program} {w : World} {A : Around} {E : Value → Shared → Prop} {s : Shared} {l b : Addr} {vs ws : List Value} {Q : Value → Shared → Prop} (hl : s.heap.IsList l vs.toArray) (hb : s.heap.IsList b ws.toArray)
    (h : Q (.ref s.heap.objs.size) { s with heap := s.heap.push { cls := .type "list", data := .seq (vs ++ ws).toArray } }) (hsz : vs.length + ws.length ≤ sizeLine) :
    wpAny (model prog w) A (binaryOp .Add (.ref l) (.ref b)) Q E s := by
  obtain ⟨⟨cls, dd, data, sl⟩, ho, hc, n, hd⟩ := id hl
  obtain ⟨⟨cls2, dd2, data2, sl2⟩, ho2, hc2, n2, hd2⟩ := id hb
  simp only at hc hd hc2 hd2
  subst hc hd hc2 hd2
  have e : vs.toArray ++ ws.toArray = (vs ++ ws).toArray := by simp
  refine concat_meets ⟨_, ho, rfl⟩ ⟨_, ho2, rfl⟩ noFill_list_add seq_list_add PySem.F.slot_list_add PySem.F.entry_list_add (PySem.F.args_list_add_2 _ _) (list_addW l b vs.toArray ws.toArray n n2 dd dd2 sl sl2 (by simpa using hsz)) ⟨ho, ho2, ?_⟩
  rw [e]
  exact h
theorem Bop.addInts {ns ms : List Int} (hz : ns.length + ms.length ≤ 10000) : Bop C n .Add (.ints ns) (.ints ms) (.ints (ns ++ ms)) := fun A hid s E u v hA hf ru rv => by
  obtain ⟨a, vs, rfl, hl, hi, _⟩ := rep_ints ru
  obtain ⟨a', vs', rfl, hl', hi', _⟩ := rep_ints rv
  have h1 := hi.length
  have h2 := hi'.length
  exact add_go hl hl' ⟨keeps_push _ _ _, ints_rep (vs := vs ++ vs') ⟨_, Heap.get?_push_size _ rfl, rfl, _, rfl⟩ (hi.append hi') (hf _ (get_size _))⟩ (by rw [sizeLine_eq]; omega)
theorem Bop.addStrs {ns ms : List Str} (hz : ns.length + ms.length ≤ 10000) : Bop C n .Add (.strs ns) (.strs ms) (.strs (ns ++ ms)) := fun A hid s E u v hA hf ru rv => by
  obtain ⟨a, vs, rfl, hl, hi, _⟩ := rep_strs ru
  obtain ⟨a', vs', rfl, hl', hi', _⟩ := rep_strs rv
  have h1 := hi.length
  have h2 := hi'.length
  exact add_go hl hl' ⟨keeps_push _ _ _, strs_rep (vs := vs ++ vs') ⟨_, Heap.get?_push_size _ rfl, rfl, _, rfl⟩ (hi.append' hi') (hf _ (get_size _))⟩ (by rw [sizeLine_eq]; omega)

/-- arguments, items of a display -/
def RepAll (key : Value) (V : Addr → Obj → Prop) (vs : List Value) (ds : List D) : Prop := Paired (Rep key V) vs ds
theorem RepAll.mono {key : Value} {V V' : Addr → Obj → Prop} (hv : ∀ a o, V a o → V' a o) {vs : List Value} {ds : List D} (h : RepAll key V vs ds) : RepAll key V' vs ds := Paired.mono (fun _ _ r => Rep.mono hv r) h
structure Evs (C : Ctx) (b : Bool) (n : Nat) (sc : Scope) (ρ : List (Str × D)) (es : List Expr) (ds : List D) : Prop where
  all : ∀ (A : Around) (env : Env) (hid : Addr → Prop) (s : Shared) (E : Value → Shared → Prop) (pos : Pos), env.scope = sc → Calm n A → EnvE C hid env ρ s →
    wpAny (model prog C.w) A (spliced (backTo pos (starEach es env))) (fun vs s' => KR b s s' ∧ RepAll C.key (Vis hid s'.heap) vs ds) E s
theorem Evs.nil : Evs C b n sc ρ [] [] := ⟨fun A env hid s E pos hs hA X => spliced_nil ⟨.refl _, .nil⟩⟩
theorem Evs.cons {e : Expr} {es : List Expr} {d : D} {ds : List D} (h : Ev C b n sc ρ e d) (hs : Evs C b n sc ρ es ds) (hp : ∀ env, starEach (e :: es) env = (false, eval e env) :: starEach es env := by intro _; rfl) : Evs C b n sc ρ (e :: es) (d :: ds) := ⟨fun A env hid s E pos hsc hA X => by
  rw [hp]
  refine spliced_cons (h.go hsc hA X fun v s₁ k1 t1 X1 r => wpAny_mono (hs.all A env hid s₁ E pos hsc hA X1) (fun vs s₂ x => ?_) fun _ _ e => e)
  exact ⟨k1.trans x.1, .cons (r.mono (vis_kp x.1.heap X.h106)) x.2⟩⟩
theorem Evs.go {es : List Expr} {ds : List D} (h : Evs C b n sc ρ es ds) {A : Around} {env : Env} {hid : Addr → Prop} {s : Shared} {E : Value → Shared → Prop} {Q : List Value → Shared → Prop} {pos : Pos} (hs : env.scope = sc) (hA : Calm n A) (X : EnvE C hid env ρ s)
    (k : ∀ vs s', KR b s s' → s.toks ≤ s'.toks → EnvE C hid env ρ s' → RepAll C.key (Vis hid s'.heap) vs ds → Q vs s') : wpAny (model prog C.w) A (spliced (backTo pos (starEach es env))) Q E s :=
  wpAny_mono (wpAny_toks (h.all A env hid s E pos hs hA X)) (fun v s' x => k v s' x.2.1 x.1 (X.kp x.2.1.heap x.1) x.2.2) fun _ _ x => x.2
theorem intsAre_of {key : Value} {V : Addr → Obj → Prop} : ∀ {vs : List Value} {ns : List Int}, RepAll key V vs (ns.map D.int) → IntsAre vs ns
  | [], [], _ => .nil
  | v :: vs, i :: ns, h => by
    cases h with
    | cons a r =>
      obtain ⟨t, rfl⟩ := is_int a
      exact .cons i t (intsAre_of r)
  | [], _ :: _, h => by cases h
  | _ :: _, [], h => by cases h
theorem strsAre_of {key : Value} {V : Addr → Obj → Prop} : ∀ {vs : List Value} {ns : List Str}, RepAll key V vs (ns.map D.str) → StrsAre vs ns
  | [], [], _ => .nil
  | v :: vs, i :: ns, h => by
    cases h with
    | cons a r =>
      obtain ⟨t, rfl⟩ := is_str a
      exact .cons i t (strsAre_of r)
  | [], _ :: _, h => by cases h
  | _ :: _, [], h => by cases h
theorem Ev.listInts {es : List Expr} {p : Pos} {ns : List Int} (h : Evs C b n sc ρ es (ns.map D.int)) (hz : ns.length ≤ 10000) : Ev C b n sc ρ (.List es p) (.ints ns) := .mk fun A env hid s E hs hA X =>
  wpAny_List (h.go hs hA X fun vs s₁ k t X1 r => by
    have hi := intsAre_of r
    exact ⟨by have := hi.length; rw [sizeLine_eq]; omega, k.trans (.of_keeps (keeps_push _ _ _)), ints_rep (vs := vs) ⟨_, Heap.get?_push_size _ rfl, rfl, _, rfl⟩ hi (X1.fresh (get_size _))⟩)
theorem Ev.listStrs {es : List Expr} {p : Pos} {ns : List Str} (h : Evs C b n sc ρ es (ns.map D.str)) (hz : ns.length ≤ 10000) : Ev C b n sc ρ (.List es p) (.strs ns) := .mk fun A env hid s E hs hA X =>
  wpAny_List (h.go hs hA X fun vs s₁ k t X1 r => by
    have hi := strsAre_of r
    exact ⟨by have := hi.length; rw [sizeLine_eq]; omega, k.trans (.of_keeps (keeps_push _ _ _)), strs_rep (vs := vs) ⟨_, Heap.get?_push_size _ rfl, rfl, _, rfl⟩ hi (X1.fresh (get_size _))⟩)
theorem Ev.tuple2 {e f : Expr} {k : Nat} {p : Pos} {x y : D} (h : Evs C b n sc ρ [e, f] [x, y]) : Ev C b n sc ρ (.Tuple [e, f] k p) (.pair x y) := .mk fun A env hid s E hs hA X =>
  wpAny_Tuple (h.go hs hA X fun vs s₁ k t X1 r => by
    cases r with
    | cons a r => cases r with
      | cons b r => cases r with
        | nil =>
          refine ⟨by rw [sizeLine_eq]; simp, k.trans (.of_keeps (keeps_push _ _ _)), _, _, _, _, _, rfl, ⟨Heap.get?_push_size _ rfl, X1.fresh (get_size _)⟩, rfl, rfl, ?_, ?_⟩
          · exact Rep.mono (fun a o x => ⟨Heap.get?_push_of_some _ x.1, x.2⟩) a
          · exact Rep.mono (fun a o x => ⟨Heap.get?_push_of_some _ x.1, x.2⟩) b)
end
end Mine
end
section
open PySem PySem.W PyProof.Rows PySem.Calls
namespace Mine
section
variable {C : Ctx} {b : Bool} {n : Nat} {sc : Scope} {ρ : List (Str × D)}

/-- a call of a value that is not the text's -/
def Bi (C : Ctx) (n : Nat) (f : Value) (ds : List D) (d : D) : Prop := ∀ (A : Around) (hid : Addr → Prop) (s : Shared) (E : Value → Shared → Prop) (vs : List Value), Calm n A →
  (∀ a, s.heap.get? a = none → ¬ hid a) → RepAll C.key (Vis hid s.heap) vs ds → wpAny (model prog C.w) A (call f vs) (fun z s' => Keeps s s' ∧ Rep C.key (Vis hid s'.heap) z d) E s

theorem name_bi {x : Str} {v : Value} {A : Around} {env : Env} {hid : Addr → Prop} {s : Shared} {E : Value → Shared → Prop} {Q : Value → Shared → Prop} {p : Pos} (X : EnvE C hid env ρ s) (hv : bootBuiltins x = some v) (hx : biTab.contains x = true)
    (hk : env.scope.names.lookup x = some .globalImplicit) (h : Q v s) (hd : (x == ("__debug__" : Str)) = false := by decide) (hn : x ≠ "__name__" := by decide) : wpAny (model prog C.w) A (eval (.Name x p) env) Q E s := by
  refine Name_function_global X.kind hk ?_ hd
  refine loadGlobal_builtin (mg := C.mg) (mb := C.mb) (X.glob ▸ C.g _ X.md) (C.nobi x hx) (X.bi ▸ C.b _ X.md) ?_ h
  rw [C.bb x hn]; exact hv
theorem name_gl {x : Str} {a : Addr} {A : Around} {env : Env} {hid : Addr → Prop} {s : Shared} {E : Value → Shared → Prop} {Q : Value → Shared → Prop} {p : Pos} (X : EnvE C hid env ρ s) (hx : globTab.lookup x = some a)
    (hk : env.scope.names.lookup x = some .globalImplicit) (h : Q (.ref a) s) (hd : (x == ("__debug__" : Str)) = false := by decide) : wpAny (model prog C.w) A (eval (.Name x p) env) Q E s := by
  refine Name_function_global X.kind hk ?_ hd
  exact loadGlobal_global (mg := C.mg) (X.glob ▸ C.g _ X.md) (C.gl x a hx) h

/-- one argument after the other, none starred -/
theorem args_plain {M : Model} {A : Around} {E : Value → Shared → Prop} {s : Shared} {f : Value} {es : List Expr} {env : Env} {pos : Pos} {Q : Args → Shared → Prop} (hp : (backTo pos (starEach es env)).any (·.1) = false)
    (h : wpAny M A (spliced (backTo pos (starEach es env))) (fun vs s' => Q { pos := vs } s') E s) : wpAny M A (evalArgs f true (backTo pos (starEach es env)) []) Q E s := by
  cases e : backTo pos (starEach es env) with
  | nil =>
    rw [e] at h
    unfold evalArgs
    show wpAny M A (spliced [] >>= _) Q E s
    refine wpAny_bind (wpAny_mono h (fun vs s' hq => wpAny_bind (wpAny_pure ?_)) fun _ _ x => x)
    refine wpAny_holding ?_
    simp only [List.all_nil, if_true]
    exact wpAny_bind (wpAny_pure (wpAny_bind (wpAny_pure (wpAny_pure hq))))
  | cons x r =>
    obtain ⟨st, t⟩ := x
    rw [e] at hp h
    simp only [List.any_cons, Bool.or_eq_false_iff] at hp
    obtain ⟨rfl, _⟩ := hp
    exact evalArgs_plain h
theorem Ev.callB {x : Str} {id : String} {p pos : Pos} {es : List Expr} {ds : List D} {d : D} (ha : Evs C b n sc ρ es ds) (hB : Bi C n (.builtin id) ds d) (hv : bootBuiltins x = some (.builtin id)) (hx : biTab.contains x = true := by decide)
    (hk : sc.names.lookup x = some .globalImplicit := by rfl) (hp : ∀ env, (backTo pos (starEach es env)).any (·.1) = false := by intro _; rfl) (hd : (x == ("__debug__" : Str)) = false := by decide) (hn : x ≠ "__name__" := by decide) :
    Ev C b n sc ρ (.Call (.Name x p) es [] pos) d := by
  refine .mk ?_
  rintro A env hid s E rfl hA X
  refine wpAny_Call_NameR (name_bi X hv hx hk ?_ hd hn)
  refine callWith_builtin (hp env) (args_plain (hp env) (ha.go rfl hA X fun vs s₁ k t X1 r => ?_))
  exact wpAny_mono (hB A hid s₁ E vs hA (fun a => X1.fresh) r) (fun z s₂ y => ⟨k.trans (.of_keeps y.1), y.2⟩) fun _ _ e => e
/-- a method of a text -/
theorem Ev.method {o : Expr} {name : Str} {id : String} {apos pos : Pos} {es : List Expr} {ds : List D} {x : Str} {d : D} (ho : Ev C b n sc ρ o (.str x)) (ha : Evs C b n sc ρ es ds) (hB : Bi C n (.builtin id) (.str x :: ds) d)
    (hs : Slot "str" name id) (ht : typeOf (.builtin id) = pure (.type "method_descriptor"))
    (hb : ∀ env, attributeBase o name env (eval o env) = eval o env := by intro _; rfl) (hl : (apos.endLine == pos.line) = true := by rfl)
    (hf : ∀ env, ((backTo pos (starEach es env)).all (fun x => !x.1) && (backToKw pos (keywordEach [] env)).all (fun x => x.1.isSome) && decide (es.length + ([] : List Keyword).length + (if ([] : List Keyword).isEmpty = true then 0 else 1) < 30)) = true := by intro _; rfl)
    (hp : ∀ env, (backTo pos (starEach es env)).any (·.1) = false := by intro _; rfl) : Ev C b n sc ρ (.Call (.Attribute o name apos) es [] pos) d := by
  refine .mk ?_
  rintro A env hid s E hsc hA X
  refine wpAny_Call_method (hb env) (hf env) hl F.plainAttrs_str hs ht (ho.go hsc hA X fun ov s₁ k1 t1 X1 r1 => ?_)
  obtain ⟨t, rfl⟩ := is_str r1
  refine ⟨typeIs_str _ _ _, (by intro a e; cases e), ?_⟩
  refine callWith_builtin (hp env) (args_plain (hp env) (ha.go hsc hA X1 fun vs s₂ k2 t2 X2 r2 => ?_))
  exact wpAny_mono (hB A hid s₂ E _ hA (fun a => X2.fresh) (.cons (show Sc.Is _ _ from rfl) r2)) (fun z s₃ y => ⟨(k1.trans k2).trans (.of_keeps y.1), y.2⟩) fun _ _ e => e

theorem rep1 {key : Value} {V : Addr → Obj → Prop} {vs : List Value} {d : D} (h : RepAll key V vs [d]) : ∃ v, vs = [v] ∧ Rep key V v d := by
  cases h with
  | cons a r => cases r; exact ⟨_, rfl, a⟩
theorem rep2 {key : Value} {V : Addr → Obj → Prop} {vs : List Value} {d e : D} (h : RepAll key V vs [d, e]) : ∃ v u, vs = [v, u] ∧ Rep key V v d ∧ Rep key V u e := by
  cases h with
  | cons a r => obtain ⟨u, rfl, q⟩ := rep1 r; exact ⟨_, _, rfl, a, q⟩
theorem Bi.lenStr {x : Str} (hz : x.length ≤ 10000) : Bi C n (.builtin "len") [.str x] (.int x.length) := fun A hid s E vs hA hf rr => by
  obtain ⟨v, rfl, r⟩ := rep1 rr
  obtain ⟨t, rfl⟩ := is_str r
  exact P.len_str (by omega) ⟨keeps_tok _ _, rfl⟩
theorem Bi.lenInts {ns : List Int} (hz : ns.length ≤ 10000) : Bi C n (.builtin "len") [.ints ns] (.int ns.length) := fun A hid s E vs hA hf rr => by
  obtain ⟨v, rfl, r⟩ := rep1 rr
  obtain ⟨a, us, rfl, hl, hi, _⟩ := rep_ints r
  have := hi.length
  refine call_len_list hl (by simp only [List.size_toArray]; omega) ⟨keeps_tok _ _, ?_⟩
  show ((us.toArray.size : Nat) : Int) = _
  simp only [List.size_toArray]; omega
theorem Bi.lenStrs {ns : List Str} (hz : ns.length ≤ 10000) : Bi C n (.builtin "len") [.strs ns] (.int ns.length) := fun A hid s E vs hA hf rr => by
  obtain ⟨v, rfl, r⟩ := rep1 rr
  obtain ⟨a, us, rfl, hl, hi, _⟩ := rep_strs r
  have := hi.length
  refine call_len_list hl (by simp only [List.size_toArray]; omega) ⟨keeps_tok _ _, ?_⟩
  show ((us.toArray.size : Nat) : Int) = _
  simp only [List.size_toArray]; omega
theorem Bi.chr {i : Int} (h0 : 0 ≤ i) (h1 : i ≤ 1114111) : Bi C n (.builtin "chr") [.int i] (.str ⟨#[i.toNat]⟩) := fun A hid s E vs hA hf rr => by
  obtain ⟨v, rfl, r⟩ := rep1 rr
  obtain ⟨t, rfl⟩ := is_int r
  exact chr_of_range h0 h1 ⟨keeps_tok _ _, rfl⟩
theorem Bi.ord {c : Nat} : Bi C n (.builtin "ord") [.str ⟨#[c]⟩] (.int c) := fun A hid s E vs hA hf rr => by
  obtain ⟨v, rfl, r⟩ := rep1 rr
  obtain ⟨t, rfl⟩ := is_str r
  exact P.ord_of_char ⟨keeps_tok _ _, rfl⟩
theorem Bi.sum {ns : List Int} : Bi C n (.builtin "sum") [.ints ns] (.int ns.sum) := fun A hid s E vs hA hf rr => by
  obtain ⟨v, rfl, r⟩ := rep1 rr
  obtain ⟨a, us, rfl, hl, hi, _⟩ := rep_ints r
  obtain ⟨xs, e⟩ := hi.allInts.items
  have hn : PySem.numsOf us.toArray.toList = ns := hi.numsOf
  rw [e] at hl hn
  rw [nums_intItems] at hn
  refine sum_intListG hA.1 hl fun h' tk t' hk => ⟨keeps_mk hk, ?_⟩
  show preSum (numAt xs) xs.size = ns.sum
  rw [preSum_eq, List.take_of_length_le (by simp), hn]
theorem strVals : ∀ {vs : List Value} {ys : List Str}, StrsAre vs ys → ∃ l, vs = strValues l ∧ l.map (·.1) = ys
  | _, _, .nil => ⟨[], rfl, rfl⟩
  | _, _, .cons y t h => let ⟨l, a, e⟩ := strVals h; ⟨(y, t) :: l, by rw [a]; rfl, by rw [List.map_cons, e]⟩
theorem valsStr : ∀ (l : List (Str × Tok)), StrsAre (strValues l) (l.map (·.1))
  | [] => .nil
  | (y, t) :: l => .cons y t (valsStr l)
theorem Bi.join {x : Str} {ys : List Str} (hz : JoinOk x ys = true) : Bi C n (.builtin "str.join") [.str x, .strs ys] (.str (Txt.join x ys)) := fun A hid s E vs hA hf rr => by
  obtain ⟨v, u, rfl, r, r2⟩ := rep2 rr
  obtain ⟨t, rfl⟩ := is_str r
  obtain ⟨a, us, rfl, hl, hi, _⟩ := rep_strs r2
  obtain ⟨l, rfl, e⟩ := strVals hi
  exact SC.join hl e hz fun t' k => ⟨keeps_tok _ _, rfl⟩
theorem Bi.count {x y : Str} : Bi C n (.builtin "str.count") [.str x, .str y] (.int (Txt.count x y)) := fun A hid s E vs hA hf rr => by
  obtain ⟨v, u, rfl, r, r2⟩ := rep2 rr
  obtain ⟨t, rfl⟩ := is_str r
  obtain ⟨t', rfl⟩ := is_str r2
  exact SC.count ⟨keeps_tok _ _, rfl⟩
theorem Bi.split {x y : Str} (hy : (y.length == 0) = false) (hz : x.length ≤ 10000) (hz2 : (Builtin.Str.partsBetween x (Builtin.Str.occurrences x y 0 x.length (x.length + 1)) y.length).length ≤ sizeLine) :
    Bi C n (.builtin "str.split") [.str x, .str y] (.strs (Txt.split x y)) := fun A hid s E vs hA hf rr => by
  obtain ⟨v, u, rfl, r, r2⟩ := rep2 rr
  obtain ⟨t, rfl⟩ := is_str r
  obtain ⟨t', rfl⟩ := is_str r2
  open Builtin.Str PySem.Builtin in
  cases h1 : (decide (x.length < y.length) || decide (Builtin.Str.strKind x < Builtin.Str.strKind y))
  · cases h2 : (Builtin.Str.occurrences x y 0 x.length (x.length + 1)).isEmpty
    · refine call_meets F.slot_str_split (typeIs_str _ _ _) F.entry_str_split (F.args_str_split_2 _ _) (meets_str_split_sep x y t t' h1 hy h2 (by rw [sizeLine_eq]; omega) hz2) ?_
      rw [strsFrom_eq]
      have e : (numbered s.toks (Builtin.Str.partsBetween x (Builtin.Str.occurrences x y 0 x.length (x.length + 1)) y.length)).map (·.1) = Txt.split x y := (numbered_texts _ _).trans ((if_neg (ne_true_of_eq_false h1)).trans (if_neg (ne_true_of_eq_false h2))).symm
      exact ⟨keeps_push _ _ _, strs_rep ⟨_, Heap.get?_push_size _ rfl, rfl, _, rfl⟩ (e ▸ valsStr _) (hf _ (get_size _))⟩
    · refine call_meets F.slot_str_split (typeIs_str _ _ _) F.entry_str_split (F.args_str_split_2 _ _) (meets_str_split_not_found x y t t' h1 hy h2) ?_
      have e : [x] = Txt.split x y := ((if_neg (ne_true_of_eq_false h1)).trans (if_pos h2)).symm
      exact ⟨keeps_push _ _ _, strs_rep (vs := [.str x t]) ⟨_, Heap.get?_push_size _ rfl, rfl, _, rfl⟩ (e ▸ .cons x t .nil) (hf _ (get_size _))⟩
  · refine call_meets F.slot_str_split (typeIs_str _ _ _) F.entry_str_split (F.args_str_split_2 _ _) (meets_str_split_cannot_occur x y t t' h1) ?_
    have e : [x] = Txt.split x y := (if_pos h1).symm
    exact ⟨keeps_push _ _ _, strs_rep (vs := [.str x t]) ⟨_, Heap.get?_push_size _ rfl, rfl, _, rfl⟩ (e ▸ .cons x t .nil) (hf _ (get_size _))⟩
end
end Mine
end
section
open PySem PySem.W PyProof.Rows PySem.Calls
namespace Mine
section
variable {C : Ctx} {b : Bool} {n : Nat} {sc : Scope} {ρ : List (Str × D)}

/-- the state, whatever the frame -/
structure St (C : Ctx) (hid : Addr → Prop) (s : Shared) : Prop where
  tok : C.tk ≤ s.toks
  md : C.Md s.heap
  tab : Tab s.heap
  h106 : hid P0
  hin : ∀ a, hid a → ∃ o, s.heap.get? a = some o
  opn : ∀ a, C.opn a → ¬ hid a
theorem EnvE.st {hid : Addr → Prop} {env : Env} {s : Shared} (X : EnvE C hid env ρ s) : St C hid s := ⟨X.tok, X.md, X.tab, X.h106, X.hin, X.opn⟩
theorem St.fresh {hid : Addr → Prop} {s : Shared} (x : St C hid s) {a : Addr} (h : s.heap.get? a = none) : ¬ hid a := fun q => by
  obtain ⟨o, e⟩ := x.hin a q
  rw [h] at e; cases e
theorem St.kp {hid : Addr → Prop} {s s' : Shared} (x : St C hid s) (k : KpH s.heap s'.heap) (ht : s.toks ≤ s'.toks) : St C hid s' :=
  ⟨Nat.le_trans x.tok ht, C.stable _ _ k.below x.md, k.2 x.tab, x.h106, hin_kp k x.tab x.hin, x.opn⟩

/-- a call of the text's own def at a gives d -/
def Fn (C : Ctx) (b : Bool) (n : Nat) (a : Addr) (ds : List D) (d : D) : Prop := ∀ (A : Around) (hid : Addr → Prop) (s : Shared) (R : Result → Shared → Prop) (vs : List Value), Calm n A → St C hid s → RepAll C.key (Vis hid s.heap) vs ds →
  (∀ v s', KR b s s' → Rep C.key (Vis hid s'.heap) v d → R (.ok (.ret v)) s') → codeAny (model prog C.w) A (.call (.ref a) ⟨vs, []⟩) R s

theorem Ev.callF {x : Str} {a : Addr} {p pos : Pos} {es : List Expr} {ds : List D} {d : D} (ha : Evs C b n sc ρ es ds) (hF : Fn C b n a ds d) (hfo : ∀ h, C.Md h → ∃ o fd, h.get? a = some o ∧ o.data = .func fd) (hx : globTab.lookup x = some a := by rfl)
    (hk : sc.names.lookup x = some .globalImplicit := by rfl) (hp : ∀ env, (backTo pos (starEach es env)).any (·.1) = false := by intro _; rfl) (hd : (x == ("__debug__" : Str)) = false := by decide) (hne : a ≠ P0 := by decide) :
    Ev C b n sc ρ (.Call (.Name x p) es [] pos) d := by
  refine .mk ?_
  rintro A env hid s E rfl hA X
  refine wpAny_Call_NameR (name_gl X hx hk ?_ hd)
  obtain ⟨o, fd, ho, hfd⟩ := hfo _ X.md
  refine callWith_function (o := o) (fd := fd) (args_plain (hp env) (ha.go rfl hA X fun vs s₁ k t X1 r => ⟨⟨k.heap.1 _ _ hne ho, hfd⟩, ?_⟩))
  refine wpAny_call (hF A hid s₁ _ vs hA X1.st r fun v s' k' r' => ⟨k.trans k', r'⟩)

theorem rep3 {key : Value} {V : Addr → Obj → Prop} {vs : List Value} {d e f : D} (h : RepAll key V vs [d, e, f]) : ∃ v u w, vs = [v, u, w] ∧ Rep key V v d ∧ Rep key V u e ∧ Rep key V w f := by
  cases h with
  | cons a r => obtain ⟨u, w, rfl, q, q'⟩ := rep2 r; exact ⟨_, _, _, rfl, a, q, q'⟩

/-- x.replace(y, z) of written texts -/
theorem Ev.replaceC {o : Expr} {apos pos p1 p2 : Pos} {kd1 kd2 : Nat} {x y z : Str} (hT : 1 ≤ C.tk) (ho : Ev C b n sc ρ o (.str x)) (hyz : (y == z) = false) (hz : x.length + (x.length + 1) * z.length ≤ 16777216)
    (hb : ∀ env, attributeBase o "replace" env (eval o env) = eval o env := by intro _; rfl) (hl : (apos.endLine == pos.line) = true := by rfl) :
    Ev C b n sc ρ (.Call (.Attribute o "replace" apos) [.Constant (.str y) kd1 p1, .Constant (.str z) kd2 p2] [] pos) (.str (Txt.replace x y z)) := by
  refine .mk ?_
  rintro A env hid s E hsc hA X
  refine wpAny_Call_method (hb env) (by rfl) hl F.plainAttrs_str F.slot_str_replace F.type_str_replace (ho.go hsc hA X fun ov s₁ k1 t1 X1 r1 => ?_)
  obtain ⟨t, rfl⟩ := is_str r1
  refine ⟨typeIs_str _ _ _, (by intro a e; cases e), ?_⟩
  show wpAny _ _ (callWith pos (.builtin "str.replace") [.str x t] [(false, eval (.Constant (.str y) kd1 p1) env), (false, eval (.Constant (.str z) kd2 p2) env)] []) _ _ _
  refine callWith_builtin rfl (evalArgs_plain (spliced_cons (wpAny_Constant_str (spliced_cons (wpAny_Constant_str (spliced_nil ?_))))))
  have ht := X1.tok
  refine SC.replace (show s₁.toks ≠ 0 by omega) (show s₁.toks + 1 ≠ 0 by omega) (show s₁.toks ≠ s₁.toks + 1 by omega) hyz hz fun t' k => ⟨k1.trans (.of_keeps (keeps_tok _ _)), rfl⟩
end

/-- the frame's environment, to be turned -/
structure EnvX (C : Ctx) (hid₀ W : Addr → Prop) (lo : Nat) (env : Env) (ρ : List (Str × D)) (s : Shared) : Prop where
  e : EnvE C (fun a => hid₀ a ∨ W a) env ρ s
  h106 : hid₀ P0
  hin : ∀ a, hid₀ a → ∃ o, s.heap.get? a = some o
  clo : C.lo ≤ lo
  plo : P0 < lo
  wlo : ∀ a, W a → lo ≤ a
  wl : W env.locals
  dis : ∀ a, W a → ¬ hid₀ a
  wc : ∀ x c, env.kindOf x = some .cell → env.cells.lookup x = some c → W c ∧ ∃ v, s.heap.IsCell c v
  ac : ∀ x y c, env.cells.lookup x = some c → env.cells.lookup y = some c → x = y
  own : ∃ m, s.heap.Ns env.locals m ∧ (∀ x d, ρ.lookup x = some d → d.isOwn = true → env.kindOf x = some .local ∧ ∃ a vs, m x = some (.ref a) ∧ W a ∧ PlainL s.heap a (List.toArray vs) ∧ (match d with | .ownI ns => IntsAre vs ns | .ownS ys => StrsAre vs ys | _ => False)) ∧
    (∀ x y d d' a, ρ.lookup x = some d → d.isOwn = true → ρ.lookup y = some d' → d'.isOwn = true → m x = some (.ref a) → m y = some (.ref a) → x = y)

/-- all is kept but what the frame may turn (and, if b is false, but the table) -/
def KpW (b : Bool) (W : Addr → Prop) (s s' : Shared) : Prop := ∃ h' tk, s' = { s with heap := h', toks := tk } ∧ (∀ a o, ¬ W a → (a ≠ P0 ∨ b = true) → s.heap.get? a = some o → h'.get? a = some o) ∧ (Tab s.heap → Tab h')
end Mine
end
section
open PySem PySem.W PyProof.Rows PySem.Calls
namespace Mine
section
variable {C : Ctx} {b : Bool} {n : Nat} {sc : Scope} {ρ : List (Str × D)}

def ItP (xs : List Sc) (i : Nat) (v : Value) : Prop := ∃ x, xs[i]? = some x ∧ Sc.Is v x
theorem walks_imp {prog : Program} {w : World} {A : Around} {I : Addr} {fp wr : List Addr} {n : Nat} {P P' : Nat → Value → Prop} {St : Nat → Heap → Prop} (h : Walks prog w A I fp wr n P St) (hp : ∀ i v, i < n → P i v → P' i v) : Walks prog w A I fp wr n P' St where
  sub := h.sub
  frame := h.frame
  item := fun i s Q E hi st hQ => h.item i s Q E hi st fun v h' tk hP => hQ v h' tk (hp i v hi hP)
  done := h.done
  self := h.self

/-- an iterable: what it gives, one after the other -/
structure Iter (C : Ctx) (b : Bool) (n : Nat) (sc : Scope) (ρ : List (Str × D)) (e : Expr) (xs : List Sc) : Prop where
  all : ∀ (A : Around) (env : Env) (hid : Addr → Prop) (s : Shared) (E : Value → Shared → Prop) (Q : Value → Shared → Prop), env.scope = sc → Calm n A → EnvE C hid env ρ s →
    (∀ I s₂ fp wr St', KR b s s₂ → s.toks ≤ s₂.toks → EnvE C hid env ρ s₂ → Walks prog C.w A I fp wr xs.length (ItP xs) St' → St' 0 s₂.heap → (∀ a ∈ fp, a < s₂.heap.objs.size ∧ ¬ hid a) → (∀ a ∈ wr, s.heap.get? a = none) → Q (.ref I) s₂) →
    wpAny (model prog C.w) A (eval e env) (fun xv s₁ => wpAny (model prog C.w) A (pyIter xv) Q E s₁) E s

theorem kr_none {s s' : Shared} (k : KpH s.heap s'.heap) (t : Tab s.heap) {a : Addr} (h : s'.heap.get? a = none) : s.heap.get? a = none := by
  cases e : s.heap.get? a with
  | none => rfl
  | some o =>
    by_cases q : a = P0
    · obtain ⟨ps, x, _⟩ := k.2 t
      rw [← q, h] at x; cases x
    · rw [k.1 a o q e] at h; cases h
theorem Iter.ints {e : Expr} {ns : List Int} (h : Ev C b n sc ρ e (.ints ns)) : Iter C b n sc ρ e (ns.map Sc.int) := .mk fun A env hid s E Q hs hA X k =>
  h.go hs hA X fun v s₁ k1 t1 X1 r => by
    obtain ⟨l, vs, rfl, hl, hi, hn⟩ := rep_ints r
    refine wpAny_pyIter_list hl ?_
    have hll : l < s₁.heap.objs.size := let ⟨_, ho, _⟩ := id hl; Heap.lt_size ho
    have kk := keeps_push s₁ { cls := .type "list_iterator", data := .fields #[.ref l, .int 0 0] } s₁.toks
    have X2 := X1.kp (KR.of_keeps (b := true) kk).heap (Nat.le_refl _)
    have W := walks_imp (P' := ItP (ns.map Sc.int)) (Walks.list (prog := prog) (w := C.w) hA.1 s₁.heap.objs.size l (Nat.ne_of_lt hll) vs.toArray) fun i v _ hv => by
      obtain ⟨m, t, e1, e2⟩ := hi.at i v (by simpa using hv)
      exact ⟨.int m, by simp [e2], by rw [e1]; rfl⟩
    rw [show vs.toArray.size = _ by rw [List.size_toArray, hi.length, ← List.length_map (f := Sc.int)]] at W
    refine k s₁.heap.objs.size _ _ _ _ (k1.trans (.of_keeps kk)) t1 X2 W ⟨⟨_, Heap.get?_push_size _ rfl, rfl, rfl⟩, hl.push _⟩ ?_ ?_
    · intro a ha
      simp only [List.mem_cons, List.not_mem_nil, or_false] at ha
      rcases ha with rfl | rfl
      · exact ⟨by simp [Heap.size_push], X1.fresh (get_size _)⟩
      · exact ⟨Nat.lt_of_lt_of_le hll (by simp [Heap.size_push]), hn⟩
    · intro a ha
      simp only [List.mem_cons, List.not_mem_nil, or_false] at ha
      subst ha
      exact kr_none k1.heap X.tab (get_size _)
theorem Iter.strs {e : Expr} {ys : List Str} (h : Ev C b n sc ρ e (.strs ys)) : Iter C b n sc ρ e (ys.map Sc.str) := .mk fun A env hid s E Q hs hA X k =>
  h.go hs hA X fun v s₁ k1 t1 X1 r => by
    obtain ⟨l, vs, rfl, hl, hi, hn⟩ := rep_strs r
    refine wpAny_pyIter_list hl ?_
    have hll : l < s₁.heap.objs.size := let ⟨_, ho, _⟩ := id hl; Heap.lt_size ho
    have kk := keeps_push s₁ { cls := .type "list_iterator", data := .fields #[.ref l, .int 0 0] } s₁.toks
    have X2 := X1.kp (KR.of_keeps (b := true) kk).heap (Nat.le_refl _)
    have W := walks_imp (P' := ItP (ys.map Sc.str)) (Walks.list (prog := prog) (w := C.w) hA.1 s₁.heap.objs.size l (Nat.ne_of_lt hll) vs.toArray) fun i v _ hv => by
      obtain ⟨m, t, e1, e2⟩ := hi.item i v (by simpa using hv)
      exact ⟨.str m, by simp [e2], by rw [e1]; rfl⟩
    rw [show vs.toArray.size = _ by rw [List.size_toArray, hi.length, ← List.length_map (f := Sc.str)]] at W
    refine k s₁.heap.objs.size _ _ _ _ (k1.trans (.of_keeps kk)) t1 X2 W ⟨⟨_, Heap.get?_push_size _ rfl, rfl, rfl⟩, hl.push _⟩ ?_ ?_
    · intro a ha
      simp only [List.mem_cons, List.not_mem_nil, or_false] at ha
      rcases ha with rfl | rfl
      · exact ⟨by simp [Heap.size_push], X1.fresh (get_size _)⟩
      · exact ⟨Nat.lt_of_lt_of_le hll (by simp [Heap.size_push]), hn⟩
    · intro a ha
      simp only [List.mem_cons, List.not_mem_nil, or_false] at ha
      subst ha
      exact kr_none k1.heap X.tab (get_size _)
theorem Iter.str {e : Expr} {x : Str} (h : Ev C b n sc ρ e (.str x)) : Iter C b n sc ρ e (x.cps.toList.map fun c => Sc.str ⟨#[c]⟩) := .mk fun A env hid s E Q hs hA X k =>
  h.go hs hA X fun v s₁ k1 t1 X1 r => by
    obtain ⟨t, rfl⟩ := is_str r
    refine wpAny_pyIter_str fun o St hW hst => ?_
    have kk := keeps_push s₁ o s₁.toks
    have X2 := X1.kp (KR.of_keeps (b := true) kk).heap (Nat.le_refl _)
    have W := walks_imp (P' := ItP (x.cps.toList.map fun c => Sc.str ⟨#[c]⟩)) (hW A hA.1) fun i v _ ⟨c, u, e1, e2⟩ => ⟨.str ⟨#[c]⟩, by simp [e1], by rw [e2]; rfl⟩
    rw [show x.cps.size = (x.cps.toList.map fun c => Sc.str ⟨#[c]⟩).length by simp] at W
    refine k s₁.heap.objs.size _ _ _ _ (k1.trans (.of_keeps kk)) t1 X2 W hst ?_ ?_
    · intro a ha
      simp only [List.mem_cons, List.not_mem_nil, or_false] at ha
      subst ha
      exact ⟨by simp [Heap.size_push], X1.fresh (get_size _)⟩
    · intro a ha
      simp only [List.mem_cons, List.not_mem_nil, or_false] at ha
      subst ha
      exact kr_none k1.heap X.tab (get_size _)
def rng (lo hi : Int) : List Int := (List.range (hi - lo).toNat).map fun i : Nat => lo + (i : Int)
theorem Iter.range1 {e : Expr} {p pos : Pos} {m : Int} (h : Ev C b n sc ρ e (.int m)) (h0 : -1000000 ≤ m) (h1 : m ≤ 1000000) (hk : sc.names.lookup ("range" : Str) = some .globalImplicit := by rfl)
    (hp : ∀ env, starEach [e] env = [(false, eval e env)] := by intro _; rfl) : Iter C b n sc ρ (.Call (.Name "range" p) [e] [] pos) ((rng 0 m).map Sc.int) := by
  refine .mk ?_
  rintro A env hid s E Q rfl hA X k
  refine wpAny_Call_NameR (name_bi X (v := .type "range") (by decide +kernel) (by decide) hk ?_)
  have he : backTo pos (starEach [e] env) = [(false, eval e env)] := by rw [hp]; rfl
  rw [he]
  refine PyProof.Rows.callWith_type rfl (evalArgs_plain (spliced_cons (h.go rfl hA X fun v s₁ k1 t1 X1 r => spliced_nil ?_)))
  obtain ⟨t, rfl⟩ := is_int r
  refine call_range_1 ?_
  refine wpAny_pyIter_range (IsRange.new _ _ _ _ _ _ _) (small_one (by omega) (by omega) (by omega) (by omega)) ?_
  have hsz : Builtin.Range.rangeSize 0 m 1 = ((m - 0).toNat : Int) := by rw [rangeSize_one]; split <;> omega
  have kk1 := keeps_push s₁ { cls := .type "range", data := .fields #[.int 0 s₁.toks, .int m t, .int 1 (s₁.toks + 1)] } (s₁.toks + 1 + 1)
  have kk2 := keeps_push { s₁ with heap := s₁.heap.push { cls := .type "range", data := .fields #[.int 0 s₁.toks, .int m t, .int 1 (s₁.toks + 1)] }, toks := s₁.toks + 1 + 1 } { cls := .type "range_iterator", data := .fields #[rawInt 0, rawInt (Builtin.Range.rangeSize 0 m 1), rawInt 1] } (s₁.toks + 1 + 1)
  have X2 := (X1.kp (KR.of_keeps (b := true) kk1).heap (by show s₁.toks ≤ s₁.toks + 1 + 1; omega))
  have X3 := X2.kp (KR.of_keeps (b := true) kk2).heap (Nat.le_refl _)
  have W := walks_imp (P' := ItP ((rng 0 m).map Sc.int)) (Walks.range (prog := prog) (w := C.w) hA.1 (s₁.heap.push { cls := .type "range", data := .fields #[.int 0 s₁.toks, .int m t, .int 1 (s₁.toks + 1)] }).objs.size 0 1 (m - 0).toNat) fun i v hi hv => by
    obtain ⟨t', e⟩ := hv
    have hi' : i < m.toNat := by simpa using hi
    exact ⟨.int (0 + (i : Int)), by simp [rng, hi'], by rw [e]; show 0 + (i : Int) * 1 = 0 + (i : Int); omega⟩
  rw [show (m - 0).toNat = ((rng 0 m).map Sc.int).length by simp [rng]] at W
  refine k _ _ _ _ _ ((k1.trans (.of_keeps kk1)).trans (.of_keeps kk2)) (by show s.toks ≤ s₁.toks + 1 + 1; omega) X3 W ?_ ?_ ?_
  · have e1 : (0 + ((0 : Nat) : Int) * 1) = 0 := by simp
    have e2 : ((((rng 0 m).map Sc.int).length : Int) - ((0 : Nat) : Int)) = Builtin.Range.rangeSize 0 m 1 := by rw [hsz]; simp [rng]
    show IsRangeIter _ _ (0 + ((0 : Nat) : Int) * 1) ((((rng 0 m).map Sc.int).length : Int) - ((0 : Nat) : Int)) 1
    rw [e1, e2]
    exact Heap.get?_push_size _ rfl
  · intro a ha
    simp only [List.mem_cons, List.not_mem_nil, or_false] at ha
    subst ha
    exact ⟨by simp [Heap.size_push], X2.fresh (get_size _)⟩
  · intro a ha
    simp only [List.mem_cons, List.not_mem_nil, or_false] at ha
    subst ha
    exact kr_none (k1.heap.trans (KR.of_keeps (b := true) kk1).heap) X.tab (get_size _)
end
end Mine
end
section
open PySem PySem.W PyProof.Rows PySem.Calls
namespace Mine

def closL (env : Env) : List (Str × NameKind) → List (Str × Addr) → List (Str × Addr)
  | [], acc => acc
  | (x, k) :: r, acc => if k == .free then closL env r ((x, (env.cells.lookup x).getD 0) :: acc) else closL env r acc
theorem closL_in (env : Env) : ∀ (names : List (Str × NameKind)) (acc : List (Str × Addr)) (y : Str), ((y, NameKind.free) ∈ names → (closL env names acc).lookup y = some ((env.cells.lookup y).getD 0)) ∧
    ((y, NameKind.free) ∉ names → (closL env names acc).lookup y = acc.lookup y)
  | [], acc, y => ⟨fun h => (nomatch h), fun _ => rfl⟩
  | (x, k) :: r, acc, y => by
    unfold closL
    by_cases hk : k = .free
    · subst hk
      simp only [beq_self_eq_true, if_true]
      have ih := closL_in env r ((x, (env.cells.lookup x).getD 0) :: acc) y
      by_cases hr : (y, NameKind.free) ∈ r
      · exact ⟨fun _ => ih.1 hr, fun h => absurd (List.mem_cons_of_mem _ hr) h⟩
      · refine ⟨fun h => ?_, fun h => ?_⟩
        · rcases List.mem_cons.mp h with e | h
          · cases e
            rw [ih.2 hr, List.lookup_cons]; simp
          · exact absurd h hr
        · rw [ih.2 hr, List.lookup_cons]
          have : (y == x) = false := by
            rw [beq_eq_false_iff_ne]; rintro rfl
            exact h List.mem_cons_self
          rw [this]
    · have hb : (k == NameKind.free) = false := by simpa using hk
      simp only [hb, Bool.false_eq_true, if_false]
      have ih := closL_in env r acc y
      refine ⟨fun h => ih.1 ?_, fun h => ih.2 fun q => h (List.mem_cons_of_mem _ q)⟩
      rcases List.mem_cons.mp h with e | h
      · cases e; exact absurd rfl hk
      · exact h
theorem clos_go (env : Env) (f : Str × NameKind → List (Str × Addr) → Sem (ForInStep (List (Str × Addr))))
    (hf : ∀ x k cs, f (x, k) cs = if k == .free then (do let a ← cellOf env x; pure (.yield ((x, a) :: cs))) else pure (.yield cs)) :
    ∀ (names : List (Str × NameKind)) (acc : List (Str × Addr)), (∀ x ∈ names, x.2 = .free → (env.cells.lookup x.1).isSome = true) → forIn names acc f = (pure (closL env names acc) : Sem _)
  | [], acc, _ => by rw [List.forIn_nil]; rfl
  | (x, k) :: r, acc, h => by
    rw [List.forIn_cons, hf]
    unfold closL
    by_cases hk : k = .free
    · subst hk
      obtain ⟨a, ha⟩ := Option.isSome_iff_exists.mp (h (x, .free) List.mem_cons_self rfl)
      simp only [beq_self_eq_true, if_true]
      have : cellOf env x = (pure a : Sem Addr) := by unfold cellOf; rw [ha]
      rw [this, ha]
      show forIn r ((x, a) :: acc) f = _
      exact clos_go env f hf r _ fun y hy => h y (List.mem_cons_of_mem _ hy)
    · have hb : (k == NameKind.free) = false := by simpa using hk
      simp only [hb, Bool.false_eq_true, if_false]
      show forIn r acc f = _
      exact clos_go env f hf r _ fun y hy => h y (List.mem_cons_of_mem _ hy)
theorem closureFor_eq {scope : Scope} {env : Env} (h : ∀ x ∈ scope.names, x.2 = .free → (env.cells.lookup x.1).isSome = true) : closureFor scope env = pure (closL env scope.names []) := by
  simp only [closureFor]
  rw [clos_go env _ (fun x k cs => by cases hk : k == NameKind.free <;> simp [hk]) scope.names [] h]
  rfl

def relab (scope sc : Scope) : Scope := { scope with names := scope.names.map fun (n, k) => if (k == .free && sc.kind == .function && sc.names.lookup n == some .cell) then (n, .cell) else (n, k) }
def freeOf (scope : Scope) (y : Str) : Bool := scope.names.any fun p => p.1 == y && p.2 == .free
def frρ (scope : Scope) (ρ : List (Str × D)) : List (Str × D) := ρ.filter fun p => freeOf scope p.1
theorem frρ_lookup (scope : Scope) : ∀ (ρ : List (Str × D)) (y : Str) (d : D), (frρ scope ρ).lookup y = some d → freeOf scope y = true ∧ ρ.lookup y = some d
  | [], _, _, h => by cases h
  | (x, e) :: r, y, d, h => by
    unfold frρ at h
    rw [List.filter_cons] at h
    by_cases hx : freeOf scope x = true
    · rw [if_pos hx, List.lookup_cons] at h
      rw [List.lookup_cons]
      cases hy : y == x with
      | true =>
        rw [hy] at h
        exact ⟨by rw [beq_iff_eq.mp hy]; exact hx, h⟩
      | false =>
        rw [hy] at h
        exact frρ_lookup scope r y d h
    · rw [if_neg hx] at h
      obtain ⟨a, c⟩ := frρ_lookup scope r y d h
      refine ⟨a, ?_⟩
      rw [List.lookup_cons]
      have : (y == x) = false := by
        rw [beq_eq_false_iff_ne]; rintro rfl
        exact hx a
      rw [this]; exact c

def pv (p : Sc → Bool) : Value → Bool
  | .none => p .none
  | .bool c => p (.bool c)
  | .int i _ => p (.int i)
  | .str x _ => p (.str x)
  | _ => false
theorem pv_is {p : Sc → Bool} {v : Value} {x : Sc} (h : Sc.Is v x) : pv p v = p x := by
  cases x with
  | none => rw [is_none h]; rfl
  | bool c => rw [is_bool h]; rfl
  | int i => obtain ⟨t, rfl⟩ := is_int h; rfl
  | str y => obtain ⟨t, rfl⟩ := is_str h; rfl
theorem is_unique {v : Value} {x y : Sc} (h : Sc.Is v x) (h' : Sc.Is v y) : x = y := by
  cases x <;> cases v <;> cases y <;> simp_all [Sc.Is]
theorem paired_of {xs : List Sc} : ∀ {vs : List Value}, vs.length = xs.length → (∀ j v, vs[j]? = some v → ItP xs j v) → Paired Sc.Is vs xs := by
  induction xs with
  | nil => intro vs h _; cases vs with | nil => exact .nil | cons _ _ => cases h
  | cons x xs ih =>
    intro vs h hp
    cases vs with
    | nil => cases h
    | cons v vs =>
      obtain ⟨y, e, r⟩ := hp 0 v rfl
      cases e
      refine .cons r (ih (by simpa using h) fun j u hj => ?_)
      obtain ⟨z, e, q⟩ := hp (j + 1) u (by simpa using hj)
      exact ⟨z, by simpa using e, q⟩
theorem paired_filter {p : Sc → Bool} : ∀ {vs : List Value} {xs : List Sc}, Paired Sc.Is vs xs → Paired Sc.Is (vs.filter (pv p)) (xs.filter p)
  | _, _, .nil => .nil
  | v :: vs, x :: xs, .cons h r => by
    rw [List.filter_cons, List.filter_cons, pv_is h]
    cases p x
    · simpa using paired_filter r
    · simpa using Paired.cons h (paired_filter r)
theorem ints_of_paired {f : Sc → Int} : ∀ {us : List Value} {ws : List Sc} {ys : List Value}, Paired Sc.Is us ws → Paired (fun v y => ∃ s t, Sc.Is v s ∧ y = Value.int (f s) t) us ys → IntsAre ys (ws.map f)
  | _, _, _, .nil, .nil => .nil
  | _, _, _, .cons h r, .cons h' r' => by
    obtain ⟨s, t, a, rfl⟩ := h'
    rw [is_unique a h]
    exact .cons _ t (ints_of_paired r r')
theorem strs_of_paired {f : Sc → Str} : ∀ {us : List Value} {ws : List Sc} {ys : List Value}, Paired Sc.Is us ws → Paired (fun v y => ∃ s t, Sc.Is v s ∧ y = Value.str (f s) t) us ys → StrsAre ys (ws.map f)
  | _, _, _, .nil, .nil => .nil
  | _, _, _, .cons h r, .cons h' r' => by
    obtain ⟨s, t, a, rfl⟩ := h'
    rw [is_unique a h]
    exact .cons _ t (strs_of_paired r r')

theorem EnvE.comp {C : Ctx} {hid : Addr → Prop} {env : Env} {ρ : List (Str × D)} {s s₃ : Shared} (X : EnvE C hid env ρ s) {scope : Scope} {Cc : Addr} {m₃ : Str → Option Value} {x : Str} {v : Value} {y : Sc}
    (hC : s.heap.get? Cc = none) (hC' : Cc ≠ P0) (hk : ∀ b o, s.heap.get? b = some o → s₃.heap.get? b = some o) (ht : s.toks ≤ s₃.toks) (hn : s₃.heap.Ns Cc m₃) (hm : m₃ x = some v) (hv : Sc.Is v y)
    (hkind : scope.kind = .function) (hx : scope.names.lookup x = some .local)
    (hfr : scope.names.all (fun p => p.2 != .free || env.kindOf p.1 == some .cell || env.kindOf p.1 == some .free) = true) (hnd : scope.names.all (fun p => scope.names.lookup p.1 == some p.2) = true) (hcl : scope.names.all (fun p => p.2 != .cell) = true) :
    EnvE C (fun a => hid a ∨ a = Cc) (compEnvC scope (closL env scope.names []) Cc env) ((x, .sc y) :: frρ scope ρ) s₃ := by
  have K : KpH s.heap s₃.heap := .of_keeps hk
  have vis : ∀ a o, Vis hid s.heap a o → Vis (fun a => hid a ∨ a = Cc) s₃.heap a o := fun a o z => ⟨hk a o z.1, fun q => by
    rcases q with q | q
    · exact z.2 q
    · have z1 := z.1
      rw [q, hC] at z1; cases z1⟩
  have hfree : ∀ z, freeOf scope z = true → (z, NameKind.free) ∈ scope.names ∧ scope.names.lookup z = some .free ∧ (env.kindOf z = some .cell ∨ env.kindOf z = some .free) := fun z h => by
    obtain ⟨p, hp, e⟩ := List.any_eq_true.mp h
    obtain ⟨e1, e2⟩ := Bool.and_eq_true_iff.mp e
    have e1 := beq_iff_eq.mp e1
    have e2 := beq_iff_eq.mp e2
    have h1 := List.all_eq_true.mp hfr p hp
    have h2 := List.all_eq_true.mp hnd p hp
    obtain ⟨a, k⟩ := p
    dsimp only at e1 e2 h1 h2
    subst e1 e2
    refine ⟨hp, beq_iff_eq.mp h2, ?_⟩
    simpa using h1
  have hlk : ∀ z, (env.kindOf z = some .cell ∨ env.kindOf z = some .free) → scope.names.lookup z = some .free → (compEnvC scope (closL env scope.names []) Cc env).kindOf z = some .cell ∨ (compEnvC scope (closL env scope.names []) Cc env).kindOf z = some .free := fun z hz hf => by
    show (relabel scope env).names.lookup z = _ ∨ (relabel scope env).names.lookup z = _
    unfold relabel
    generalize hN : scope.names = N at hf
    clear hN hnd hfr hfree hx hn
    induction N with
    | nil => cases hf
    | cons p r ih =>
      obtain ⟨a, k⟩ := p
      simp only [List.map_cons]
      rw [List.lookup_cons] at hf
      cases hza : z == a with
      | true =>
        rw [hza] at hf
        cases hf
        by_cases hc : (NameKind.free == NameKind.free && env.scope.kind == .function && env.kindOf a == some .cell) = true
        · rw [if_pos hc, List.lookup_cons, hza]; exact .inl rfl
        · rw [if_neg hc, List.lookup_cons, hza]; exact .inr rfl
      | false =>
        rw [hza] at hf
        have := ih hf
        by_cases hc : (k == NameKind.free && env.scope.kind == .function && env.kindOf a == some .cell) = true
        · rw [if_pos hc, List.lookup_cons, hza]; exact this
        · rw [if_neg hc, List.lookup_cons, hza]; exact this
  exact {
    kind := by show (relabel scope env).kind = _; exact hkind
    glob := X.glob
    bi := X.bi
    tok := Nat.le_trans X.tok ht
    md := C.stable _ _ K.below X.md
    tab := K.2 X.tab
    h106 := .inl X.h106
    hin := fun a ha => by
      rcases ha with ha | ha
      · obtain ⟨o, e⟩ := X.hin a ha; exact ⟨o, hk _ _ e⟩
      · obtain ⟨o, _, _, e, _⟩ := hn; exact ⟨o, ha ▸ e⟩
    L106 := hC'
    opn := fun a ha q => q.elim (X.opn a ha) fun e => by
      obtain ⟨o, e'⟩ := C.opx _ X.md a ha
      rw [e, hC] at e'; cases e'
    cc := fun z hz => by
      have hf : (z, NameKind.free) ∈ scope.names ∨ (z, NameKind.cell) ∈ scope.names := by
        have h2 : ∀ kk, (compEnvC scope (closL env scope.names []) Cc env).kindOf z = some kk → kk = .cell ∨ kk = .free → (z, NameKind.free) ∈ scope.names ∨ (z, NameKind.cell) ∈ scope.names := by
          intro kk h hkk
          have h : (relabel scope env).names.lookup z = some kk := h
          have h := mem_of_lookup h
          unfold relabel at h
          obtain ⟨⟨a, k⟩, hq, e⟩ := List.mem_map.mp h
          dsimp only at e
          split at e
          · rename_i hc
            simp only [Bool.and_eq_true, beq_iff_eq] at hc
            cases e; exact .inl (hc.1.1 ▸ hq)
          · cases e
            rcases hkk with rfl | rfl
            · exact .inr hq
            · exact .inl hq
        rcases hz with q | q
        · exact h2 _ q (.inl rfl)
        · exact h2 _ q (.inr rfl)
      show ((closL env scope.names []).lookup z).isSome = true
      rcases hf with h | h
      · rw [(closL_in env scope.names [] z).1 h]; rfl
      · exact absurd h (fun h => by simpa using List.all_eq_true.mp hcl _ h)
    loc := ⟨m₃, hn, fun z d hz ho hkz => by
      rw [List.lookup_cons] at hz
      cases hzx : z == x with
      | true =>
        rw [hzx] at hz
        cases hz
        rw [beq_iff_eq.mp hzx]
        exact ⟨v, hm, hv⟩
      | false =>
        rw [hzx] at hz
        obtain ⟨a1, a2⟩ := frρ_lookup scope ρ z d hz
        obtain ⟨_, b2, b3⟩ := hfree z a1
        rcases hlk z b3 b2 with q | q <;> (rw [hkz] at q; cases q)⟩
    cel := fun z d hz ho hkz => by
      rw [List.lookup_cons] at hz
      cases hzx : z == x with
      | true =>
        have e := beq_iff_eq.mp hzx
        subst e
        have : (compEnvC scope (closL env scope.names []) Cc env).kindOf z = some .local := lookup_relabel_local hx
        rw [this] at hkz
        rcases hkz with q | q <;> cases q
      | false =>
        rw [hzx] at hz
        obtain ⟨a1, a2⟩ := frρ_lookup scope ρ z d hz
        obtain ⟨b1, b2, b3⟩ := hfree z a1
        obtain ⟨c, u, c1, c2, c3, c4⟩ := X.cel z d a2 ho b3
        refine ⟨c, u, ?_, c2, c3.keeps hk, c4.mono vis⟩
        show (closL env scope.names []).lookup z = some c
        rw [(closL_in env scope.names [] z).1 b1, c1]; rfl }

/-- the tests of a comprehension -/
structure TrIfs (C : Ctx) (n : Nat) (sc : Scope) (ρ : List (Str × D)) (ifs : List Expr) (c : Bool) : Prop where
  all : ∀ (A : Around) (env : Env) (hid : Addr → Prop) (s : Shared) (E : Value → Shared → Prop), env.scope = sc → Calm n A → EnvE C hid env ρ s →
    wpAny (model prog C.w) A (forIn ifs true fun c r => if r = true then do let ok ← isTrue c env (eval c env); pure (ForInStep.yield ok) else pure (ForInStep.yield r)) (fun ok s' => ok = c ∧ Keeps s s') E s
section
variable {C : Ctx} {b : Bool} {n : Nat} {sc : Scope} {ρ : List (Str × D)}
theorem TrIfs.nil : TrIfs C n sc ρ [] true := .mk fun A env hid s E _ _ _ => wpAny_tests_nil ⟨rfl, keeps_refl _⟩
theorem TrIfs.one {e : Expr} {c : Bool} (h : Tr C true n sc ρ e c) : TrIfs C n sc ρ [e] c := .mk fun A env hid s E hs hA X => wpAny_tests_one (wpAny_mono (h.all A env hid s E hs hA X) (fun _ _ x => x) fun _ _ x => x)

theorem quiet_of {env : Env} {hid : Addr → Prop} {s s₂ : Shared} {A : Around} {scope : Scope} {x : Str} {ifs : List Expr} {elt : Expr} {wr : List Addr} {xs : List Sc} {p : Sc → Bool} {f : Sc → D} {F : Value → Value → Prop}
    (hs : env.scope = sc) (hA : Calm n A) (X : EnvE C hid env ρ s) (hk : Keeps s s₂) (ht : s.toks ≤ s₂.toks) (hwr : ∀ a ∈ wr, s.heap.get? a = none) (hP : P0 < s₂.heap.objs.size)
    (htest : ∀ y ∈ xs, TrIfs C n (relab scope sc) ((x, .sc y) :: frρ scope ρ) ifs (p y)) (helt : ∀ y ∈ xs, p y = true → Ev C true n (relab scope sc) ((x, .sc y) :: frρ scope ρ) elt (f y))
    (hF : ∀ v y u, Sc.Is v y → Rep C.key (fun _ _ => True) u (f y) → F v u)
    (hkind : scope.kind = .function) (hx : scope.names.lookup x = some .local)
    (hfr : scope.names.all (fun p => p.2 != .free || sc.names.lookup p.1 == some .cell || sc.names.lookup p.1 == some .free) = true) (hnd : scope.names.all (fun p => scope.names.lookup p.1 == some p.2) = true) (hcl : scope.names.all (fun p => p.2 != .cell) = true) :
    QuietOnC prog C.w A env scope (closL env scope.names []) x ifs elt wr (ItP xs) (pv p) F s₂ := by
  subst hs
  have key : ∀ Cc i v s₃ m₃, s₂.heap.objs.size ≤ Cc → ItP xs i v → s₃.heap.Ns Cc m₃ → m₃ x = some v → (∀ b o, b ∉ wr → s₂.heap.get? b = some o → s₃.heap.get? b = some o) → s₂.toks ≤ s₃.toks →
      ∃ y, y ∈ xs ∧ Sc.Is v y ∧ EnvE C (fun a => hid a ∨ a = Cc) (compEnvC scope (closL env scope.names []) Cc env) ((x, .sc y) :: frρ scope ρ) s₃ := by
    rintro Cc i v s₃ m₃ hC ⟨y, e, hv⟩ hn hm hk3 ht3
    have hk' : ∀ b o, s.heap.get? b = some o → s₃.heap.get? b = some o := fun b o e => hk3 b o (fun q => by rw [hwr b q] at e; cases e) (keeps_heap hk b o e)
    refine ⟨y, List.mem_of_getElem? e, hv, X.comp ?_ (Nat.ne_of_gt (Nat.lt_of_lt_of_le hP hC)) hk' (Nat.le_trans ht ht3) hn hm hv hkind hx hfr hnd hcl⟩
    cases q : s.heap.get? Cc with
    | none => rfl
    | some o => exact absurd (Heap.lt_size (keeps_heap hk _ _ q)) (Nat.not_lt.mpr hC)
  refine ⟨fun Cc i v s₃ m₃ E' hC hP' hn hm hk3 ht3 => ?_, fun Cc i v s₃ m₃ E' hC hP' hp hn hm hk3 ht3 => ?_⟩
  · obtain ⟨y, hy, hv, X'⟩ := key Cc i v s₃ m₃ hC hP' hn hm hk3 ht3
    rw [pv_is hv]
    exact (htest y hy).all A _ _ s₃ E' rfl hA X'
  · obtain ⟨y, hy, hv, X'⟩ := key Cc i v s₃ m₃ hC hP' hn hm hk3 ht3
    rw [pv_is hv] at hp
    refine wpAny_mono ((helt y hy hp).all A _ _ s₃ E' rfl hA X') (fun u s₄ z => ⟨hF v y u hv (z.2.mono fun _ _ _ => trivial), z.1⟩) fun _ _ e => e

theorem Ev.comp {elt iter : Expr} {ifs : List Expr} {x : Str} {px pos : Pos} {scope : Scope} {xs : List Sc} {p : Sc → Bool} {f : Sc → D} {d : D} {F : Value → Value → Prop} (hit : Iter C true n sc ρ iter xs)
    (htest : ∀ y ∈ xs, TrIfs C n (relab scope sc) ((x, .sc y) :: frρ scope ρ) ifs (p y)) (helt : ∀ y ∈ xs, p y = true → Ev C true n (relab scope sc) ((x, .sc y) :: frρ scope ρ) elt (f y))
    (hF : ∀ v y u, Sc.Is v y → Rep C.key (fun _ _ => True) u (f y) → F v u)
    (hd : ∀ (hid : Addr → Prop) (h : Heap) (l : Addr) (ys : Array Value) (us : List Value), h.IsList l ys → ¬ hid l → Paired Sc.Is us (xs.filter p) → Paired F us ys.toList → Rep C.key (Vis hid h) (.ref l) d)
    (hz : xs.length ≤ 10000) (hkind : scope.kind = .function := by rfl) (hx : scope.names.lookup x = some .local := by rfl)
    (hfr : scope.names.all (fun p => p.2 != .free || sc.names.lookup p.1 == some .cell || sc.names.lookup p.1 == some .free) = true := by rfl) (hnd : scope.names.all (fun p => scope.names.lookup p.1 == some p.2) = true := by rfl)
    (hcl : scope.names.all (fun p => p.2 != .cell) = true := by rfl) (hfo : ∀ env x, foldedSetIterable iter env x = pure x := by intro _ _; rfl) :
    Ev C true n sc ρ (.ListComp elt [⟨.Name x px, iter, ifs, 0⟩] scope pos) d := by
  refine .mk ?_
  rintro A env hid s E rfl hA X
  have hclos : closureFor scope env = pure (closL env scope.names []) := closureFor_eq fun z hz hf => by
    have h1 := List.all_eq_true.mp hfr z hz
    rw [hf] at h1
    refine X.cc z.1 ?_
    simpa [Env.kindOf] using h1
  refine wpAny_ListComp_free (pv p) F hclos (fun z hz => by simpa using List.all_eq_true.mp hcl z hz) hkind (fun z hz hl => by have := beq_iff_eq.mp (List.all_eq_true.mp hnd z hz); rw [this, hl]) hx
    (hit.all A env hid s E _ rfl hA X fun I s₂ fp wr St' k t X2 W hst hfp hwr => ?_) (hfo env)
  refine ⟨I, fp, wr, xs.length, _, St', rfl, W, by rw [sizeLine_eq]; omega, hst, fun b hb => (hfp b hb).1, quiet_of rfl hA X k t hwr (Nat.lt_of_lt_of_le C.plo (C.big _ X2.md)) htest helt hF hkind hx hfr hnd hcl, ?_⟩
  intro D h' tk ys vs hD hl hpl hlen hP hpair hk
  have hk' : ∀ b o, s.heap.get? b = some o → h'.get? b = some o := fun b o e => hk b o (fun q => by rw [hwr b q] at e; cases e) (keeps_heap k b o e)
  obtain ⟨h2, t2, rfl, _⟩ := id k
  exact ⟨⟨h', tk, rfl, hk'⟩, hd hid h' D ys _ hl (X2.fresh hD) (paired_filter (paired_of hlen hP)) hpair⟩

theorem Ev.compInts {elt iter : Expr} {ifs : List Expr} {x : Str} {px pos : Pos} {scope : Scope} {xs : List Sc} {p : Sc → Bool} {f : Sc → Int} (hit : Iter C true n sc ρ iter xs)
    (htest : ∀ y ∈ xs, TrIfs C n (relab scope sc) ((x, .sc y) :: frρ scope ρ) ifs (p y)) (helt : ∀ y ∈ xs, p y = true → Ev C true n (relab scope sc) ((x, .sc y) :: frρ scope ρ) elt (.int (f y)))
    (hz : xs.length ≤ 10000) (hkind : scope.kind = .function := by rfl) (hx : scope.names.lookup x = some .local := by rfl)
    (hfr : scope.names.all (fun p => p.2 != .free || sc.names.lookup p.1 == some .cell || sc.names.lookup p.1 == some .free) = true := by rfl) (hnd : scope.names.all (fun p => scope.names.lookup p.1 == some p.2) = true := by rfl)
    (hcl : scope.names.all (fun p => p.2 != .cell) = true := by rfl) (hfo : ∀ env x, foldedSetIterable iter env x = pure x := by intro _ _; rfl) :
    Ev C true n sc ρ (.ListComp elt [⟨.Name x px, iter, ifs, 0⟩] scope pos) (.ints ((xs.filter p).map f)) :=
  Ev.comp (f := fun y => .int (f y)) (F := fun v u => ∃ s t, Sc.Is v s ∧ u = Value.int (f s) t) hit htest helt (fun v y u hv hu => let ⟨t, e⟩ := is_int hu; ⟨y, t, hv, e⟩)
    (fun hid h l ys us hl hn h1 h2 => ints_rep (vs := ys.toList) hl (ints_of_paired h1 h2) hn) hz hkind hx hfr hnd hcl hfo
theorem Ev.compStrs {elt iter : Expr} {ifs : List Expr} {x : Str} {px pos : Pos} {scope : Scope} {xs : List Sc} {p : Sc → Bool} {f : Sc → Str} (hit : Iter C true n sc ρ iter xs)
    (htest : ∀ y ∈ xs, TrIfs C n (relab scope sc) ((x, .sc y) :: frρ scope ρ) ifs (p y)) (helt : ∀ y ∈ xs, p y = true → Ev C true n (relab scope sc) ((x, .sc y) :: frρ scope ρ) elt (.str (f y)))
    (hz : xs.length ≤ 10000) (hkind : scope.kind = .function := by rfl) (hx : scope.names.lookup x = some .local := by rfl)
    (hfr : scope.names.all (fun p => p.2 != .free || sc.names.lookup p.1 == some .cell || sc.names.lookup p.1 == some .free) = true := by rfl) (hnd : scope.names.all (fun p => scope.names.lookup p.1 == some p.2) = true := by rfl)
    (hcl : scope.names.all (fun p => p.2 != .cell) = true := by rfl) (hfo : ∀ env x, foldedSetIterable iter env x = pure x := by intro _ _; rfl) :
    Ev C true n sc ρ (.ListComp elt [⟨.Name x px, iter, ifs, 0⟩] scope pos) (.strs ((xs.filter p).map f)) :=
  Ev.comp (f := fun y => .str (f y)) (F := fun v u => ∃ s t, Sc.Is v s ∧ u = Value.str (f s) t) hit htest helt (fun v y u hv hu => let ⟨t, e⟩ := is_str hu; ⟨y, t, hv, e⟩)
    (fun hid h l ys us hl hn h1 h2 => strs_rep (vs := ys.toList) hl (strs_of_paired h1 h2) hn) hz hkind hx hfr hnd hcl hfo
end
end Mine
end
section
open PySem PySem.W PyProof.Rows PySem.Calls
namespace Mine

inductive Out where
  | next (ρ : List (Str × D))
  | brk (ρ : List (Str × D))
  | ret (d : D)

theorem KpW.refl (b : Bool) (W : Addr → Prop) (s : Shared) : KpW b W s s := ⟨s.heap, s.toks, rfl, fun _ _ _ _ e => e, id⟩
theorem KpW.trans {b : Bool} {W W' : Addr → Prop} {s s₁ s₂ : Shared} (x : KpW b W s s₁) (y : KpW b W' s₁ s₂) (h : ∀ a, W' a → W a ∨ s.heap.get? a = none) : KpW b W s s₂ := by
  obtain ⟨h1, t1, rfl, k1, b1⟩ := x
  obtain ⟨h2, t2, rfl, k2, b2⟩ := y
  refine ⟨h2, t2, rfl, fun a o n p e => k2 a o (fun q => ?_) p (k1 a o n p e), fun t => b2 (b1 t)⟩
  rcases h a q with q | q
  · exact n q
  · rw [q] at e; cases e
theorem KpW.of_kr {b : Bool} {W : Addr → Prop} {s s' : Shared} (x : KR b s s') : KpW b W s s' := by
  cases b
  · obtain ⟨h1, t1, rfl, k1⟩ := x
    exact ⟨h1, t1, rfl, fun a o _ p e => k1.1 a o (p.elim id fun h => nomatch h) e, k1.2⟩
  · obtain ⟨h1, t1, rfl, k1⟩ := x
    exact ⟨h1, t1, rfl, fun a o _ _ e => k1 a o e, tab_of_keeps k1⟩

section
variable {C : Ctx} {hid₀ W : Addr → Prop} {lo : Nat} {env : Env} {ρ : List (Str × D)} {s s' : Shared}
theorem EnvX.w106 (X : EnvX C hid₀ W lo env ρ s) {a : Addr} (h : W a) : a ≠ P0 := fun e => absurd (X.wlo a h) (Nat.not_le.mpr (e ▸ X.plo))
theorem plainL_kp {h h' : Heap} {a : Addr} {its : Array Value} (k : KpH h h') (ha : a ≠ P0) (x : PlainL h a its) : PlainL h' a its := let ⟨o, n, e, r⟩ := x; ⟨o, n, k.1 _ _ ha e, r⟩
theorem EnvX.kp (X : EnvX C hid₀ W lo env ρ s) (k : KpH s.heap s'.heap) (ht : s.toks ≤ s'.toks) : EnvX C hid₀ W lo env ρ s' where
  e := X.e.kp k ht
  h106 := X.h106
  hin := hin_kp k X.e.tab X.hin
  clo := X.clo
  plo := X.plo
  wlo := X.wlo
  wl := X.wl
  dis := X.dis
  wc := fun x c h1 h2 => let ⟨a, v, b⟩ := X.wc x c h1 h2; ⟨a, v, cell_kp k (X.w106 a) b⟩
  ac := X.ac
  own := let ⟨m, a, b, c⟩ := X.own; ⟨m, ns_kp k X.e.L106 a, fun x d h1 h2 => let ⟨q, a, vs, e1, e2, e3, e4⟩ := b x d h1 h2; ⟨q, a, vs, e1, e2, plainL_kp k (X.w106 e2) e3, e4⟩, c⟩

theorem tab_but {h h' : Heap} {z : Addr} (hk : ∀ b o, b ≠ z → h.get? b = some o → h'.get? b = some o) (hz : z ≠ P0) (hf : ∀ o vs, h.get? z = some o → o.data ≠ .fields vs) (t : Tab h) : Tab h' := by
  obtain ⟨ps, a, b, c⟩ := t
  refine ⟨ps, hk _ _ (Ne.symm hz) a, b, fun pos cv e => ?_⟩
  obtain ⟨d, e1, c', o, vs, t, f1, f2, f3, f4⟩ := c pos cv e
  refine ⟨d, e1, c', o, vs, t, f1, hk _ _ ?_ f2, f3, f4⟩
  rintro rfl
  exact hf o vs f2 f3
theorem ns_nofields {h : Heap} {z : Addr} {m : Str → Option Value} (x : h.Ns z m) : ∀ o vs, h.get? z = some o → o.data ≠ .fields vs := fun o vs e q => by
  obtain ⟨o', es, ep, e', d, _⟩ := x
  rw [e] at e'; cases e'; rw [q] at d; cases d
theorem cell_nofields {h : Heap} {z : Addr} {v : Option Value} (x : h.IsCell z v) : ∀ o vs, h.get? z = some o → o.data ≠ .fields vs := fun o vs e q => by
  obtain ⟨o', e', d⟩ := x
  rw [e] at e'; cases e'; rw [q] at d; cases d
theorem list_nofields {h : Heap} {z : Addr} {its : Array Value} (x : PlainL h z its) : ∀ o vs, h.get? z = some o → o.data ≠ .fields vs := fun o vs e q => by
  obtain ⟨o', n, e', _, _, d⟩ := x
  rw [e] at e'; cases e'; rw [q] at d; cases d
theorem ns_ne_cell {h : Heap} {a c : Addr} {m : Str → Option Value} {v : Option Value} (x : h.Ns a m) (y : h.IsCell c v) : c ≠ a := by
  rintro rfl
  obtain ⟨o, es, ep, e, d, _⟩ := x
  obtain ⟨o', e', d'⟩ := y
  rw [e] at e'; cases e'; rw [d] at d'; cases d'
theorem ns_ne_list {h : Heap} {a c : Addr} {m : Str → Option Value} {its : Array Value} (x : h.Ns a m) (y : PlainL h c its) : c ≠ a := by
  rintro rfl
  obtain ⟨o, es, ep, e, d, _⟩ := x
  obtain ⟨o', n, e', _, _, d'⟩ := y
  rw [e] at e'; cases e'; rw [d] at d'; cases d'
theorem cell_ne_list {h : Heap} {a c : Addr} {v : Option Value} {its : Array Value} (x : h.IsCell a v) (y : PlainL h c its) : c ≠ a := by
  rintro rfl
  obtain ⟨o, e, d⟩ := x
  obtain ⟨o', n, e', _, _, d'⟩ := y
  rw [e] at e'; cases e'; rw [d] at d'; cases d'
theorem ns_unique {h : Heap} {a : Addr} {m m' : Str → Option Value} (x : h.Ns a m) (y : h.Ns a m') : m = m' := by
  obtain ⟨o, es, ep, e, d, _, f⟩ := x
  obtain ⟨o', es', ep', e', d', _, f'⟩ := y
  rw [e] at e'; cases e'; rw [d] at d'; cases d'
  funext z; rw [← f z, ← f' z]

/-- one address of the frame's own is turned -/
theorem kpw_one {b : Bool} {z : Addr} {h' : Heap} {tk : Nat} (hz : W z) (hk : ∀ b o, b ≠ z → s.heap.get? b = some o → h'.get? b = some o) (hp : z ≠ P0) (hf : ∀ o vs, s.heap.get? z = some o → o.data ≠ .fields vs) : KpW b W s { s with heap := h', toks := tk } :=
  ⟨h', tk, rfl, fun a o n _ e => hk a o (fun q => n (q ▸ hz)) e, tab_but hk hp hf⟩

/-- a local is bound anew -/
theorem EnvX.setLocalG (X : EnvX C hid₀ W lo env ρ s) {x : Str} {v : Value} {d : D} {h' : Heap} {tk : Nat} {m : Str → Option Value} (hm : s.heap.Ns env.locals m) (hn : h'.Ns env.locals (fun y => if y = x then some v else m y)) (hk : ∀ b o, b ≠ env.locals → s.heap.get? b = some o → h'.get? b = some o)
    (hx : env.kindOf x = some .local) (hr : Rep C.key (Vis (fun a => hid₀ a ∨ W a) h') v d) (hd : d.isOwn = false) (ht : s.toks ≤ tk) : EnvX C hid₀ W lo env ((x, d) :: ρ) { s with heap := h', toks := tk } := by
  have hL : env.locals ≠ P0 := X.e.L106
  have vis : ∀ a o, Vis (fun a => hid₀ a ∨ W a) s.heap a o → Vis (fun a => hid₀ a ∨ W a) h' a o := fun a o z => ⟨hk a o (fun q => z.2 (.inr (q ▸ X.wl))) z.1, z.2⟩
  have tab := tab_but hk hL (ns_nofields hm) X.e.tab
  have hin : ∀ hid : Addr → Prop, (∀ a, hid a → ∃ o, s.heap.get? a = some o) → ∀ a, hid a → ∃ o, h'.get? a = some o := fun hid hh a ha => by
    by_cases q : a = env.locals
    · obtain ⟨o, _, _, e, _⟩ := hn; exact ⟨o, q ▸ e⟩
    · obtain ⟨o, e⟩ := hh a ha; exact ⟨o, hk a o q e⟩
  have look : ∀ y d', ((x, d) :: ρ).lookup y = some d' → (y = x ∧ d' = d) ∨ (y ≠ x ∧ ρ.lookup y = some d') := fun y d' h => by
    rw [List.lookup_cons] at h
    cases hy : y == x with
    | true => rw [hy] at h; cases h; exact .inl ⟨beq_iff_eq.mp hy, rfl⟩
    | false => rw [hy] at h; exact .inr ⟨beq_eq_false_iff_ne.mp hy, h⟩
  exact {
    e := {
      kind := X.e.kind
      glob := X.e.glob
      bi := X.e.bi
      tok := Nat.le_trans X.e.tok ht
      md := C.stable _ _ ⟨fun b o l _ e => hk b o (fun q => absurd (Nat.le_trans X.clo (X.wlo _ X.wl)) (Nat.not_le.mpr (q ▸ l))) e, fun _ => tab⟩ X.e.md
      tab := tab
      h106 := X.e.h106
      hin := hin _ X.e.hin
      L106 := hL
      opn := X.e.opn
      cc := X.e.cc
      loc := ⟨_, hn, fun y d' h ho hy => by
        rcases look y d' h with ⟨rfl, rfl⟩ | ⟨hne, h⟩
        · exact ⟨v, by simp, hr⟩
        · obtain ⟨m', hm', hv⟩ := X.e.loc
          obtain rfl := ns_unique hm hm'
          obtain ⟨u, e1, r⟩ := hv y d' h ho hy
          exact ⟨u, by simp [hne, e1], r.mono vis⟩⟩
      cel := fun y d' h ho hy => by
        rcases look y d' h with ⟨rfl, rfl⟩ | ⟨hne, h⟩
        · rw [hx] at hy; rcases hy with q | q <;> cases q
        · obtain ⟨c, u, e1, e2, e3, r⟩ := X.e.cel y d' h ho hy
          have hc := ns_ne_cell hm e3
          obtain ⟨o, f1, f2⟩ := e3
          exact ⟨c, u, e1, e2, ⟨o, hk c o hc f1, f2⟩, r.mono vis⟩ }
    h106 := X.h106
    hin := hin _ X.hin
    clo := X.clo
    plo := X.plo
    wlo := X.wlo
    wl := X.wl
    dis := X.dis
    wc := fun y c h1 h2 => by
      obtain ⟨a, u, b⟩ := X.wc y c h1 h2
      have hc := ns_ne_cell hm b
      obtain ⟨o, f1, f2⟩ := b
      exact ⟨a, u, o, hk c o hc f1, f2⟩
    ac := X.ac
    own := by
      obtain ⟨m', hm', ho, hap⟩ := X.own
      obtain rfl := ns_unique hm hm'
      refine ⟨_, hn, fun y d' h hy => ?_, fun y z d' d'' a h1 h2 h3 h4 h5 h6 => ?_⟩
      · rcases look y d' h with ⟨rfl, rfl⟩ | ⟨hne, h⟩
        · rw [hd] at hy; cases hy
        · obtain ⟨q, a, vs, e1, e2, e3, e4⟩ := ho y d' h hy
          have hc := ns_ne_list hm e3
          obtain ⟨o, n, f1, f2⟩ := e3
          exact ⟨q, a, vs, by simp [hne, e1], e2, ⟨o, n, hk a o hc f1, f2⟩, e4⟩
      · rcases look y d' h1 with ⟨rfl, rfl⟩ | ⟨hne, h1⟩
        · rw [hd] at h2; cases h2
        · rcases look z d'' h3 with ⟨rfl, rfl⟩ | ⟨hne', h3⟩
          · rw [hd] at h4; cases h4
          · exact hap y z d' d'' a h1 h2 h3 h4 (by simpa [hne] using h5) (by simpa [hne'] using h6) }

theorem EnvX.setLocal (X : EnvX C hid₀ W lo env ρ s) {x : Str} {v : Value} {d : D} {h' : Heap} {tk : Nat} {m : Str → Option Value} (hm : s.heap.Ns env.locals m) (hn : h'.Ns env.locals (fun y => if y = x then some v else m y)) (hsb : Heap.SameBut env.locals s.heap h')
    (hx : env.kindOf x = some .local) (hr : Rep C.key (Vis (fun a => hid₀ a ∨ W a) s.heap) v d) (hd : d.isOwn = false) (ht : s.toks ≤ tk) : EnvX C hid₀ W lo env ((x, d) :: ρ) { s with heap := h', toks := tk } :=
  X.setLocalG hm hn hsb.extBut hx (hr.mono fun a o z => ⟨hsb.extBut a o (fun q => z.2 (.inr (q ▸ X.wl))) z.1, z.2⟩) hd ht

/-- a cell is bound anew -/
theorem EnvX.setCell (X : EnvX C hid₀ W lo env ρ s) {x : Str} {c : Addr} {v : Value} {d : D} {h' : Heap} (hc : env.cells.lookup x = some c) (hcv : h'.IsCell c (some v)) (hsb : Heap.SameBut c s.heap h')
    (hx : env.kindOf x = some .cell) (hr : Rep C.key (Vis (fun a => hid₀ a ∨ W a) s.heap) v d) (hd : d.isOwn = false) : EnvX C hid₀ W lo env ((x, d) :: ρ) { s with heap := h' } := by
  obtain ⟨hW, v₀, hold⟩ := X.wc x c hx hc
  have hk : ∀ b o, b ≠ c → s.heap.get? b = some o → h'.get? b = some o := hsb.extBut
  have hL : c ≠ P0 := X.w106 hW
  have vis : ∀ a o, Vis (fun a => hid₀ a ∨ W a) s.heap a o → Vis (fun a => hid₀ a ∨ W a) h' a o := fun a o z => ⟨hk a o (fun q => z.2 (.inr (q ▸ hW))) z.1, z.2⟩
  have tab := tab_but hk hL (cell_nofields hold) X.e.tab
  have hin : ∀ hid : Addr → Prop, (∀ a, hid a → ∃ o, s.heap.get? a = some o) → ∀ a, hid a → ∃ o, h'.get? a = some o := fun hid hh a ha => by
    by_cases q : a = c
    · obtain ⟨o, e, _⟩ := hcv; exact ⟨o, q ▸ e⟩
    · obtain ⟨o, e⟩ := hh a ha; exact ⟨o, hk a o q e⟩
  have look : ∀ y d', ((x, d) :: ρ).lookup y = some d' → (y = x ∧ d' = d) ∨ (y ≠ x ∧ ρ.lookup y = some d') := fun y d' h => by
    rw [List.lookup_cons] at h
    cases hy : y == x with
    | true => rw [hy] at h; cases h; exact .inl ⟨beq_iff_eq.mp hy, rfl⟩
    | false => rw [hy] at h; exact .inr ⟨beq_eq_false_iff_ne.mp hy, h⟩
  have nsk : ∀ m, s.heap.Ns env.locals m → h'.Ns env.locals m := fun m hm => hm.sameBut hsb (Ne.symm (ns_ne_cell hm hold))
  exact {
    e := {
      kind := X.e.kind
      glob := X.e.glob
      bi := X.e.bi
      tok := X.e.tok
      md := C.stable _ _ ⟨fun b o l _ e => hk b o (fun q => absurd (Nat.le_trans X.clo (X.wlo _ hW)) (Nat.not_le.mpr (q ▸ l))) e, fun _ => tab⟩ X.e.md
      tab := tab
      h106 := X.e.h106
      hin := hin _ X.e.hin
      L106 := X.e.L106
      opn := X.e.opn
      cc := X.e.cc
      loc := by
        obtain ⟨m, hm, hv⟩ := X.e.loc
        refine ⟨m, nsk m hm, fun y d' h ho hy => ?_⟩
        rcases look y d' h with ⟨rfl, rfl⟩ | ⟨hne, h⟩
        · rw [hx] at hy; cases hy
        · obtain ⟨u, e1, r⟩ := hv y d' h ho hy
          exact ⟨u, e1, r.mono vis⟩
      cel := fun y d' h ho hy => by
        rcases look y d' h with ⟨rfl, rfl⟩ | ⟨hne, h⟩
        · exact ⟨c, v, hc, hL, hcv, hr.mono vis⟩
        · obtain ⟨c', u, e1, e2, e3, r⟩ := X.e.cel y d' h ho hy
          have hcc : c' ≠ c := fun q => hne (X.ac y x c (q ▸ e1) hc)
          obtain ⟨o, f1, f2⟩ := e3
          exact ⟨c', u, e1, e2, ⟨o, hk c' o hcc f1, f2⟩, r.mono vis⟩ }
    h106 := X.h106
    hin := hin _ X.hin
    clo := X.clo
    plo := X.plo
    wlo := X.wlo
    wl := X.wl
    dis := X.dis
    wc := fun y c' h1 h2 => by
      obtain ⟨a, u, b⟩ := X.wc y c' h1 h2
      by_cases q : c' = c
      · exact ⟨a, _, q ▸ hcv⟩
      · obtain ⟨o, f1, f2⟩ := b
        exact ⟨a, u, o, hk c' o q f1, f2⟩
    ac := X.ac
    own := by
      obtain ⟨m, hm, ho, hap⟩ := X.own
      refine ⟨m, nsk m hm, fun y d' h hy => ?_, fun y z d' d'' a h1 h2 h3 h4 h5 h6 => ?_⟩
      · rcases look y d' h with ⟨rfl, rfl⟩ | ⟨hne, h⟩
        · rw [hd] at hy; cases hy
        · obtain ⟨q, a, vs, e1, e2, e3, e4⟩ := ho y d' h hy
          have hcl := cell_ne_list hold e3
          obtain ⟨o, n, f1, f2⟩ := e3
          exact ⟨q, a, vs, e1, e2, ⟨o, n, hk a o hcl f1, f2⟩, e4⟩
      · rcases look y d' h1 with ⟨rfl, rfl⟩ | ⟨hne, h1⟩
        · rw [hd] at h2; cases h2
        · rcases look z d'' h3 with ⟨rfl, rfl⟩ | ⟨hne', h3⟩
          · rw [hd] at h4; cases h4
          · exact hap y z d' d'' a h1 h2 h3 h4 h5 h6 }

def OwnIs (vs : List Value) (d : D) : Prop := match d with
  | .ownI ns => IntsAre vs ns
  | .ownS ys => StrsAre vs ys
  | _ => False
/-- a list of the frame's own is turned in place -/
theorem EnvX.setOwn (X : EnvX C hid₀ W lo env ρ s) {x : Str} {a : Addr} {us vs : List Value} {d d₀ : D} {h' : Heap} {m : Str → Option Value} (hm : s.heap.Ns env.locals m) (hl : PlainL s.heap a (List.toArray us)) (hl' : PlainL h' a (List.toArray vs)) (hsb : Heap.SameBut a s.heap h')
    (hx : env.kindOf x = some .local) (hW : W a) (hma : m x = some (.ref a)) (h0 : ρ.lookup x = some d₀) (hd0 : d₀.isOwn = true) (hr : OwnIs vs d) (hd : d.isOwn = true) : EnvX C hid₀ W lo env ((x, d) :: ρ) { s with heap := h' } := by
  have hk : ∀ b o, b ≠ a → s.heap.get? b = some o → h'.get? b = some o := hsb.extBut
  have hL : a ≠ P0 := X.w106 hW
  have vis : ∀ b o, Vis (fun a => hid₀ a ∨ W a) s.heap b o → Vis (fun a => hid₀ a ∨ W a) h' b o := fun b o z => ⟨hk b o (fun q => z.2 (.inr (q ▸ hW))) z.1, z.2⟩
  have tab := tab_but hk hL (list_nofields hl) X.e.tab
  have hin : ∀ hid : Addr → Prop, (∀ a, hid a → ∃ o, s.heap.get? a = some o) → ∀ a, hid a → ∃ o, h'.get? a = some o := fun hid hh b ha => by
    by_cases q : b = a
    · obtain ⟨o, n, e, _⟩ := hl'; exact ⟨o, q ▸ e⟩
    · obtain ⟨o, e⟩ := hh b ha; exact ⟨o, hk b o q e⟩
  have look : ∀ y d', ((x, d) :: ρ).lookup y = some d' → (y = x ∧ d' = d) ∨ (y ≠ x ∧ ρ.lookup y = some d') := fun y d' h => by
    rw [List.lookup_cons] at h
    cases hy : y == x with
    | true => rw [hy] at h; cases h; exact .inl ⟨beq_iff_eq.mp hy, rfl⟩
    | false => rw [hy] at h; exact .inr ⟨beq_eq_false_iff_ne.mp hy, h⟩
  have nsk : ∀ m, s.heap.Ns env.locals m → h'.Ns env.locals m := fun m hm => hm.sameBut hsb (Ne.symm (ns_ne_list hm hl))
  exact {
    e := {
      kind := X.e.kind
      glob := X.e.glob
      bi := X.e.bi
      tok := X.e.tok
      md := C.stable _ _ ⟨fun b o l _ e => hk b o (fun q => absurd (Nat.le_trans X.clo (X.wlo _ hW)) (Nat.not_le.mpr (q ▸ l))) e, fun _ => tab⟩ X.e.md
      tab := tab
      h106 := X.e.h106
      hin := hin _ X.e.hin
      L106 := X.e.L106
      opn := X.e.opn
      cc := X.e.cc
      loc := by
        obtain ⟨m, hm, hv⟩ := X.e.loc
        refine ⟨m, nsk m hm, fun y d' h ho hy => ?_⟩
        rcases look y d' h with ⟨rfl, rfl⟩ | ⟨hne, h⟩
        · rw [hd] at ho; cases ho
        · obtain ⟨u, e1, r⟩ := hv y d' h ho hy
          exact ⟨u, e1, r.mono vis⟩
      cel := fun y d' h ho hy => by
        rcases look y d' h with ⟨rfl, rfl⟩ | ⟨hne, h⟩
        · rw [hd] at ho; cases ho
        · obtain ⟨c', u, e1, e2, e3, r⟩ := X.e.cel y d' h ho hy
          have hcc : c' ≠ a := Ne.symm (cell_ne_list e3 hl)
          obtain ⟨o, f1, f2⟩ := e3
          exact ⟨c', u, e1, e2, ⟨o, hk c' o hcc f1, f2⟩, r.mono vis⟩ }
    h106 := X.h106
    hin := hin _ X.hin
    clo := X.clo
    plo := X.plo
    wlo := X.wlo
    wl := X.wl
    dis := X.dis
    wc := fun y c' h1 h2 => by
      obtain ⟨q, u, b⟩ := X.wc y c' h1 h2
      have hcc : c' ≠ a := Ne.symm (cell_ne_list b hl)
      obtain ⟨o, f1, f2⟩ := b
      exact ⟨q, u, o, hk c' o hcc f1, f2⟩
    ac := X.ac
    own := by
      obtain ⟨m', hm', ho, hap⟩ := X.own
      obtain rfl := ns_unique hm hm'
      refine ⟨m, nsk m hm, fun y d' h hy => ?_, fun y z d' d'' b h1 h2 h3 h4 h5 h6 => ?_⟩
      · rcases look y d' h with ⟨rfl, rfl⟩ | ⟨hne, h⟩
        · exact ⟨hx, a, vs, hma, hW, hl', hr⟩
        · obtain ⟨q, b, ws, e1, e2, e3, e4⟩ := ho y d' h hy
          have hcl : b ≠ a := fun q => hne (hap y x d' d₀ a h hy h0 hd0 (q ▸ e1) hma)
          obtain ⟨o, n, f1, f2⟩ := e3
          exact ⟨q, b, ws, e1, e2, ⟨o, n, hk b o hcl f1, f2⟩, e4⟩
      · have own0 : ∀ y d', ((x, d) :: ρ).lookup y = some d' → d'.isOwn = true → ∃ d'', ρ.lookup y = some d'' ∧ d''.isOwn = true := fun y d' h hh => by
          rcases look y d' h with ⟨rfl, rfl⟩ | ⟨_, h⟩
          · exact ⟨d₀, h0, hd0⟩
          · exact ⟨d', h, hh⟩
        obtain ⟨e1, f1, g1⟩ := own0 y d' h1 h2
        obtain ⟨e2, f2, g2⟩ := own0 z d'' h3 h4
        exact hap y z e1 e2 b f1 g1 f2 g2 h5 h6 }
end
end Mine
end
section
open PySem PySem.W PyProof.Rows PySem.Calls
namespace Mine

def PostX (g b : Bool) (C : Ctx) (hid₀ W : Addr → Prop) (lo : Nat) (env : Env) (s : Shared) (out : Out) (fl : Flow) (s' : Shared) : Prop := KpW b W s s' ∧ match out with
  | .next ρ' => fl = .next ∧ ∃ W', (∀ a, W a → W' a) ∧ (∀ a, W' a → W a ∨ (g = true ∧ s.heap.get? a = none)) ∧ EnvX C hid₀ W' lo env ρ' s'
  | .brk ρ' => fl = .brk ∧ ∃ W', (∀ a, W a → W' a) ∧ (∀ a, W' a → W a ∨ (g = true ∧ s.heap.get? a = none)) ∧ EnvX C hid₀ W' lo env ρ' s'
  | .ret d => ∃ v, fl = .ret v ∧ Rep C.key (Vis hid₀ s'.heap) v d

structure Ex (g b : Bool) (C : Ctx) (n : Nat) (sc : Scope) (ρ : List (Str × D)) (ss : List Stmt) (out : Out) : Prop where
  all : ∀ (A : Around) (env : Env) (hid₀ W : Addr → Prop) (lo : Nat) (s : Shared) (E : Value → Shared → Prop), env.scope = sc → Calm n A → EnvX C hid₀ W lo env ρ s →
    wpAny (model prog C.w) A (execs ss env) (PostX g b C hid₀ W lo env s out) E s
structure Sm (g b : Bool) (C : Ctx) (n : Nat) (sc : Scope) (ρ : List (Str × D)) (st : Stmt) (out : Out) : Prop where
  all : ∀ (A : Around) (env : Env) (hid₀ W : Addr → Prop) (lo : Nat) (s : Shared) (E : Value → Shared → Prop), env.scope = sc → Calm n A → EnvX C hid₀ W lo env ρ s →
    wpAny (model prog C.w) A (exec st env) (PostX g b C hid₀ W lo env s out) E s

theorem kpw_none {b : Bool} {W : Addr → Prop} {s s' : Shared} (k : KpW b W s s') (t : Tab s.heap) {a : Addr} (h : s'.heap.get? a = none) : W a ∨ s.heap.get? a = none := by
  obtain ⟨h1, t1, rfl, k1, b1⟩ := k
  cases e : s.heap.get? a with
  | none => exact .inr rfl
  | some o =>
    by_cases q : a = P0
    · obtain ⟨ps, x, _⟩ := b1 t
      have h : h1.get? a = none := h
      rw [← q, h] at x; cases x
    · by_cases w : W a
      · exact .inl w
      · have h : h1.get? a = none := h
        rw [k1 a o w (.inl q) e] at h; cases h
theorem PostX.seq {g b : Bool} {C : Ctx} {hid₀ W W₁ : Addr → Prop} {lo : Nat} {env : Env} {s s₁ s₂ : Shared} {out : Out} {fl : Flow} (K : KpW b W s s₁) (t : Tab s.heap) (w1 : ∀ a, W a → W₁ a) (w2 : ∀ a, W₁ a → W a ∨ (g = true ∧ s.heap.get? a = none))
    (p : PostX g b C hid₀ W₁ lo env s₁ out fl s₂) : PostX g b C hid₀ W lo env s out fl s₂ := by
  have w3 : ∀ W' : Addr → Prop, (∀ a, W' a → W₁ a ∨ (g = true ∧ s₁.heap.get? a = none)) → ∀ a, W' a → W a ∨ (g = true ∧ s.heap.get? a = none) := fun W' h a ha => by
    rcases h a ha with q | ⟨q, q'⟩
    · exact w2 a q
    · rcases kpw_none K t q' with z | z
      · exact .inl z
      · exact .inr ⟨q, z⟩
  refine ⟨K.trans p.1 fun a ha => (w2 a ha).imp id And.right, ?_⟩
  cases out with
  | next ρ' => obtain ⟨e, W', a, b, X⟩ := p.2; exact ⟨e, W', fun z hz => a z (w1 z hz), w3 W' b, X⟩
  | brk ρ' => obtain ⟨e, W', a, b, X⟩ := p.2; exact ⟨e, W', fun z hz => a z (w1 z hz), w3 W' b, X⟩
  | ret d => exact p.2

section
variable {g : Bool} {C : Ctx} {b : Bool} {n : Nat} {sc : Scope} {ρ ρ₁ : List (Str × D)} {out : Out}

theorem Ex.nil : Ex g b C n sc ρ [] (.next ρ) := .mk fun A env hid₀ W lo s E hs hA X => wpAny_execs_nil ⟨.refl _ _ _, rfl, W, fun _ e => e, fun _ e => .inl e, X⟩
theorem Ex.cons {st : Stmt} {rest : List Stmt} (h : Sm g b C n sc ρ st (.next ρ₁)) (r : Ex g b C n sc ρ₁ rest out) : Ex g b C n sc ρ (st :: rest) out := .mk fun A env hid₀ W lo s E hs hA X => by
  refine wpAny_execs_cons (wpAny_mono (h.all A env hid₀ W lo s E hs hA X) ?_ fun _ _ e => e)
  rintro f s₁ ⟨K, rfl, W', w1, w2, X'⟩
  exact wpAny_mono (r.all A env hid₀ W' lo s₁ E hs hA X') (fun fl s₂ p => p.seq K X.e.tab w1 w2) fun _ _ e => e
theorem Ex.brk {st : Stmt} {rest : List Stmt} (h : Sm g b C n sc ρ st (.brk ρ₁)) : Ex g b C n sc ρ (st :: rest) (.brk ρ₁) := .mk fun A env hid₀ W lo s E hs hA X => by
  refine wpAny_execs_cons (wpAny_mono (h.all A env hid₀ W lo s E hs hA X) ?_ fun _ _ e => e)
  rintro f s₁ ⟨K, rfl, r⟩
  exact ⟨K, rfl, r⟩
theorem Ex.ret {st : Stmt} {rest : List Stmt} {d : D} (h : Sm g b C n sc ρ st (.ret d)) : Ex g b C n sc ρ (st :: rest) (.ret d) := .mk fun A env hid₀ W lo s E hs hA X => by
  refine wpAny_execs_cons (wpAny_mono (h.all A env hid₀ W lo s E hs hA X) ?_ fun _ _ e => e)
  rintro f s₁ ⟨K, v, rfl, r⟩
  exact ⟨K, v, rfl, r⟩
theorem Ex.one {st : Stmt} (h : Sm g b C n sc ρ st (.next ρ₁)) : Ex g b C n sc ρ [st] (.next ρ₁) := .cons h .nil

/-- a name is bound -/
theorem EnvX.store {hid₀ W : Addr → Prop} {lo : Nat} {env : Env} {s : Shared} (X : EnvX C hid₀ W lo env ρ s) {x : Str} {v : Value} {d : D} {A : Around} {E : Value → Shared → Prop} {Q : Unit → Shared → Prop}
    (hx : env.kindOf x = some .local ∨ env.kindOf x = some .cell) (hr : Rep C.key (Vis (fun a => hid₀ a ∨ W a) s.heap) v d) (hd : d.isOwn = false)
    (k : ∀ s', KpW b W s s' → EnvX C hid₀ W lo env ((x, d) :: ρ) s' → (∀ b o, ¬ W b → s.heap.get? b = some o → s'.heap.get? b = some o) → Q () s') : wpAny (model prog C.w) A (storeName env x v) Q E s := by
  rcases hx with hx | hx
  · obtain ⟨m, hm, _⟩ := X.e.loc
    refine wpAny_storeName_local hx hm (fun h' hn hsb => k _ (kpw_one X.wl hsb.extBut X.e.L106 (ns_nofields hm)) (X.setLocal hm hn hsb hx hr hd (Nat.le_succ _)) fun b o nb e => hsb.extBut b o (fun q => nb (q ▸ X.wl)) e) ?_
    rw [X.e.kind]; rfl
  · obtain ⟨c, hc⟩ := Option.isSome_iff_exists.mp (X.e.cc x (.inl hx))
    obtain ⟨hW, v₀, hold⟩ := X.wc x c hx hc
    exact wpAny_storeName_cell X.e.kind hx hc hold fun h' hcv hsb => k _ (kpw_one (tk := s.toks) hW hsb.extBut (X.w106 hW) (cell_nofields hold)) (X.setCell hc hcv hsb hx hr hd) fun b o nb e => hsb.extBut b o (fun q => nb (q ▸ hW)) e

theorem KpW.kr {b : Bool} {W : Addr → Prop} {s s₁ s₂ : Shared} (x : KR b s s₁) (y : KpW b W s₁ s₂) : KpW b W s s₂ := (KpW.of_kr x).trans y fun a h => .inl h

theorem Sm.assign {x : Str} {p pos : Pos} {e : Expr} {d : D} (h : Ev C b n sc ρ e d) (hd : d.isOwn = false := by rfl)
    (hx : (match sc.names.lookup x with | some .local | some .cell => true | _ => false) = true := by rfl) (hs : ∀ env : Env, env.scope = sc → swapsWith e (some (.Name x p)) pos.line env = pure false := by intro _ _; rfl) :
    Sm g b C n sc ρ (.Assign [.Name x p] e pos) (.next ((x, d) :: ρ)) := .mk fun A env hid₀ W lo s E hsc hA X => by
  refine wpAny_Assign_Name (h.go hsc hA X.e fun v s₁ k t X₁ r => ?_) (hs env hsc)
  refine (X.kp k.heap t).store ?_ r hd fun s₂ K X₂ _ => ⟨K.kr k, rfl, W, fun _ e => e, fun _ e => .inl e, X₂⟩
  show env.scope.names.lookup x = _ ∨ env.scope.names.lookup x = _
  rw [hsc]
  cases hl : sc.names.lookup x with
  | none => rw [hl] at hx; cases hx
  | some kd => rw [hl] at hx; cases kd <;> first | exact .inl rfl | exact .inr rfl | cases hx

theorem assignPair {hid₀ W : Addr → Prop} {lo : Nat} {env : Env} {s : Shared} (X : EnvX C hid₀ W lo env ρ s) {x y : Str} {px py tp : Pos} {kk : Nat} {T : Addr} {u v : Value} {d d' : D} {A : Around} {E : Value → Shared → Prop} {Q : Unit → Shared → Prop} (hA : A.handled = none)
    (hT : s.heap.IsTuple T #[u, v]) (hx : env.kindOf x = some .local ∨ env.kindOf x = some .cell) (hy : env.kindOf y = some .local ∨ env.kindOf y = some .cell) (hr : Rep C.key (Vis (fun a => hid₀ a ∨ W a) s.heap) u d) (hr' : Rep C.key (Vis (fun a => hid₀ a ∨ W a) s.heap) v d')
    (hd : d.isOwn = false) (hd' : d'.isOwn = false) (k : ∀ s', KpW b W s s' → EnvX C hid₀ W lo env ((y, d') :: (x, d) :: ρ) s' → (∀ b o, ¬ W b → s.heap.get? b = some o → s'.heap.get? b = some o) → Q () s') :
    wpAny (model prog C.w) A (PySem.assign (.Tuple [.Name x px, .Name y py] kk tp) env (.ref T)) Q E s := by
  refine wpAny_assign_Tuple hA hT rfl rfl fun h₁ he₁ => ?_
  have up : ∀ c o, s.heap.get? c = some o → h₁.get? c = some o := fun c o e => he₁ c o (Nat.ne_of_lt (Heap.lt_size e)) e
  have k₁ : Keeps s { s with heap := h₁ } := keeps_mk (t := s.toks) up
  have X₁ := X.kp (KR.of_keeps (b := true) k₁).heap (Nat.le_refl _)
  show wpAny _ _ (assignInOrder [PySem.assign (.Name x px) env, PySem.assign (.Name y py) env] [u, v]) _ _ _
  refine assignInOrder_cons (wpAny_assign_Name (X₁.store (b := b) hx (hr.mono (vis_kp (KR.of_keeps (b := true) k₁).heap X.e.h106)) hd fun s₂ K₂ X₂ up₂ => ?_))
  have hr₂ : Rep C.key (Vis (fun a => hid₀ a ∨ W a) s₂.heap) v d' := hr'.mono fun a o z => ⟨up₂ a o (fun q => z.2 (.inr q)) (up a o z.1), z.2⟩
  refine assignInOrder_cons (wpAny_assign_Name (X₂.store (b := b) hy hr₂ hd' fun s₃ K₃ X₃ up₃ => assignInOrder_nil ?_))
  exact k s₃ ((K₂.kr (KR.of_keeps k₁)).trans K₃ fun a h => .inl h) X₃ fun b o nb e => up₃ b o nb (up₂ b o nb (up b o e))

def locCell (sc : Scope) (x : Str) : Bool := match sc.names.lookup x with | some .local | some .cell => true | _ => false
theorem locCell_of {sc : Scope} {x : Str} {env : Env} (h : locCell sc x = true) (hs : env.scope = sc) : env.kindOf x = some .local ∨ env.kindOf x = some .cell := by
  show env.scope.names.lookup x = _ ∨ env.scope.names.lookup x = _
  rw [hs]
  unfold locCell at h
  cases hl : sc.names.lookup x with
  | none => rw [hl] at h; cases h
  | some kd => rw [hl] at h; cases kd <;> first | exact .inl rfl | exact .inr rfl | cases h

theorem Sm.assignPair {x y : Str} {px py tp pos : Pos} {kk : Nat} {e : Expr} {d d' : D} (h : Ev C b n sc ρ e (.pair d d')) (hd : d.isOwn = false := by rfl) (hd' : d'.isOwn = false := by rfl) (hx : locCell sc x = true := by rfl) (hy : locCell sc y = true := by rfl)
    (hs : ∀ env, swapsWithSole [.Tuple [.Name x px, .Name y py] kk tp] e pos.line env = pure false := by intro _; rfl) (hw : ∀ env, swappedStores [.Tuple [.Name x px, .Name y py] kk tp] e env = pure none := by intro _; rfl) :
    Sm g b C n sc ρ (.Assign [.Tuple [.Name x px, .Name y py] kk tp] e pos) (.next ((y, d') :: (x, d) :: ρ)) := .mk fun A env hid₀ W lo s E hsc hA X => by
  refine Assign_Tuple (h.go hsc hA X.e fun v s₁ k t X₁ r => ?_) (hs env) (hw env)
  obtain ⟨T, o, p, q, m, rfl, hV, hc, hdd, r1, r2⟩ := r
  exact Mine.assignPair (X.kp k.heap t) hA.1 ⟨o, hV.1, hc, m, hdd⟩ (locCell_of hx hsc) (locCell_of hy hsc) r1 r2 hd hd' fun s₂ K X₂ _ => ⟨K.kr k, rfl, W, fun _ e => e, fun _ e => .inl e, X₂⟩

theorem Sm.if_ {t : Expr} {body orelse : List Stmt} {pos : Pos} {c : Bool} (h : Tr C b n sc ρ t c) (hb : c = true → Ex g b C n sc ρ body out) (ho : c = false → Ex g b C n sc ρ orelse out) : Sm g b C n sc ρ (.If t body orelse pos) out := .mk fun A env hid₀ W lo s E hsc hA X => by
  refine wpAny_If (h.go hsc hA X.e fun s₁ k tk X₁ => ?_)
  cases c with
  | true => exact wpAny_mono ((hb rfl).all A env hid₀ W lo s₁ E hsc hA (X.kp k.heap tk)) (fun fl s₂ p => p.seq (.of_kr k) X.e.tab (fun _ e => e) fun _ e => .inl e) fun _ _ e => e
  | false => exact wpAny_mono ((ho rfl).all A env hid₀ W lo s₁ E hsc hA (X.kp k.heap tk)) (fun fl s₂ p => p.seq (.of_kr k) X.e.tab (fun _ e => e) fun _ e => .inl e) fun _ _ e => e
theorem Sm.ret {e : Expr} {pos : Pos} {d : D} (h : Ev C b n sc ρ e d) : Sm g b C n sc ρ (.Return (some e) pos) (.ret d) := .mk fun A env hid₀ W lo s E hsc hA X => by
  refine wpAny_Return_some (h.go hsc hA X.e fun v s₁ k t X₁ r => ?_)
  exact ⟨.of_kr k, v, rfl, r.mono (vis_more fun _ e => .inl e)⟩
theorem Sm.brk {pos : Pos} : Sm g b C n sc ρ (.Break pos) (.brk ρ) := .mk fun A env hid₀ W lo s E hsc hA X => wpAny_Break ⟨.refl _ _ _, rfl, W, fun _ e => e, fun _ e => .inl e, X⟩

/-- while -/
theorem Sm.whl {test : Expr} {body : List Stmt} {pos : Pos} (N : Nat) (J : Nat → List (Str × D)) (h0 : J 0 = ρ) (step : ∀ i, i < N → Tr C b n sc (J i) test true ∧ Ex false b C n sc (J i) body (.next (J (i + 1))))
    (fin : (Tr C b n sc (J N) test false ∧ ρ₁ = J N) ∨ (Tr C b n sc (J N) test true ∧ Ex false b C n sc (J N) body (.brk ρ₁))) : Sm g b C n sc ρ (.While test body [] pos) (.next ρ₁) := .mk fun A env hid₀ W lo s E hsc hA X => by
  subst h0
  refine wpAny_While (codeAny_whileLoop (fun k s' => ∃ i, i ≤ N ∧ k = N - i ∧ KpW b W s s' ∧ EnvX C hid₀ W lo env (J i) s') ?_ N ⟨0, Nat.zero_le _, rfl, .refl _ _ _, X⟩)
  rintro k s₁ ⟨i, hi, rfl, K, X₁⟩
  by_cases hlt : i < N
  · obtain ⟨ht, hb⟩ := step i hlt
    refine ht.go hsc hA X₁.e fun s₂ k₂ t₂ _ => ?_
    rw [if_pos rfl]
    have X₂ := X₁.kp k₂.heap t₂
    refine wpAny_mono (hb.all A env hid₀ W lo s₂ _ hsc hA X₂) ?_ fun _ _ e => e
    rintro f s₃ ⟨K₃, rfl, W', w1, w2, X₃⟩
    have e : W' = W := funext fun a => propext ⟨fun h => (w2 a h).elim id (fun h => (nomatch h.1)), w1 a⟩
    subst e
    exact ⟨N - (i + 1), by omega, i + 1, hlt, rfl, K.trans (K₃.kr k₂) fun a h => .inl h, X₃⟩
  · have hN : i = N := by omega
    subst hN
    rcases fin with ⟨ht, rfl⟩ | ⟨ht, hb⟩
    · refine ht.go hsc hA X₁.e fun s₂ k₂ t₂ _ => ?_
      rw [if_neg (by decide)]
      exact wpAny_execs_nil ⟨K.trans (.of_kr k₂) fun a h => .inl h, rfl, W, fun _ e => e, fun _ e => .inl e, X₁.kp k₂.heap t₂⟩
    · refine ht.go hsc hA X₁.e fun s₂ k₂ t₂ _ => ?_
      rw [if_pos rfl]
      have X₂ := X₁.kp k₂.heap t₂
      refine wpAny_mono (hb.all A env hid₀ W lo s₂ _ hsc hA X₂) ?_ fun _ _ e => e
      rintro f s₃ ⟨K₃, rfl, W', w1, w2, X₃⟩
      have e : W' = W := funext fun a => propext ⟨fun h => (w2 a h).elim id (fun h => (nomatch h.1)), w1 a⟩
      subst e
      exact ⟨K.trans (K₃.kr k₂) fun a h => .inl h, rfl, W', fun _ e => e, fun _ e => .inl e, X₃⟩
end
end Mine
end
section
open PySem PySem.W PyProof.Rows PySem.Calls
namespace Mine

/-- neither a cell nor a code object -/
def Inert (o : Obj) : Prop := (∀ v, o.data ≠ .cell v) ∧ ∀ vs q t, o.data = .fields vs → vs[1]? ≠ some (.str q t)

section
variable {C : Ctx} {hid₀ W Z : Addr → Prop} {lo : Nat} {env : Env} {ρ : List (Str × D)} {s s' : Shared}

/-- fresh objects are hidden -/
theorem EnvX.hide (X : EnvX C hid₀ W lo env ρ s) (k : KpH s.heap s'.heap) (ht : s.toks ≤ s'.toks) (hz : ∀ a, Z a → s.heap.get? a = none) (hz' : ∀ a, Z a → ∃ o, s'.heap.get? a = some o) :
    EnvX C (fun a => hid₀ a ∨ Z a) W lo env ρ s' := by
  have X' := X.kp k ht
  have vis : ∀ a o, Vis (fun a => hid₀ a ∨ W a) s.heap a o → Vis (fun a => (hid₀ a ∨ Z a) ∨ W a) s'.heap a o := fun a o z => ⟨k.1 a o (fun q => z.2 (.inl (q ▸ X.h106))) z.1, fun q => by
    rcases q with (q | q) | q
    · exact z.2 (.inl q)
    · have := z.1; rw [hz a q] at this; cases this
    · exact z.2 (.inr q)⟩
  exact {
    e := {
      kind := X.e.kind
      glob := X.e.glob
      bi := X.e.bi
      tok := X'.e.tok
      md := X'.e.md
      tab := X'.e.tab
      h106 := .inl (.inl X.h106)
      hin := fun a ha => by
        rcases ha with (q | q) | q
        · exact X'.hin a q
        · exact hz' a q
        · exact X'.e.hin a (.inr q)
      L106 := X.e.L106
      opn := fun a ha q => by
        rcases q with (q | q) | q
        · exact X.e.opn a ha (.inl q)
        · obtain ⟨o, e⟩ := C.opx _ X.e.md a ha
          rw [hz a q] at e; cases e
        · exact X.e.opn a ha (.inr q)
      cc := X.e.cc
      loc := let ⟨m, a, b⟩ := X.e.loc; ⟨m, ns_kp k X.e.L106 a, fun y d e o q => let ⟨v, e1, r⟩ := b y d e o q; ⟨v, e1, r.mono vis⟩⟩
      cel := fun y d e o q => let ⟨c, v, e1, e2, e3, r⟩ := X.e.cel y d e o q; ⟨c, v, e1, e2, cell_kp k e2 e3, r.mono vis⟩ }
    h106 := .inl X.h106
    hin := fun a ha => by
      rcases ha with q | q
      · exact X'.hin a q
      · exact hz' a q
    clo := X.clo
    plo := X.plo
    wlo := X.wlo
    wl := X.wl
    dis := fun a ha q => q.elim (X.dis a ha) fun q => by
      obtain ⟨o, e⟩ := X.e.hin a (.inr ha)
      rw [hz a q] at e; cases e
    wc := X'.wc
    ac := X.ac
    own := X'.own }

/-- hidden objects of no worth are turned -/
theorem EnvX.turn {hid₁ : Addr → Prop} (X : EnvX C (fun a => hid₀ a ∨ Z a) W lo env ρ s) {h' : Heap} {tk : Nat} (hk : ∀ b o, ¬ Z b → s.heap.get? b = some o → h'.get? b = some o) (ht : s.toks ≤ tk) (hz : ∀ a, Z a → ¬ W a ∧ a ≠ P0 ∧ C.lo ≤ a)
    (hi : ∀ a, Z a → ∃ o, s.heap.get? a = some o ∧ Inert o) (h1 : ∀ a, hid₁ a → hid₀ a ∨ Z a) (h106 : hid₁ P0) (hz' : ∀ a, hid₁ a → Z a → ∃ o, h'.get? a = some o) : EnvX C hid₁ W lo env ρ { s with heap := h', toks := tk } := by
  have vis : ∀ a o, Vis (fun a => (hid₀ a ∨ Z a) ∨ W a) s.heap a o → Vis (fun a => hid₁ a ∨ W a) h' a o := fun a o z => ⟨hk a o (fun q => z.2 (.inl (.inr q))) z.1, fun q => z.2 (q.elim (fun q => .inl (h1 a q)) .inr)⟩
  have hp : ¬ Z P0 := fun q => (hz P0 q).2.1 rfl
  have tab : Tab h' := by
    obtain ⟨ps, a, b, c⟩ := X.e.tab
    refine ⟨ps, hk _ _ hp a, b, fun pos cv e => ?_⟩
    obtain ⟨d, e1, c', o, vs, t, f1, f2, f3, f4⟩ := c pos cv e
    refine ⟨d, e1, c', o, vs, t, f1, hk _ _ (fun q => ?_) f2, f3, f4⟩
    obtain ⟨o', g1, g2⟩ := hi c' q
    rw [f2] at g1; cases g1
    exact g2.2 vs _ t f3 f4
  have cellk : ∀ c v, s.heap.IsCell c v → h'.IsCell c v := fun c v ⟨o, e, d⟩ => ⟨o, hk c o (fun q => by
    obtain ⟨o', g1, g2⟩ := hi c q
    rw [e] at g1; cases g1
    exact g2.1 v d) e, d⟩
  have nsk : ∀ m, s.heap.Ns env.locals m → h'.Ns env.locals m := fun m hm => hm.at fun o e => hk _ o (fun q => (hz _ q).1 X.wl) e
  have hin : ∀ a, hid₁ a → ∃ o, h'.get? a = some o := fun a ha => by
    by_cases q : Z a
    · exact hz' a ha q
    · obtain ⟨o, e⟩ := X.hin a (h1 a ha); exact ⟨o, hk a o q e⟩
  exact {
    e := {
      kind := X.e.kind
      glob := X.e.glob
      bi := X.e.bi
      tok := Nat.le_trans X.e.tok ht
      md := C.stable _ _ ⟨fun b o l _ e => hk b o (fun q => absurd (hz b q).2.2 (Nat.not_le.mpr l)) e, fun _ => tab⟩ X.e.md
      tab := tab
      h106 := .inl h106
      hin := fun a ha => by
        rcases ha with q | q
        · exact hin a q
        · obtain ⟨o, e⟩ := X.e.hin a (.inr q); exact ⟨o, hk a o (fun z => (hz a z).1 q) e⟩
      L106 := X.e.L106
      opn := fun a ha q => q.elim (fun q => X.e.opn a ha (.inl (h1 a q))) fun q => X.e.opn a ha (.inr q)
      cc := X.e.cc
      loc := let ⟨m, a, b⟩ := X.e.loc; ⟨m, nsk m a, fun y d e o q => let ⟨v, e1, r⟩ := b y d e o q; ⟨v, e1, r.mono vis⟩⟩
      cel := fun y d e o q => let ⟨c, v, e1, e2, e3, r⟩ := X.e.cel y d e o q; ⟨c, v, e1, e2, cellk _ _ e3, r.mono vis⟩ }
    h106 := h106
    hin := hin
    clo := X.clo
    plo := X.plo
    wlo := X.wlo
    wl := X.wl
    dis := fun a ha q => X.dis a ha (h1 a q)
    wc := fun x c h1 h2 => let ⟨a, v, b⟩ := X.wc x c h1 h2; ⟨a, v, cellk _ _ b⟩
    ac := X.ac
    own := let ⟨m, a, b, c⟩ := X.own; ⟨m, nsk m a, fun x d h1 h2 => let ⟨q, a, vs, e1, e2, e3, e4⟩ := b x d h1 h2; ⟨q, a, vs, e1, e2, (let ⟨o, n, f, r⟩ := e3; ⟨o, n, hk a o (fun q => (hz a q).1 e2) f, r⟩), e4⟩, c⟩ }

end

theorem KpW.mono {b : Bool} {W W' : Addr → Prop} {s s' : Shared} (x : KpW b W s s') (h : ∀ a, W a → W' a) : KpW b W' s s' := let ⟨h', tk, e, k, t⟩ := x; ⟨h', tk, e, fun a o na p e => k a o (fun q => na (h a q)) p e, t⟩

def ItemIs (h : Heap) (v : Value) : List Sc → Prop
  | [x] => Sc.Is v x
  | [x, y] => ∃ T a b, v = .ref T ∧ h.IsTuple T #[a, b] ∧ Sc.Is a x ∧ Sc.Is b y
  | _ => False
inductive Tgt : Expr → List Str → Prop
  | one (x : Str) (p : Pos) : Tgt (.Name x p) [x]
  | two (x : Str) (px : Pos) (y : Str) (py : Pos) (k : Nat) (tp : Pos) : Tgt (.Tuple [.Name x px, .Name y py] k tp) [x, y]
def bindAll : List Str → List Sc → List (Str × D) → List (Str × D)
  | x :: xs, d :: ds, ρ => bindAll xs ds ((x, .sc d) :: ρ)
  | _, _, ρ => ρ

theorem assignT {b : Bool} {C : Ctx} {ρ : List (Str × D)} {hid₀ W : Addr → Prop} {lo : Nat} {env : Env} {s : Shared} (X : EnvX C hid₀ W lo env ρ s) {t : Expr} {xs : List Str} {ds : List Sc} {v : Value} {A : Around} {E : Value → Shared → Prop} {Q : Unit → Shared → Prop} (hA : A.handled = none)
    (ht : Tgt t xs) (hi : ItemIs s.heap v ds) (hl : ds.length = xs.length) (hloc : xs.all (locCell env.scope) = true) (k : ∀ s', KpW b W s s' → EnvX C hid₀ W lo env (bindAll xs ds ρ) s' → Q () s') : wpAny (model prog C.w) A (assign t env v) Q E s := by
  cases ht with
  | one x p =>
    match ds, hl with
    | [d], _ =>
      have hx := List.all_eq_true.mp hloc x (by simp)
      exact wpAny_assign_Name (X.store (d := .sc d) (locCell_of hx rfl) hi rfl fun s' K X' _ => k s' K X')
  | two x px y py kk tp =>
    match ds, hl with
    | [d, d'], _ =>
      have hx := List.all_eq_true.mp hloc x (by simp)
      have hy := List.all_eq_true.mp hloc y (by simp)
      obtain ⟨T, a, b, rfl, hT, ha, hb⟩ := hi
      exact assignPair (d := .sc d) (d' := .sc d') X hA hT (locCell_of hx rfl) (locCell_of hy rfl) ha hb rfl rfl fun s' K X' _ => k s' K X'

section
variable {g : Bool} {C : Ctx} {b : Bool} {n : Nat} {sc : Scope} {ρ ρ₁ : List (Str × D)} {out : Out}

structure IterK (C : Ctx) (b : Bool) (n : Nat) (sc : Scope) (ρ : List (Str × D)) (target e : Expr) (items : List (List Sc)) : Prop where
  all : ∀ (A : Around) (env : Env) (hid : Addr → Prop) (s : Shared) (E : Value → Shared → Prop) (Q : Value → Shared → Prop), env.scope = sc → Calm n A → EnvE C hid env ρ s →
    (∀ I s₂ fp wr Md St', KR b s s₂ → s.toks ≤ s₂.toks → EnvE C hid env ρ s₂ → KTurns prog C.w A target I fp wr items.length (fun i v h => ∃ xs, items[i]? = some xs ∧ ItemIs h v xs) Md St' → St' 0 s₂.heap →
      (∀ a ∈ fp, a < s₂.heap.objs.size ∧ ¬ hid a) → (∀ a ∈ wr, s.heap.get? a = none ∧ C.lo ≤ a) → (∀ i h, St' i h → ∀ a ∈ wr, ∃ o, h.get? a = some o ∧ Inert o) →
      (∀ (s : Shared) (Q : Value → Shared → Prop) (E : Value → Shared → Prop), St' 0 s.heap → Q (.ref I) s → wpAny (model prog C.w) A (pyIter (.ref I)) Q E s) → Q (.ref I) s₂) →
    wpAny (model prog C.w) A (eval e env) (fun xv s₁ => wpAny (model prog C.w) A (pyIter xv) Q E s₁) E s

/-- for -/
theorem Sm.forT {target e : Expr} {body : List Stmt} {pos : Pos} {names : List Str} {items : List (List Sc)} (J : Nat → List (Str × D)) (h0 : J 0 = ρ) (hit : IterK C b n sc ρ target e items) (htg : Tgt target names) (hn : ∀ it ∈ items, it.length = names.length)
    (step : ∀ i it, items[i]? = some it → Ex false b C n sc (bindAll names it (J i)) body (.next (J (i + 1)))) (hl : names.all (locCell sc) = true := by rfl) (hf : ∀ env x, foldedSetIterable e env x = pure x := by intro _ _; rfl) :
    Sm g b C n sc ρ (.For target e body [] pos) (.next (J items.length)) := .mk fun A env hid₀ W lo s E hsc hA X => by
  subst h0
  refine wpAny_For (hit.all A env _ s E _ hsc hA X.e fun I s₂ fp wr Md St' k t X2 W' hst hfp hwr hex _ => ?_) (hf env)
  have X₂ := X.hide (Z := fun a => a ∈ wr) k.heap t (fun a ha => (hwr a ha).1) fun a ha => let ⟨o, e, _⟩ := hex 0 _ hst a ha; ⟨o, e⟩
  have hfpz : ∀ a, a ∈ wr → ¬ (hid₀ a ∨ W a) := fun a ha => (hfp a (W'.sub a ha)).2
  refine codeAny_forLoop_any (fun kk s' => ∃ i, i ≤ items.length ∧ kk = items.length + 1 - i ∧ KpW b (fun a => W a ∨ a ∈ wr) s₂ s' ∧ EnvX C (fun a => hid₀ a ∨ a ∈ wr) W lo env (J i) s' ∧ St' i s'.heap) ?_ (items.length + 1) ⟨0, Nat.zero_le _, rfl, .refl _ _ _, X₂, hst⟩
  rintro kk s₃ ⟨i, hi, rfl, K, X₃, hst₃⟩
  have hzz : ∀ a, a ∈ wr → ¬ W a ∧ a ≠ P0 ∧ C.lo ≤ a := fun a ha => ⟨fun q => hfpz a ha (.inr q), fun q => hfpz a ha (.inl (q ▸ X.h106)), (hwr a ha).2⟩
  have kpw : ∀ {h' tk}, (∀ b o, b ∉ wr → s₃.heap.get? b = some o → h'.get? b = some o) → Tab h' → KpW b (fun a => W a ∨ a ∈ wr) s₃ { s₃ with heap := h', toks := tk } := fun {h' tk} hk ht => ⟨h', tk, rfl, fun a o na _ e => hk a o (fun q => na (.inr q)) e, fun _ => ht⟩
  by_cases hlt : i < items.length
  · refine wpAny_mono (wpAny_toks (W'.item i s₃ (fun r s₄ => ∃ v h' tk, r = some v ∧ s₄ = { s₃ with heap := h', toks := tk } ∧ Md i v h' ∧ (∀ b o, b ∉ wr → s₃.heap.get? b = some o → h'.get? b = some o)) _ hlt hst₃ fun v h' tk hm hk => ⟨v, h', tk, rfl, rfl, hm, hk⟩)) ?_ fun _ _ e => e.2
    rintro r s₄ ⟨ht, v, h₄, tk₄, rfl, rfl, hm, hk₄⟩
    replace ht : s₃.toks ≤ tk₄ := ht
    refine W'.go i v _ _ _ hm fun h₅ hP hst₅ hk₅ => ?_
    have hk : ∀ b o, b ∉ wr → s₃.heap.get? b = some o → h₅.get? b = some o := fun b o nb e => hk₅ b o nb (hk₄ b o nb e)
    have X₅ := X₃.turn (tk := tk₄) (hid₁ := fun a => hid₀ a ∨ a ∈ wr) hk ht hzz (hex i _ hst₃) (fun _ e => e) (.inl X.h106) fun a _ ha => let ⟨o, e, _⟩ := hex _ _ hst₅ a ha; ⟨o, e⟩
    obtain ⟨it, hit', his⟩ := hP
    have hlen := hn it (List.mem_of_getElem? hit')
    refine assignT (b := b) X₅ hA.1 htg his hlen (by rw [hsc]; exact hl) fun s₆ K₆ X₆ => ?_
    refine wpAny_mono ((step i it hit').all A env _ W lo s₆ _ hsc hA X₆) ?_ fun _ _ e => e
    rintro f s₇ ⟨K₇, rfl, W'', w1, w2, X₇⟩
    have e : W'' = W := funext fun a => propext ⟨fun h => (w2 a h).elim id (fun h => (nomatch h.1)), w1 a⟩
    subst e
    have K₆₇ : KpW b W'' _ s₇ := K₆.trans K₇ fun a h => .inl h
    refine ⟨items.length + 1 - (i + 1), by omega, i + 1, hlt, rfl, (K.trans (kpw hk X₅.e.tab) fun a h => .inl h).trans (K₆₇.mono fun a h => .inl h) fun a h => .inl h, X₇, ?_⟩
    refine W'.frame _ _ _ hst₅ fun a ha o e => ?_
    obtain ⟨h7, t7, rfl, k7, _⟩ := K₆₇
    exact k7 a o (fun q => (hfp a ha).2 (.inr q)) (.inl fun q => (hfp a ha).2 (.inl (q ▸ X.h106))) e
  · have hN : i = items.length := by omega
    subst hN
    refine wpAny_mono (wpAny_toks (W'.done s₃ (fun r s₄ => ∃ h' tk, r = none ∧ s₄ = { s₃ with heap := h', toks := tk } ∧ (∀ b o, b ∉ wr → s₃.heap.get? b = some o → h'.get? b = some o)) _ hst₃ fun h' tk hk => ⟨h', tk, rfl, rfl, hk⟩)) ?_ fun _ _ e => e.2
    rintro r s₄ ⟨ht', h₄, tk₄, rfl, rfl, hk⟩
    replace ht' : s₃.toks ≤ tk₄ := ht'
    have X₅ := X₃.turn (tk := tk₄) (hid₁ := hid₀) hk ht' hzz (hex _ _ hst₃) (fun _ e => .inl e) X.h106 fun a ha hz => (hfpz a hz (.inl ha)).elim
    refine wpAny_execs_nil ⟨(KpW.of_kr k).trans (K.trans (kpw hk X₅.e.tab) fun a h => .inl h) fun a h => h.imp id fun h => (hwr a h).1, rfl, W, fun _ e => e, fun _ e => .inl e, X₅⟩
end
end Mine
end
section
open PySem PySem.W PyProof.Rows PySem.Calls
namespace Mine
theorem ktu_name {A : Around} {prog : Program} {w : World} {x : Str} {p : Pos} {I : Addr} {fp wr : List Addr} {n : Nat} {P : Nat → Value → Prop} {St : Nat → Heap → Prop} {items : List (List Sc)} (W : Walks prog w A I fp wr n P St)
    (h : ∀ i v, i < n → P i v → ∃ s, items[i]? = some [s] ∧ Sc.Is v s) (hn : n = items.length) : ∃ Md, KTurns prog w A (.Name x p) I fp wr items.length (fun i v h => ∃ xs, items[i]? = some xs ∧ ItemIs h v xs) Md St := by
  subst hn
  have W' := walks_imp (P' := fun i v => ∃ s, items[i]? = some [s] ∧ Sc.Is v s) W h
  have T := KTurns.ofWalks (target := .Name x p) W' fun i v s Q E _ hq => wpAny_of_eq (a := ()) rfl hq
  exact ⟨_, T.sub, T.frame, T.item, fun i v s Q E hm hQ => T.go i v s Q E hm fun h' hP st hk => hQ h' (let ⟨x, e, r⟩ := hP; ⟨[x], e, r⟩) st hk, T.done⟩
theorem ktu_pair {A : Around} {prog : Program} {w : World} {elts : List Expr} {k : Nat} {tp : Pos} {I : Addr} {fp wr : List Addr} {n : Nat} {Pt : Nat → Array Value → Prop} {St : Nat → Heap → Prop} {Mid : Nat → Addr → Heap → Prop} {items : List (List Sc)} (W : WalksU prog w A I fp wr n Pt St Mid)
    (h : ∀ i v, i < n → Pt i v → ∃ a b s t, v = #[a, b] ∧ items[i]? = some [s, t] ∧ Sc.Is a s ∧ Sc.Is b t) (hn : n = items.length) : ∃ Md, KTurns prog w A (.Tuple elts k tp) I fp wr items.length (fun i v h => ∃ xs, items[i]? = some xs ∧ ItemIs h v xs) Md St := by
  subst hn
  have T := KTurns.ofWalksU (elts := elts) (k := k) (pos := tp) W.bound
  exact ⟨_, T.sub, T.frame, T.item, fun i v s Q E hm hQ => T.go i v s Q E hm fun h' hP st hk => hQ h' (by
    obtain ⟨T, vals, rfl, ⟨hi, hp⟩, hT⟩ := hP
    obtain ⟨a, b, s, t, rfl, e, r1, r2⟩ := h i vals hi hp
    exact ⟨[s, t], e, T, a, b, rfl, hT, r1, r2⟩) st hk, T.done⟩

theorem inert_listIter {h : Heap} {I ax : Addr} {i : Nat} (x : h.IsListIter I ax i) : ∃ o, h.get? I = some o ∧ Inert o := by
  obtain ⟨o, e, c, d⟩ := x
  refine ⟨o, e, ⟨fun v q => (by rw [d] at q; cases q), fun vs q t h => ?_⟩⟩
  rw [d] at h; cases h
  intro z; cases z
theorem inert_rangeIter {h : Heap} {I : Addr} {x l st : Int} (y : IsRangeIter h I x l st) : ∃ o, h.get? I = some o ∧ Inert o := by
  refine ⟨_, y, ⟨fun v q => (by cases q), fun vs q t h => ?_⟩⟩
  cases h
  intro z; cases z

section
variable {g : Bool} {C : Ctx} {b : Bool} {n : Nat} {sc : Scope} {ρ ρ₁ : List (Str × D)} {out : Out}
theorem IterK.ints {e : Expr} {ns : List Int} {x : Str} {p : Pos} (h : Ev C b n sc ρ e (.ints ns)) : IterK C b n sc ρ (.Name x p) e (ns.map fun i => [Sc.int i]) := .mk fun A env hid s E Q hs hA X k =>
  h.go hs hA X fun v s₁ k1 t1 X1 r => by
    obtain ⟨l, vs, rfl, hl, hi, hn⟩ := rep_ints r
    refine wpAny_pyIter_list hl ?_
    have hll : l < s₁.heap.objs.size := let ⟨_, ho, _⟩ := id hl; Heap.lt_size ho
    have kk := keeps_push s₁ { cls := .type "list_iterator", data := .fields #[.ref l, .int 0 0] } s₁.toks
    have X2 := X1.kp (KR.of_keeps (b := true) kk).heap (Nat.le_refl _)
    obtain ⟨Md, T⟩ := ktu_name (x := x) (p := p) (items := ns.map fun i => [Sc.int i]) (Walks.list (prog := prog) (w := C.w) hA.1 s₁.heap.objs.size l (Nat.ne_of_lt hll) vs.toArray) (fun i v _ hv => by
      obtain ⟨m, t, e1, e2⟩ := hi.at i v (by simpa using hv)
      exact ⟨.int m, by simp [e2], by rw [e1]; rfl⟩) (by rw [List.size_toArray, hi.length, List.length_map])
    refine k s₁.heap.objs.size _ _ _ _ _ (k1.trans (.of_keeps kk)) t1 X2 T ⟨⟨_, Heap.get?_push_size _ rfl, rfl, rfl⟩, hl.push _⟩ ?_ ?_ ?_ (fun s Q E => (Walks.list (prog := prog) (w := C.w) hA.1 s₁.heap.objs.size l (Nat.ne_of_lt hll) vs.toArray).self 0 s Q E)
    · intro a ha
      simp only [List.mem_cons, List.not_mem_nil, or_false] at ha
      rcases ha with rfl | rfl
      · exact ⟨by simp [Heap.size_push], X1.fresh (get_size _)⟩
      · exact ⟨Nat.lt_of_lt_of_le hll (by simp [Heap.size_push]), hn⟩
    · intro a ha
      simp only [List.mem_cons, List.not_mem_nil, or_false] at ha
      subst ha
      exact ⟨kr_none k1.heap X.tab (get_size _), C.big _ X1.md⟩
    · intro i h hst a ha
      simp only [List.mem_cons, List.not_mem_nil, or_false] at ha
      subst ha
      exact inert_listIter hst.1
theorem IterK.range1 {e : Expr} {p pos px : Pos} {m : Int} {x : Str} (h : Ev C b n sc ρ e (.int m)) (h0 : -1000000 ≤ m) (h1 : m ≤ 1000000) (hk : sc.names.lookup ("range" : Str) = some .globalImplicit := by rfl)
    (hp : ∀ env, starEach [e] env = [(false, eval e env)] := by intro _; rfl) : IterK C b n sc ρ (.Name x px) (.Call (.Name "range" p) [e] [] pos) ((rng 0 m).map fun i => [Sc.int i]) := by
  refine .mk ?_
  rintro A env hid s E Q rfl hA X k
  refine wpAny_Call_NameR (name_bi X (v := .type "range") (by decide +kernel) (by decide) hk ?_)
  have he : backTo pos (starEach [e] env) = [(false, eval e env)] := by rw [hp]; rfl
  rw [he]
  refine PyProof.Rows.callWith_type rfl (evalArgs_plain (spliced_cons (h.go rfl hA X fun v s₁ k1 t1 X1 r => spliced_nil ?_)))
  obtain ⟨t, rfl⟩ := is_int r
  refine call_range_1 ?_
  refine wpAny_pyIter_range (IsRange.new _ _ _ _ _ _ _) (small_one (by omega) (by omega) (by omega) (by omega)) ?_
  have hsz : Builtin.Range.rangeSize 0 m 1 = ((m - 0).toNat : Int) := by rw [rangeSize_one]; split <;> omega
  have kk1 := keeps_push s₁ { cls := .type "range", data := .fields #[.int 0 s₁.toks, .int m t, .int 1 (s₁.toks + 1)] } (s₁.toks + 1 + 1)
  have kk2 := keeps_push { s₁ with heap := s₁.heap.push { cls := .type "range", data := .fields #[.int 0 s₁.toks, .int m t, .int 1 (s₁.toks + 1)] }, toks := s₁.toks + 1 + 1 } { cls := .type "range_iterator", data := .fields #[rawInt 0, rawInt (Builtin.Range.rangeSize 0 m 1), rawInt 1] } (s₁.toks + 1 + 1)
  have X2 := (X1.kp (KR.of_keeps (b := true) kk1).heap (by show s₁.toks ≤ s₁.toks + 1 + 1; omega))
  have X3 := X2.kp (KR.of_keeps (b := true) kk2).heap (Nat.le_refl _)
  obtain ⟨Md, T⟩ := ktu_name (x := x) (p := px) (items := (rng 0 m).map fun i => [Sc.int i]) (Walks.range (prog := prog) (w := C.w) hA.1 (s₁.heap.push { cls := .type "range", data := .fields #[.int 0 s₁.toks, .int m t, .int 1 (s₁.toks + 1)] }).objs.size 0 1 (m - 0).toNat) (fun i v hi hv => by
    obtain ⟨t', e⟩ := hv
    have hi' : i < m.toNat := by simpa using hi
    exact ⟨.int (0 + (i : Int)), by simp [rng, hi'], by rw [e]; show 0 + (i : Int) * 1 = 0 + (i : Int); omega⟩) (by simp [rng])
  refine k _ _ _ _ _ _ ((k1.trans (.of_keeps kk1)).trans (.of_keeps kk2)) (by show s.toks ≤ s₁.toks + 1 + 1; omega) X3 T ?_ ?_ ?_ ?_ (fun s Q E => (Walks.range (prog := prog) (w := C.w) hA.1 (s₁.heap.push { cls := .type "range", data := .fields #[.int 0 s₁.toks, .int m t, .int 1 (s₁.toks + 1)] }).objs.size 0 1 (m - 0).toNat).self 0 s Q E)
  · have e1 : (0 + ((0 : Nat) : Int) * 1) = 0 := by simp
    have e2 : (((m - 0).toNat : Int) - ((0 : Nat) : Int)) = Builtin.Range.rangeSize 0 m 1 := by rw [hsz]; simp
    show IsRangeIter _ _ (0 + ((0 : Nat) : Int) * 1) (((m - 0).toNat : Int) - ((0 : Nat) : Int)) 1
    rw [e1, e2]
    exact Heap.get?_push_size _ rfl
  · intro a ha
    simp only [List.mem_cons, List.not_mem_nil, or_false] at ha
    subst ha
    exact ⟨by simp [Heap.size_push], X2.fresh (get_size _)⟩
  · intro a ha
    simp only [List.mem_cons, List.not_mem_nil, or_false] at ha
    subst ha
    exact ⟨kr_none (k1.heap.trans (KR.of_keeps (b := true) kk1).heap) X.tab (get_size _), C.big _ X2.md⟩
  · intro i h hst a ha
    simp only [List.mem_cons, List.not_mem_nil, or_false] at ha
    subst ha
    exact inert_rangeIter hst

theorem paired_get {α β : Type} {R : α → β → Prop} : ∀ {xs : List α} {ys : List β}, Paired R xs ys → ∀ (i : Nat) y, ys[i]? = some y → ∃ x, xs[i]? = some x ∧ R x y
  | _, _, .nil, i, y, h => by simp at h
  | _, _, .cons a r, 0, y, h => ⟨_, rfl, by simpa using (by simpa using h : _ = y) ▸ a⟩
  | _, _, .cons a r, i + 1, y, h => by simpa using paired_get r i y (by simpa using h)
theorem paired_length {α β : Type} {R : α → β → Prop} : ∀ {xs : List α} {ys : List β}, Paired R xs ys → xs.length = ys.length
  | _, _, .nil => rfl
  | _, _, .cons a r => by simp [paired_length r]

theorem IterK.pairs {es : List Expr} {pos tp : Pos} {elts : List Expr} {k : Nat} {ps : List (Sc × Sc)} (h : Evs C b n sc ρ es (ps.map fun p => .pair (.sc p.1) (.sc p.2))) (hz : ps.length ≤ 10000) : IterK C b n sc ρ (.Tuple elts k tp) (.List es pos) (ps.map fun p => [p.1, p.2]) := .mk fun A env hid s E Q hs hA X kk =>
  wpAny_List (h.go hs hA X fun vs s₁ k1 t1 X1 r => by
    have hlen : vs.length = ps.length := by rw [paired_length r, List.length_map]
    refine ⟨by rw [sizeLine_eq]; omega, ?_⟩
    have hl : (s₁.heap.push { cls := .type "list", data := .seq vs.toArray }).IsList s₁.heap.objs.size vs.toArray := ⟨_, Heap.get?_push_size _ rfl, rfl, _, rfl⟩
    have kl := keeps_push s₁ { cls := .type "list", data := .seq vs.toArray } s₁.toks
    have X2 := X1.kp (KR.of_keeps (b := true) kl).heap (Nat.le_refl _)
    refine wpAny_pyIter_list hl ?_
    have ki := keeps_push { s₁ with heap := s₁.heap.push { cls := .type "list", data := .seq vs.toArray } } { cls := .type "list_iterator", data := .fields #[.ref s₁.heap.objs.size, .int 0 0] } s₁.toks
    have X3 := X2.kp (KR.of_keeps (b := true) ki).heap (Nat.le_refl _)
    have H : ∀ j : Nat, ∃ y : Addr × Array Value, j < ps.length → vs[j]? = some (.ref y.1) ∧ (s₁.heap.IsTuple y.1 y.2 ∧ ¬ hid y.1) ∧ ∃ a b p, y.2 = #[a, b] ∧ ps[j]? = some p ∧ Sc.Is a p.1 ∧ Sc.Is b p.2 := fun j => by
      by_cases hj : j < ps.length
      · obtain ⟨v, e, T, o, p, q, m, rfl, hV, hc, hd, r1, r2⟩ := paired_get r j _ (by rw [List.getElem?_map, List.getElem?_eq_getElem hj]; rfl)
        exact ⟨(T, #[p, q]), fun _ => ⟨e, ⟨⟨o, hV.1, hc, m, hd⟩, hV.2⟩, p, q, ps[j], rfl, List.getElem?_eq_getElem hj, r1, r2⟩⟩
      · exact ⟨(0, #[]), fun h => absurd h hj⟩
    obtain ⟨f, hf⟩ := Classical.skolem.mp H
    have hsz : vs.toArray.size = ps.length := by simp [hlen]
    have hlt : ∀ j, j < ps.length → (f j).1 < s₁.heap.objs.size := fun j hj => let ⟨_, e, _⟩ := (hf j hj).2.1.1; Heap.lt_size e
    have hI : (s₁.heap.push { cls := .type "list", data := .seq vs.toArray }).objs.size = s₁.heap.objs.size + 1 := by rw [Heap.size_push]
    have WU := (WalksU.listOfTuples (prog := prog) (w := C.w) hA.1 (s₁.heap.push { cls := .type "list", data := .seq vs.toArray }).objs.size s₁.heap.objs.size (by rw [hI]; exact Nat.ne_of_lt (Nat.lt_succ_self _)) vs.toArray (fun j => (f j).1) (fun j => (f j).2)
      (fun j hj => by simpa using (hf j (hsz ▸ hj)).1) fun j hj => by rw [hI]; exact Nat.ne_of_lt (Nat.lt_succ_of_lt (hlt j (hsz ▸ hj))))
    obtain ⟨Md, T⟩ := ktu_pair (elts := elts) (k := k) (tp := tp) (items := ps.map fun p => [p.1, p.2]) WU (fun i v hi hv => by
        obtain ⟨_, _, a, b, p, e, e2, r1, r2⟩ := hf i (hsz ▸ hi)
        exact ⟨a, b, p.1, p.2, hv.trans e, by rw [List.getElem?_map, e2]; rfl, r1, r2⟩) (by rw [hsz, List.length_map])
    refine kk _ _ _ _ _ _ ((k1.trans (.of_keeps kl)).trans (.of_keeps ki)) t1 X3 T ⟨⟨_, Heap.get?_push_size _ rfl, rfl, rfl⟩, hl.push _, fun j hj => ?_⟩ ?_ ?_ ?_ (fun s Q E => WU.self 0 s Q E)
    · exact ((hf j (hsz ▸ hj)).2.1.1.push _).push _
    · intro a ha
      simp only [List.mem_cons, List.mem_map, List.mem_range] at ha
      rcases ha with rfl | rfl | ⟨j, hj, rfl⟩
      · exact ⟨by simp [Heap.size_push], X2.fresh (get_size _)⟩
      · exact ⟨by simp [Heap.size_push]; exact Nat.lt_succ_of_lt (Nat.lt_succ_self _), X1.fresh (get_size _)⟩
      · exact ⟨by simp only [Heap.size_push]; exact Nat.lt_succ_of_lt (Nat.lt_succ_of_lt (hlt j (hsz ▸ hj))), (hf j (hsz ▸ hj)).2.1.2⟩
    · intro a ha
      simp only [List.mem_cons, List.not_mem_nil, or_false] at ha
      subst ha
      exact ⟨kr_none (k1.heap.trans (KR.of_keeps (b := true) kl).heap) X.tab (get_size _), C.big _ X2.md⟩
    · intro i h hst a ha
      simp only [List.mem_cons, List.not_mem_nil, or_false] at ha
      subst ha
      exact inert_listIter hst.1)
end
end Mine
end
section
open PySem PySem.W PyProof.Rows PySem.Calls
namespace Mine
section
variable {C : Ctx} {hid₀ W : Addr → Prop} {lo : Nat} {env : Env} {ρ : List (Str × D)} {s s' : Shared}

/-- a fresh object becomes the frame's own -/
theorem EnvX.grow (X : EnvX C hid₀ W lo env ρ s) {o : Obj} (hlo : lo ≤ s.heap.objs.size) (ho : o.isFreed = false) : EnvX C hid₀ (fun a => W a ∨ a = s.heap.objs.size) lo env ρ { s with heap := s.heap.push o } := by
  have kk := keeps_push s o s.toks
  have k : KpH s.heap (s.heap.push o) := (KR.of_keeps (b := true) kk).heap
  have X' := X.kp (s' := { s with heap := s.heap.push o }) k (Nat.le_refl _)
  have none : ∀ a o', s.heap.get? a = some o' → a ≠ s.heap.objs.size := fun a o' e q => by rw [q, get_size] at e; cases e
  have vis : ∀ a o', Vis (fun a => hid₀ a ∨ W a) s.heap a o' → Vis (fun a => hid₀ a ∨ (W a ∨ a = s.heap.objs.size)) (s.heap.push o) a o' := fun a o' z => ⟨Heap.get?_push_of_some _ z.1, fun q => by
    rcases q with q | q | q
    · exact z.2 (.inl q)
    · exact z.2 (.inr q)
    · exact none a o' z.1 q⟩
  exact {
    e := {
      kind := X.e.kind
      glob := X.e.glob
      bi := X.e.bi
      tok := X.e.tok
      md := X'.e.md
      tab := X'.e.tab
      h106 := X.e.h106.imp id .inl
      hin := fun a ha => by
        rcases ha with q | q | q
        · exact X'.e.hin a (.inl q)
        · exact X'.e.hin a (.inr q)
        · exact ⟨o, q ▸ Heap.get?_push_size _ ho⟩
      L106 := X.e.L106
      opn := fun a ha q => by
        rcases q with q | q | q
        · exact X.e.opn a ha (.inl q)
        · exact X.e.opn a ha (.inr q)
        · obtain ⟨o, e⟩ := C.opx _ X.e.md a ha
          exact none a o e q
      cc := X.e.cc
      loc := let ⟨m, a, b⟩ := X.e.loc; ⟨m, a.push _, fun y d e o q => let ⟨v, e1, r⟩ := b y d e o q; ⟨v, e1, r.mono vis⟩⟩
      cel := fun y d e o q => let ⟨c, v, e1, e2, e3, r⟩ := X.e.cel y d e o q; ⟨c, v, e1, e2, cell_kp k e2 e3, r.mono vis⟩ }
    h106 := X.h106
    hin := X'.hin
    clo := X.clo
    plo := X.plo
    wlo := fun a ha => ha.elim (X.wlo a) fun q => q ▸ hlo
    wl := .inl X.wl
    dis := fun a ha q => ha.elim (fun h => X.dis a h q) fun h => by
      obtain ⟨o, e⟩ := X.hin a q
      rw [h, get_size] at e; cases e
    wc := fun x c h1 h2 => let ⟨a, v, b⟩ := X'.wc x c h1 h2; ⟨.inl a, v, b⟩
    ac := X.ac
    own := let ⟨m, a, b, c⟩ := X'.own; ⟨m, a, fun x d h1 h2 => let ⟨q, a, vs, e1, e2, e3, e4⟩ := b x d h1 h2; ⟨q, a, vs, e1, .inl e2, e3, e4⟩, c⟩ }

/-- a local is bound to a list of the frame's own -/
theorem EnvX.setOwnLocal (X : EnvX C hid₀ W lo env ρ s) {x : Str} {a : Addr} {vs : List Value} {d : D} {h' : Heap} {tk : Nat} {m : Str → Option Value} (hm : s.heap.Ns env.locals m) (hn : h'.Ns env.locals (fun y => if y = x then some (.ref a) else m y)) (hsb : Heap.SameBut env.locals s.heap h')
    (hx : env.kindOf x = some .local) (hd : d.isOwn = true) (hl : PlainL s.heap a (List.toArray vs)) (hW : W a) (hr : OwnIs vs d) (hsep : ∀ y d', ρ.lookup y = some d' → d'.isOwn = true → m y ≠ some (.ref a)) (ht : s.toks ≤ tk) : EnvX C hid₀ W lo env ((x, d) :: ρ) { s with heap := h', toks := tk } := by
  have hk : ∀ b o, b ≠ env.locals → s.heap.get? b = some o → h'.get? b = some o := hsb.extBut
  have hL : env.locals ≠ P0 := X.e.L106
  have vis : ∀ a o, Vis (fun a => hid₀ a ∨ W a) s.heap a o → Vis (fun a => hid₀ a ∨ W a) h' a o := fun a o z => ⟨hk a o (fun q => z.2 (.inr (q ▸ X.wl))) z.1, z.2⟩
  have tab := tab_but hk hL (ns_nofields hm) X.e.tab
  have hin : ∀ hid : Addr → Prop, (∀ a, hid a → ∃ o, s.heap.get? a = some o) → ∀ a, hid a → ∃ o, h'.get? a = some o := fun hid hh a ha => by
    by_cases q : a = env.locals
    · obtain ⟨o, _, _, e, _⟩ := hn; exact ⟨o, q ▸ e⟩
    · obtain ⟨o, e⟩ := hh a ha; exact ⟨o, hk a o q e⟩
  have look : ∀ y d', ((x, d) :: ρ).lookup y = some d' → (y = x ∧ d' = d) ∨ (y ≠ x ∧ ρ.lookup y = some d') := fun y d' h => by
    rw [List.lookup_cons] at h
    cases hy : y == x with
    | true => rw [hy] at h; cases h; exact .inl ⟨beq_iff_eq.mp hy, rfl⟩
    | false => rw [hy] at h; exact .inr ⟨beq_eq_false_iff_ne.mp hy, h⟩
  have plk : ∀ b its, PlainL s.heap b its → PlainL h' b its := fun b its e3 => by
    have hc := ns_ne_list hm e3
    obtain ⟨o, n, f1, f2⟩ := e3
    exact ⟨o, n, hk b o hc f1, f2⟩
  exact {
    e := {
      kind := X.e.kind
      glob := X.e.glob
      bi := X.e.bi
      tok := Nat.le_trans X.e.tok ht
      md := C.stable _ _ ⟨fun b o l _ e => hk b o (fun q => absurd (Nat.le_trans X.clo (X.wlo _ X.wl)) (Nat.not_le.mpr (q ▸ l))) e, fun _ => tab⟩ X.e.md
      tab := tab
      h106 := X.e.h106
      hin := hin _ X.e.hin
      L106 := hL
      opn := X.e.opn
      cc := X.e.cc
      loc := ⟨_, hn, fun y d' h ho hy => by
        rcases look y d' h with ⟨rfl, rfl⟩ | ⟨hne, h⟩
        · rw [hd] at ho; cases ho
        · obtain ⟨m', hm', hv⟩ := X.e.loc
          obtain rfl := ns_unique hm hm'
          obtain ⟨u, e1, r⟩ := hv y d' h ho hy
          exact ⟨u, by simp [hne, e1], r.mono vis⟩⟩
      cel := fun y d' h ho hy => by
        rcases look y d' h with ⟨rfl, rfl⟩ | ⟨hne, h⟩
        · rw [hd] at ho; cases ho
        · obtain ⟨c, u, e1, e2, e3, r⟩ := X.e.cel y d' h ho hy
          have hc := ns_ne_cell hm e3
          obtain ⟨o, f1, f2⟩ := e3
          exact ⟨c, u, e1, e2, ⟨o, hk c o hc f1, f2⟩, r.mono vis⟩ }
    h106 := X.h106
    hin := hin _ X.hin
    clo := X.clo
    plo := X.plo
    wlo := X.wlo
    wl := X.wl
    dis := X.dis
    wc := fun y c h1 h2 => by
      obtain ⟨a, u, b⟩ := X.wc y c h1 h2
      have hc := ns_ne_cell hm b
      obtain ⟨o, f1, f2⟩ := b
      exact ⟨a, u, o, hk c o hc f1, f2⟩
    ac := X.ac
    own := by
      obtain ⟨m', hm', ho, hap⟩ := X.own
      obtain rfl := ns_unique hm hm'
      refine ⟨_, hn, fun y d' h hy => ?_, fun y z d' d'' b h1 h2 h3 h4 h5 h6 => ?_⟩
      · rcases look y d' h with ⟨rfl, rfl⟩ | ⟨hne, h⟩
        · exact ⟨hx, a, vs, by simp, hW, plk _ _ hl, hr⟩
        · obtain ⟨q, b, us, e1, e2, e3, e4⟩ := ho y d' h hy
          exact ⟨q, b, us, by simp [hne, e1], e2, plk _ _ e3, e4⟩
      · rcases look y d' h1 with ⟨e1, e2⟩ | ⟨hne, g1⟩
        · rcases look z d'' h3 with ⟨e3, e4⟩ | ⟨hne', g3⟩
          · rw [e1, e3]
          · have h5 : a = b := by simpa [e1] using h5
            have h6 : m z = some (.ref b) := by simpa [hne'] using h6
            exact absurd (h5 ▸ h6) (hsep z d'' g3 h4)
        · rcases look z d'' h3 with ⟨e3, e4⟩ | ⟨hne', g3⟩
          · have h6 : a = b := by simpa [e3] using h6
            have h5 : m y = some (.ref b) := by simpa [hne] using h5
            exact absurd (h6 ▸ h5) (hsep y d' g1 h2)
          · exact hap y z d' d'' b g1 h2 g3 h4 (by simpa [hne] using h5) (by simpa [hne'] using h6) }

/-- the frame's own lists are handed out -/
def D.rel : D → D
  | .ownI ns => .ints ns
  | .ownS ys => .strs ys
  | d => d
def rel (ρ : List (Str × D)) : List (Str × D) := ρ.map fun p => (p.1, p.2.rel)
theorem rel_lookup : ∀ (ρ : List (Str × D)) (x : Str), (rel ρ).lookup x = (ρ.lookup x).map D.rel
  | [], _ => rfl
  | (y, d) :: ρ, x => by
    show ((y, d.rel) :: rel ρ).lookup x = _
    rw [List.lookup_cons, List.lookup_cons]
    cases x == y
    · exact rel_lookup ρ x
    · rfl
theorem D.rel_own (d : D) : d.rel.isOwn = false := by cases d <;> rfl
theorem D.rel_of {d : D} (h : d.isOwn = false) : d.rel = d := by cases d <;> first | rfl | cases h
theorem EnvX.release (X : EnvX C hid₀ W lo env ρ s) : EnvX C hid₀ (fun a => W a ∧ ∀ its, ¬ PlainL s.heap a its) lo env (rel ρ) s := by
  have vis : ∀ a o, Vis (fun a => hid₀ a ∨ W a) s.heap a o → Vis (fun a => hid₀ a ∨ (W a ∧ ∀ its, ¬ PlainL s.heap a its)) s.heap a o := fun a o z => ⟨z.1, fun q => z.2 (q.imp id And.left)⟩
  obtain ⟨m, hm, hown, hap⟩ := X.own
  exact {
    e := {
      kind := X.e.kind
      glob := X.e.glob
      bi := X.e.bi
      tok := X.e.tok
      md := X.e.md
      tab := X.e.tab
      h106 := .inl X.h106
      hin := fun a ha => X.e.hin a (ha.imp id And.left)
      L106 := X.e.L106
      opn := fun a ha q => X.e.opn a ha (q.imp id And.left)
      cc := X.e.cc
      loc := ⟨m, hm, fun y d e o q => by
        rw [rel_lookup] at e
        obtain ⟨d₀, e0, rfl⟩ := Option.map_eq_some_iff.mp e
        cases ho : d₀.isOwn with
        | false =>
          obtain ⟨m', hm', b⟩ := X.e.loc
          obtain rfl := ns_unique hm hm'
          obtain ⟨v, e1, r⟩ := b y d₀ e0 ho q
          rw [D.rel_of ho]
          exact ⟨v, e1, r.mono vis⟩
        | true =>
          obtain ⟨_, a, vs, e1, e2, e3, e4⟩ := hown y d₀ e0 ho
          have hn : ¬ (hid₀ a ∨ (W a ∧ ∀ its, ¬ PlainL s.heap a its)) := fun q => q.elim (X.dis a e2) fun q => q.2 _ e3
          refine ⟨.ref a, e1, ?_⟩
          cases d₀ <;> first | cases ho | skip
          · exact ints_rep e3.isList e4 hn
          · exact strs_rep e3.isList e4 hn⟩
      cel := fun y d e o q => by
        rw [rel_lookup] at e
        obtain ⟨d₀, e0, rfl⟩ := Option.map_eq_some_iff.mp e
        cases ho : d₀.isOwn with
        | false =>
          obtain ⟨c, v, e1, e2, e3, r⟩ := X.e.cel y d₀ e0 ho q
          rw [D.rel_of ho]
          exact ⟨c, v, e1, e2, e3, r.mono vis⟩
        | true =>
          obtain ⟨k, _⟩ := hown y d₀ e0 ho
          rw [k] at q; rcases q with q | q <;> cases q }
    h106 := X.h106
    hin := X.hin
    clo := X.clo
    plo := X.plo
    wlo := fun a ha => X.wlo a ha.1
    dis := fun a ha => X.dis a ha.1
    wl := ⟨X.wl, fun its h => ns_ne_list hm h rfl⟩
    wc := fun x c h1 h2 => let ⟨a, v, b⟩ := X.wc x c h1 h2; ⟨⟨a, fun its h => cell_ne_list b h rfl⟩, v, b⟩
    ac := X.ac
    own := ⟨m, hm, fun y d e o => (by
      rw [rel_lookup] at e
      obtain ⟨d₀, e0, rfl⟩ := Option.map_eq_some_iff.mp e
      rw [D.rel_own] at o; cases o), fun y z d d' a h1 h2 => by
      rw [rel_lookup] at h1
      obtain ⟨d₀, e0, rfl⟩ := Option.map_eq_some_iff.mp h1
      rw [D.rel_own] at h2; cases h2⟩ }
end
end Mine
end
section
open PySem PySem.W PyProof.Rows PySem.Calls
namespace Mine

theorem list_extend_plainL {w : World} {A : Around} {E : Value → Shared → Prop} {s : Shared} {l b : Addr} {its its2 : Array Value} {Q : Value → Shared → Prop}
    (hl : PlainL s.heap l its) (hb : s.heap.IsList b its2) (hne : b ≠ l) (hz : its.size + its2.size ≤ 10000) (hQ : ∀ h', PlainL h' l (its ++ its2) → Heap.SameBut l s.heap h' → Q .none { s with heap := h' }) :
    wpAny (model prog w) A (call (.builtin "list.extend") [.ref l, .ref b]) Q E s := by
  obtain ⟨o, n, ho, hc, hdn, hd⟩ := id hl
  obtain ⟨ob, hob, hcb, nb, hdb⟩ := id hb
  obtain ⟨n', hd'⟩ := Obj.data_mapSeq hd (· ++ its2)
  refine wpAny_call_entry F.slot_list_extend hl.isList.typeIs F.entry_list_extend ?_ (F.args_list_extend_2 _ _)
  show wpAny _ _ (Builtin.List.listExtendWith (.ref l) (.ref b) .none) _ _ s
  unfold Builtin.List.listExtendWith
  refine wpAny_bind (wpAny_typeOf ⟨ob, hob, hcb⟩ ?_)
  rw [if_pos (by simp)]
  refine wpAny_bind ?_
  unfold Builtin.List.listItems
  refine wpAny_bind (wpAny_seqItems hob hdb (wpAny_pure ?_))
  refine wpAny_bind ?_
  refine wpAny_bind (wpAny_seqItems ho hd (wpAny_pure ?_))
  rw [if_neg (extend_door (by rw [sizeLine_eq]; omega))]
  show wpAny _ _ (updateSeq l (· ++ its2) >>= fun _ => ret .none) _ _ s
  refine wpAny_bind (wpAny_updateSeq ho hd (wpAny_pure ⟨.none, rfl, hQ _ ?_ (Heap.SameBut.update ..)⟩) (by rw [sizeLine_eq]; omega) (by rw [sizeLine_eq, Array.size_append]; omega))
  refine ⟨_, n', Heap.get?_update_self _ ho (Obj.isFreed_of_seq hd'), (Obj.cls_mapSeq ..).trans hc, ?_, hd'⟩
  obtain ⟨c, d, dt, sl⟩ := o
  subst hd
  exact hdn

section
variable {g : Bool} {C : Ctx} {b : Bool} {n : Nat} {sc : Scope} {ρ ρ₁ : List (Str × D)} {out : Out}

theorem Ex.release {ss : List Stmt} {d : D} (h : Ex g b C n sc (rel ρ) ss (.ret d)) : Ex g b C n sc ρ ss (.ret d) := .mk fun A env hid₀ W lo s E hs hA X =>
  wpAny_mono (h.all A env hid₀ _ lo s E hs hA X.release) (fun fl s' p => ⟨p.1.mono fun a h => h.1, p.2⟩) fun _ _ e => e

theorem Sm.newOwn {x : Str} {p lp pos : Pos} {d : D} (hd : d = .ownI [] ∨ d = .ownS []) (hx : sc.names.lookup x = some .local := by rfl) : Sm true b C n sc ρ (.Assign [.Name x p] (.List [] lp) pos) (.next ((x, d) :: ρ)) := by
  refine .mk ?_
  rintro A env hid₀ W lo s E rfl hA X
  refine wpAny_Assign_Name (wpAny_List (spliced_nil ⟨by rw [sizeLine_eq]; simp, ?_⟩)) rfl
  obtain ⟨m, hm, hown, _⟩ := X.own
  have hlo : lo ≤ s.heap.objs.size := Nat.le_of_lt (Nat.lt_of_le_of_lt (X.wlo _ X.wl) hm.lt)
  have X₁ := X.grow (o := { cls := .type "list", data := .seq ([] : List Value).toArray }) hlo rfl
  have hm₁ : (s.heap.push { cls := .type "list", data := .seq ([] : List Value).toArray }).Ns env.locals m := hm.push _
  have kp := keeps_push s { cls := .type "list", data := .seq ([] : List Value).toArray } s.toks
  have hdo : d.isOwn = true := by rcases hd with rfl | rfl <;> rfl
  refine wpAny_storeName_local hx hm₁ (fun h' hn hsb => ⟨KpW.kr (KR.of_keeps kp) (kpw_one (W := W) X.wl hsb.extBut X.e.L106 (ns_nofields hm₁)), rfl, fun a => W a ∨ a = s.heap.objs.size, fun a h => .inl h, fun a (h : W a ∨ a = s.heap.objs.size) => h.imp id fun (h : a = s.heap.objs.size) => ⟨rfl, by rw [h]; exact get_size _⟩, ?_⟩) (by rw [X.e.kind]; rfl)
  refine X₁.setOwnLocal hm₁ hn hsb hx hdo (vs := []) ⟨_, _, Heap.get?_push_size _ rfl, rfl, rfl, rfl⟩ (.inr rfl) (by rcases hd with rfl | rfl <;> exact .nil) (fun y d' h1 h2 q => ?_) (Nat.le_succ _)
  obtain ⟨_, a, vs, e1, _, ⟨o, k, e3, _⟩, _⟩ := hown y d' h1 h2
  rw [e1] at q; cases q
  rw [get_size] at e3; cases e3

theorem ownVar {x : Str} {px : Pos} {env : Env} {hid₀ W : Addr → Prop} {lo : Nat} {s : Shared} {A : Around} {E : Value → Shared → Prop} {Q : Value → Shared → Prop} {d₀ : D} (X : EnvX C hid₀ W lo env ρ s) (hx : ρ.lookup x = some d₀) (hd : d₀.isOwn = true)
    (k : ∀ m a us, s.heap.Ns env.locals m → m x = some (.ref a) → W a → env.kindOf x = some .local → PlainL s.heap a (List.toArray us) → OwnIs us d₀ → Q (.ref a) s) (hb : (x == ("__debug__" : Str)) = false := by decide) : wpAny (model prog C.w) A (eval (.Name x px) env) Q E s := by
  obtain ⟨m, hm, hown, _⟩ := X.own
  obtain ⟨hko, a, us, e1, e2, e3, e4⟩ := hown x d₀ hx hd
  exact wpAny_Name (wpAny_loadName_local X.e.kind hko hm e1 (k m a us hm e1 e2 hko e3 e4)) hb

theorem Sm.append {x : Str} {px apos cpos pos : Pos} {e : Expr} {v d₀ d : D} (he : Ev C b n sc ρ e v) (hx : ρ.lookup x = some d₀) (hd₀ : d₀.isOwn = true) (hd : d.isOwn = true)
    (hap : ∀ us u V, OwnIs us d₀ → Rep C.key V u v → OwnIs (us ++ [u]) d ∧ us.length ≤ 10000) (hb : (x == ("__debug__" : Str)) = false := by decide)
    (hbase : ∀ env, attributeBase (.Name x px) "append" env (eval (.Name x px) env) = eval (.Name x px) env := by intro _; rfl) (hline : (apos.endLine == cpos.line) = true := by rfl)
    (htrees : ∀ env, backTo cpos (starEach [e] env) = [(false, eval e env)] := by intro _; rfl) :
    Sm g b C n sc ρ (.Expr (.Call (.Attribute (.Name x px) "append" apos) [e] [] cpos) pos) (.next ((x, d) :: ρ)) := .mk fun A env hid₀ W lo s E hsc hA X => by
  refine wpAny_Expr (wpAny_Call_append (hbase env) (by rw [htrees]; rfl) hline (htrees env) (ownVar X hx hd₀ (fun m a us hm e1 e2 hko e3 e4 => ⟨a, _, rfl, e3, he.go hsc hA X.e fun u s₁ k t X₁ r => ?_⟩) hb)) ?_ rfl
  · obtain ⟨ho, hz⟩ := hap us u _ e4 r
    have hm₁ := ns_kp k.heap X.e.L106 hm
    have hl₁ := plainL_kp k.heap (X.w106 e2) e3
    refine list_append_plainL hl₁ (fun h' hl' hsb => ?_) (by rw [sizeLine_eq, List.size_toArray]; omega)
    refine ⟨KpW.kr k (kpw_one (W := W) (tk := s₁.toks) e2 hsb.extBut (X.w106 e2) (list_nofields hl₁)), rfl, W, fun _ e => e, fun _ e => .inl e, ?_⟩
    refine (X.kp k.heap t).setOwn hm₁ hl₁ (vs := us ++ [u]) ?_ hsb hko e2 e1 hx hd₀ ho hd
    simpa using hl'
  · show (env.scope.kind == .module && _) = false
    rw [X.e.kind]; rfl

theorem Sm.extend {x : Str} {px apos cpos pos : Pos} {e : Expr} {ys zs : List Str} (he : Ev C b n sc ρ e (.strs zs)) (hx : ρ.lookup x = some (.ownS ys)) (hz : ys.length + zs.length ≤ 10000) (hb : (x == ("__debug__" : Str)) = false := by decide)
    (hbase : ∀ env, attributeBase (.Name x px) "extend" env (eval (.Name x px) env) = eval (.Name x px) env := by intro _; rfl) (hline : (apos.endLine == cpos.line) = true := by rfl)
    (htrees : ∀ env, backTo cpos (starEach [e] env) = [(false, eval e env)] := by intro _; rfl) :
    Sm g b C n sc ρ (.Expr (.Call (.Attribute (.Name x px) "extend" apos) [e] [] cpos) pos) (.next ((x, .ownS (ys ++ zs)) :: ρ)) := .mk fun A env hid₀ W lo s E hsc hA X => by
  refine wpAny_Expr (wpAny_Call_method (hbase env) (by rw [htrees]; rfl) hline F.plainAttrs_list F.slot_list_extend F.type_list_extend (ownVar X hx rfl (fun m a us hm e1 e2 hko e3 e4 => ⟨e3.isList.typeIs, (fun a' q => by
      cases q
      obtain ⟨o, _, f1, _, f3, _⟩ := e3
      exact ⟨o, f1, f3⟩), ?_⟩) hb)) ?_ rfl
  · rw [htrees]
    refine callWith_builtin rfl (evalArgs_plain (spliced_cons (he.go hsc hA X.e fun u s₁ k t X₁ r => spliced_nil ?_)))
    obtain ⟨c, ws, rfl, hl, hi, hn⟩ := rep_strs r
    have hm₁ := ns_kp k.heap X.e.L106 hm
    have hl₁ := plainL_kp k.heap (X.w106 e2) e3
    have l1 := StrsAre.length e4
    have l2 := StrsAre.length hi
    refine list_extend_plainL hl₁ hl (fun q => hn (.inr (q ▸ e2))) (by simp only [List.size_toArray]; omega) fun h' hl' hsb => ?_
    refine ⟨KpW.kr k (kpw_one (W := W) (tk := s₁.toks) e2 hsb.extBut (X.w106 e2) (list_nofields hl₁)), rfl, W, fun _ e => e, fun _ e => .inl e, ?_⟩
    refine (X.kp k.heap t).setOwn hm₁ hl₁ (vs := us ++ ws) ?_ hsb hko e2 e1 hx rfl ?_ rfl
    · simpa using hl'
    · exact StrsAre.append' e4 hi
  · show (env.scope.kind == .module && _) = false
    rw [X.e.kind]; rfl
end
end Mine
end
section
open PySem PySem.W PyProof.Rows PySem.Calls
namespace Mine
theorem bs_lookup : ∀ (bs : List (Str × Sc)) (z : Str), (bs.map fun p => (p.1, D.sc p.2)).lookup z = (bs.lookup z).map D.sc
  | [], _ => rfl
  | (x, y) :: r, z => by
    rw [List.map_cons, List.lookup_cons, List.lookup_cons]
    cases z == x
    · exact bs_lookup r z
    · rfl
theorem EnvE.compB {C : Ctx} {hid : Addr → Prop} {env : Env} {ρ : List (Str × D)} {s s₃ : Shared} (X : EnvE C hid env ρ s) {scope : Scope} {Cc : Addr} {m₃ : Str → Option Value} {bs : List (Str × Sc)}
    (hC : s.heap.get? Cc = none) (hC' : Cc ≠ P0) (hk : ∀ b o, s.heap.get? b = some o → s₃.heap.get? b = some o) (ht : s.toks ≤ s₃.toks) (hn : s₃.heap.Ns Cc m₃) (hm : ∀ x y, bs.lookup x = some y → ∃ v, m₃ x = some v ∧ Sc.Is v y)
    (hkind : scope.kind = .function) (hx : ∀ x y, bs.lookup x = some y → scope.names.lookup x = some .local)
    (hfr : scope.names.all (fun p => p.2 != .free || env.kindOf p.1 == some .cell || env.kindOf p.1 == some .free) = true) (hnd : scope.names.all (fun p => scope.names.lookup p.1 == some p.2) = true) (hcl : scope.names.all (fun p => p.2 != .cell) = true) :
    EnvE C (fun a => hid a ∨ a = Cc) (compEnvC scope (closL env scope.names []) Cc env) ((bs.map fun p => (p.1, D.sc p.2)) ++ frρ scope ρ) s₃ := by
  have hbl : ∀ z, (bs.map fun p => (p.1, D.sc p.2)).lookup z = (bs.lookup z).map D.sc := bs_lookup bs
  have K : KpH s.heap s₃.heap := .of_keeps hk
  have vis : ∀ a o, Vis hid s.heap a o → Vis (fun a => hid a ∨ a = Cc) s₃.heap a o := fun a o z => ⟨hk a o z.1, fun q => by
    rcases q with q | q
    · exact z.2 q
    · have z1 := z.1
      rw [q, hC] at z1; cases z1⟩
  have hfree : ∀ z, freeOf scope z = true → (z, NameKind.free) ∈ scope.names ∧ scope.names.lookup z = some .free ∧ (env.kindOf z = some .cell ∨ env.kindOf z = some .free) := fun z h => by
    obtain ⟨p, hp, e⟩ := List.any_eq_true.mp h
    obtain ⟨e1, e2⟩ := Bool.and_eq_true_iff.mp e
    have e1 := beq_iff_eq.mp e1
    have e2 := beq_iff_eq.mp e2
    have h1 := List.all_eq_true.mp hfr p hp
    have h2 := List.all_eq_true.mp hnd p hp
    obtain ⟨a, k⟩ := p
    dsimp only at e1 e2 h1 h2
    subst e1 e2
    refine ⟨hp, beq_iff_eq.mp h2, ?_⟩
    simpa using h1
  have hlk : ∀ z, (env.kindOf z = some .cell ∨ env.kindOf z = some .free) → scope.names.lookup z = some .free → (compEnvC scope (closL env scope.names []) Cc env).kindOf z = some .cell ∨ (compEnvC scope (closL env scope.names []) Cc env).kindOf z = some .free := fun z hz hf => by
    show (relabel scope env).names.lookup z = _ ∨ (relabel scope env).names.lookup z = _
    unfold relabel
    generalize hN : scope.names = N at hf
    clear hN hnd hfr hfree hx hn hm
    induction N with
    | nil => cases hf
    | cons p r ih =>
      obtain ⟨a, k⟩ := p
      simp only [List.map_cons]
      rw [List.lookup_cons] at hf
      cases hza : z == a with
      | true =>
        rw [hza] at hf
        cases hf
        by_cases hc : (NameKind.free == NameKind.free && env.scope.kind == .function && env.kindOf a == some .cell) = true
        · rw [if_pos hc, List.lookup_cons, hza]; exact .inl rfl
        · rw [if_neg hc, List.lookup_cons, hza]; exact .inr rfl
      | false =>
        rw [hza] at hf
        have := ih hf
        by_cases hc : (k == NameKind.free && env.scope.kind == .function && env.kindOf a == some .cell) = true
        · rw [if_pos hc, List.lookup_cons, hza]; exact this
        · rw [if_neg hc, List.lookup_cons, hza]; exact this
  exact {
    kind := by show (relabel scope env).kind = _; exact hkind
    glob := X.glob
    bi := X.bi
    tok := Nat.le_trans X.tok ht
    md := C.stable _ _ K.below X.md
    tab := K.2 X.tab
    h106 := .inl X.h106
    hin := fun a ha => by
      rcases ha with ha | ha
      · obtain ⟨o, e⟩ := X.hin a ha; exact ⟨o, hk _ _ e⟩
      · obtain ⟨o, _, _, e, _⟩ := hn; exact ⟨o, ha ▸ e⟩
    L106 := hC'
    opn := fun a ha q => q.elim (X.opn a ha) fun e => by
      obtain ⟨o, e'⟩ := C.opx _ X.md a ha
      rw [e, hC] at e'; cases e'
    cc := fun z hz => by
      have hf : (z, NameKind.free) ∈ scope.names ∨ (z, NameKind.cell) ∈ scope.names := by
        have h2 : ∀ kk, (compEnvC scope (closL env scope.names []) Cc env).kindOf z = some kk → kk = .cell ∨ kk = .free → (z, NameKind.free) ∈ scope.names ∨ (z, NameKind.cell) ∈ scope.names := by
          intro kk h hkk
          have h : (relabel scope env).names.lookup z = some kk := h
          have h := mem_of_lookup h
          unfold relabel at h
          obtain ⟨⟨a, k⟩, hq, e⟩ := List.mem_map.mp h
          dsimp only at e
          split at e
          · rename_i hc
            simp only [Bool.and_eq_true, beq_iff_eq] at hc
            cases e; exact .inl (hc.1.1 ▸ hq)
          · cases e
            rcases hkk with rfl | rfl
            · exact .inr hq
            · exact .inl hq
        rcases hz with q | q
        · exact h2 _ q (.inl rfl)
        · exact h2 _ q (.inr rfl)
      show ((closL env scope.names []).lookup z).isSome = true
      rcases hf with h | h
      · rw [(closL_in env scope.names [] z).1 h]; rfl
      · exact absurd h (fun h => by simpa using List.all_eq_true.mp hcl _ h)
    loc := ⟨m₃, hn, fun z d hz ho hkz => by
      rw [List.lookup_append, hbl] at hz
      cases hzx : bs.lookup z with
      | some y =>
        rw [hzx] at hz
        cases hz
        exact hm z y hzx
      | none =>
        rw [hzx] at hz
        replace hz : (frρ scope ρ).lookup z = some d := hz
        obtain ⟨a1, a2⟩ := frρ_lookup scope ρ z d hz
        obtain ⟨_, b2, b3⟩ := hfree z a1
        rcases hlk z b3 b2 with q | q <;> (rw [hkz] at q; cases q)⟩
    cel := fun z d hz ho hkz => by
      rw [List.lookup_append, hbl] at hz
      cases hzx : bs.lookup z with
      | some y =>
        have : (compEnvC scope (closL env scope.names []) Cc env).kindOf z = some .local := lookup_relabel_local (hx z y hzx)
        rw [this] at hkz
        rcases hkz with q | q <;> cases q
      | none =>
        rw [hzx] at hz
        replace hz : (frρ scope ρ).lookup z = some d := hz
        obtain ⟨a1, a2⟩ := frρ_lookup scope ρ z d hz
        obtain ⟨b1, b2, b3⟩ := hfree z a1
        obtain ⟨c, u, c1, c2, c3, c4⟩ := X.cel z d a2 ho b3
        refine ⟨c, u, ?_, c2, c3.keeps hk, c4.mono vis⟩
        show (closL env scope.names []).lookup z = some c
        rw [(closL_in env scope.names [] z).1 b1, c1]; rfl }


section
variable {prog : Program} {w : World} {A : Around} {E : Value → Shared → Prop} {s : Shared}
theorem comp_loopK {elt target iter : Expr} {ifs : List Expr} {scope : Scope} {pos : Pos} {it acc : Value} {env : Env} {R : Result → Shared → Prop} (I : Nat → Shared → Prop)
    (turn : ∀ n s, I n s → wpAny (model prog w) A (pyNext it) (fun r s₁ => match r with
      | none => R (.ok .next) s₁
      | some v => wpAny (model prog w) A (letOwnedTupleGo target it v) (fun _ s₀ => wpAny (model prog w) A (assign target env v) (fun _ s₂ =>
          wpAny (model prog w) A (forIn ifs true fun c r => if r = true then do let ok ← isTrue c env (eval c env); pure (ForInStep.yield ok) else pure (ForInStep.yield r)) (fun ok s₃ =>
            if ok = true then wpAny (model prog w) A (eval elt env) (fun x s₄ =>
              wpAny (model prog w) A (call (.builtin "list.append") [acc, x]) (fun _ s₅ => ∃ m, m < n ∧ I m s₅) (notedBy (model prog w) A env fun e s' => R (.error e) s') s₄) (notedBy (model prog w) A env fun e s' => R (.error e) s') s₃
            else ∃ m, m < n ∧ I m s₃) (notedBy (model prog w) A env fun e s' => R (.error e) s') s₂)
          (notedBy (model prog w) A env fun e s' => R (.error e) s') s₀) (notedBy (model prog w) A env fun e s' => R (.error e) s') s₁) (notedBy (model prog w) A env fun e s' => R (.error e) s') s)
    (n : Nat) (h : I n s) : codeAny (model prog w) A (.compLoop (.ListComp elt [⟨target, iter, ifs, 0⟩] scope pos) 0 it acc env) R s := by
  refine codeAny_loop rfl I (fun n s hI => ?_) n h
  show wpAny _ A ((compTurn (.ListComp elt [⟨target, iter, ifs, 0⟩] scope pos) 0 it acc env).onRaise (fun x => do noteFrame x env; theTreesLotGoes x)) _ _ s
  refine wpAny_noted ?_
  rw [compTurn_list]
  refine wpAny_bind (wpAny_standAt (wpAny_bind (wpAny_mono (turn n s hI) (fun r s₁ h₁ => ?_) fun _ _ h' => h')))
  cases r with
  | none => exact wpAny_pure h₁
  | some v =>
    refine wpAny_bind (wpAny_mono h₁ (fun _ s₀ h₀' => ?_) fun _ _ h' => h')
    refine wpAny_bind (wpAny_mono h₀' (fun _ s₂ h₂ => wpAny_bind (wpAny_mono h₂ (fun ok s₃ h₃ => ?_) fun _ _ h' => h')) fun _ _ h' => h')
    cases ok with
    | false => exact wpAny_pure ⟨rfl, h₃⟩
    | true => exact wpAny_bind (wpAny_bind (wpAny_mono h₃ (fun x s₄ h₄ => wpAny_bind (wpAny_mono h₄ (fun _ s₅ h₅ => wpAny_pure (wpAny_pure ⟨rfl, h₅⟩)) fun _ _ h' => h')) fun _ _ h' => h'))
end

section
variable {C : Ctx} {b : Bool} {n : Nat} {sc : Scope} {ρ : List (Str × D)}

theorem take_filter {α : Type} (p : α → Bool) (l : List α) (i : Nat) (v : α) (h : l[i]? = some v) : (l.take (i + 1)).filter p = (l.take i).filter p ++ (if p v then [v] else []) := by
  rw [List.take_add_one, h, List.filter_append]
  cases hp : p v <;> simp [hp]

theorem comp_blockK {A : Around} {env : Env} {hid : Addr → Prop} {s s₂ : Shared} {E : Value → Shared → Prop} {elt iter : Expr} {ifs : List Expr} {x y : Str} {px py tp pos : Pos} {kk : Nat} {scope : Scope} {I : Addr} {fp wr : List Addr} {items : List (Sc × Sc)} {Md : Nat → Value → Heap → Prop} {St : Nat → Heap → Prop}
    {p : Sc × Sc → Bool} {f : Sc × Sc → D} {F : Sc × Sc → Value → Prop} {RR : Value → Addr → Result → Shared → Prop}
    (hs : env.scope = sc) (hA : Calm n A) (X : EnvE C hid env ρ s) (hk : Keeps s s₂) (ht : s.toks ≤ s₂.toks) (W : KTurns prog C.w A (.Tuple [.Name x px, .Name y py] kk tp) I fp wr items.length (fun i v h => ∃ xs, (items.map fun p => [p.1, p.2])[i]? = some xs ∧ ItemIs h v xs) Md St)
    (hst : St 0 s₂.heap) (hwr : ∀ a ∈ wr, s.heap.get? a = none) (hfp : ∀ a ∈ fp, a < s₂.heap.objs.size) (hP : P0 < s₂.heap.objs.size) (hself : ∀ (s : Shared) (Q : Value → Shared → Prop) (E : Value → Shared → Prop), St 0 s.heap → Q (.ref I) s → wpAny (model prog C.w) A (pyIter (.ref I)) Q E s)
    (htest : ∀ q ∈ items, TrIfs C n (relab scope sc) ((y, .sc q.2) :: (x, .sc q.1) :: frρ scope ρ) ifs (p q)) (helt : ∀ q ∈ items, p q = true → Ev C true n (relab scope sc) ((y, .sc q.2) :: (x, .sc q.1) :: frρ scope ρ) elt (f q))
    (hF : ∀ q u, Rep C.key (fun _ _ => True) u (f q) → F q u) (hz : items.length ≤ 10000)
    (hkind : scope.kind = .function) (hx : scope.names.lookup x = some .local) (hy : scope.names.lookup y = some .local) (hxy : x ≠ y)
    (hfr : scope.names.all (fun p => p.2 != .free || sc.names.lookup p.1 == some .cell || sc.names.lookup p.1 == some .free) = true) (hnd : scope.names.all (fun p => scope.names.lookup p.1 == some p.2) = true) (hcl : scope.names.all (fun p => p.2 != .cell) = true)
    (hRR : ∀ D Cc h' tk m' us, s₂.heap.get? D = none → s₂.heap.get? Cc = none → D ≠ Cc → h'.Ns Cc m' → PlainL h' D (List.toArray us) → Paired F (items.filter p) us → (∀ b o, b ∉ wr → s₂.heap.get? b = some o → h'.get? b = some o) → RR (.ref D) Cc (.ok .next) { s₂ with heap := h', toks := tk }) :
    wpAny (model prog C.w) A (newList []) (fun acc s₃ => wpAny (model prog C.w) A (newFunctionEnv scope env.globals (closL env scope.names []) [] env.qual none .none (some env)) (fun cenv s₄ =>
      codeAny (model prog C.w) A (.compStart (.ListComp elt [⟨.Tuple [.Name x px, .Name y py] kk tp, iter, ifs, 0⟩] scope pos) 0 (.ref I) acc { cenv with scope := relabel scope env }) (RR acc cenv.locals) s₄) E s₃) E s₂ := by
  subst hs
  have hcell : ∀ z ∈ scope.names, z.2 ≠ .cell := fun z hz => by simpa using List.all_eq_true.mp hcl z hz
  refine wpAny_newObj_type (wpAny_newFunctionEnv hcell (by intro y hy; simp at hy) (fun h₁ hns₁ hsb₁ => ?_) hkind)
  dsimp only at hns₁ hsb₁ ⊢
  generalize hH2 : s₂.heap.push { cls := .type "list", dict := none, data := .seq ([] : List Value).toArray } = H2 at hns₁ hsb₁ ⊢
  have hC : H2.objs.size = s₂.heap.objs.size + 1 := by rw [← hH2, Heap.size_push]
  have hDC : s₂.heap.objs.size ≠ H2.objs.size := by rw [hC]; exact Nat.ne_of_lt (Nat.lt_succ_self _)
  have below : ∀ b, b < s₂.heap.objs.size → b ≠ H2.objs.size ∧ b ≠ s₂.heap.objs.size := fun b hb => ⟨by rw [hC]; exact Nat.ne_of_lt (Nat.lt_succ_of_lt hb), Nat.ne_of_lt hb⟩
  have old : ∀ b o, s₂.heap.get? b = some o → h₁.get? b = some o := fun b o e => hsb₁.extBut b o (below b (Heap.lt_size e)).1 (Heap.get?_push_of_some _ (hH2 ▸ Heap.get?_push_of_some _ e))
  have hacc : PlainL h₁ s₂.heap.objs.size ([] : List Value).toArray := ⟨_, _, hsb₁.extBut _ _ hDC (Heap.get?_push_of_some _ (hH2 ▸ Heap.get?_push_size _ rfl)), rfl, rfl, rfl⟩
  have hst₁ : St 0 h₁ := W.frame _ _ _ hst fun b _ o e => old b o e
  have fresh : ∀ a, s₂.heap.objs.size ≤ a → s₂.heap.get? a = none := fun a ha => by
    cases e : s₂.heap.get? a with
    | none => rfl
    | some o' => exact absurd (Heap.lt_size e) (Nat.not_lt.mpr ha)
  have freshS : ∀ a, s₂.heap.objs.size ≤ a → s.heap.get? a = none := fun a ha => by
    cases e : s.heap.get? a with
    | none => rfl
    | some o' => have := keeps_heap hk a o' e; rw [fresh a ha] at this; cases this
  generalize hCc : H2.objs.size = Cc at hns₁ hsb₁ hDC below hC ⊢
  generalize hDd : s₂.heap.objs.size = Dd at *
  have hCf : Cc ∉ fp := fun hm => absurd (hfp _ hm) (Nat.not_lt.mpr (by rw [hC]; exact Nat.le_succ _))
  have hDf : Dd ∉ fp := fun hm => absurd (hfp _ hm) (Nat.lt_irrefl _)
  have hCs : s.heap.get? Cc = none := freshS _ (by omega)
  have hCP : Cc ≠ P0 := Nat.ne_of_gt (by rw [hC]; exact Nat.lt_succ_of_lt hP)
  have loop : codeAny (model prog C.w) A (.compLoop (.ListComp elt [⟨.Tuple [.Name x px, .Name y py] kk tp, iter, ifs, 0⟩] scope pos) 0 (.ref I) (.ref Dd) (compEnvC scope (closL env scope.names []) Cc env)) (RR (.ref Dd) Cc) { s₂ with heap := h₁, toks := s₂.toks + ([] : List (Str × Value)).length } := by
    refine comp_loopK (fun k s' => ∃ i h' tk m' us, s' = { s₂ with heap := h', toks := tk } ∧ i ≤ items.length ∧ k = items.length + 1 - i ∧ St i h' ∧ h'.Ns Cc m' ∧ PlainL h' Dd (List.toArray us) ∧ Paired F ((items.take i).filter p) us ∧ us.length ≤ i ∧ s₂.toks ≤ tk ∧
      (∀ b o, b ∉ wr → s₂.heap.get? b = some o → h'.get? b = some o)) ?_ (items.length + 1) ⟨0, h₁, s₂.toks, _, [], rfl, Nat.zero_le _, rfl, hst₁, hns₁, hacc, by simpa using Paired.nil, Nat.le_refl _, Nat.le_refl _, fun b o _ e => old b o e⟩
    rintro k s' ⟨i, h', tk, m', us, rfl, hi, rfl, hst', hn', hD', hpair, hul, htk, hkp⟩
    by_cases hlt : i < items.length
    · refine wpAny_mono (wpAny_toks (W.item i { s₂ with heap := h', toks := tk } (fun r s₄ => ∃ v h₂ tk₂, r = some v ∧ s₄ = { s₂ with heap := h₂, toks := tk₂ } ∧ Md i v h₂ ∧ (∀ b o, b ∉ wr → h'.get? b = some o → h₂.get? b = some o)) _ hlt hst' fun v h₂ tk₂ hm hk₂ => ⟨v, h₂, tk₂, rfl, rfl, hm, hk₂⟩)) ?_ fun _ _ e => e.2
      rintro r s₄ ⟨htk₂, v, h₂, tk₂, rfl, rfl, hm, hk₂⟩
      replace htk₂ : tk ≤ tk₂ := htk₂
      refine W.go i v _ _ _ hm fun h₃ hPv hst₃ hk₃ => ?_
      obtain ⟨xs, hxs, hit⟩ := hPv
      rw [List.getElem?_map, List.getElem?_eq_getElem hlt] at hxs
      cases hxs
      obtain ⟨T, va, vb, rfl, hT, ra, rb⟩ := hit
      have hCw : Cc ∉ wr := fun h => hCf (W.sub _ h)
      have hDw : Dd ∉ wr := fun h => hDf (W.sub _ h)
      have hn₃ : h₃.Ns Cc m' := hn'.at fun o e => hk₃ _ o hCw (hk₂ _ o hCw e)
      have hD₃ : PlainL h₃ Dd (List.toArray us) := let ⟨o, q, e, r⟩ := hD'; ⟨o, q, hk₃ _ o hDw (hk₂ _ o hDw e), r⟩
      refine wpAny_mono (wpAny_toks (kcp_assign (env := compEnvC scope (closL env scope.names []) Cc env) (m := m') hA.1 hT (lookup_relabel_local hx) (lookup_relabel_local hy) (by show (scope.kind == .class || (scope.kind == .module && _)) = false; rw [hkind]; rfl) hn₃
        (Q := fun _ s₅ => ∃ h₄ tk₄, s₅ = { s₂ with heap := h₄, toks := tk₄ } ∧ h₄.Ns Cc (fun z => if z = y then some vb else if z = x then some va else m' z) ∧ (∀ c o, c ≠ Cc → h₃.get? c = some o → h₄.get? c = some o)) fun h₄ tk₄ hn₄ hk₄ => ⟨h₄, tk₄, rfl, hn₄, hk₄⟩)) ?_ fun _ _ e => e.2
      rintro _ s₅ ⟨htk₄, h₄, tk₄, rfl, hn₄, hk₄⟩
      replace htk₄ : tk₂ ≤ tk₄ := htk₄
      have hDC' : Dd ≠ Cc := hDC
      have hst₄ : St (i + 1) h₄ := W.frame _ _ _ hst₃ fun b hb o e => hk₄ b o (fun q => hCf (q ▸ hb)) e
      have hD₄ : PlainL h₄ Dd (List.toArray us) := let ⟨o, q, e, r⟩ := hD₃; ⟨o, q, hk₄ _ o hDC' e, r⟩
      have hkp₄ : ∀ b o, b ∉ wr → s₂.heap.get? b = some o → h₄.get? b = some o := fun b o nb e => hk₄ b o (fun q => by rw [q, fresh Cc (by omega)] at e; cases e) (hk₃ b o nb (hk₂ b o nb (hkp b o nb e)))
      have hks : ∀ b o, s.heap.get? b = some o → h₄.get? b = some o := fun b o e => hkp₄ b o (fun q => by rw [hwr b q] at e; cases e) (keeps_heap hk b o e)
      have Xc := X.compB (s₃ := { s₂ with heap := h₄, toks := tk₄ }) (scope := scope) (Cc := Cc) (bs := [(y, items[i].2), (x, items[i].1)]) hCs hCP hks (by show s.toks ≤ tk₄; omega) hn₄ (fun z q h => by
        rw [List.lookup_cons, List.lookup_cons] at h
        cases hzy : z == y with
        | true => rw [hzy] at h; cases h; exact ⟨vb, by simp [beq_iff_eq.mp hzy], rb⟩
        | false =>
          rw [hzy] at h
          cases hzx : z == x with
          | true => rw [hzx] at h; cases h; exact ⟨va, by simp [beq_iff_eq.mp hzx, hxy], ra⟩
          | false => rw [hzx] at h; cases h) hkind (fun z q h => by
        rw [List.lookup_cons, List.lookup_cons] at h
        cases hzy : z == y with
        | true => rw [beq_iff_eq.mp hzy]; exact hy
        | false =>
          rw [hzy] at h
          cases hzx : z == x with
          | true => rw [beq_iff_eq.mp hzx]; exact hx
          | false => rw [hzx] at h; cases h) hfr hnd hcl
      have hmem := List.getElem_mem hlt
      refine wpAny_mono (wpAny_toks ((htest _ hmem).all A _ _ { s₂ with heap := h₄, toks := tk₄ } _ rfl hA Xc)) ?_ fun _ _ e => e.2
      rintro ok s₆ ⟨htk₆, rfl, k₆⟩
      have Xc₆ := Xc.kp (KR.of_keeps (b := true) k₆).heap htk₆
      obtain ⟨h₆, tk₆, rfl, hk₆⟩ := k₆
      replace hk₆ : ∀ b o, h₄.get? b = some o → h₆.get? b = some o := hk₆
      replace htk₆ : tk₄ ≤ tk₆ := htk₆
      have htake := take_filter p items i items[i] (List.getElem?_eq_getElem hlt)
      cases hp : p items[i] with
      | false =>
        rw [if_neg (by simp)]
        rw [hp] at htake
        refine ⟨items.length + 1 - (i + 1), by omega, i + 1, h₆, tk₆, _, us, rfl, hlt, rfl, W.frame _ _ _ hst₄ fun b _ o e => hk₆ b o e, hn₄.keeps hk₆, (let ⟨o, q, e, r⟩ := hD₄; ⟨o, q, hk₆ _ o e, r⟩), ?_, by omega, by omega, fun b o nb e => hk₆ b o (hkp₄ b o nb e)⟩
        rw [htake]; simpa using hpair
      | true =>
        rw [if_pos rfl]
        rw [hp] at htake
        refine wpAny_mono (wpAny_toks ((helt _ hmem hp).all A _ _ { s₂ with heap := h₆, toks := tk₆ } _ rfl hA Xc₆)) ?_ fun _ _ e => e.2
        rintro u s₇ ⟨htk₇, k₇, ru⟩
        have k₇ : Keeps _ s₇ := k₇
        obtain ⟨h₇, tk₇, rfl, hk₇⟩ := k₇
        replace hk₇ : ∀ b o, h₆.get? b = some o → h₇.get? b = some o := hk₇
        replace htk₇ : tk₆ ≤ tk₇ := htk₇
        have hD₇ : PlainL h₇ Dd (List.toArray us) := let ⟨o, q, e, r⟩ := hD₄; ⟨o, q, hk₇ _ o (hk₆ _ o e), r⟩
        refine list_append_plainL hD₇ (fun h₈ hD₈ hsb₈ => ?_) (by rw [sizeLine_eq, List.size_toArray]; omega)
        have hn₇ := (hn₄.keeps hk₆).keeps hk₇
        refine ⟨items.length + 1 - (i + 1), by omega, i + 1, h₈, tk₇, _, us ++ [u], rfl, hlt, rfl, W.frame _ _ _ hst₄ fun b hb o e => hsb₈.extBut b o (fun q => hDf (q ▸ hb)) (hk₇ b o (hk₆ b o e)), hn₇.sameBut hsb₈ hDC'.symm, by simpa using hD₈, ?_, by simp; omega, by omega, fun b o nb e => hsb₈.extBut b o (fun q => by rw [q, fresh Dd (by omega)] at e; cases e) (hk₇ b o (hk₆ b o (hkp₄ b o nb e)))⟩
        rw [htake]
        exact hpair.snoc (hF _ u (ru.mono fun _ _ _ => trivial))
    · have hN : i = items.length := by omega
      subst hN
      refine W.done _ _ _ hst' fun h₂ tk₂ hk₂ => ?_
      have hCw : Cc ∉ wr := fun h => hCf (W.sub _ h)
      have hDw : Dd ∉ wr := fun h => hDf (W.sub _ h)
      refine hRR Dd Cc h₂ tk₂ m' us (fresh _ (by omega)) (fresh _ (by omega)) hDC (hn'.at fun o e => hk₂ _ o hCw e) (let ⟨o, q, e, r⟩ := hD'; ⟨o, q, hk₂ _ o hDw e, r⟩) ?_ fun b o nb e => hk₂ b o nb (hkp b o nb e)
      simpa using hpair
  exact codeAny_compStart_list loop (hself _ _ _ hst₁ loop)
end
end Mine
end
section
open PySem PySem.W PyProof.Rows PySem.Calls
namespace Mine
section
variable {g : Bool} {C : Ctx} {b : Bool} {n : Nat} {sc : Scope} {ρ : List (Str × D)}
def itemsT (xs : List (Sc × Sc)) : List (List Sc) := xs.map fun p => [p.1, p.2]

theorem hclos_of {scope : Scope} {env : Env} {hid : Addr → Prop} {s : Shared} (X : EnvE C hid env ρ s) (hfr : scope.names.all (fun p => p.2 != .free || env.scope.names.lookup p.1 == some .cell || env.scope.names.lookup p.1 == some .free) = true) :
    closureFor scope env = pure (closL env scope.names []) := closureFor_eq fun z hz hf => by
  have h1 := List.all_eq_true.mp hfr z hz
  rw [hf] at h1
  refine X.cc z.1 ?_
  simpa [Env.kindOf] using h1
theorem hnames_of {scope : Scope} (hnd : scope.names.all (fun p => scope.names.lookup p.1 == some p.2) = true) : ∀ y ∈ scope.names, y.2 = .local → scope.names.lookup y.1 = some .local := fun z hz hl => by have := beq_iff_eq.mp (List.all_eq_true.mp hnd z hz); rw [this, hl]

theorem intsOf {f : Sc × Sc → Int} : ∀ {qs : List (Sc × Sc)} {us : List Value}, Paired (fun q u => ∃ t, u = Value.int (f q) t) qs us → IntsAre us (qs.map f)
  | _, _, .nil => .nil
  | _, _, .cons ⟨t, e⟩ r => by rw [e]; exact .cons _ t (intsOf r)
theorem strsOf {f : Sc × Sc → Str} : ∀ {qs : List (Sc × Sc)} {us : List Value}, Paired (fun q u => ∃ t, u = Value.str (f q) t) qs us → StrsAre us (qs.map f)
  | _, _, .nil => .nil
  | _, _, .cons ⟨t, e⟩ r => by rw [e]; exact .cons _ t (strsOf r)

theorem Ev.compT {elt iter : Expr} {ifs : List Expr} {x y : Str} {px py tp pos : Pos} {kk : Nat} {scope : Scope} {items : List (Sc × Sc)} {p : Sc × Sc → Bool} {f : Sc × Sc → D} {d : D} {F : Sc × Sc → Value → Prop} (hit : IterK C true n sc ρ (.Tuple [.Name x px, .Name y py] kk tp) iter (itemsT items))
    (htest : ∀ q ∈ items, TrIfs C n (relab scope sc) ((y, .sc q.2) :: (x, .sc q.1) :: frρ scope ρ) ifs (p q)) (helt : ∀ q ∈ items, p q = true → Ev C true n (relab scope sc) ((y, .sc q.2) :: (x, .sc q.1) :: frρ scope ρ) elt (f q))
    (hF : ∀ q u, Rep C.key (fun _ _ => True) u (f q) → F q u)
    (hd : ∀ (hid : Addr → Prop) (h : Heap) (l : Addr) (us : List Value), h.IsList l (List.toArray us) → ¬ hid l → Paired F (items.filter p) us → Rep C.key (Vis hid h) (.ref l) d)
    (hz : items.length ≤ 10000) (hkind : scope.kind = .function := by rfl) (hx : scope.names.lookup x = some .local := by rfl) (hy : scope.names.lookup y = some .local := by rfl) (hxy : x ≠ y := by decide)
    (hfr : scope.names.all (fun p => p.2 != .free || sc.names.lookup p.1 == some .cell || sc.names.lookup p.1 == some .free) = true := by rfl) (hnd : scope.names.all (fun p => scope.names.lookup p.1 == some p.2) = true := by rfl)
    (hcl : scope.names.all (fun p => p.2 != .cell) = true := by rfl) (hfo : ∀ env x, foldedSetIterable iter env x = pure x := by intro _ _; rfl) :
    Ev C true n sc ρ (.ListComp elt [⟨.Tuple [.Name x px, .Name y py] kk tp, iter, ifs, 0⟩] scope pos) d := by
  refine .mk ?_
  rintro A env hid s E rfl hA X
  rw [eval_ListComp]
  refine wpAny_comprehension_free (use := none) rfl (hfo env) (hclos_of X hfr) hkind (hnames_of hnd) (hit.all A env hid s E _ rfl hA X fun I s₂ fp wr Md St' k t X2 W hst hfp hwr hex hself => ?_)
  have hlen : (itemsT items).length = items.length := List.length_map ..
  rw [hlen] at W
  have hP : P0 < s₂.heap.objs.size := Nat.lt_of_lt_of_le C.plo (C.big _ X2.md)
  refine comp_blockK (RR := fun acc Cc => compPost (model prog C.w) A E none (fun v s' => KR true s s' ∧ Rep C.key (Vis hid s'.heap) v d) acc Cc) rfl hA X k t W hst (fun a ha => (hwr a ha).1) (fun a ha => (hfp a ha).1) hP hself htest helt hF hz hkind hx hy hxy hfr hnd hcl ?_
  intro D Cc h' tk m' us hD hC hDC hn hl hpair hk
  refine ⟨m', hn, fun h'' hs'' => ?_⟩
  have hk' : ∀ b o, s.heap.get? b = some o → h''.get? b = some o := fun b o e => hs''.extBut b o (fun q => by
    have := keeps_heap k b o e; rw [q, hC] at this; cases this) (hk b o (fun q => by rw [(hwr b q).1] at e; cases e) (keeps_heap k b o e))
  obtain ⟨h2, t2, rfl, _⟩ := id k
  exact ⟨⟨h'', tk, rfl, hk'⟩, hd hid h'' D us (hl.extBut hs''.extBut hDC).isList (X2.fresh hD) hpair⟩
theorem Ev.compTStrs {elt iter : Expr} {ifs : List Expr} {x y : Str} {px py tp pos : Pos} {kk : Nat} {scope : Scope} {items : List (Sc × Sc)} {p : Sc × Sc → Bool} {f : Sc × Sc → Str} (hit : IterK C true n sc ρ (.Tuple [.Name x px, .Name y py] kk tp) iter (itemsT items))
    (htest : ∀ q ∈ items, TrIfs C n (relab scope sc) ((y, .sc q.2) :: (x, .sc q.1) :: frρ scope ρ) ifs (p q)) (helt : ∀ q ∈ items, p q = true → Ev C true n (relab scope sc) ((y, .sc q.2) :: (x, .sc q.1) :: frρ scope ρ) elt (.str (f q)))
    (hz : items.length ≤ 10000) (hkind : scope.kind = .function := by rfl) (hx : scope.names.lookup x = some .local := by rfl) (hy : scope.names.lookup y = some .local := by rfl) (hxy : x ≠ y := by decide)
    (hfr : scope.names.all (fun p => p.2 != .free || sc.names.lookup p.1 == some .cell || sc.names.lookup p.1 == some .free) = true := by rfl) (hnd : scope.names.all (fun p => scope.names.lookup p.1 == some p.2) = true := by rfl)
    (hcl : scope.names.all (fun p => p.2 != .cell) = true := by rfl) (hfo : ∀ env x, foldedSetIterable iter env x = pure x := by intro _ _; rfl) :
    Ev C true n sc ρ (.ListComp elt [⟨.Tuple [.Name x px, .Name y py] kk tp, iter, ifs, 0⟩] scope pos) (.strs ((items.filter p).map f)) :=
  Ev.compT (f := fun q => .str (f q)) (F := fun q u => ∃ t, u = Value.str (f q) t) hit htest helt (fun q u hu => is_str hu) (fun hid h l us hl hn hp => strs_rep hl (strsOf hp) hn) hz hkind hx hy hxy hfr hnd hcl hfo

theorem swaps_eq (elt : Expr) (gens : List Comprehension) (scope : Scope) (pos : Pos) (y : Str) (py : Pos) (l : Nat) (env : Env) : swapsWith (.ListComp elt gens scope pos) (some (.Name y py)) l env = pure (env.blockKind == .function && env.kindOf y == some .local && py.line == pos.line && !(scope.names.any fun (n, k) => n == y && (k == .local || k == .cell))) := rfl
theorem swaps_true {elt : Expr} {gens : List Comprehension} {scope : Scope} {pos : Pos} {y : Str} {py : Pos} {l : Nat} {env : Env} {s : Shared} {hid : Addr → Prop} (X : EnvE C hid env ρ s) (hy : env.scope.names.lookup y = some .local)
    (h : (py.line == pos.line && !(scope.names.any fun (n, k) => n == y && (k == .local || k == .cell))) = true) : swapsWith (.ListComp elt gens scope pos) (some (.Name y py)) l env = pure true := by
  rw [swaps_eq]
  have h1 : env.blockKind = .function := by unfold Env.blockKind; rw [X.kind]; rfl
  have h2 : env.kindOf y = some .local := hy
  rw [h1, h2, Bool.and_assoc, h]
  rfl

/-- a local is bound to what a comprehension gives -/
theorem Sm.comp {elt iter : Expr} {ifs : List Expr} {x z : Str} {px pz pos spos : Pos} {scope : Scope} {xs : List Sc} {p : Sc → Bool} {f : Sc → D} {d : D} {F : Value → Value → Prop} (hit : Iter C true n sc ρ iter xs)
    (htest : ∀ y ∈ xs, TrIfs C n (relab scope sc) ((x, .sc y) :: frρ scope ρ) ifs (p y)) (helt : ∀ y ∈ xs, p y = true → Ev C true n (relab scope sc) ((x, .sc y) :: frρ scope ρ) elt (f y))
    (hF : ∀ v y u, Sc.Is v y → Rep C.key (fun _ _ => True) u (f y) → F v u)
    (hd : ∀ (hid : Addr → Prop) (h : Heap) (l : Addr) (ys : Array Value) (us : List Value), h.IsList l ys → ¬ hid l → Paired Sc.Is us (xs.filter p) → Paired F us ys.toList → Rep C.key (Vis hid h) (.ref l) d) (hdo : d.isOwn = false)
    (hz : xs.length ≤ 10000) (hzl : sc.names.lookup z = some .local := by rfl) (hsw : (pz.line == pos.line && !(scope.names.any fun (n, k) => n == z && (k == .local || k == .cell))) = true := by rfl) (hkind : scope.kind = .function := by rfl) (hx : scope.names.lookup x = some .local := by rfl)
    (hfr : scope.names.all (fun p => p.2 != .free || sc.names.lookup p.1 == some .cell || sc.names.lookup p.1 == some .free) = true := by rfl) (hnd : scope.names.all (fun p => scope.names.lookup p.1 == some p.2) = true := by rfl)
    (hcl : scope.names.all (fun p => p.2 != .cell) = true := by rfl) (hfo : ∀ env x, foldedSetIterable iter env x = pure x := by intro _ _; rfl) :
    Sm g b C n sc ρ (.Assign [.Name z pz] (.ListComp elt [⟨.Name x px, iter, ifs, 0⟩] scope pos) spos) (.next ((z, d) :: ρ)) := by
  refine .mk ?_
  rintro A env hid₀ W lo s E rfl hA X
  obtain ⟨m, hm, _⟩ := X.e.loc
  refine wpAny_mono (wpAny_toks (Q := fun fl s' => ∃ h' tk v, fl = .next ∧ s' = { s with heap := h', toks := tk } ∧ h'.Ns env.locals (fun y => if y = z then some v else m y) ∧ (∀ b o, b ≠ env.locals → s.heap.get? b = some o → h'.get? b = some o) ∧ Rep C.key (Vis (fun a => hid₀ a ∨ W a) h') v d) ?_) ?_ fun _ _ e => e.2
  · refine wpAny_Assign_ListComp_free (pv p) F (swaps_true X.e hzl hsw) (hclos_of X.e hfr) (fun z hz => by simpa using List.all_eq_true.mp hcl z hz) hkind (hnames_of hnd) hx hzl (by rw [X.e.kind]; rfl)
      (hit.all A env _ s E _ rfl hA X.e fun I s₂ fp wr St' k t X2 W' hst hfp hwr => ?_) (hfo env)
    have hm₂ : s₂.heap.Ns env.locals m := hm.keeps (keeps_heap k)
    have hLw : env.locals ∉ wr := fun h => by
      obtain ⟨o, _, _, e, _⟩ := hm
      rw [hwr _ h] at e; cases e
    refine ⟨I, fp, wr, xs.length, _, St', m, rfl, W', by rw [sizeLine_eq]; omega, hst, fun b hb => (hfp b hb).1, hLw, hm₂, quiet_of rfl hA X.e k t hwr (Nat.lt_of_lt_of_le C.plo (C.big _ X2.md)) htest helt hF hkind hx hfr hnd hcl, ?_⟩
    intro D h' tk ys vs hD hl hpl hlen hP hpair hn hk
    obtain ⟨h2, t2, rfl, _⟩ := id k
    exact ⟨h', tk, .ref D, rfl, rfl, hn, fun b o nb e => hk b o nb (fun q => by rw [hwr b q] at e; cases e) (keeps_heap k b o e), hd _ h' D ys _ hl (X2.fresh hD) (paired_filter (paired_of hlen hP)) hpair⟩
  · rintro fl s' ⟨ht, h', tk, v, rfl, rfl, hn, hk, hr⟩
    exact ⟨kpw_one X.wl hk X.e.L106 (ns_nofields hm), rfl, W, fun _ e => e, fun _ e => .inl e, X.setLocalG hm hn hk hzl hr hdo ht⟩
theorem Sm.compInts {elt iter : Expr} {ifs : List Expr} {x z : Str} {px pz pos spos : Pos} {scope : Scope} {xs : List Sc} {p : Sc → Bool} {f : Sc → Int} (hit : Iter C true n sc ρ iter xs)
    (htest : ∀ y ∈ xs, TrIfs C n (relab scope sc) ((x, .sc y) :: frρ scope ρ) ifs (p y)) (helt : ∀ y ∈ xs, p y = true → Ev C true n (relab scope sc) ((x, .sc y) :: frρ scope ρ) elt (.int (f y)))
    (hz : xs.length ≤ 10000) (hzl : sc.names.lookup z = some .local := by rfl) (hsw : (pz.line == pos.line && !(scope.names.any fun (n, k) => n == z && (k == .local || k == .cell))) = true := by rfl) (hkind : scope.kind = .function := by rfl) (hx : scope.names.lookup x = some .local := by rfl)
    (hfr : scope.names.all (fun p => p.2 != .free || sc.names.lookup p.1 == some .cell || sc.names.lookup p.1 == some .free) = true := by rfl) (hnd : scope.names.all (fun p => scope.names.lookup p.1 == some p.2) = true := by rfl)
    (hcl : scope.names.all (fun p => p.2 != .cell) = true := by rfl) (hfo : ∀ env x, foldedSetIterable iter env x = pure x := by intro _ _; rfl) :
    Sm g b C n sc ρ (.Assign [.Name z pz] (.ListComp elt [⟨.Name x px, iter, ifs, 0⟩] scope pos) spos) (.next ((z, .ints ((xs.filter p).map f)) :: ρ)) :=
  Sm.comp (f := fun y => .int (f y)) (F := fun v u => ∃ s t, Sc.Is v s ∧ u = Value.int (f s) t) hit htest helt (fun v y u hv hu => let ⟨t, e⟩ := is_int hu; ⟨y, t, hv, e⟩)
    (fun hid h l ys us hl hn h1 h2 => ints_rep (vs := ys.toList) hl (ints_of_paired h1 h2) hn) rfl hz hzl hsw hkind hx hfr hnd hcl hfo
theorem Sm.compStrs {elt iter : Expr} {ifs : List Expr} {x z : Str} {px pz pos spos : Pos} {scope : Scope} {xs : List Sc} {p : Sc → Bool} {f : Sc → Str} (hit : Iter C true n sc ρ iter xs)
    (htest : ∀ y ∈ xs, TrIfs C n (relab scope sc) ((x, .sc y) :: frρ scope ρ) ifs (p y)) (helt : ∀ y ∈ xs, p y = true → Ev C true n (relab scope sc) ((x, .sc y) :: frρ scope ρ) elt (.str (f y)))
    (hz : xs.length ≤ 10000) (hzl : sc.names.lookup z = some .local := by rfl) (hsw : (pz.line == pos.line && !(scope.names.any fun (n, k) => n == z && (k == .local || k == .cell))) = true := by rfl) (hkind : scope.kind = .function := by rfl) (hx : scope.names.lookup x = some .local := by rfl)
    (hfr : scope.names.all (fun p => p.2 != .free || sc.names.lookup p.1 == some .cell || sc.names.lookup p.1 == some .free) = true := by rfl) (hnd : scope.names.all (fun p => scope.names.lookup p.1 == some p.2) = true := by rfl)
    (hcl : scope.names.all (fun p => p.2 != .cell) = true := by rfl) (hfo : ∀ env x, foldedSetIterable iter env x = pure x := by intro _ _; rfl) :
    Sm g b C n sc ρ (.Assign [.Name z pz] (.ListComp elt [⟨.Name x px, iter, ifs, 0⟩] scope pos) spos) (.next ((z, .strs ((xs.filter p).map f)) :: ρ)) :=
  Sm.comp (f := fun y => .str (f y)) (F := fun v u => ∃ s t, Sc.Is v s ∧ u = Value.str (f s) t) hit htest helt (fun v y u hv hu => let ⟨t, e⟩ := is_str hu; ⟨y, t, hv, e⟩)
    (fun hid h l ys us hl hn h1 h2 => strs_rep (vs := ys.toList) hl (strs_of_paired h1 h2) hn) rfl hz hzl hsw hkind hx hfr hnd hcl hfo

theorem Sm.compTInts {elt iter : Expr} {ifs : List Expr} {x y z : Str} {px py tp pz pos spos : Pos} {kk : Nat} {scope : Scope} {items : List (Sc × Sc)} {p : Sc × Sc → Bool} {f : Sc × Sc → Int} (hit : IterK C true n sc ρ (.Tuple [.Name x px, .Name y py] kk tp) iter (itemsT items))
    (htest : ∀ q ∈ items, TrIfs C n (relab scope sc) ((y, .sc q.2) :: (x, .sc q.1) :: frρ scope ρ) ifs (p q)) (helt : ∀ q ∈ items, p q = true → Ev C true n (relab scope sc) ((y, .sc q.2) :: (x, .sc q.1) :: frρ scope ρ) elt (.int (f q)))
    (hz : items.length ≤ 10000) (hzl : sc.names.lookup z = some .local := by rfl) (hsw : (pz.line == pos.line && !(scope.names.any fun (n, k) => n == z && (k == .local || k == .cell))) = true := by rfl) (hkind : scope.kind = .function := by rfl) (hx : scope.names.lookup x = some .local := by rfl) (hy : scope.names.lookup y = some .local := by rfl) (hxy : x ≠ y := by decide)
    (hfr : scope.names.all (fun p => p.2 != .free || sc.names.lookup p.1 == some .cell || sc.names.lookup p.1 == some .free) = true := by rfl) (hnd : scope.names.all (fun p => scope.names.lookup p.1 == some p.2) = true := by rfl)
    (hcl : scope.names.all (fun p => p.2 != .cell) = true := by rfl) (hfo : ∀ env x, foldedSetIterable iter env x = pure x := by intro _ _; rfl) :
    Sm g b C n sc ρ (.Assign [.Name z pz] (.ListComp elt [⟨.Tuple [.Name x px, .Name y py] kk tp, iter, ifs, 0⟩] scope pos) spos) (.next ((z, .ints ((items.filter p).map f)) :: ρ)) := by
  refine .mk ?_
  rintro A env hid₀ W lo s E rfl hA X
  obtain ⟨m, hm, _⟩ := X.e.loc
  refine wpAny_mono (wpAny_toks (Q := fun fl s' => ∃ h' tk v, fl = .next ∧ s' = { s with heap := h', toks := tk } ∧ h'.Ns env.locals (fun y => if y = z then some v else m y) ∧ (∀ b o, b ≠ env.locals → s.heap.get? b = some o → h'.get? b = some o) ∧ Rep C.key (Vis (fun a => hid₀ a ∨ W a) h') v (.ints ((items.filter p).map f))) ?_) ?_ fun _ _ e => e.2
  · rw [exec_Assign_Name_used _ _ _ _ (swaps_true X.e hzl hsw)]
    refine wpAny_bind (wpAny_standAt (wpAny_bind ?_))
    show wpAny _ A (do let _ ← comprehension (.ListComp elt [⟨.Tuple [.Name x px, .Name y py] kk tp, iter, ifs, 0⟩] scope pos) scope env _ (newList []) false (eval iter env) (some (PySem.assign (.Name z pz) env))) _ _ s
    refine wpAny_bind (wpAny_mono (wpAny_comprehension_free (use := some (PySem.assign (.Name z pz) env)) (Q := fun _ s' => ∃ h' tk v, s' = { s with heap := h', toks := tk } ∧ h'.Ns env.locals (fun y => if y = z then some v else m y) ∧ (∀ b o, b ≠ env.locals → s.heap.get? b = some o → h'.get? b = some o) ∧ Rep C.key (Vis (fun a => hid₀ a ∨ W a) h') v (.ints ((items.filter p).map f))) rfl (hfo env) (hclos_of X.e hfr) hkind (hnames_of hnd)
      (hit.all A env _ s E _ rfl hA X.e fun I s₂ fp wr Md St' k t X2 W' hst hfp hwr hex hself => ?_)) (fun _ s' hq => wpAny_pure (wpAny_pure (let ⟨a, b, c, d⟩ := hq; ⟨a, b, c, rfl, d⟩))) fun _ _ e => e)
    have hlen : (itemsT items).length = items.length := List.length_map ..
    rw [hlen] at W'
    have hP : P0 < s₂.heap.objs.size := Nat.lt_of_lt_of_le C.plo (C.big _ X2.md)
    refine comp_blockK (F := fun q u => ∃ t, u = Value.int (f q) t) (RR := fun acc Cc => compPost (model prog C.w) A E (some (PySem.assign (.Name z pz) env)) (fun _ s' => ∃ h' tk v, s' = { s with heap := h', toks := tk } ∧ h'.Ns env.locals (fun y => if y = z then some v else m y) ∧ (∀ b o, b ≠ env.locals → s.heap.get? b = some o → h'.get? b = some o) ∧ Rep C.key (Vis (fun a => hid₀ a ∨ W a) h') v (.ints ((items.filter p).map f))) acc Cc)
      rfl hA X.e k t W' hst (fun a ha => (hwr a ha).1) (fun a ha => (hfp a ha).1) hP hself htest helt (fun q u hu => is_int hu) hz hkind hx hy hxy hfr hnd hcl ?_
    intro D Cc h' tk m' us hD hC hDC hn hl hpair hk
    have hks : ∀ b o, s.heap.get? b = some o → h'.get? b = some o := fun b o e => hk b o (fun q => by rw [(hwr b q).1] at e; cases e) (keeps_heap k b o e)
    have hLC : env.locals ≠ Cc := fun q => by
      obtain ⟨o, _, _, e, _⟩ := hm
      have := keeps_heap k _ _ e; rw [q, hC] at this; cases this
    have hLD : env.locals ≠ D := fun q => by
      obtain ⟨o, _, _, e, _⟩ := hm
      have := keeps_heap k _ _ e; rw [q, hD] at this; cases this
    have hn' : h'.Ns env.locals m := hm.keeps hks
    show wpAny _ A (PySem.assign (.Name z pz) env (.ref D)) _ _ _
    refine wpAny_assign_Name (wpAny_storeName_local hzl hn' (fun h₂ hn₂ hs₂ => ?_) (by rw [X.e.kind]; rfl))
    refine ⟨m', hn.sameBut hs₂ hLC.symm, fun h₃ hs₃ => ?_⟩
    obtain ⟨h2, t2, rfl, _⟩ := id k
    refine ⟨h₃, _, .ref D, rfl, hn₂.sameBut hs₃ hLC, fun b o nb e => hs₃.extBut b o (fun q => by have := keeps_heap k b o e; rw [q, hC] at this; cases this) (hs₂.extBut b o nb (hks b o e)), ?_⟩
    exact ints_rep ((hl.extBut hs₂.extBut hLD.symm).extBut hs₃.extBut hDC).isList (intsOf hpair) (X2.fresh hD)
  · rintro fl s' ⟨ht, h', tk, v, rfl, rfl, hn, hk, hr⟩
    exact ⟨kpw_one X.wl hk X.e.L106 (ns_nofields hm), rfl, W, fun _ e => e, fun _ e => .inl e, X.setLocalG hm hn hk hzl hr rfl ht⟩
end
end Mine
end
section
open PySem PySem.W PyProof.Rows PySem.Calls
namespace Mine
structure ZA (z TI TO i1 i2 l1 : Addr) : Prop where
  TIz : TI ≠ z
  TOz : TO ≠ z
  i1z : i1 ≠ z
  i2z : i2 ≠ z
  TITO : TI ≠ TO
  TIi1 : TI ≠ i1
  TIi2 : TI ≠ i2
  TOi1 : TO ≠ i1
  TOi2 : TO ≠ i2
  i12 : i1 ≠ i2
  l1z : l1 ≠ z
  l1TO : l1 ≠ TO
  l1i1 : l1 ≠ i1
  l1i2 : l1 ≠ i2
abbrev AscIt (h : Heap) (i2 : Addr) (x : Str) (t : Tok) (k : Nat) : Prop := h.IsStrIter i2 "str_ascii_iterator" x t k

section
variable {w : World} {A : Around} {E : Value → Shared → Prop} {s : Shared} {z TI TO i1 i2 l1 : Addr} {k : Nat} {xs : Array Value} {x : Str} {t : Tok} {a b v : Value} {c : Nat}

theorem zipS_item {Q : Value → Shared → Prop} (D : ZA z TI TO i1 i2 l1) (hz : IsZip s.heap z TI TO .none) (hTI : IsPair s.heap TI (.ref i1) (.ref i2)) (hTO : IsPair s.heap TO a b)
    (h1 : s.heap.IsListIter i1 l1 k) (h2 : AscIt s.heap i2 x t k) (hl1 : s.heap.IsList l1 xs) (hx : xs[k]? = some v) (hy : x.cps[k]? = some c)
    (hQ : ∀ h' tk u, IsZip h' z TI TO (rawInt s.heap.objs.size) → IsPair h' TO v (.str ⟨#[c]⟩ u) → h'.IsListIter i1 l1 (k + 1) → AscIt h' i2 x t (k + 1) → IsPair h' s.heap.objs.size v (.str ⟨#[c]⟩ u) →
      (∀ c o, c ≠ z → c ≠ TO → c ≠ i1 → c ≠ i2 → s.heap.get? c = some o → h'.get? c = some o) → Q (.ref s.heap.objs.size) { s with heap := h', toks := tk }) :
    wpAny (model prog w) A (Builtin.«zip.__next__» ⟨[.ref z], []⟩) (fun fin s' => ∃ v, fin = .done (.ret v) ∧ Q v s') E s := by
  show wpAny _ _ (field (.ref z) 2 >>= _) _ _ _
  refine wpAny_bind (wpAny_field hz rfl (x := .bool false) rfl ?_)
  show wpAny _ _ (field (.ref z) 3 >>= _) _ _ _
  refine wpAny_bind (wpAny_field hz rfl (x := .ref TI) rfl ?_)
  refine wpAny_bind (wpAny_seqItems hTI rfl ?_)
  show wpAny _ _ (Builtin.SmallTypes.ownedTupleIsFree (.ref z) >>= _) _ _ _
  refine wpAny_bind ?_
  unfold Builtin.SmallTypes.ownedTupleIsFree
  refine wpAny_bind (wpAny_field hz rfl (x := .none) rfl (wpAny_pure ?_))
  simp only [if_true]
  refine wpAny_bind (wpAny_rule ?_)
  refine wpAny_bind (wpAny_field hz rfl (x := .ref TO) rfl ?_)
  refine wpAny_bind (wpAny_setField_rec hz (by simp) fun h₁ hz₁ hs₁ => ?_)
  replace hz₁ : IsZip h₁ z TI TO .ellipsis := hz₁
  refine wpAny_bind ?_
  simp only [List.zipIdx_cons, List.zipIdx_nil, List.forIn_cons, List.forIn_nil]
  refine wpAny_bind (wpAny_bind (wpAny_onRaise ?_))
  show wpAny _ _ (Builtin.SmallTypes.nextOf (.ref i1) >>= _) _ _ _
  refine wpAny_bind (wpAny_nextOf_list_item (h1.extBut hs₁.extBut D.i1z) (hl1.extBut hs₁.extBut D.l1z) hx fun h₂ h1₂ hs₂ => wpAny_pure ?_)
  have hTO₂ : IsPair h₂ TO a b := hs₂.extBut _ _ D.TOi1 (hs₁.extBut _ _ D.TOz hTO)
  refine wpAny_bind (wpAny_seqItems hTO₂ rfl ?_)
  refine wpAny_bind (wpAny_updateSeq_pair hTO₂ fun h₃ hTO₃ hs₃ => ?_)
  replace hTO₃ : IsPair h₃ TO v b := hTO₃
  refine wpAny_bind (wpAny_letGo (wpAny_pure ?_))
  refine wpAny_bind (wpAny_bind (wpAny_onRaise ?_))
  show wpAny _ _ (Builtin.SmallTypes.nextOf (.ref i2) >>= _) _ _ _
  refine wpAny_bind (wpAny_nextOf_ascii_item (((h2.extBut hs₁.extBut D.i2z).extBut hs₂.extBut D.i12.symm).extBut hs₃.extBut D.TOi2.symm) hy fun h₄ h2₄ hs₄ => wpAny_pure ?_)
  have hTO₄ : IsPair h₄ TO v b := hs₄.extBut _ _ D.TOi2 hTO₃
  refine wpAny_bind (wpAny_seqItems hTO₄ rfl ?_)
  refine wpAny_bind (wpAny_updateSeq_pair hTO₄ fun h₅ hTO₅ hs₅ => ?_)
  replace hTO₅ : IsPair h₅ TO v (.str ⟨#[c]⟩ s.toks) := hTO₅
  refine wpAny_bind (wpAny_letGo (wpAny_pure (wpAny_pure ?_)))
  refine wpAny_bind (wpAny_seqItems hTO₅ rfl ?_)
  refine wpAny_bind (wpAny_newTuple ?_)
  have hsz : h₅.objs.size = s.heap.objs.size := by rw [hs₅.1, hs₄.1, hs₃.1, hs₂.1, hs₁.1]
  have hz₅ : IsZip h₅ z TI TO .ellipsis := hs₅.extBut _ _ D.TOz.symm (hs₄.extBut _ _ D.i2z.symm (hs₃.extBut _ _ D.TOz.symm (hs₂.extBut _ _ D.i1z.symm hz₁)))
  have hk₅ : ∀ c o, c ≠ z → c ≠ TO → c ≠ i1 → c ≠ i2 → s.heap.get? c = some o → h₅.get? c = some o := fun c o c1 c2 c3 c4 e =>
    hs₅.extBut _ _ c2 (hs₄.extBut _ _ c4 (hs₃.extBut _ _ c2 (hs₂.extBut _ _ c3 (hs₁.extBut _ _ c1 e))))
  have h1₅ : h₅.IsListIter i1 l1 (k + 1) := ((h1₂.extBut hs₃.extBut D.TOi1.symm).extBut hs₄.extBut D.i12).extBut hs₅.extBut D.TOi1.symm
  have h2₅ : AscIt h₅ i2 x t (k + 1) := h2₄.extBut hs₅.extBut D.TOi2.symm
  have hzlt : z < h₅.objs.size := Heap.lt_size hz₅
  show wpAny _ _ (Builtin.SmallTypes.ownedTupleHandOut (.ref z) (.ref h₅.objs.size) >>= _) _ _ _
  refine wpAny_bind ?_
  unfold Builtin.SmallTypes.ownedTupleHandOut
  have hz₆ : IsZip (h₅.push { cls := .type "tuple", data := .seq #[v, .str ⟨#[c]⟩ s.toks] }) z TI TO .ellipsis := Heap.get?_push_of_some _ hz₅
  refine wpAny_bind (wpAny_setField_rec hz₆ (by simp) fun h₇ hz₇ hs₇ => ?_)
  replace hz₇ : IsZip h₇ z TI TO (rawInt h₅.objs.size) := hz₇
  refine wpAny_setField_rec hz₇ (by simp) fun h₈ hz₈ hs₈ => ?_
  replace hz₈ : IsZip h₈ z TI TO (rawInt h₅.objs.size) := hz₈
  have up : ∀ c o, c ≠ z → h₅.get? c = some o → h₈.get? c = some o := fun c o c1 e => hs₈.extBut _ _ c1 (hs₇.extBut _ _ c1 (Heap.get?_push_of_some _ e))
  have hT₈ : IsPair h₈ h₅.objs.size v (.str ⟨#[c]⟩ s.toks) := hs₈.extBut _ _ (Nat.ne_of_gt hzlt) (hs₇.extBut _ _ (Nat.ne_of_gt hzlt) (Heap.get?_push_size _ rfl))
  rw [hsz] at hz₈ hT₈
  refine wpAny_pure ⟨_, rfl, ?_⟩
  show Q (.ref h₅.objs.size) _
  rw [hsz]
  exact hQ h₈ _ s.toks hz₈ (up _ _ D.TOz hTO₅) (h1₅.at fun o e => up _ o D.i1z e) (let ⟨o, ho, r⟩ := h2₅; ⟨o, up _ o D.i2z ho, r⟩) hT₈ fun c o c1 c2 c3 c4 e => up c o c1 (hk₅ c o c1 c2 c3 c4 e)

/-- the shorter ends: the list, at its end (the text may not be longer) -/
theorem zipS_end {Q : Fin → Shared → Prop} (hh : A.handled = none) (D : ZA z TI TO i1 i2 l1) (hz : IsZip s.heap z TI TO .none) (hTI : IsPair s.heap TI (.ref i1) (.ref i2)) (hTO : IsPair s.heap TO a b)
    (h1 : s.heap.IsListIter i1 l1 k) (hl1 : s.heap.IsList l1 xs) (hx : xs[k]? = none)
    (hE : ∀ h' e, (∀ c o, c ≠ z → c ≠ TO → c ≠ i1 → c ≠ i2 → s.heap.get? c = some o → h'.get? c = some o) → (∃ o, h'.get? e = some o ∧ o.cls = .type "StopIteration") → E (.ref e) { s with heap := h' }) :
    wpAny (model prog w) A (Builtin.«zip.__next__» ⟨[.ref z], []⟩) Q E s := by
  show wpAny _ _ (field (.ref z) 2 >>= _) _ _ _
  refine wpAny_bind (wpAny_field hz rfl (x := .bool false) rfl ?_)
  show wpAny _ _ (field (.ref z) 3 >>= _) _ _ _
  refine wpAny_bind (wpAny_field hz rfl (x := .ref TI) rfl ?_)
  refine wpAny_bind (wpAny_seqItems hTI rfl ?_)
  show wpAny _ _ (Builtin.SmallTypes.ownedTupleIsFree (.ref z) >>= _) _ _ _
  refine wpAny_bind ?_
  unfold Builtin.SmallTypes.ownedTupleIsFree
  refine wpAny_bind (wpAny_field hz rfl (x := .none) rfl (wpAny_pure ?_))
  simp only [if_true]
  refine wpAny_bind (wpAny_rule ?_)
  refine wpAny_bind (wpAny_field hz rfl (x := .ref TO) rfl ?_)
  refine wpAny_bind (wpAny_setField_rec hz (by simp) fun h₁ hz₁ hs₁ => ?_)
  replace hz₁ : IsZip h₁ z TI TO .ellipsis := hz₁
  refine wpAny_bind ?_
  simp only [List.zipIdx_cons, List.zipIdx_nil, List.forIn_cons, List.forIn_nil]
  refine wpAny_bind (wpAny_bind (wpAny_onRaise ?_))
  show wpAny _ _ (Builtin.SmallTypes.nextOf (.ref i1) >>= _) _ _ _
  refine wpAny_bind (wpAny_nextOf_list_end hh (h1.extBut hs₁.extBut D.i1z) (hl1.extBut hs₁.extBut D.l1z) hx fun h₂ e hs₂ he => ?_)
  obtain ⟨oe, hoe, hce⟩ := he
  have hz₂ : IsZip h₂ z TI TO .ellipsis := hs₂ _ _ D.i1z.symm hz₁
  have hez : e ≠ z := fun x => by subst x; rw [hz₂] at hoe; cases hoe; simp at hce
  refine wpAny_setField_rec hz₂ (by simp) fun h₃ _ hs₃ => hE h₃ e (fun c o c1 _ c3 _ x => hs₃.extBut _ _ c1 (hs₂ _ _ c3 (hs₁.extBut _ _ c1 x))) ⟨oe, hs₃.extBut _ _ hez hoe, hce⟩

theorem pyNext_zipS_item {Q : Option Value → Shared → Prop} (D : ZA z TI TO i1 i2 l1) (hz : IsZip s.heap z TI TO .none) (hTI : IsPair s.heap TI (.ref i1) (.ref i2)) (hTO : IsPair s.heap TO a b)
    (h1 : s.heap.IsListIter i1 l1 k) (h2 : AscIt s.heap i2 x t k) (hl1 : s.heap.IsList l1 xs) (hx : xs[k]? = some v) (hy : x.cps[k]? = some c)
    (hQ : ∀ h' tk u, IsZip h' z TI TO (rawInt s.heap.objs.size) → IsPair h' TO v (.str ⟨#[c]⟩ u) → h'.IsListIter i1 l1 (k + 1) → AscIt h' i2 x t (k + 1) → IsPair h' s.heap.objs.size v (.str ⟨#[c]⟩ u) →
      (∀ c o, c ≠ z → c ≠ TO → c ≠ i1 → c ≠ i2 → s.heap.get? c = some o → h'.get? c = some o) → Q (some (.ref s.heap.objs.size)) { s with heap := h', toks := tk }) :
    wpAny (model prog w) A (pyNext (.ref z)) Q E s := by
  have hT : s.TypeIs (.ref z) "zip" := ⟨_, hz, rfl⟩
  unfold pyNext
  exact wpAny_bind (wpAny_attempt (wpAny_callSpecial?_slot (name := Str.ofString "__next__") hT F.slot_zip_next
    (wpAny_call_entry F.slot_zip_next hT F.entry_zip_next
      (zipS_item D hz hTI hTO h1 h2 hl1 hx hy fun h' tk u a1 a2 a3 a4 a5 a7 => wpAny_pure (hQ h' tk u a1 a2 a3 a4 a5 a7)) (F.args_zip_next_1 _))))
theorem pyNext_zipS_end {Q : Option Value → Shared → Prop} (hh : A.handled = none) (D : ZA z TI TO i1 i2 l1) (hz : IsZip s.heap z TI TO .none) (hTI : IsPair s.heap TI (.ref i1) (.ref i2)) (hTO : IsPair s.heap TO a b)
    (h1 : s.heap.IsListIter i1 l1 k) (hl1 : s.heap.IsList l1 xs) (hx : xs[k]? = none)
    (hQ : ∀ h', (∀ c o, c ≠ z → c ≠ TO → c ≠ i1 → c ≠ i2 → s.heap.get? c = some o → h'.get? c = some o) → Q none { s with heap := h' }) : wpAny (model prog w) A (pyNext (.ref z)) Q E s := by
  have hT : s.TypeIs (.ref z) "zip" := ⟨_, hz, rfl⟩
  unfold pyNext
  refine wpAny_bind (wpAny_attempt (wpAny_callSpecial?_slot (name := Str.ofString "__next__") hT F.slot_zip_next
    (wpAny_call_entry F.slot_zip_next hT F.entry_zip_next (zipS_end hh D hz hTI hTO h1 hl1 hx fun h' e hk he => ?_) (F.args_zip_next_1 _))))
  obtain ⟨o, ho, hc⟩ := he
  refine wpAny_bind (wpAny_isInstance (T := "StopIteration") (b := true) ⟨o, ho, hc⟩ isSubtype_stop ?_)
  exact wpAny_pure (hQ _ hk)

theorem WalksU.zipS (hh : A.handled = none) (D : ZA z TI TO i1 i2 l1) (xs : Array Value) (x : Str) (t : Tok) (hn : xs.size = x.cps.size) :
    WalksU prog w A z [z, TI, TO, i1, i2, l1] [z, TO, i1, i2] xs.size
      (fun i vals => ∃ v c u, xs[i]? = some v ∧ x.cps[i]? = some c ∧ vals = #[v, .str ⟨#[c]⟩ u])
      (fun i h => IsZip h z TI TO .none ∧ IsPair h TI (.ref i1) (.ref i2) ∧ (∃ a b, IsPair h TO a b) ∧ h.IsListIter i1 l1 i ∧ AscIt h i2 x t i ∧ h.IsList l1 xs)
      (fun i T h => IsZip h z TI TO (rawInt T) ∧ IsPair h TI (.ref i1) (.ref i2) ∧ (∃ a b, IsPair h TO a b) ∧ h.IsListIter i1 l1 (i + 1) ∧ AscIt h i2 x t (i + 1) ∧ h.IsList l1 xs ∧ T ≠ z ∧ T ≠ TO ∧ T ≠ i1 ∧ T ≠ i2) where
  sub := fun c hc => by simp at hc ⊢; rcases hc with rfl | rfl | rfl | rfl <;> simp
  frame := fun i h h' hst hk => by
    obtain ⟨hz, hTI, ⟨a, b, hTO⟩, h1, ⟨o2, h2, r2⟩, hl1⟩ := hst
    exact ⟨hk z (by simp) _ hz, hk TI (by simp) _ hTI, ⟨a, b, hk TO (by simp) _ hTO⟩, h1.at fun o e => hk i1 (by simp) o e, ⟨o2, hk i2 (by simp) o2 h2, r2⟩, hl1.at fun o e => hk l1 (by simp) o e⟩
  item := fun i s Q E hi hst hQ => by
    obtain ⟨hz, hTI, ⟨a, b, hTO⟩, h1, h2, hl1⟩ := hst
    have hiy : i < x.cps.size := hn ▸ hi
    refine pyNext_zipS_item D hz hTI hTO h1 h2 hl1 (Array.getElem?_eq_getElem hi) (Array.getElem?_eq_getElem hiy) fun h' tk u a1 a2 a3 a4 a5 hk => ?_
    have lt : ∀ {c o}, s.heap.get? c = some o → s.heap.objs.size ≠ c := fun e => Nat.ne_of_gt (Heap.lt_size e)
    exact hQ s.heap.objs.size _ h' tk ⟨_, _, u, Array.getElem?_eq_getElem hi, Array.getElem?_eq_getElem hiy, rfl⟩ ⟨_, a5, rfl, _, rfl⟩
      ⟨a1, hk _ _ D.TIz D.TITO D.TIi1 D.TIi2 hTI, ⟨_, _, a2⟩, a3, a4, hl1.at fun o e => hk _ o D.l1z D.l1TO D.l1i1 D.l1i2 e,
        lt hz, lt hTO, (by obtain ⟨_, e, _⟩ := h1; exact lt e), (by obtain ⟨_, e, _⟩ := h2; exact lt e)⟩
      fun c o hc e => hk c o (fun x => hc (by simp [x])) (fun x => hc (by simp [x])) (fun x => hc (by simp [x])) (fun x => hc (by simp [x])) e
  go := fun elts k pos i T s Q E hm hQ => by
    obtain ⟨hz, hTI, ⟨a, b, hTO⟩, h1, h2, hl1, _⟩ := hm
    refine wpAny_letOwnedTupleGo_zip hz fun h' hz' hs' => hQ h' ⟨hz', hs'.extBut _ _ D.TIz hTI, ⟨a, b, hs'.extBut _ _ D.TOz hTO⟩, h1.extBut hs'.extBut D.i1z, h2.extBut hs'.extBut D.i2z,
      hl1.extBut hs'.extBut D.l1z⟩ fun c o hc e => hs'.extBut _ _ (fun x => hc (by simp [x])) e
  apart := fun i T h hm hT => by
    obtain ⟨_, _, _, _, _, _, t1, t2, t3, t4⟩ := hm
    simp at hT
    rcases hT with rfl | rfl | rfl | rfl
    · exact t1 rfl
    · exact t2 rfl
    · exact t3 rfl
    · exact t4 rfl
  done := fun s Q E hst hQ => by
    obtain ⟨hz, hTI, ⟨a, b, hTO⟩, h1, h2, hl1⟩ := hst
    exact pyNext_zipS_end hh D hz hTI hTO h1 hl1 (Array.getElem?_eq_none (Nat.le_refl _)) fun h' hk => hQ h' s.toks fun c o hc e =>
      hk c o (fun x => hc (by simp [x])) (fun x => hc (by simp [x])) (fun x => hc (by simp [x])) (fun x => hc (by simp [x])) e
  self := fun i s Q E hst hQ => wpAny_pyIter_zip hst.1 hQ

abbrev zsH1 (h : Heap) (l1 : Addr) : Heap := h.push { cls := .type "list_iterator", data := .fields #[.ref l1, .int 0 0] }
abbrev zsH2 (h : Heap) (l1 : Addr) (x : Str) (t : Tok) : Heap := (zsH1 h l1).push { cls := .type "str_ascii_iterator", data := .fields #[.str x t, .int 0 0] }
abbrev zsH3 (h : Heap) (l1 : Addr) (x : Str) (t : Tok) : Heap := (zsH2 h l1 x t).push { cls := .type "tuple", data := .seq #[.ref h.objs.size, .ref (zsH1 h l1).objs.size] }
abbrev zsH4 (h : Heap) (l1 : Addr) (x : Str) (t : Tok) : Heap := (zsH3 h l1 x t).push { cls := .type "tuple", data := .seq #[.none, .none] }
abbrev zsH5 (h : Heap) (l1 : Addr) (x : Str) (t : Tok) : Heap := (zsH4 h l1 x t).push { cls := .type "zip", data := .fields #[.none, .bool false, .bool false, .ref (zsH2 h l1 x t).objs.size, .ref (zsH3 h l1 x t).objs.size] }
set_option maxHeartbeats 4000000 in
set_option maxRecDepth 100000 in
theorem meets_zipS_new (l1 : Addr) (xs : Array Value) (x : Str) (t : Tok) (ha : x.cps.all (· < 128) = true) :
    Meets (Builtin.«zip.__new__» ⟨[.type "zip", .ref l1, .str x t], []⟩) (fun _ R s => s.heap.IsList l1 xs ∧ R (.ok (.ret (.ref (zsH4 s.heap l1 x t).objs.size))) { s with heap := zsH5 s.heap l1 x t }) :=
  .of_wp fun prog w A R s h => by
    obtain ⟨hp, g, d, tk, os⟩ := s; obtain ⟨hl1, h⟩ := h
    have hsub := sub_zip
    have hL1 : Heap.IsList (Shared.heap ⟨hp, g, d, tk, os⟩) l1 xs := hl1
    wp_walk using wpAny_pyIter_list hL1, wpAny_pyIter_ascii ha
    exact ⟨_, rfl, h⟩
end
end Mine
end
section
open PySem PySem.W PyProof.Rows PySem.Calls
namespace Mine
theorem zaNew {m l1 : Addr} (h1 : l1 < m) : ZA (m + 4) (m + 2) (m + 3) m (m + 1) l1 := by
  have H : ∀ m l : Nat, l < m → (m + 2 ≠ m + 4 ∧ m + 3 ≠ m + 4 ∧ m ≠ m + 4 ∧ m + 1 ≠ m + 4 ∧ m + 2 ≠ m + 3 ∧ m + 2 ≠ m ∧ m + 2 ≠ m + 1 ∧ m + 3 ≠ m ∧ m + 3 ≠ m + 1 ∧ m ≠ m + 1 ∧ l ≠ m + 4 ∧ l ≠ m + 3 ∧ l ≠ m ∧ l ≠ m + 1) := by intro m l h; omega
  obtain ⟨a, b, c, d, e, f, g, h, i, j, k, o, p, q⟩ := H m l1 h1
  exact ⟨a, b, c, d, e, f, g, h, i, j, k, o, p, q⟩

section
variable {w : World} {A : Around} {E : Value → Shared → Prop} {s : Shared}
theorem call_zipS {l1 : Addr} {xs : Array Value} {x : Str} {t : Tok} {Q : Value → Shared → Prop} (hl1 : s.heap.IsList l1 xs) (ha : x.cps.all (· < 128) = true)
    (h : ∀ h', IsZip h' (s.heap.objs.size + 4) (s.heap.objs.size + 2) (s.heap.objs.size + 3) .none → IsPair h' (s.heap.objs.size + 2) (.ref s.heap.objs.size) (.ref (s.heap.objs.size + 1)) →
      IsPair h' (s.heap.objs.size + 3) .none .none → h'.IsListIter s.heap.objs.size l1 0 → AscIt h' (s.heap.objs.size + 1) x t 0 → h'.objs.size = s.heap.objs.size + 5 →
      (∀ c o, s.heap.get? c = some o → h'.get? c = some o) → Q (.ref (s.heap.objs.size + 4)) { s with heap := h' }) :
    wpAny (model prog w) A (call (.type "zip") [.ref l1, .str x t]) Q E s := by
  refine callType_new F.called_zip (by decide) (F.typeCall_zip_2 _ _) (F.newCall_zip_2 _ _) (fun obj => F.args_object_init_3 obj _ _) F.entry_zip_new
    (meets_zipS_new l1 xs x t ha) ⟨hl1, ?_⟩
  have z1 : (zsH1 s.heap l1).objs.size = s.heap.objs.size + 1 := Heap.size_push ..
  have z2 : (zsH2 s.heap l1 x t).objs.size = s.heap.objs.size + 2 := by rw [Heap.size_push, z1]
  have z3 : (zsH3 s.heap l1 x t).objs.size = s.heap.objs.size + 3 := by rw [Heap.size_push, z2]
  have z4 : (zsH4 s.heap l1 x t).objs.size = s.heap.objs.size + 4 := by rw [Heap.size_push, z3]
  have z5 : (zsH5 s.heap l1 x t).objs.size = s.heap.objs.size + 5 := by rw [Heap.size_push, z4]
  have g5 : (zsH5 s.heap l1 x t).get? (zsH4 s.heap l1 x t).objs.size = some _ := Heap.get?_push_size _ rfl
  have g4 : (zsH5 s.heap l1 x t).get? (zsH3 s.heap l1 x t).objs.size = some _ := Heap.get?_push_of_some _ (Heap.get?_push_size _ rfl)
  have g3 : (zsH5 s.heap l1 x t).get? (zsH2 s.heap l1 x t).objs.size = some _ := Heap.get?_push_of_some _ (Heap.get?_push_of_some _ (Heap.get?_push_size _ rfl))
  have g2 : (zsH5 s.heap l1 x t).get? (zsH1 s.heap l1).objs.size = some _ := Heap.get?_push_of_some _ (Heap.get?_push_of_some _ (Heap.get?_push_of_some _ (Heap.get?_push_size _ rfl)))
  have g1 : (zsH5 s.heap l1 x t).get? s.heap.objs.size = some _ := Heap.get?_push_of_some _ (Heap.get?_push_of_some _ (Heap.get?_push_of_some _ (Heap.get?_push_of_some _ (Heap.get?_push_size _ rfl))))
  show _ ∧ _
  rw [z2, z3, z4] at g5
  rw [z1, z2] at g3
  rw [z3] at g4
  rw [z1] at g2
  rw [z4]
  exact ⟨⟨_, g5, rfl⟩, h _ g5 g3 g4 ⟨_, g1, rfl, rfl⟩ ⟨_, g2, rfl, rfl⟩ z5 fun c o x =>
    Heap.get?_push_of_some _ (Heap.get?_push_of_some _ (Heap.get?_push_of_some _ (Heap.get?_push_of_some _ (Heap.get?_push_of_some _ x))))⟩
end

theorem inert_zip {h : Heap} {z TI TO : Addr} {f0 : Value} (x : IsZip h z TI TO f0) : ∃ o, h.get? z = some o ∧ Inert o :=
  ⟨_, x, ⟨fun v q => (by cases q), fun vs q t h => (by cases h; intro z; cases z)⟩⟩
theorem inert_tup {h : Heap} {z : Addr} {a b : Value} (x : IsPair h z a b) : ∃ o, h.get? z = some o ∧ Inert o :=
  ⟨_, x, ⟨fun v q => (by cases q), fun vs q t h => (by cases h)⟩⟩
theorem inert_asc {h : Heap} {z : Addr} {x : Str} {t : Tok} {k : Nat} (y : AscIt h z x t k) : ∃ o, h.get? z = some o ∧ Inert o := by
  obtain ⟨o, e, c, d⟩ := y
  refine ⟨o, e, ⟨fun v q => (by rw [d] at q; cases q), fun vs q t h => ?_⟩⟩
  rw [d] at h; cases h
  intro z; cases z
theorem inert_enum {h : Heap} {e it : Addr} {i : Int} {old : Value} (x : IsEnum h e it i old) : ∃ o, h.get? e = some o ∧ Inert o :=
  ⟨_, x, ⟨fun v q => (by cases q), fun vs q t h => (by cases h; intro z; cases z)⟩⟩

section
variable {C : Ctx} {b : Bool} {n : Nat} {sc : Scope} {ρ : List (Str × D)}
theorem size_lt {h h' : Heap} {m k : Nat} (e : h'.objs.size = m + k) {a : Addr} {j : Nat} (ha : a = m + j) (hj : j < k) : a < h'.objs.size := by
  rw [e, ha]; exact Nat.add_lt_add_left hj m
theorem IterK.zip {e1 e2 : Expr} {p pos tp : Pos} {elts : List Expr} {k : Nat} {ys : List Str} {x : Str} (h1 : Ev C b n sc ρ e1 (.strs ys)) (h2 : Ev C b n sc ρ e2 (.str x)) (ha : x.cps.all (· < 128) = true) (hl : ys.length = x.cps.size)
    (hk : sc.names.lookup ("zip" : Str) = some .globalImplicit := by rfl) (hp : ∀ env, starEach [e1, e2] env = [(false, eval e1 env), (false, eval e2 env)] := by intro _; rfl) :
    IterK C b n sc ρ (.Tuple elts k tp) (.Call (.Name "zip" p) [e1, e2] [] pos) (itemsT ((ys.zip x.cps.toList).map fun q => (Sc.str q.1, Sc.str ⟨#[q.2]⟩))) := by
  refine .mk ?_
  rintro A env hid s E Q rfl hA X kk
  refine wpAny_Call_NameR (name_bi X (v := .type "zip") (by decide +kernel) (by decide) hk ?_)
  have he : backTo pos (starEach [e1, e2] env) = [(false, eval e1 env), (false, eval e2 env)] := by rw [hp]; rfl
  rw [he]
  refine PyProof.Rows.callWith_type rfl (evalArgs_plain (spliced_cons (h1.go rfl hA X fun u s₁ k1 t1 X1 r1 => spliced_cons (h2.go rfl hA X1 fun v s₂ k2 t2 X2 r2 => spliced_nil ?_))))
  obtain ⟨l, vs, rfl, hll, hi, hn⟩ := rep_strs (r1.mono (vis_kp k2.heap X1.h106))
  obtain ⟨t, rfl⟩ := is_str r2
  have hlt : l < s₂.heap.objs.size := let ⟨_, ho, _⟩ := id hll; Heap.lt_size ho
  refine call_zipS hll ha fun h' hz hTI hTO hi1 hi2 hsz hk' => ?_
  refine wpAny_pyIter_zip hz ?_
  have kp : Keeps s₂ { s₂ with heap := h' } := keeps_mk (t := s₂.toks) hk'
  have X3 := X2.kp (s' := { s₂ with heap := h' }) (KR.of_keeps (b := true) kp).heap (Nat.le_refl _)
  have W := WalksU.zipS (w := C.w) hA.1 (zaNew hlt) vs.toArray x t (by rw [List.size_toArray, hi.length, hl])
  have hlen := hi.length
  obtain ⟨Md, T⟩ := ktu_pair (elts := elts) (k := k) (tp := tp) (items := itemsT ((ys.zip x.cps.toList).map fun q => (Sc.str q.1, Sc.str ⟨#[q.2]⟩))) W (fun i v hi' hv => by
    obtain ⟨a, c, u, e1, e2, rfl⟩ := hv
    obtain ⟨y, t', f1, f2⟩ := hi.item i a (by simpa using e1)
    refine ⟨a, _, .str y, .str ⟨#[c]⟩, rfl, ?_, by rw [f1]; rfl, rfl⟩
    have : (ys.zip x.cps.toList)[i]? = some (y, c) := by rw [List.getElem?_zip_eq_some]; exact ⟨f2, by simpa using e2⟩
    simp [itemsT, this]) (by simp [itemsT, hlen, hl])
  have frs : ∀ j, ¬ hid (s₂.heap.objs.size + j) := fun j => X2.fresh (Heap.get?_none_of_le (Nat.le_add_right _ _))
  have frs' : ∀ j, s.heap.get? (s₂.heap.objs.size + j) = none := fun j => kr_none (k1.heap.trans k2.heap) X.tab (Heap.get?_none_of_le (Nat.le_add_right _ _))
  have big := C.big _ X2.md
  refine kk _ _ _ _ _ _ ((k1.trans k2).trans (.of_keeps kp)) (Nat.le_trans t1 t2) X3 T ⟨hz, hTI, ⟨_, _, hTO⟩, hi1, hi2, hll.at fun o e => hk' _ o e⟩ ?_ ?_ ?_ (fun s Q E => W.self 0 s Q E)
  · intro a ha
    simp only [List.mem_cons, List.not_mem_nil, or_false] at ha
    rcases ha with rfl | rfl | rfl | rfl | rfl | rfl
    · exact ⟨size_lt (h := h') hsz (j := 4) rfl (by decide), frs 4⟩
    · exact ⟨size_lt (h := h') hsz (j := 2) rfl (by decide), frs 2⟩
    · exact ⟨size_lt (h := h') hsz (j := 3) rfl (by decide), frs 3⟩
    · exact ⟨size_lt (h := h') hsz (j := 0) rfl (by decide), frs 0⟩
    · exact ⟨size_lt (h := h') hsz (j := 1) rfl (by decide), frs 1⟩
    · exact ⟨Nat.lt_of_lt_of_le hlt (by show _ ≤ h'.objs.size; rw [hsz]; exact Nat.le_add_right _ _), hn⟩
  · intro a ha
    simp only [List.mem_cons, List.not_mem_nil, or_false] at ha
    rcases ha with rfl | rfl | rfl | rfl
    · exact ⟨frs' 4, Nat.le_trans big (Nat.le_add_right _ _)⟩
    · exact ⟨frs' 3, Nat.le_trans big (Nat.le_add_right _ _)⟩
    · exact ⟨frs' 0, big⟩
    · exact ⟨frs' 1, Nat.le_trans big (Nat.le_add_right _ _)⟩
  · intro i h hst a ha
    obtain ⟨q1, q2, ⟨_, _, q3⟩, q4, q5, _⟩ := hst
    simp only [List.mem_cons, List.not_mem_nil, or_false] at ha
    rcases ha with rfl | rfl | rfl | rfl
    · exact inert_zip q1
    · exact inert_tup q3
    · exact inert_listIter q4
    · exact inert_asc q5

theorem IterK.enum {e : Expr} {p pos tp : Pos} {elts : List Expr} {k : Nat} {ns : List Int} (h1 : Ev C b n sc ρ e (.ints ns))
    (hk : sc.names.lookup ("enumerate" : Str) = some .globalImplicit := by rfl) (hp : ∀ env, starEach [e] env = [(false, eval e env)] := by intro _; rfl) :
    IterK C b n sc ρ (.Tuple elts k tp) (.Call (.Name "enumerate" p) [e] [] pos) (itemsT (ns.zipIdx.map fun q => (Sc.int q.2, Sc.int q.1))) := by
  refine .mk ?_
  rintro A env hid s E Q rfl hA X kk
  refine wpAny_Call_NameR (name_bi X (v := .type "enumerate") (by decide +kernel) (by decide) hk ?_)
  have he : backTo pos (starEach [e] env) = [(false, eval e env)] := by rw [hp]; rfl
  rw [he]
  refine PyProof.Rows.callWith_type rfl (evalArgs_plain (spliced_cons (h1.go rfl hA X fun u s₂ k1 t1 X2 r1 => spliced_nil ?_)))
  obtain ⟨l, vs, rfl, hll, hi, hn⟩ := rep_ints r1
  have hlt : l < s₂.heap.objs.size := let ⟨_, ho, _⟩ := id hll; Heap.lt_size ho
  refine call_enumerate_list hll fun h' hE hi1 hsz hk' => ?_
  refine wpAny_pyIter_enum hE ?_
  have kp : Keeps s₂ { s₂ with heap := h' } := keeps_mk (t := s₂.toks) hk'
  have X3 := X2.kp (s' := { s₂ with heap := h' }) (KR.of_keeps (b := true) kp).heap (Nat.le_refl _)
  have W := (WalksT.enumerate (prog := prog) (w := C.w) hA.1 (s₂.heap.objs.size + 1) s₂.heap.objs.size l (Nat.succ_ne_self _) (Nat.ne_of_lt (Nat.lt_succ_of_lt hlt)) (Nat.ne_of_lt hlt) vs.toArray).toU
  have hlen := hi.length
  obtain ⟨Md, T⟩ := ktu_pair (elts := elts) (k := k) (tp := tp) (items := itemsT (ns.zipIdx.map fun q => (Sc.int q.2, Sc.int q.1))) W (fun i v hi' hv => by
    obtain ⟨t, a, e1, rfl⟩ := hv
    obtain ⟨y, t', f1, f2⟩ := hi.at i a (by simpa using e1)
    refine ⟨_, a, .int i, .int y, rfl, ?_, rfl, by rw [f1]; rfl⟩
    have : ns.zipIdx[i]? = some (y, i) := by simp [List.getElem?_zipIdx, f2]
    simp [itemsT, this]) (by simp [itemsT, hlen])
  have frs : ∀ j, ¬ hid (s₂.heap.objs.size + j) := fun j => X2.fresh (Heap.get?_none_of_le (Nat.le_add_right _ _))
  have frs' : ∀ j, s.heap.get? (s₂.heap.objs.size + j) = none := fun j => kr_none k1.heap X.tab (Heap.get?_none_of_le (Nat.le_add_right _ _))
  have big := C.big _ X2.md
  refine kk _ _ _ _ _ _ (k1.trans (.of_keeps kp)) t1 X3 T ⟨⟨_, hE⟩, hi1, hll.at fun o e => hk' _ o e⟩ ?_ ?_ ?_ (fun s Q E => W.self 0 s Q E)
  · intro a ha
    simp only [List.mem_cons, List.not_mem_nil, or_false] at ha
    rcases ha with rfl | rfl | rfl
    · exact ⟨size_lt (h := h') hsz (j := 1) rfl (by decide), frs 1⟩
    · exact ⟨size_lt (h := h') hsz (j := 0) rfl (by decide), frs 0⟩
    · exact ⟨Nat.lt_of_lt_of_le hlt (by show _ ≤ h'.objs.size; rw [hsz]; exact Nat.le_add_right _ _), hn⟩
  · intro a ha
    simp only [List.mem_cons, List.not_mem_nil, or_false] at ha
    rcases ha with rfl | rfl
    · exact ⟨frs' 1, Nat.le_trans big (Nat.le_add_right _ _)⟩
    · exact ⟨frs' 0, big⟩
  · intro i h hst a ha
    obtain ⟨⟨_, q1⟩, q4, _⟩ := hst
    simp only [List.mem_cons, List.not_mem_nil, or_false] at ha
    rcases ha with rfl | rfl
    · exact inert_enum q1
    · exact inert_listIter q4
end
end Mine
end
section
open PySem PySem.W PyProof.Rows PySem.Calls
namespace Mine

theorem bindL_out {K : Str → Option NameKind} : ∀ {bs : List (Str × Value)} {m : Str → Option Value} {x : Str}, (∀ v, (x, v) ∉ bs) → bindL K bs m x = m x
  | [], _, _, _ => rfl
  | (n, v) :: r, m, x, h => by
    unfold bindL
    rw [bindL_out fun v hv => h v (List.mem_cons_of_mem _ hv)]
    split
    · have : x ≠ n := fun e => h v (e ▸ List.mem_cons_self)
      simp [this]
    · rfl
theorem bindC_out {K : Str → Option NameKind} : ∀ {bs : List (Str × Value)} {m : Str → Option Value} {x : Str}, (∀ v, (x, v) ∉ bs) → bindC K bs m x = m x
  | [], _, _, _ => rfl
  | (n, v) :: r, m, x, h => by
    unfold bindC
    rw [bindC_out fun v hv => h v (List.mem_cons_of_mem _ hv)]
    split
    · rfl
    · have : x ≠ n := fun e => h v (e ▸ List.mem_cons_self)
      simp [this]
theorem not_in_zip {x : Str} : ∀ {ps : List Str} {vs : List Value}, x ∉ ps → ∀ v, (x, v) ∉ ps.zip vs
  | [], _, _, _ => by simp
  | _ :: _, [], _, _ => by simp
  | p :: ps, u :: vs, h, v => by
    rw [List.zip_cons_cons]
    intro q
    rcases List.mem_cons.mp q with e | q
    · cases e; exact h List.mem_cons_self
    · exact not_in_zip (fun q => h (List.mem_cons_of_mem _ q)) v q
/-- what a frame's locals and cells hold at its start -/
theorem bind_zip {K : Str → Option NameKind} {key : Value} {V : Addr → Obj → Prop} : ∀ {ps : List Str} {vs : List Value} {ds : List D} {m cm : Str → Option Value}, ps.Nodup → RepAll key V vs ds → ∀ x d, (ps.zip ds).lookup x = some d →
    ∃ v, Rep key V v d ∧ (K x = some .local → bindL K (ps.zip vs) m x = some v) ∧ (K x ≠ some .local → bindC K (ps.zip vs) cm x = some v)
  | [], _, _, _, _, _, _, _, _, h => by simp at h
  | p :: ps, _, _, m, cm, hn, .nil, x, d, h => by simp at h
  | p :: ps, v :: vs, e :: ds, m, cm, hn, .cons a r, x, d, h => by
    rw [List.zip_cons_cons, List.lookup_cons] at h
    obtain ⟨hp, hn⟩ := List.nodup_cons.mp hn
    cases hx : x == p with
    | true =>
      rw [hx] at h; cases h
      have e := beq_iff_eq.mp hx
      subst e
      refine ⟨v, a, fun hk => ?_, fun hk => ?_⟩
      · rw [List.zip_cons_cons]; unfold bindL
        rw [bindL_out (not_in_zip hp), if_pos hk]; simp
      · rw [List.zip_cons_cons]; unfold bindC
        rw [bindC_out (not_in_zip hp), if_neg hk]; simp
    | false =>
      rw [hx] at h
      obtain ⟨u, ru, h1, h2⟩ := bind_zip (m := if K p = some .local then fun y => if y = p then some v else m y else m) (cm := if K p = some .local then cm else fun y => if y = p then some v else cm y) hn r x d h
      exact ⟨u, ru, fun hk => by rw [List.zip_cons_cons]; unfold bindL; exact h1 hk, fun hk => by rw [List.zip_cons_cons]; unfold bindC; exact h2 hk⟩

theorem cellsFrom_acc : ∀ (names : List (Str × NameKind)) (m : Nat) (acc : List (Str × Addr)) (x : Str), (acc.lookup x).isSome = true → ((cellsFrom m names acc).lookup x).isSome = true
  | [], _, _, _, h => h
  | (y, k) :: r, m, acc, x, h => by
    unfold cellsFrom
    split
    · refine cellsFrom_acc r (m + 1) _ x ?_
      rw [List.lookup_cons]
      cases x == y
      · exact h
      · rfl
    · exact cellsFrom_acc r m acc x h
theorem cellsFrom_some : ∀ (names : List (Str × NameKind)) (m : Nat) (acc : List (Str × Addr)) (x : Str), (x, NameKind.cell) ∈ names → ((cellsFrom m names acc).lookup x).isSome = true
  | (y, k) :: r, m, acc, x, h => by
    unfold cellsFrom
    rcases List.mem_cons.mp h with e | h
    · cases e
      rw [if_pos (by decide)]
      refine cellsFrom_acc r _ _ _ ?_
      rw [List.lookup_cons]; simp
    · split
      · exact cellsFrom_some r _ _ x h
      · exact cellsFrom_some r _ _ x h

/-- a def of the text, as an object of the heap -/
structure DefAt (h : Heap) (a : Addr) (params : Arguments) (body : List Stmt) (scope : Scope) (qual : Str) : Prop where
  ex : ∃ o fd, h.get? a = some o ∧ o.data = .func fd ∧ fd.params = params ∧ fd.body = .stmts body ∧ fd.scope = scope ∧ fd.qualname = qual ∧ fd.globals = mainGlobals ∧ fd.builtins = builtinsNs ∧ fd.closure = [] ∧ h.CodeRec fd.code qual ∧ fd.defaults = .none ∧ fd.kwdefaults = .none

def noFree (scope : Scope) : Bool := scope.names.all (fun p => p.2 != .free)
theorem lookup_mem_kind {scope : Scope} {x : Str} {k : NameKind} (h : scope.names.lookup x = some k) : (x, k) ∈ scope.names := mem_of_lookup h

section
variable {C : Ctx} {b : Bool} {n : Nat}
def FrW (env : Env) : Addr → Prop := fun z => z = env.locals ∨ ∃ m, env.cells.lookup m = some z
/-- the frame's environment at its start -/
theorem EnvX.start {hid : Addr → Prop} {s s₁ : Shared} {fd : FuncData} {a : Addr} {ps : List Str} {vs : List Value} {ds : List D} (X : St C hid s) (hr : RepAll C.key (Vis hid s.heap) vs ds) (hnd : ps.Nodup) (hk : fd.scope.kind = .function) (hg : fd.globals = mainGlobals) (hb : fd.builtins = builtinsNs)
    (hloc : ps.all (locCell fd.scope) = true) (hnf : noFree fd.scope = true) (I : InCallC s (callEnvC fd s.heap.objs.size a).locals (bindL (callEnvC fd s.heap.objs.size a).kindOf (ps.zip vs) fun _ => none) (callEnvC fd s.heap.objs.size a).cells (bindC (callEnvC fd s.heap.objs.size a).kindOf (ps.zip vs) fun _ => none) s₁) (ht : s.toks ≤ s₁.toks) :
    EnvX C hid (FrW (callEnvC fd s.heap.objs.size a)) s.heap.objs.size (callEnvC fd s.heap.objs.size a) (ps.zip ds) s₁ := by
  generalize he : callEnvC fd s.heap.objs.size a = env at I ⊢
  have hsc : env.scope = fd.scope := by rw [← he]; rfl
  have hL : env.locals = s.heap.objs.size := by rw [← he]; rfl
  have hcells : env.cells = cellsFrom (s.heap.objs.size + 1) fd.scope.names [] := by rw [← he]; rfl
  have hgl : env.globals = mainGlobals := by rw [← he]; exact hg
  have hbi : env.builtins = builtinsNs := by rw [← he]; exact hb
  obtain ⟨h₁, tk, rfl⟩ := I.toInCall.same
  have hkeep := I.toInCall.keep
  have kr : KR true s { s with heap := h₁, toks := tk } := keeps_mk hkeep
  have hlo : C.lo ≤ s.heap.objs.size := C.big _ X.md
  have wlo : ∀ z, FrW env z → s.heap.objs.size ≤ z := fun z hz => by
    rcases hz with e | ⟨m, hm⟩
    · rw [e]; exact I.toInCall.fresh
    · exact Nat.le_of_lt (Nat.lt_of_le_of_lt I.toInCall.fresh (I.above m z (mem_of_lookup hm)))
  have fresh : ∀ z o, FrW env z → s.heap.get? z ≠ some o := fun z o hz e => absurd (Heap.lt_size e) (Nat.not_lt.mpr (wlo z hz))
  have vis : ∀ z o, Vis hid s.heap z o → Vis (fun z => hid z ∨ FrW env z) h₁ z o := fun z o q => ⟨hkeep z o q.1, fun e => e.elim q.2 fun e => fresh z o e q.1⟩
  have X₁ := X.kp (s' := { s with heap := h₁, toks := tk }) kr.heap ht
  have cellAt : ∀ x c, env.cells.lookup x = some c → ∃ v, h₁.IsCell c v := fun x c e => ⟨_, I.cell x c e⟩
  have hP : P0 < s.heap.objs.size := Nat.lt_of_lt_of_le C.plo hlo
  have nofree : ∀ x, env.kindOf x ≠ some .free := fun x h => by
    have h : env.scope.names.lookup x = some .free := h
    rw [hsc] at h
    simpa using List.all_eq_true.mp hnf _ (lookup_mem_kind h)
  have args : ∀ x d, (ps.zip ds).lookup x = some d → ∃ v, Rep C.key (Vis hid s.heap) v d ∧ (env.kindOf x = some .local → bindL env.kindOf (ps.zip vs) (fun _ => none) x = some v) ∧ (env.kindOf x ≠ some .local → bindC env.kindOf (ps.zip vs) (fun _ => none) x = some v) := fun x d h => bind_zip hnd hr x d h
  have noown : ∀ x d, (ps.zip ds).lookup x = some d → d.isOwn = true → False := fun x d h ho => by
    obtain ⟨v, r, _⟩ := args x d h
    cases d <;> first | exact r | cases ho
  exact {
    e := {
      kind := by rw [hsc]; exact hk
      glob := hgl
      bi := hbi
      tok := X₁.tok
      md := X₁.md
      tab := X₁.tab
      h106 := .inl X.h106
      hin := fun z hz => by
        rcases hz with q | q | ⟨m, q⟩
        · exact X₁.hin z q
        · obtain ⟨o, _, _, e, _⟩ := I.toInCall.ns
          exact ⟨o, q ▸ e⟩
        · obtain ⟨v, o, e, _⟩ := cellAt m z q
          exact ⟨o, e⟩
      L106 := fun q => absurd I.toInCall.fresh (Nat.not_le.mpr (q ▸ hP))
      opn := fun a ha q => q.elim (X.opn a ha) fun q => by
        obtain ⟨o, e⟩ := C.opx _ X.md a ha
        exact fresh a o q e
      cc := fun x hx => by
        rcases hx with q | q
        · have q : env.scope.names.lookup x = some .cell := q
          rw [hsc] at q
          rw [hcells]
          exact cellsFrom_some _ _ _ _ (lookup_mem_kind q)
        · exact absurd q (nofree x)
      loc := ⟨_, I.toInCall.ns, fun x d h _ hk' => by
        obtain ⟨v, r, h1, _⟩ := args x d h
        exact ⟨v, h1 hk', r.mono vis⟩⟩
      cel := fun x d h _ hk' => by
        have hk' : env.kindOf x = some .cell := hk'.elim id fun q => absurd q (nofree x)
        obtain ⟨v, r, _, h2⟩ := args x d h
        have hq : (env.cells.lookup x).isSome = true := by
          have q : env.scope.names.lookup x = some .cell := hk'
          rw [hsc] at q
          rw [hcells]
          exact cellsFrom_some _ _ _ _ (lookup_mem_kind q)
        obtain ⟨c, hc⟩ := Option.isSome_iff_exists.mp hq
        have hcell := I.cell x c hc
        rw [h2 (by rw [hk']; decide)] at hcell
        exact ⟨c, v, hc, fun q => absurd (wlo c (.inr ⟨x, hc⟩)) (Nat.not_le.mpr (q ▸ hP)), hcell, r.mono vis⟩ }
    h106 := X.h106
    hin := X₁.hin
    clo := hlo
    plo := hP
    wlo := wlo
    wl := .inl rfl
    dis := fun z hz q => by
      obtain ⟨o, e⟩ := X.hin z q
      exact fresh z o hz e
    wc := fun x c _ hc => ⟨.inr ⟨x, hc⟩, cellAt x c hc⟩
    ac := fun x y c h1 h2 => name_of_addr I.apart (mem_of_lookup h1) (mem_of_lookup h2)
    own := ⟨_, I.toInCall.ns, fun x d h ho => (noown x d h ho).elim, fun x y d d' z h1 h2 _ _ _ _ => (noown x d h1 h2).elim⟩ }

theorem Calm.deeper {A : Around} (h : Calm (n + 1) A) (env : Env) : Calm n (A.deeper env) := ⟨h.1, by have := h.2.1; show A.depth + 1 + n < 1000; omega, by have := h.2.2; show A.units + 3 + 10 * n < 5000; omega⟩
theorem Calm.room {A : Around} (h : Calm (n + 1) A) : A.depth < recursionLimit := by have := h.2.1; show A.depth < 1000; omega

/-- a def of the text with plain parameters -/
theorem Fn.def_ {a : Addr} {params : Arguments} {body : List Stmt} {scope : Scope} {qual : Str} {ps : List Str} {ds : List D} {d : D} (hfo : ∀ h, C.Md h → DefAt h a params body scope qual) (hbody : Ex true b C n scope (ps.zip ds) body (.ret d))
    (hbind : ∀ (fd : FuncData) (vals : List Value), fd.params = params → fd.defaults = .none → fd.kwdefaults = .none → vals.length = ds.length → bindArgs fd ⟨vals, []⟩ = pure (ps.zip vals)) (hnd : ps.Nodup := by decide) (hloc : ps.all (locCell scope) = true := by rfl) (hnf : noFree scope = true := by rfl)
    (hk : scope.kind = .function := by rfl) (hco : scope.isCoroutine = false := by rfl) (hgen : scope.isGenerator = false := by rfl) : Fn C b (n + 1) a ds d := fun A hid s R vs hA X hr hR => by
  obtain ⟨o, fd, ho, hd, hp, hbd, hs, hq, hg, hbi, hcl, hcd, hdf, hkd⟩ := (hfo _ X.md).ex
  subst hs
  refine codeAny_call_function hA.room ho hd hco hgen hbd (by rw [hq]; exact hcd) ?_
  rw [hbind fd vs hp hdf hkd (paired_length hr), hcl]
  refine wpAny_pure (wpAny_mono (wpAny_toks (wpAny_newFunctionEnv_cells (Q := fun env s' => env = callEnvC fd s.heap.objs.size a ∧ InCallC s (callEnvC fd s.heap.objs.size a).locals (bindL (callEnvC fd s.heap.objs.size a).kindOf (ps.zip vs) fun _ => none) (callEnvC fd s.heap.objs.size a).cells (bindC (callEnvC fd s.heap.objs.size a).kindOf (ps.zip vs) fun _ => none) s') hk ?_ fun env he s' x => ?_)) ?_ fun _ _ e => e.2)
  · rintro ⟨x, v⟩ hx
    have hx : x ∈ ps := (List.of_mem_zip hx).1
    have := List.all_eq_true.mp hloc x hx
    rcases locCell_of (env := callEnvC fd s.heap.objs.size a) this rfl with q | q
    · exact .inl q
    · exact .inr ⟨q, cellsFrom_some _ _ _ _ (lookup_mem_kind q)⟩
  · subst he; exact ⟨rfl, x⟩
  · rintro env s₁ ⟨ht, rfl, I⟩
    have X₁ := EnvX.start X hr hnd hk hg hbi hloc hnf I ht
    obtain ⟨h₁, tk, rfl⟩ := I.toInCall.same
    have hkeep := I.toInCall.keep
    refine ⟨(C.lim _ X.md).keeps hkeep, codeAny_func (wpAny_mono (hbody.all (A.deeper _) _ hid _ s.heap.objs.size _ _ rfl (hA.deeper _) X₁) ?_ fun _ _ e => e)⟩
    rintro fl s₂ ⟨K, v, rfl, rv⟩
    refine hR v s₂ ?_ rv
    obtain ⟨h₂, tk₂, rfl, k₂, t₂⟩ := K
    have fresh : ∀ z o, s.heap.get? z = some o → ¬ FrW (callEnvC fd s.heap.objs.size a) z := fun z o e hz => absurd (Heap.lt_size e) (Nat.not_lt.mpr (X₁.wlo z hz))
    cases b
    · exact ⟨h₂, tk₂, rfl, fun z o nz e => k₂ z o (fresh z o e) (.inl nz) (hkeep z o e), fun t => t₂ (tab_of_keeps hkeep t)⟩
    · exact ⟨h₂, tk₂, rfl, fun z o e => k₂ z o (fresh z o e) (.inr rfl) (hkeep z o e)⟩
end
end Mine
end
section
open PySem PySem.W PyProof.Rows PySem.Calls
namespace Mine
/-- less is known of the names -/
def Sub (ρ' ρ : List (Str × D)) : Prop := ∀ x d, ρ'.lookup x = some d → ρ.lookup x = some d
theorem Sub.refl (ρ : List (Str × D)) : Sub ρ ρ := fun _ _ h => h
theorem Sub.trans {a b c : List (Str × D)} (x : Sub a b) (y : Sub b c) : Sub a c := fun z d h => y z d (x z d h)
theorem Sub.nil {ρ : List (Str × D)} : Sub [] ρ := fun _ _ h => by cases h
theorem Sub.cons {ρ ρ' : List (Str × D)} {x : Str} {d : D} (h : ρ.lookup x = some d) (r : Sub ρ' ρ) : Sub ((x, d) :: ρ') ρ := fun y e q => by
  rw [List.lookup_cons] at q
  cases hy : y == x with
  | true => rw [hy] at q; cases q; rw [beq_iff_eq.mp hy]; exact h
  | false => rw [hy] at q; exact r y e q

theorem EnvX.sub {C : Ctx} {hid₀ W : Addr → Prop} {lo : Nat} {env : Env} {ρ ρ' : List (Str × D)} {s : Shared} (X : EnvX C hid₀ W lo env ρ s) (h : Sub ρ' ρ) : EnvX C hid₀ W lo env ρ' s :=
  { X with
    e := { X.e with
      loc := let ⟨m, a, b⟩ := X.e.loc; ⟨m, a, fun y d e => b y d (h y d e)⟩
      cel := fun y d e => X.e.cel y d (h y d e) }
    own := let ⟨m, a, b, c⟩ := X.own; ⟨m, a, fun x d e => b x d (h x d e), fun x y d d' z e1 e2 e3 => c x y d d' z (h x d e1) e2 (h y d' e3)⟩ }

theorem EnvE.sub {C : Ctx} {hid : Addr → Prop} {env : Env} {ρ ρ' : List (Str × D)} {s : Shared} (X : EnvE C hid env ρ s) (h : Sub ρ' ρ) : EnvE C hid env ρ' s :=
  { X with
    loc := let ⟨m, a, b⟩ := X.loc; ⟨m, a, fun y d e => b y d (h y d e)⟩
    cel := fun y d e => X.cel y d (h y d e) }
section
variable {g b : Bool} {C : Ctx} {n : Nat} {sc : Scope} {ρ ρ' ρ₁ ρ₂ : List (Str × D)} {out : Out}
theorem Ev.pre {e : Expr} {d : D} (h : Ev C b n sc ρ' e d) (hs : Sub ρ' ρ) : Ev C b n sc ρ e d := .mk fun A env hid s E hsc hA X => h.all A env hid s E hsc hA (X.sub hs)
theorem Tr.pre {e : Expr} {c : Bool} (h : Tr C b n sc ρ' e c) (hs : Sub ρ' ρ) : Tr C b n sc ρ e c := .mk fun A env hid s E hsc hA X => h.all A env hid s E hsc hA (X.sub hs)
theorem Ex.pre {ss : List Stmt} (h : Ex g b C n sc ρ' ss out) (hs : Sub ρ' ρ) : Ex g b C n sc ρ ss out := .mk fun A env hid₀ W lo s E hsc hA X => h.all A env hid₀ W lo s E hsc hA (X.sub hs)
theorem Ex.post {ss : List Stmt} (h : Ex g b C n sc ρ ss (.next ρ₁)) (hs : Sub ρ₂ ρ₁) : Ex g b C n sc ρ ss (.next ρ₂) := .mk fun A env hid₀ W lo s E hsc hA X =>
  wpAny_mono (h.all A env hid₀ W lo s E hsc hA X) (fun fl s' ⟨K, e, W', w1, w2, X'⟩ => ⟨K, e, W', w1, w2, X'.sub hs⟩) fun _ _ e => e
theorem Sm.post {ss : Stmt} (h : Sm g b C n sc ρ ss (.next ρ₁)) (hs : Sub ρ₂ ρ₁) : Sm g b C n sc ρ ss (.next ρ₂) := .mk fun A env hid₀ W lo s E hsc hA X =>
  wpAny_mono (h.all A env hid₀ W lo s E hsc hA X) (fun fl s' ⟨K, e, W', w1, w2, X'⟩ => ⟨K, e, W', w1, w2, X'.sub hs⟩) fun _ _ e => e
theorem Ex.postB {ss : List Stmt} (h : Ex g b C n sc ρ ss (.brk ρ₁)) (hs : Sub ρ₂ ρ₁) : Ex g b C n sc ρ ss (.brk ρ₂) := .mk fun A env hid₀ W lo s E hsc hA X =>
  wpAny_mono (h.all A env hid₀ W lo s E hsc hA X) (fun fl s' ⟨K, e, W', w1, w2, X'⟩ => ⟨K, e, W', w1, w2, X'.sub hs⟩) fun _ _ e => e

/-- the turns of a while -/
inductive Whl (b : Bool) (C : Ctx) (n : Nat) (sc : Scope) (test : Expr) (body : List Stmt) : List (Str × D) → List (Str × D) → Prop
  | stop {ρ : List (Str × D)} : Tr C b n sc ρ test false → Whl b C n sc test body ρ ρ
  | step {ρ ρ₁ ρ₂ : List (Str × D)} : Tr C b n sc ρ test true → Ex false b C n sc ρ body (.next ρ₁) → Whl b C n sc test body ρ₁ ρ₂ → Whl b C n sc test body ρ ρ₂
  | brk {ρ ρ₁ : List (Str × D)} : Tr C b n sc ρ test true → Ex false b C n sc ρ body (.brk ρ₁) → Whl b C n sc test body ρ ρ₁
theorem Whl.turns {test : Expr} {body : List Stmt} (h : Whl b C n sc test body ρ ρ₁) : ∃ (N : Nat) (J : Nat → List (Str × D)), J 0 = ρ ∧ (∀ i, i < N → Tr C b n sc (J i) test true ∧ Ex false b C n sc (J i) body (.next (J (i + 1)))) ∧
    ((Tr C b n sc (J N) test false ∧ ρ₁ = J N) ∨ (Tr C b n sc (J N) test true ∧ Ex false b C n sc (J N) body (.brk ρ₁))) := by
  induction h with
  | @stop ρ h => exact ⟨0, fun _ => ρ, rfl, fun i hi => absurd hi (Nat.not_lt_zero _), .inl ⟨h, rfl⟩⟩
  | @brk ρ ρ₁ h h' => exact ⟨0, fun _ => ρ, rfl, fun i hi => absurd hi (Nat.not_lt_zero _), .inr ⟨h, h'⟩⟩
  | @step ρ ρ₁ ρ₂ h h' _ ih =>
    obtain ⟨N, J, e, st, fin⟩ := ih
    refine ⟨N + 1, fun i => match i with | 0 => ρ | i + 1 => J i, rfl, fun i hi => ?_, fin⟩
    cases i with
    | zero => exact ⟨h, by show Ex false b C n sc ρ body (.next (J 0)); rw [e]; exact h'⟩
    | succ i => exact st i (by omega)
theorem Sm.while_ {test : Expr} {body : List Stmt} {pos : Pos} (h : Whl b C n sc test body ρ ρ₁) : Sm g b C n sc ρ (.While test body [] pos) (.next ρ₁) := by
  obtain ⟨N, J, e, st, fin⟩ := h.turns
  exact Sm.whl N J e st fin
end

/-! the text's defs -/
def stBody : Stmt → List Stmt
  | .FunctionDef _ _ body _ _ _ _ _ _ _ => body
  | _ => []
def stScope : Stmt → Scope
  | .FunctionDef _ _ _ _ _ _ scope _ _ _ => scope
  | _ => default
def stArgs : Stmt → Arguments
  | .FunctionDef _ args _ _ _ _ _ _ _ _ => args
  | _ => ⟨[], [], none, [], [], none, []⟩
def fst (i : Nat) : Stmt := (prog.main.body[i]?).getD (.Pass ⟨0, 0, 0, 0⟩)
def nth (ss : List Stmt) (i : Nat) : Stmt := (ss[i]?).getD (.Pass ⟨0, 0, 0, 0⟩)
def whlT : Stmt → Expr
  | .While t _ _ _ => t
  | _ => .Constant .none 0 ⟨0, 0, 0, 0⟩
def whlB : Stmt → List Stmt
  | .While _ b _ _ => b
  | _ => []
def bd (i : Nat) : List Stmt := stBody (fst i)
def scp (i : Nat) : Scope := stScope (fst i)
def prm (i : Nat) : Arguments := stArgs (fst i)
end Mine
end
section
open PySem PySem.W PyProof.Rows PySem.Calls
namespace Mine
/-- a text from its signs -/
def tx (l : List Nat) : Str := ⟨l.toArray⟩
theorem tx_len (l : List Nat) : (tx l).length = l.length := by simp [tx, Str.length]
theorem tx_app (a b : List Nat) : tx a ++ tx b = tx (a ++ b) := by
  show (⟨a.toArray ++ b.toArray⟩ : Str) = ⟨(a ++ b).toArray⟩
  simp
theorem tx_inj {a b : List Nat} (h : tx a = tx b) : a = b := by
  have : a.toArray = b.toArray := congrArg Str.cps h
  simpa using this
theorem tx_eq {a b : List Nat} : tx a = tx b ↔ a = b := ⟨tx_inj, fun h => h ▸ rfl⟩
theorem tx_beq (a b : List Nat) : (tx a == tx b) = (a == b) := by
  rw [Bool.eq_iff_iff, beq_iff_eq, beq_iff_eq, tx_eq]
theorem tx_bne (a b : List Nat) : (tx a != tx b) = (a != b) := by unfold bne; rw [tx_beq]
theorem tx_cps (x : Str) : tx x.cps.toList = x := by simp [tx]
theorem slice_ij (l : List Nat) (i j : Nat) (h : i ≤ j) (hj : j ≤ l.length) : Txt.slice (tx l) (some (i : Int)) (some (j : Int)) = tx ((l.drop i).take (j - i)) := by
  have := beq_iff_eq.mp (slice_closes (x := tx l) (i := i) (j := j) ⟨by omega, by omega, by simp [tx]; omega⟩)
  rw [this]
  simp [tx]
theorem slice_0j (l : List Nat) (j : Nat) (hj : j ≤ l.length) : Txt.slice (tx l) none (some (j : Int)) = tx (l.take j) := by
  have := beq_iff_eq.mp (slice_closes_to (x := tx l) (j := j) ⟨by omega, by simp [tx]; omega⟩)
  rw [this]
  simp [tx]
theorem slice_i0 (l : List Nat) (i : Nat) : Txt.slice (tx l) (some (i : Int)) none = tx (l.drop i) := by
  by_cases h : i ≤ l.length
  · have := beq_iff_eq.mp (slice_closes_from (x := tx l) (i := i) ⟨by omega, by simp [tx]; omega⟩)
    rw [this]
    simp [tx]
    exact List.take_of_length_le (by simp)
  · rw [slice_beyond (by rw [tx_len]; omega), List.drop_eq_nil_of_le (by omega)]
    rfl
theorem clamp_hi {n : Nat} (j : Nat) (lo : Option Int) (h : n ≤ j) : Builtin.Str.strSliceIndices lo (some (j : Int)) 1 n = Builtin.Str.strSliceIndices lo (some (n : Int)) 1 n := by
  have h0 : ¬ (j : Int) < 0 := by omega
  have h1 : ¬ ((n : Int) < 0) := by omega
  have h2 : (1 : Int) > 0 := by decide
  have h3 : (n : Int) ≤ (j : Int) := by omega
  simp only [Builtin.Str.strSliceIndices, h0, h1, h2, if_false, if_true, Int.min_eq_right h3, Int.min_self]
theorem slice_to (l : List Nat) (j : Nat) : Txt.slice (tx l) none (some (j : Int)) = tx (l.take j) := by
  by_cases h : j ≤ l.length
  · exact slice_0j l j h
  · have : Txt.slice (tx l) none (some (j : Int)) = Txt.slice (tx l) none (some (l.length : Int)) := by
      unfold Txt.slice
      rw [clamp_hi (n := (tx l).length) j none (by rw [tx_len]; omega), tx_len]
    rw [this, slice_0j l l.length (Nat.le_refl _), List.take_length, List.take_of_length_le (by omega)]
theorem clamp_lo {n : Nat} (i : Nat) (hi : Option Int) (h : n ≤ i) : Builtin.Str.strSliceIndices (some (i : Int)) hi 1 n = Builtin.Str.strSliceIndices (some (n : Int)) hi 1 n := by
  have h0 : ¬ (i : Int) < 0 := by omega
  have h1 : ¬ ((n : Int) < 0) := by omega
  have h2 : (1 : Int) > 0 := by decide
  have h3 : (n : Int) ≤ (i : Int) := by omega
  simp only [Builtin.Str.strSliceIndices, h0, h1, h2, if_false, if_true, Int.min_eq_right h3, Int.min_self]
theorem slice_mid (l : List Nat) (i j : Nat) (h : i ≤ j) : Txt.slice (tx l) (some (i : Int)) (some (j : Int)) = tx ((l.take j).drop i) := by
  have hn := tx_len l
  by_cases hj : j ≤ l.length
  · rw [slice_ij l i j h hj, List.drop_take]
  · have e1 : Txt.slice (tx l) (some (i : Int)) (some (j : Int)) = Txt.slice (tx l) (some (i : Int)) (some (l.length : Int)) := by
      unfold Txt.slice
      rw [clamp_hi (n := (tx l).length) j _ (by rw [tx_len]; omega), tx_len]
    rw [e1, List.take_of_length_le (by omega)]
    by_cases hi : i ≤ l.length
    · rw [slice_ij l i l.length hi (Nat.le_refl _), List.take_of_length_le (by simp)]
    · have e2 : Txt.slice (tx l) (some (i : Int)) (some (l.length : Int)) = Txt.slice (tx l) (some (l.length : Int)) (some (l.length : Int)) := by
        unfold Txt.slice
        rw [clamp_lo (n := (tx l).length) i _ (by rw [tx_len]; omega), tx_len]
      rw [e2, slice_ij l l.length l.length (Nat.le_refl _) (Nat.le_refl _), List.drop_eq_nil_of_le (by omega)]
      simp
      rw [List.drop_eq_nil_of_le (by omega)]
theorem at_tx (l : List Nat) (i : Nat) : (tx l).cps[i]? = l[i]? := by simp [tx]

theorem join_nil : ∀ (ls : List (List Nat)), Txt.join (tx []) (ls.map tx) = tx ls.flatten := fun ls => by
  unfold Txt.join
  rw [StrLaws.glued_eq_join]
  induction ls with
  | nil => rfl
  | cons a r ih =>
    cases r with
    | nil => simp [Str.join]
    | cons b r =>
      show tx a ++ tx [] ++ Str.join (tx []) ((b :: r).map tx) = _
      rw [ih, tx_app, tx_app]
      simp
theorem strike_tx (l : List Nat) (c : Nat) : Txt.replace (tx l) (tx [c]) (tx []) = tx (l.filter (· != c)) := by
  have h := replace_strikes (tx l) c
  rw [← tx_cps (Txt.replace (tx l) (tx [c]) (tx []))]
  exact congrArg tx (h.trans (by simp [tx]))
theorem double_tx (l : List Nat) (c : Nat) : Txt.replace (tx l) (tx [c]) (tx [c, c]) = tx (StrLaws.dbl c l) := by
  have h := StrLaws.replace_double (tx l) c
  rw [← tx_cps (Txt.replace (tx l) (tx [c]) (tx [c, c]))]
  exact congrArg tx (h.trans (by simp [tx]))
theorem cnt_count (c : Nat) : ∀ l : List Nat, cnt c l = (l.count c : Int)
  | [] => rfl
  | n :: r => by
    rw [cnt_cons, cnt_count c r, List.count_cons]
    by_cases h : n = c
    · simp [h]; omega
    · simp [h]
theorem count_tx (l : List Nat) (c : Nat) : Txt.count (tx l) (tx [c]) = (l.count c : Int) := by
  have := count_cnt (tx l) c
  rw [cnt_count] at this
  simpa [tx] using this
/-- the parts between the signs c -/
def splitL (c : Nat) : List Nat → List (List Nat)
  | [] => [[]]
  | x :: r => if x = c then [] :: splitL c r else match splitL c r with
    | [] => [[x]]
    | p :: ps => (x :: p) :: ps
theorem splitL_ne (c : Nat) : ∀ l, splitL c l ≠ []
  | [] => by simp [splitL]
  | x :: r => by
    unfold splitL
    split
    · simp
    · split <;> simp
theorem splitL_free (c : Nat) : ∀ p : List Nat, c ∉ p → splitL c p = [p]
  | [], _ => rfl
  | x :: r, h => by
    have h1 : ¬ x = c := fun e => h (e ▸ List.mem_cons_self)
    unfold splitL
    rw [if_neg h1, splitL_free c r fun m => h (List.mem_cons_of_mem _ m)]
theorem splitL_app (c : Nat) : ∀ (p r : List Nat), c ∉ p → splitL c (p ++ c :: r) = p :: splitL c r
  | [], r, _ => by simp [splitL]
  | x :: p, r, h => by
    have h1 : ¬ x = c := fun e => h (e ▸ List.mem_cons_self)
    have ih := splitL_app c p r fun m => h (List.mem_cons_of_mem _ m)
    show (if x = c then [] :: splitL c (p ++ c :: r) else match splitL c (p ++ c :: r) with | [] => [[x]] | p :: ps => (x :: p) :: ps) = _
    rw [if_neg h1, ih]
theorem splitL_join (c : Nat) : ∀ parts : List Str, parts ≠ [] → (∀ p ∈ parts, c ∉ p.cps.toList) → splitL c (Str.join ⟨#[c]⟩ parts).cps.toList = parts.map fun p => p.cps.toList
  | [], h, _ => absurd rfl h
  | [p], _, h => splitL_free c _ (h p (List.mem_singleton.mpr rfl))
  | p :: q :: r, _, h => by
    have ih := splitL_join c (q :: r) (by simp) fun a ha => h a (List.mem_cons_of_mem _ ha)
    have e : (Str.join ⟨#[c]⟩ (p :: q :: r)).cps.toList = p.cps.toList ++ c :: (Str.join ⟨#[c]⟩ (q :: r)).cps.toList := by
      show (p ++ ⟨#[c]⟩ ++ Str.join ⟨#[c]⟩ (q :: r)).cps.toList = _
      simp only [Str.cps_append, Array.toList_append]
      simp
    rw [e, splitL_app c _ _ (h p List.mem_cons_self), ih]
    rfl
theorem split_tx (l : List Nat) (c : Nat) : Txt.split (tx l) (tx [c]) = (splitL c l).map tx := by
  have h1 := StrLaws.join_split (tx l) (tx [c])
  have h2 := StrLaws.split_free (tx l) c
  have hne : Txt.split (tx l) (tx [c]) ≠ [] := fun e => by
    have := split_pos (tx l) (tx [c])
    rw [e] at this
    exact absurd this (by decide)
  have h3 := splitL_join c (Txt.split (tx l) (tx [c])) hne h2
  have h4 : (Str.join ⟨#[c]⟩ (Txt.split (tx l) (tx [c]))).cps.toList = l := by
    have : Str.join ⟨#[c]⟩ (Txt.split (tx l) (tx [c])) = tx l := h1
    rw [this]; simp [tx]
  rw [h4] at h3
  rw [h3, List.map_map]
  conv => lhs; rw [← List.map_id (Txt.split (tx l) (tx [c]))]
  exact List.map_congr_left fun p _ => (tx_cps p).symm
end Mine
end
section
open PySem PySem.W PyProof.Rows PySem.Calls
namespace Mine
section
variable {g b : Bool} {C : Ctx} {n : Nat} {sc : Scope} {ρ : List (Str × D)}
/-- one of the tests answers True -/
structure TrAny (C : Ctx) (b : Bool) (n : Nat) (sc : Scope) (ρ : List (Str × D)) (es : List Expr) (c : Bool) : Prop where
  all : ∀ (A : Around) (env : Env) (hid : Addr → Prop) (s : Shared) (E : Value → Shared → Prop), env.scope = sc → Calm n A → EnvE C hid env ρ s →
    wpAny (model prog C.w) A (allTrue .Or es env) (fun v s' => v = c ∧ KR b s s') E s
theorem TrAny.nil : TrAny C b n sc ρ [] false := .mk fun A env hid s E hs hA X => wpAny_allTrue_Or_nil ⟨rfl, .refl _⟩
theorem TrAny.cons {x : Expr} {es : List Expr} {c d : Bool} (h : Tr C b n sc ρ x c) (hd : c = false → TrAny C b n sc ρ es d) : TrAny C b n sc ρ (x :: es) (c || d) := .mk fun A env hid s E hs hA X => by
  refine wpAny_allTrue_Or_cons (h.go hs hA X fun s' k t X' => ?_)
  cases c with
  | true => exact ⟨rfl, k⟩
  | false => exact wpAny_mono ((hd rfl).all A env hid s' E hs hA X') (fun v s'' x => ⟨by simpa using x.1, k.trans x.2⟩) fun _ _ x => x
theorem Tr.or {es : List Expr} {p : Pos} {c : Bool} (h : TrAny C b n sc ρ es c) : Tr C b n sc ρ (.BoolOp .Or es p) c := .mk fun A env hid s E hs hA X =>
  wpAny_isTrue_BoolOp (h.all A env hid s E hs hA X)
theorem Tr.eq {e : Expr} {c d : Bool} (h : Tr C b n sc ρ e c) (hc : c = d) : Tr C b n sc ρ e d := hc ▸ h
theorem Ev.eq {e : Expr} {c d : D} (h : Ev C b n sc ρ e c) (hc : c = d) : Ev C b n sc ρ e d := hc ▸ h
theorem Ev.strT {x : Str} (l : List Nat) {k : Nat} {p : Pos} (h : x = tx l := by rfl) : Ev C b n sc ρ (.Constant (.str x) k p) (.str (tx l)) := h ▸ Ev.str
theorem Ev.intN {i : Int} (j : Nat) {k : Nat} {p : Pos} (h : i = (j : Int) := by rfl) : Ev C b n sc ρ (.Constant (.int i) k p) (.int (j : Int)) := h ▸ Ev.int
/-- slices of texts -/
theorem Ev.sTo {v u : Expr} {p pos : Pos} {l : List Nat} {j : Nat} (hv : Ev C b n sc ρ v (.str (tx l))) (hu : Ev C b n sc ρ u (.int (j : Int))) (hz : l.length ≤ 10000) : Ev C b n sc ρ (.Subscript v (.Slice none (some u) none p) pos) (.str (tx (l.take j))) := by
  rw [← slice_to]
  exact Ev.slice (lo := none) (hi := some (j : Int)) (st := none) hv trivial hu trivial (Slc.str (by rw [tx_len]; exact hz))
theorem Ev.sFrom {v u : Expr} {p pos : Pos} {l : List Nat} {j : Nat} (hv : Ev C b n sc ρ v (.str (tx l))) (hu : Ev C b n sc ρ u (.int (j : Int))) (hz : l.length ≤ 10000) : Ev C b n sc ρ (.Subscript v (.Slice (some u) none none p) pos) (.str (tx (l.drop j))) := by
  rw [← slice_i0]
  exact Ev.slice (lo := some (j : Int)) (hi := none) (st := none) hv hu trivial trivial (Slc.str (by rw [tx_len]; exact hz))
theorem Ev.sMid {v u w : Expr} {p pos : Pos} {l : List Nat} {i j : Nat} (hv : Ev C b n sc ρ v (.str (tx l))) (hu : Ev C b n sc ρ u (.int (i : Int))) (hw : Ev C b n sc ρ w (.int (j : Int))) (hij : i ≤ j) (hz : l.length ≤ 10000) : Ev C b n sc ρ (.Subscript v (.Slice (some u) (some w) none p) pos) (.str (tx ((l.take j).drop i))) := by
  rw [← slice_mid l i j hij]
  exact Ev.slice (lo := some (i : Int)) (hi := some (j : Int)) (st := none) hv hu hw trivial (Slc.str (by rw [tx_len]; exact hz))
theorem Ev.sAt {v u : Expr} {pos : Pos} {l : List Nat} {j c : Nat} (hv : Ev C b n sc ρ v (.str (tx l))) (hu : Ev C b n sc ρ u (.int (j : Int))) (hc : l[j]? = some c) (hz : l.length ≤ 10000) (hs : ∀ o i, subscripted u false o i = operate [o, i] (getItem o i) := by intro _ _; rfl) : Ev C b n sc ρ (.Subscript v u pos) (.str (tx [c])) := by
  have hlt : j < l.length := (List.getElem?_eq_some_iff.mp hc).1
  exact Ev.item hv hu (Itm.str (by omega) (by omega) (by rw [show ((j : Int)).toNat = j from by omega, at_tx]; exact hc)) hs
theorem Ev.cat {l r : Expr} {p : Pos} {x y : List Nat} (hl : Ev C b n sc ρ l (.str (tx x))) (hr : Ev C b n sc ρ r (.str (tx y))) (hz : x.length + y.length ≤ 10000) : Ev C b n sc ρ (.BinOp l .Add r p) (.str (tx (x ++ y))) := by
  rw [← tx_app]
  exact Ev.bin hl hr (Bop.addStr (by rw [tx_len, tx_len]; exact hz))
theorem Ev.addN {l r : Expr} {p : Pos} {x y : Nat} (hl : Ev C b n sc ρ l (.int (x : Int))) (hr : Ev C b n sc ρ r (.int (y : Int))) : Ev C b n sc ρ (.BinOp l .Add r p) (.int ((x + y : Nat) : Int)) := by
  rw [Int.natCast_add]
  exact Ev.bin hl hr Bop.addInt
theorem Cmp.eqT {x y : List Nat} : Cmp C n .Eq (.str (tx x)) (.str (tx y)) (x == y) := tx_beq x y ▸ Cmp.eqStr
theorem Cmp.neT {x y : List Nat} : Cmp C n .NotEq (.str (tx x)) (.str (tx y)) (x != y) := tx_bne x y ▸ Cmp.neStr
theorem Cmp.ltN {x y : Nat} : Cmp C n .Lt (.int (x : Int)) (.int (y : Int)) (decide (x < y)) := by
  have := Cmp.ltInt (C := C) (n := n) (i := (x : Int)) (j := (y : Int))
  rwa [show decide ((x : Int) < (y : Int)) = decide (x < y) from decide_eq_decide.mpr (by omega)] at this
theorem Cmp.geN {x y : Nat} : Cmp C n .GtE (.int (x : Int)) (.int (y : Int)) (decide (y ≤ x)) := by
  have := Cmp.geInt (C := C) (n := n) (i := (x : Int)) (j := (y : Int))
  rwa [show decide ((y : Int) ≤ (x : Int)) = decide (y ≤ x) from decide_eq_decide.mpr (by omega)] at this
theorem Ev.lenT {e : Expr} {p pos : Pos} {l : List Nat} (h : Ev C b n sc ρ e (.str (tx l))) (hz : l.length ≤ 10000) (hk : sc.names.lookup ("len" : Str) = some .globalImplicit := by rfl)
    (hp : ∀ env, starEach (e :: []) env = (false, eval e env) :: starEach [] env := by intro _; rfl) (hp2 : ∀ env, (backTo pos (starEach [e] env)).any (·.1) = false := by intro _; rfl) : Ev C b n sc ρ (.Call (.Name "len" p) [e] [] pos) (.int (l.length : Int)) := by
  have := Ev.callB (id := "len") (p := p) (pos := pos) (Evs.cons h Evs.nil hp) (Bi.lenStr (C := C) (n := n) (x := tx l) (by rw [tx_len]; exact hz)) (by decide +kernel) (by decide) hk hp2
  rwa [tx_len] at this
end

/-- what parse257 tells of the signs behind the opening -/
def told : List Nat → List Nat
  | [] => []
  | [c] => if c = 34 then [] else [c]
  | c :: d :: r => if c = 34 then (if d = 34 then 34 :: told r else []) else c :: told (d :: r)


section
variable {C : Ctx} {n : Nat}
theorem told_one (c : Nat) (h : c ≠ 34) (r : List Nat) : told (c :: r) = c :: told r := by
  cases r with
  | nil => simp [told, h]
  | cons d r => simp [told, h]
theorem drop_get {l r : List Nat} {i c : Nat} (h : l.drop i = c :: r) : l[i]? = some c ∧ l.drop (i + 1) = r := by
  refine ⟨?_, ?_⟩
  · have := congrArg (·[0]?) h
    simpa using this
  · have := congrArg (List.drop 1) h
    simpa [List.drop_drop] using this
def whl3 : Stmt := nth (bd 3) 5
/-- how parse257 goes on when it has told acc and has the signs r left -/
theorem parse_loop : ∀ (k : Nat) (r acc l : List Nat) (i : Nat) (ρ₀ : List (Str × D)), r.length ≤ k → l.drop i = r → i + r.length = l.length → acc.length + r.length ≤ 1000 → l.length ≤ 1000 →
    Sub [("resp", .str (tx l)), ("n", .int (l.length : Int)), ("i", .int (i : Int)), ("dirname", .str (tx acc))] ρ₀ →
      ∃ ρ₁, Sub [("dirname", .str (tx (acc ++ told r)))] ρ₁ ∧ Whl true C n (scp 3) (whlT whl3) (whlB whl3) ρ₀ ρ₁
  | k, [], acc, l, i, ρ₀, hk, hd, hi, hz, hl, hs => by
    refine ⟨ρ₀, (Sub.cons (by simp [told]; rfl) Sub.nil).trans hs, Whl.stop (Tr.pre (Tr.eq (Tr.cmp (Ev.var rfl) (Ev.var rfl) Cmp.ltN) ?_) hs)⟩
    simp at hi
    simp [hi]
  | 0, c :: r, _, _, _, _, hk, _, _, _, _, _ => by simp at hk
  | k + 1, c :: r, acc, l, i, ρ₀, hk, hd, hi, hz, hl, hs => by
    obtain ⟨hc, hd'⟩ := drop_get hd
    have hlt : i < l.length := (List.getElem?_eq_some_iff.mp hc).1
    simp only [List.length_cons] at hk hi hz
    have test : Tr C true n (scp 3) ρ₀ (whlT whl3) true := Tr.pre (Tr.eq (Tr.cmp (Ev.var rfl) (Ev.var rfl) Cmp.ltN) (by simpa using hlt)) hs
    by_cases h34 : c = 34
    · subst h34
      cases r with
      | nil =>
        have hend : l.length ≤ i + 1 := by simp at hi; omega
        refine ⟨[("i", .int ((i + 1 : Nat) : Int)), ("c", .str (tx [34])), ("resp", .str (tx l)), ("n", .int (l.length : Int)), ("i", .int (i : Int)), ("dirname", .str (tx acc))], Sub.cons (by simp [told]; rfl) Sub.nil, Whl.brk test (Ex.pre (ρ' := [("resp", .str (tx l)), ("n", .int (l.length : Int)), ("i", .int (i : Int)), ("dirname", .str (tx acc))]) ?_ hs)⟩
        refine Ex.cons (Sm.assign (Ev.sAt (Ev.var rfl) (Ev.var rfl) hc (by omega))) ?_
        refine Ex.cons (Sm.assign (Ev.addN (Ev.var rfl) (Ev.intN 1))) ?_
        refine Ex.brk (Sm.if_ (Tr.cmp (Ev.var rfl) (Ev.strT [34]) Cmp.eqT) (fun _ => ?_) fun h => absurd h (by simp))
        exact Ex.brk (Sm.if_ (Tr.or (TrAny.cons (d := true) (Tr.cmp (Ev.var rfl) (Ev.var rfl) Cmp.geN) fun h => absurd h (by simp [hend]))) (fun _ => Ex.brk Sm.brk) fun h => absurd h (by simp))
      | cons d r =>
        obtain ⟨hc2, hd2⟩ := drop_get hd'
        have hlt2 : i + 1 < l.length := (List.getElem?_eq_some_iff.mp hc2).1
        have hnot : ¬ l.length ≤ i + 1 := by omega
        by_cases hd34 : d = 34
        · subst hd34
          simp only [List.length_cons] at hk hi hz
          obtain ⟨ρ₁, h1, h2⟩ := parse_loop k r (acc ++ [34]) l (i + 2) [("dirname", .str (tx (acc ++ [34]))), ("i", .int ((i + 1 + 1 : Nat) : Int)), ("i", .int ((i + 1 : Nat) : Int)), ("c", .str (tx [34])), ("resp", .str (tx l)), ("n", .int (l.length : Int)), ("i", .int (i : Int)), ("dirname", .str (tx acc))] (by omega) hd2 (by omega) (by simp; omega) hl (Sub.cons rfl (Sub.cons rfl (Sub.cons rfl (Sub.cons rfl Sub.nil))))
          refine ⟨ρ₁, by simpa [told] using h1, Whl.step test (Ex.pre (ρ' := [("resp", .str (tx l)), ("n", .int (l.length : Int)), ("i", .int (i : Int)), ("dirname", .str (tx acc))]) ?_ hs) h2⟩
          refine Ex.cons (Sm.assign (Ev.sAt (Ev.var rfl) (Ev.var rfl) hc (by omega))) ?_
          refine Ex.cons (Sm.assign (Ev.addN (Ev.var rfl) (Ev.intN 1))) ?_
          refine Ex.cons (ρ₁ := [("i", .int ((i + 1 + 1 : Nat) : Int)), ("i", .int ((i + 1 : Nat) : Int)), ("c", .str (tx [34])), ("resp", .str (tx l)), ("n", .int (l.length : Int)), ("i", .int (i : Int)), ("dirname", .str (tx acc))]) (Sm.if_ (Tr.cmp (Ev.var rfl) (Ev.strT [34]) Cmp.eqT) (fun _ => ?_) fun h => absurd h (by simp)) ?_
          · refine Ex.cons (Sm.if_ (Tr.or (TrAny.cons (Tr.cmp (Ev.var rfl) (Ev.var rfl) Cmp.geN) fun _ => TrAny.cons (Tr.cmp (Ev.sAt (Ev.var rfl) (Ev.var rfl) hc2 (by omega)) (Ev.strT [34]) Cmp.neT) fun _ => TrAny.nil)) (fun h => absurd h (by simp [hnot])) fun _ => Ex.nil) ?_
            exact Ex.one (Sm.assign (Ev.addN (Ev.var rfl) (Ev.intN 1)))
          · exact Ex.one (Sm.assign (Ev.cat (Ev.var rfl) (Ev.var rfl) (by simp; omega)))
        · refine ⟨[("i", .int ((i + 1 : Nat) : Int)), ("c", .str (tx [34])), ("resp", .str (tx l)), ("n", .int (l.length : Int)), ("i", .int (i : Int)), ("dirname", .str (tx acc))], Sub.cons (by simp [told, hd34]; rfl) Sub.nil, Whl.brk test (Ex.pre (ρ' := [("resp", .str (tx l)), ("n", .int (l.length : Int)), ("i", .int (i : Int)), ("dirname", .str (tx acc))]) ?_ hs)⟩
          refine Ex.cons (Sm.assign (Ev.sAt (Ev.var rfl) (Ev.var rfl) hc (by omega))) ?_
          refine Ex.cons (Sm.assign (Ev.addN (Ev.var rfl) (Ev.intN 1))) ?_
          refine Ex.brk (Sm.if_ (Tr.cmp (Ev.var rfl) (Ev.strT [34]) Cmp.eqT) (fun _ => ?_) fun h => absurd h (by simp))
          exact Ex.brk (Sm.if_ (Tr.or (TrAny.cons (Tr.cmp (Ev.var rfl) (Ev.var rfl) Cmp.geN) fun _ => TrAny.cons (Tr.cmp (Ev.sAt (Ev.var rfl) (Ev.var rfl) hc2 (by omega)) (Ev.strT [34]) Cmp.neT) fun _ => TrAny.nil)) (fun _ => Ex.brk Sm.brk) fun h => absurd h (by simp [hd34]))
    · obtain ⟨ρ₁, h1, h2⟩ := parse_loop k r (acc ++ [c]) l (i + 1) [("dirname", .str (tx (acc ++ [c]))), ("i", .int ((i + 1 : Nat) : Int)), ("c", .str (tx [c])), ("resp", .str (tx l)), ("n", .int (l.length : Int)), ("i", .int (i : Int)), ("dirname", .str (tx acc))] (by omega) hd' (by omega) (by simp; omega) hl (Sub.cons rfl (Sub.cons rfl (Sub.cons rfl (Sub.cons rfl Sub.nil))))
      refine ⟨ρ₁, by rw [told_one c h34]; simpa using h1, Whl.step test (Ex.pre (ρ' := [("resp", .str (tx l)), ("n", .int (l.length : Int)), ("i", .int (i : Int)), ("dirname", .str (tx acc))]) ?_ hs) h2⟩
      refine Ex.cons (Sm.assign (Ev.sAt (Ev.var rfl) (Ev.var rfl) hc (by omega))) ?_
      refine Ex.cons (Sm.assign (Ev.addN (Ev.var rfl) (Ev.intN 1))) ?_
      refine Ex.cons (Sm.if_ (Tr.cmp (Ev.var rfl) (Ev.strT [34]) Cmp.eqT) (fun h => ?_) fun _ => Ex.nil) ?_
      · simp at h; exact absurd h h34
      · exact Ex.one (Sm.assign (Ev.cat (Ev.var rfl) (Ev.var rfl) (by simp; omega)))

theorem parse_body (l : List Nat) (h3 : l.take 3 = [50, 53, 55]) (hz : l.length ≤ 500) : Ex true true C n (scp 3) [("resp", .str (tx l))] (bd 3) (.ret (.str (tx (if (l.take 5).drop 3 = [32, 34] then told (l.drop 5) else [])))) := by
  refine Ex.cons (Sm.if_ (Tr.cmp (Ev.sTo (Ev.var rfl) (Ev.intN 3) (by omega)) (Ev.strT [50, 53, 55]) Cmp.neT) (fun h => absurd h (by simp [h3])) fun _ => Ex.nil) ?_
  by_cases h5 : (l.take 5).drop 3 = [32, 34]
  · rw [if_pos h5]
    refine Ex.cons (Sm.if_ (Tr.cmp (Ev.sMid (Ev.var rfl) (Ev.intN 3) (Ev.intN 5) (by decide) (by omega)) (Ev.strT [32, 34]) Cmp.neT) (fun h => absurd h (by simp [h5])) fun _ => Ex.nil) ?_
    refine Ex.cons (Sm.assign (Ev.strT [])) (Ex.cons (Sm.assign (Ev.intN 5)) (Ex.cons (Sm.assign (Ev.lenT (Ev.var rfl) (by omega))) ?_))
    have h5' : 5 ≤ l.length := by
      have := congrArg List.length h5
      simp at this
      omega
    obtain ⟨ρ₁, h1, h2⟩ := parse_loop (C := C) (n := n) l.length (l.drop 5) [] l 5 [("n", .int (l.length : Int)), ("i", .int ((5 : Nat) : Int)), ("dirname", .str (tx [])), ("resp", .str (tx l))] (by simp) rfl (by simp; omega) (by simp; omega) (by omega) (Sub.cons rfl (Sub.cons rfl (Sub.cons rfl (Sub.cons rfl Sub.nil))))
    refine Ex.cons (Sm.post (Sm.while_ h2) h1) (Ex.ret (Sm.ret (Ev.var rfl)))
  · rw [if_neg h5]
    exact Ex.ret (Sm.if_ (Tr.cmp (Ev.sMid (Ev.var rfl) (Ev.intN 3) (Ev.intN 5) (by decide) (by omega)) (Ev.strT [32, 34]) Cmp.neT) (fun _ => Ex.ret (Sm.ret (Ev.strT []))) fun h => absurd h (by simpa using h5))
end
end Mine
end
section
open PySem PySem.W PyProof.Rows PySem.Calls
namespace Mine
/-- the unseen signs, and those beside them -/
def unseenL : List Nat := [173, 847, 6150, 6155, 6156, 6157, 8203, 8204, 8205, 8288, 65024, 65025, 65026, 65027, 65028, 65029, 65030, 65031, 65032, 65033, 65034, 65035, 65036, 65037, 65038, 65039, 65279]
def besideL : List Nat := [172, 174, 846, 848, 6149, 6151, 6154, 6158, 8202, 8206, 8287, 8289, 65023, 65040, 65278, 65280]
def inB1 (c : Nat) : Bool := unseenL.contains c
def inB1Z (k : Int) : Bool := unseenL.any fun c => (c : Int) == k
theorem inB1Z_nat (c : Nat) : inB1Z (c : Int) = inB1 c := by
  unfold inB1Z inB1
  rw [List.contains_eq_any_beq]
  congr 1
  funext a
  rw [Bool.eq_iff_iff, beq_iff_eq, beq_iff_eq]
  omega

/-- what the heap holds of the text -/
structure Has (C : Ctx) : Prop where
  f3 : ∀ h, C.Md h → DefAt h 46 (prm 3) (bd 3) (scp 3) "parse257"
  set : ∀ h, C.Md h → h.SetOf (intKind prog C.w) 72 inB1Z 27
  f9 : ∀ h, C.Md h → DefAt h 82 (prm 9) (bd 9) (scp 9) "in_table_b1"
  f11 : ∀ h, C.Md h → DefAt h 87 (prm 11) (bd 11) (scp 11) "_law_signs"
  f12 : ∀ h, C.Md h → DefAt h 94 (prm 12) (bd 12) (scp 12) "_law_text"
  f13 : ∀ h, C.Md h → DefAt h 99 (prm 13) (bd 13) (scp 13) "_law_told"
  f14 : ∀ h, C.Md h → DefAt h 104 (prm 14) (bd 14) (scp 14) "_law_needed"
  f15 : ∀ h, C.Md h → DefAt h 111 (prm 15) (bd 15) (scp 15) "_law_place"
  f16 : ∀ h, C.Md h → DefAt h 118 (prm 16) (bd 16) (scp 16) "_law_found"
theorem DefAt.fn {h : Heap} {a : Addr} {p : Arguments} {b : List Stmt} {sc : Scope} {q : Str} (x : DefAt h a p b sc q) : ∃ o fd, h.get? a = some o ∧ o.data = .func fd := let ⟨o, fd, e, d, _⟩ := x.ex; ⟨o, fd, e, d⟩

theorem vals1 {vs : List Value} (h : vs.length = 1) : ∃ v, vs = [v] := match vs, h with | [v], _ => ⟨v, rfl⟩
theorem vals2 {vs : List Value} (h : vs.length = 2) : ∃ v u, vs = [v, u] := match vs, h with | [v, u], _ => ⟨v, u, rfl⟩
theorem vals4 {vs : List Value} (h : vs.length = 4) : ∃ v u w x, vs = [v, u, w, x] := match vs, h with | [v, u, w, x], _ => ⟨v, u, w, x, rfl⟩
theorem vals5 {vs : List Value} (h : vs.length = 5) : ∃ v u w x y, vs = [v, u, w, x, y] := match vs, h with | [v, u, w, x, y], _ => ⟨v, u, w, x, y, rfl⟩
theorem bind_eta {fd : FuncData} {p : Arguments} (h : fd.params = p) (h2 : fd.defaults = .none) (h3 : fd.kwdefaults = .none) (args : Args) : bindArgs fd args = bindArgs { fd with params := p, defaults := .none, kwdefaults := .none } args := by
  obtain ⟨⟩ := fd
  simp only at h h2 h3
  subst h h2 h3; rfl

/-! comprehensions over embedded lists -/
def deI : Sc → Int | .int i => i | _ => 0
def deS : Sc → Str | .str x => x | _ => ⟨#[]⟩
def deN (s : Sc) : Nat := (deI s).toNat
def deC (s : Sc) : Nat := (deS s).cps.getD 0 0
def emN (i : Nat) : Sc := .int (i : Int)
def emC (c : Nat) : Sc := .str (tx [c])
def emT (l : List Nat) : Sc := .str (tx l)
def deT (s : Sc) : List Nat := (deS s).cps.toList
theorem deN_em (i : Nat) : deN (emN i) = i := by simp [deN, deI, emN]
theorem deC_em (c : Nat) : deC (emC c) = c := rfl
theorem deT_em (l : List Nat) : deT (emT l) = l := by simp [deT, deS, emT, tx]
theorem em_map {α β : Type} {em : α → Sc} {de : Sc → α} (h : ∀ a, de (em a) = a) (p : α → Bool) (f : α → β) : ∀ xs : List α, ((xs.map em).filter (fun s => p (de s))).map (fun s => f (de s)) = (xs.filter p).map f
  | [] => rfl
  | x :: xs => by
    rw [List.map_cons, List.filter_cons, List.filter_cons, h]
    cases p x
    · simpa using em_map h p f xs
    · simp [h, em_map h p f xs]
theorem rng_map (m : Nat) : (rng 0 (m : Int)).map Sc.int = (List.range m).map emN := by
  unfold rng
  rw [show (((m : Int) - 0)).toNat = m by omega, List.map_map]
  refine List.map_congr_left fun i _ => ?_
  show Sc.int (0 + (i : Int)) = Sc.int (i : Int)
  rw [Int.zero_add]
section
variable {g b : Bool} {C : Ctx} {n : Nat} {sc : Scope} {ρ : List (Str × D)}
theorem Iter.rangeN {e : Expr} {p pos : Pos} {m : Nat} (h : Ev C b n sc ρ e (.int (m : Int))) (h1 : m ≤ 1000000) (hk : sc.names.lookup ("range" : Str) = some .globalImplicit := by rfl)
    (hp : ∀ env, starEach [e] env = [(false, eval e env)] := by intro _; rfl) : Iter C b n sc ρ (.Call (.Name "range" p) [e] [] pos) ((List.range m).map emN) := by
  rw [← rng_map]
  exact Iter.range1 h (by omega) (by omega) hk hp
theorem Iter.nats {e : Expr} {ns : List Nat} (h : Ev C b n sc ρ e (.ints (ns.map fun i : Nat => (i : Int)))) : Iter C b n sc ρ e (ns.map emN) := by
  have := Iter.ints h
  rwa [List.map_map] at this
theorem Iter.signs {e : Expr} {l : List Nat} (h : Ev C b n sc ρ e (.str (tx l))) : Iter C b n sc ρ e (l.map emC) := by
  have := Iter.str h
  rwa [show ((tx l).cps.toList.map fun c => Sc.str ⟨#[c]⟩) = l.map emC by simp [tx, emC]] at this
theorem Iter.texts {e : Expr} {ls : List (List Nat)} (h : Ev C b n sc ρ e (.strs (ls.map tx))) : Iter C b n sc ρ e (ls.map emT) := by
  have := Iter.strs h
  rwa [List.map_map] at this

theorem Ev.compTx {α : Type} {em : α → Sc} (de : Sc → α) (hde : ∀ a, de (em a) = a) (p : α → Bool) (f : α → List Nat) {elt iter : Expr} {ifs : List Expr} {x : Str} {px pos : Pos} {scope : Scope} {xs : List α} (hit : Iter C true n sc ρ iter (xs.map em))
    (htest : ∀ y ∈ xs, TrIfs C n (relab scope sc) ((x, .sc (em y)) :: frρ scope ρ) ifs (p y)) (helt : ∀ y ∈ xs, p y = true → Ev C true n (relab scope sc) ((x, .sc (em y)) :: frρ scope ρ) elt (.str (tx (f y))))
    (hz : xs.length ≤ 10000) (hkind : scope.kind = .function := by rfl) (hx : scope.names.lookup x = some .local := by rfl)
    (hfr : scope.names.all (fun p => p.2 != .free || sc.names.lookup p.1 == some .cell || sc.names.lookup p.1 == some .free) = true := by rfl) (hnd : scope.names.all (fun p => scope.names.lookup p.1 == some p.2) = true := by rfl)
    (hcl : scope.names.all (fun p => p.2 != .cell) = true := by rfl) (hfo : ∀ env x, foldedSetIterable iter env x = pure x := by intro _ _; rfl) :
    Ev C true n sc ρ (.ListComp elt [⟨.Name x px, iter, ifs, 0⟩] scope pos) (.strs (((xs.filter p).map f).map tx)) := by
  have := Ev.compStrs (elt := elt) (pos := pos) (px := px) (p := fun s => p (de s)) (f := fun s => tx (f (de s))) hit (fun y hy => by
    obtain ⟨a, ha, rfl⟩ := List.mem_map.mp hy
    rw [hde]; exact htest a ha) (fun y hy hp => by
    obtain ⟨a, ha, rfl⟩ := List.mem_map.mp hy
    rw [hde] at hp ⊢; exact helt a ha hp) (by simpa using hz) hkind hx hfr hnd hcl hfo
  rw [em_map hde p (fun a => tx (f a))] at this
  rw [List.map_map]
  exact this
theorem Ev.compNs {α : Type} {em : α → Sc} (de : Sc → α) (hde : ∀ a, de (em a) = a) (p : α → Bool) (f : α → Int) {elt iter : Expr} {ifs : List Expr} {x : Str} {px pos : Pos} {scope : Scope} {xs : List α} (hit : Iter C true n sc ρ iter (xs.map em))
    (htest : ∀ y ∈ xs, TrIfs C n (relab scope sc) ((x, .sc (em y)) :: frρ scope ρ) ifs (p y)) (helt : ∀ y ∈ xs, p y = true → Ev C true n (relab scope sc) ((x, .sc (em y)) :: frρ scope ρ) elt (.int (f y)))
    (hz : xs.length ≤ 10000) (hkind : scope.kind = .function := by rfl) (hx : scope.names.lookup x = some .local := by rfl)
    (hfr : scope.names.all (fun p => p.2 != .free || sc.names.lookup p.1 == some .cell || sc.names.lookup p.1 == some .free) = true := by rfl) (hnd : scope.names.all (fun p => scope.names.lookup p.1 == some p.2) = true := by rfl)
    (hcl : scope.names.all (fun p => p.2 != .cell) = true := by rfl) (hfo : ∀ env x, foldedSetIterable iter env x = pure x := by intro _ _; rfl) :
    Ev C true n sc ρ (.ListComp elt [⟨.Name x px, iter, ifs, 0⟩] scope pos) (.ints ((xs.filter p).map f)) := by
  have := Ev.compInts (elt := elt) (pos := pos) (px := px) (p := fun s => p (de s)) (f := fun s => f (de s)) hit (fun y hy => by
    obtain ⟨a, ha, rfl⟩ := List.mem_map.mp hy
    rw [hde]; exact htest a ha) (fun y hy hp => by
    obtain ⟨a, ha, rfl⟩ := List.mem_map.mp hy
    rw [hde] at hp ⊢; exact helt a ha hp) (by simpa using hz) hkind hx hfr hnd hcl hfo
  rwa [em_map hde p f] at this
theorem Sm.compTx {α : Type} {em : α → Sc} (de : Sc → α) (hde : ∀ a, de (em a) = a) (p : α → Bool) (f : α → List Nat) {elt iter : Expr} {ifs : List Expr} {x z : Str} {px pz pos spos : Pos} {scope : Scope} {xs : List α} (hit : Iter C true n sc ρ iter (xs.map em))
    (htest : ∀ y ∈ xs, TrIfs C n (relab scope sc) ((x, .sc (em y)) :: frρ scope ρ) ifs (p y)) (helt : ∀ y ∈ xs, p y = true → Ev C true n (relab scope sc) ((x, .sc (em y)) :: frρ scope ρ) elt (.str (tx (f y))))
    (hz : xs.length ≤ 10000) (hzl : sc.names.lookup z = some .local := by rfl) (hsw : (pz.line == pos.line && !(scope.names.any fun (n, k) => n == z && (k == .local || k == .cell))) = true := by rfl) (hkind : scope.kind = .function := by rfl) (hx : scope.names.lookup x = some .local := by rfl)
    (hfr : scope.names.all (fun p => p.2 != .free || sc.names.lookup p.1 == some .cell || sc.names.lookup p.1 == some .free) = true := by rfl) (hnd : scope.names.all (fun p => scope.names.lookup p.1 == some p.2) = true := by rfl)
    (hcl : scope.names.all (fun p => p.2 != .cell) = true := by rfl) (hfo : ∀ env x, foldedSetIterable iter env x = pure x := by intro _ _; rfl) :
    Sm g b C n sc ρ (.Assign [.Name z pz] (.ListComp elt [⟨.Name x px, iter, ifs, 0⟩] scope pos) spos) (.next ((z, .strs (((xs.filter p).map f).map tx)) :: ρ)) := by
  have := Sm.compStrs (g := g) (b := b) (elt := elt) (pos := pos) (px := px) (pz := pz) (spos := spos) (p := fun s => p (de s)) (f := fun s => tx (f (de s))) hit (fun y hy => by
    obtain ⟨a, ha, rfl⟩ := List.mem_map.mp hy
    rw [hde]; exact htest a ha) (fun y hy hp => by
    obtain ⟨a, ha, rfl⟩ := List.mem_map.mp hy
    rw [hde] at hp ⊢; exact helt a ha hp) (by simpa using hz) hzl hsw hkind hx hfr hnd hcl hfo
  rw [em_map hde p (fun a => tx (f a))] at this
  rw [List.map_map]
  exact this
theorem Sm.compNs {α : Type} {em : α → Sc} (de : Sc → α) (hde : ∀ a, de (em a) = a) (p : α → Bool) (f : α → Int) {elt iter : Expr} {ifs : List Expr} {x z : Str} {px pz pos spos : Pos} {scope : Scope} {xs : List α} (hit : Iter C true n sc ρ iter (xs.map em))
    (htest : ∀ y ∈ xs, TrIfs C n (relab scope sc) ((x, .sc (em y)) :: frρ scope ρ) ifs (p y)) (helt : ∀ y ∈ xs, p y = true → Ev C true n (relab scope sc) ((x, .sc (em y)) :: frρ scope ρ) elt (.int (f y)))
    (hz : xs.length ≤ 10000) (hzl : sc.names.lookup z = some .local := by rfl) (hsw : (pz.line == pos.line && !(scope.names.any fun (n, k) => n == z && (k == .local || k == .cell))) = true := by rfl) (hkind : scope.kind = .function := by rfl) (hx : scope.names.lookup x = some .local := by rfl)
    (hfr : scope.names.all (fun p => p.2 != .free || sc.names.lookup p.1 == some .cell || sc.names.lookup p.1 == some .free) = true := by rfl) (hnd : scope.names.all (fun p => scope.names.lookup p.1 == some p.2) = true := by rfl)
    (hcl : scope.names.all (fun p => p.2 != .cell) = true := by rfl) (hfo : ∀ env x, foldedSetIterable iter env x = pure x := by intro _ _; rfl) :
    Sm g b C n sc ρ (.Assign [.Name z pz] (.ListComp elt [⟨.Name x px, iter, ifs, 0⟩] scope pos) spos) (.next ((z, .ints ((xs.filter p).map f)) :: ρ)) := by
  have := Sm.compInts (g := g) (b := b) (elt := elt) (pos := pos) (px := px) (pz := pz) (spos := spos) (p := fun s => p (de s)) (f := fun s => f (de s)) hit (fun y hy => by
    obtain ⟨a, ha, rfl⟩ := List.mem_map.mp hy
    rw [hde]; exact htest a ha) (fun y hy hp => by
    obtain ⟨a, ha, rfl⟩ := List.mem_map.mp hy
    rw [hde] at hp ⊢; exact helt a ha hp) (by simpa using hz) hzl hsw hkind hx hfr hnd hcl hfo
  rwa [em_map hde p f] at this

/-- a look into the set -/
theorem Ev.inSet {l : Expr} {i : Int} {p pos : Pos} (H : Has C) (h : Ev C b n sc ρ l (.int i)) (hk : sc.names.lookup ("b1_set" : Str) = some .globalImplicit := by rfl) : Ev C b n sc ρ (.Compare l [.In] [.Name "b1_set" p] pos) (.bool (inB1Z i)) := by
  refine .mk ?_
  rintro A env hid s E rfl hA X
  refine wpAny_Compare1 (h.go rfl hA X fun u s₁ k1 t1 X1 ru => name_gl X1 (a := 72) (by rfl) hk ?_) rfl
  obtain ⟨t, rfl⟩ := is_int ru
  exact wpAny_inSet_of (knd := intKind prog C.w) (k := i) (by simp [intKind, Value.isInt]) rfl (H.set _ X1.md) ⟨k1.trans (.of_keeps (keeps_tok _ _)), rfl⟩
theorem Ev.subN {l r : Expr} {p : Pos} {x y : Nat} (hl : Ev C b n sc ρ l (.int (x : Int))) (hr : Ev C b n sc ρ r (.int (y : Int))) (h : y ≤ x) : Ev C b n sc ρ (.BinOp l .Sub r p) (.int ((x - y : Nat) : Int)) := by
  rw [Int.natCast_sub h]
  exact Ev.bin hl hr Bop.subInt
theorem Ev.chrN {e : Expr} {p pos : Pos} {i : Nat} (h : Ev C b n sc ρ e (.int (i : Int))) (hz : i ≤ 1114111) (hk : sc.names.lookup ("chr" : Str) = some .globalImplicit := by rfl)
    (hp : ∀ env, starEach (e :: []) env = (false, eval e env) :: starEach [] env := by intro _; rfl) (hp2 : ∀ env, (backTo pos (starEach [e] env)).any (·.1) = false := by intro _; rfl) : Ev C b n sc ρ (.Call (.Name "chr" p) [e] [] pos) (.str (tx [i])) :=
  Ev.callB (id := "chr") (p := p) (pos := pos) (Evs.cons h Evs.nil hp) (Bi.chr (C := C) (n := n) (i := (i : Int)) (by omega) (by omega)) (by decide +kernel) (by decide) hk hp2
theorem Ev.ordT {e : Expr} {p pos : Pos} {i : Nat} (h : Ev C b n sc ρ e (.str (tx [i]))) (hk : sc.names.lookup ("ord" : Str) = some .globalImplicit := by rfl)
    (hp : ∀ env, starEach (e :: []) env = (false, eval e env) :: starEach [] env := by intro _; rfl) (hp2 : ∀ env, (backTo pos (starEach [e] env)).any (·.1) = false := by intro _; rfl) : Ev C b n sc ρ (.Call (.Name "ord" p) [e] [] pos) (.int (i : Int)) :=
  Ev.callB (id := "ord") (p := p) (pos := pos) (Evs.cons h Evs.nil hp) (Bi.ord (C := C) (n := n)) (by decide +kernel) (by decide) hk hp2
end
end Mine
end
section
open PySem PySem.W PyProof.Rows PySem.Calls
namespace Mine
section
variable {C : Ctx} {n : Nat}
def tell (l : List Nat) : List Nat := if (l.take 5).drop 3 = [32, 34] then told (l.drop 5) else []
theorem fn257 (H : Has C) {l : List Nat} (h3 : l.take 3 = [50, 53, 55]) (hz : l.length ≤ 500) : Fn C true (n + 1) 46 [.str (tx l)] (.str (tx (tell l))) :=
  Fn.def_ (ps := ["resp"]) H.f3 (parse_body l h3 hz) fun fd vals h h2 h3 hl => by
    obtain ⟨v, rfl⟩ := vals1 hl
    rw [bind_eta h h2 h3]; rfl
theorem fnB1 (H : Has C) {c : Nat} : Fn C true (n + 1) 82 [.str (tx [c])] (.bool (inB1 c)) :=
  Fn.def_ (ps := ["code"]) H.f9 (by
    rw [← inB1Z_nat]
    exact Ex.ret (Sm.ret (Ev.inSet H (Ev.ordT (Ev.var rfl))))) fun fd vals h h2 h3 hl => by
    obtain ⟨v, rfl⟩ := vals1 hl
    rw [bind_eta h h2 h3]; rfl

/-- the runs of the table -/
def runs : List (Nat × Nat) := [(173, 1), (847, 1), (6150, 1), (6155, 3), (8203, 3), (8288, 1), (65024, 16), (65279, 1)]
def runSigns (q : Nat × Nat) : List (List Nat) := (List.range q.2).map fun k => [q.1 + k]
def runEdges (q : Nat × Nat) : List (List Nat) := [[q.1 - 1], [q.1 + q.2]]
theorem evPair {b : Bool} {sc : Scope} {ρ : List (Str × D)} (x y : Nat) {k1 k2 kk : Nat} {p1 p2 p : Pos} {i j : Int} (h1 : i = (x : Int) := by rfl) (h2 : j = (y : Int) := by rfl) : Ev C b n sc ρ (.Tuple [.Constant (.int i) k1 p1, .Constant (.int j) k2 p2] kk p) (.pair (.sc (emN x)) (.sc (emN y))) :=
  Ev.tuple2 (Evs.cons (Ev.intN x h1) (Evs.cons (Ev.intN y h2) Evs.nil))
theorem Evs.consE {b : Bool} {sc : Scope} {ρ : List (Str × D)} {e : Expr} {es : List Expr} {d : D} {ds : List D} (h : Ev C b n sc ρ e d) (hs : Evs C b n sc ρ es ds) (hp : ∀ env, starEach (e :: es) env = (false, eval e env) :: starEach es env := by intro _; rfl) : Evs C b n sc ρ (e :: es) (d :: ds) := Evs.cons h hs hp

theorem filter_all {α : Type} (l : List α) : (l.filter fun _ => true) = l := List.filter_eq_self.mpr fun _ _ => rfl
theorem runSigns_len (q : Nat × Nat) : (runSigns q).length = q.2 := by simp [runSigns]
theorem signs_body (H : Has C) : Ex true true C n (scp 11) [] (bd 11) (.ret (.pair (.strs ((unseenL.map fun c => [c]).map tx)) (.strs ((besideL.map fun c => [c]).map tx)))) := by
  refine Ex.cons (Sm.newOwn (.inr rfl)) (Ex.cons (Sm.newOwn (.inr rfl)) ?_)
  refine Ex.cons (Sm.forT (names := ["first", "size"]) (items := (runs.map fun q => (emN q.1, emN q.2)).map fun p => [p.1, p.2]) (fun i => [("beside", .ownS (((runs.take i).flatMap runEdges).map tx)), ("unseen", .ownS (((runs.take i).flatMap runSigns).map tx))]) rfl
    (IterK.pairs (ps := [(emN 173, emN 1), (emN 847, emN 1), (emN 6150, emN 1), (emN 6155, emN 3), (emN 8203, emN 3), (emN 8288, emN 1), (emN 65024, emN 16), (emN 65279, emN 1)]) (Evs.consE (evPair 173 1) (Evs.consE (evPair 847 1) (Evs.consE (evPair 6150 1) (Evs.consE (evPair 6155 3) (Evs.consE (evPair 8203 3) (Evs.consE (evPair 8288 1) (Evs.consE (evPair 65024 16) (Evs.consE (evPair 65279 1) Evs.nil)))))))) (by decide)) (.two _ _ _ _ _ _) (by decide) ?_) ?_
  · intro i it hit
    rw [List.getElem?_map, List.getElem?_map] at hit
    cases hq : runs[i]? with
    | none => rw [hq] at hit; cases hit
    | some q =>
      rw [hq] at hit
      cases hit
      have hm := List.mem_of_getElem? hq
      have hb : 1 ≤ q.1 ∧ q.1 + q.2 ≤ 70000 ∧ q.2 ≤ 100 := (by decide : ∀ q ∈ runs, 1 ≤ q.1 ∧ q.1 + q.2 ≤ 70000 ∧ q.2 ≤ 100) q hm
      have hl : ∀ (f : Nat × Nat → List (List Nat)), (runs.take (i + 1)).flatMap f = (runs.take i).flatMap f ++ f q := fun f => by
        rw [List.take_add_one, hq, List.flatMap_append]; simp
      have hz1 : ((runs.take i).flatMap runSigns).length ≤ 5000 := by
        have : ∀ j, j ≤ 8 → ((runs.take j).flatMap runSigns).length ≤ 5000 := by decide
        exact this i (Nat.le_of_lt (List.getElem?_eq_some_iff.mp hq).1)
      have hz2 : ((runs.take i).flatMap runEdges).length ≤ 5000 := by
        have : ∀ j, j ≤ 8 → ((runs.take j).flatMap runEdges).length ≤ 5000 := by decide
        exact this i (Nat.le_of_lt (List.getElem?_eq_some_iff.mp hq).1)
      refine Ex.post (Ex.cons (Sm.extend (ys := ((runs.take i).flatMap runSigns).map tx) (zs := (((List.range q.2).filter fun _ => true).map fun k => [q.1 + k]).map tx) (Ev.weak (Ev.compTx deN deN_em (fun _ => true) (fun k => [q.1 + k]) (Iter.rangeN (Ev.var rfl) (by omega)) (fun _ _ => TrIfs.nil) (fun k hk _ => ?_) (by rw [List.length_range]; omega))) rfl ?_)
        (Ex.one (Sm.extend (ys := ((runs.take i).flatMap runEdges).map tx) (zs := (runEdges q).map tx) (Ev.listStrs (ns := (runEdges q).map tx) (Evs.cons (Ev.chrN (Ev.subN (Ev.var rfl) (Ev.intN 1) hb.1) (by omega)) (Evs.cons (Ev.chrN (Ev.addN (Ev.var rfl) (Ev.var rfl)) (by omega)) Evs.nil)) (by simp [runEdges])) rfl ?_))) ?_
      · have := List.mem_range.mp hk
        exact Ev.chrN (Ev.addN (Ev.var rfl) (Ev.var rfl)) (by omega)
      · rw [filter_all, List.length_map, List.length_map, List.length_map, List.length_range]; omega
      · have : (runEdges q).length = 2 := rfl
        rw [List.length_map, List.length_map, this]; omega
      · refine Sub.cons ?_ (Sub.cons ?_ Sub.nil)
        · rw [hl, List.map_append]; rfl
        · rw [hl, List.map_append]
          rw [filter_all]; rfl
  · refine Ex.release (Ex.ret (Sm.ret (Ev.eq (Ev.tuple2 (Evs.cons (Ev.var rfl) (Evs.cons (Ev.var rfl) Evs.nil))) ?_)))
    have h1 : (runs.take 8).flatMap runSigns = unseenL.map fun c => [c] := by decide
    have h2 : (runs.take 8).flatMap runEdges = besideL.map fun c => [c] := by decide
    rw [← h1, ← h2]; rfl
theorem fnSigns (H : Has C) : Fn C true (n + 1) 87 [] (.pair (.strs ((unseenL.map fun c => [c]).map tx)) (.strs ((besideL.map fun c => [c]).map tx))) :=
  Fn.def_ (ps := []) H.f11 (signs_body H) fun fd vals h h2 h3 hl => by
    obtain rfl := List.length_eq_zero_iff.mp hl
    rw [bind_eta h h2 h3]; rfl
end
end Mine
end
section
open PySem PySem.W PyProof.Rows PySem.Calls
namespace Mine
theorem fm_up (ns : List Int) : ∀ (c a : Nat), a + c ≤ ns.length → ((List.range c).map fun k : Nat => a + k).filterMap (ns[·]?) = (ns.drop a).take c
  | 0, a, _ => by simp
  | c + 1, a, h => by
    rw [List.range_succ, List.map_append, List.filterMap_append, fm_up ns c a (by omega), List.take_add_one]
    congr 1
    rw [List.getElem?_drop]
    simp only [List.map_cons, List.map_nil, List.filterMap_cons, List.filterMap_nil]
    cases e : ns[a + c]? <;> simp
theorem range_up (a b : Nat) : sliceRange (a : Int) (b : Int) 1 = (List.range (b - a)).map fun k : Nat => a + k := by
  unfold sliceRange
  have h1 : (1 : Int) > 0 := by decide
  rw [if_pos h1]
  have e : (if (a : Int) < (b : Int) then ((b : Int) - a + 1 - 1) / 1 else 0).toNat = b - a := by
    split <;> omega
  dsimp only
  rw [e]
  refine List.map_congr_left fun k _ => ?_
  rw [Int.one_mul]; omega
theorem pick_up (ns : List Int) (a b : Nat) (hb : b ≤ ns.length) : (sliceRange (a : Int) (b : Int) 1).filterMap (ns[·]?) = (ns.take b).drop a := by
  rw [range_up]
  by_cases h : a ≤ b
  · rw [fm_up ns (b - a) a (by omega), ← List.drop_take]
  · rw [show b - a = 0 by omega, List.drop_eq_nil_of_le (by simp; omega)]
    rfl
theorem pick_to (ns : List Int) (k : Nat) : pickNums ns none (some (k : Int)) none = ns.take k := by
  unfold pickNums sliceBounds
  have h1 : (1 : Int) > 0 := by decide
  simp only [Option.getD_none, h1, if_true]
  have e : max 0 (min (if (k : Int) < 0 then (k : Int) + ns.length else k) (ns.length : Int)) = ((min k ns.length : Nat) : Int) := by
    rw [if_neg (by omega)]; omega
  have := pick_up ns 0 (min k ns.length) (by omega)
  rw [e]
  rw [show ((0 : Nat) : Int) = 0 from rfl] at this
  rw [this, List.drop_zero]
  by_cases h : k ≤ ns.length
  · rw [show min k ns.length = k by omega]
  · rw [show min k ns.length = ns.length by omega, List.take_length, List.take_of_length_le (by omega)]
theorem pick_from (ns : List Int) (k : Nat) : pickNums ns (some (k : Int)) none none = ns.drop k := by
  unfold pickNums sliceBounds
  have h1 : (1 : Int) > 0 := by decide
  simp only [Option.getD_none, h1, if_true]
  have e : max 0 (min (if (k : Int) < 0 then (k : Int) + ns.length else k) (ns.length : Int)) = ((min k ns.length : Nat) : Int) := by
    rw [if_neg (by omega)]; omega
  rw [e, pick_up ns (min k ns.length) ns.length (Nat.le_refl _), List.take_length]
  by_cases h : k ≤ ns.length
  · rw [show min k ns.length = k by omega]
  · rw [show min k ns.length = ns.length by omega, List.drop_length, List.drop_eq_nil_of_le (by omega)]
theorem pick_init (ns : List Int) : pickNums ns none (some (-1)) none = ns.dropLast := by
  unfold pickNums sliceBounds
  have h1 : (1 : Int) > 0 := by decide
  simp only [Option.getD_none, h1, if_true]
  have e : max 0 (min (if (-1 : Int) < 0 then (-1 : Int) + ns.length else -1) (ns.length : Int)) = ((ns.length - 1 : Nat) : Int) := by
    rw [if_pos (by decide)]; omega
  have := pick_up ns 0 (ns.length - 1) (by omega)
  rw [e]
  rw [show ((0 : Nat) : Int) = 0 from rfl] at this
  rw [this, List.drop_zero, List.dropLast_eq_take]
theorem fm_down (ns : List Int) : ∀ c, c ≤ ns.length → ((List.range c).map fun k : Nat => ns.length - 1 - k).filterMap (ns[·]?) = (ns.drop (ns.length - c)).reverse
  | 0, _ => by simp
  | c + 1, h => by
    rw [List.range_succ, List.map_append, List.filterMap_append, fm_down ns c (by omega)]
    have hlt : ns.length - 1 - c < ns.length := by omega
    have e : ns.drop (ns.length - (c + 1)) = ns[ns.length - 1 - c] :: ns.drop (ns.length - c) := by
      rw [show ns.length - (c + 1) = ns.length - 1 - c by omega, List.drop_eq_getElem_cons hlt]
      rw [show ns.length - 1 - c + 1 = ns.length - c by omega]
    rw [e, List.reverse_cons]
    simp [List.getElem?_eq_getElem hlt]
theorem pick_rev (ns : List Int) : pickNums ns none none (some (-1)) = ns.reverse := by
  unfold pickNums sliceBounds
  have h1 : ¬ ((-1 : Int) > 0) := by decide
  simp only [Option.getD_some, h1, if_false]
  have e : sliceRange ((ns.length : Int) - 1) (-1) (-1) = (List.range ns.length).map fun k : Nat => ns.length - 1 - k := by
    unfold sliceRange
    rw [if_neg h1]
    have e : (if (ns.length : Int) - 1 > -1 then ((ns.length : Int) - 1 - -1 - -1 - 1) / (- -1) else 0).toNat = ns.length := by
      rw [show (- -1 : Int) = 1 from rfl, Int.ediv_one]
      split <;> omega
    dsimp only
    rw [e]
    refine List.map_congr_left fun k hk => ?_
    have := List.mem_range.mp hk
    omega
  rw [e, fm_down ns ns.length (Nat.le_refl _)]
  simp
end Mine
end
section
open PySem PySem.W PyProof.Rows PySem.Calls
namespace Mine
/-- the signs a text is typed of: the sign, its kind (m, u, s) -/
def signOf (c : Int) : Nat × Nat :=
  if Int.fmod c 5 < 2 then (34, 109) else if Int.fmod c 5 < 4 then (unseenL.getD (Int.fmod (Int.fdiv c 5) 27).toNat 0, 117) else ((102 :: besideL).getD (Int.fmod (Int.fdiv c 5) 17).toNat 0, 115)
abbrev ones (l : List Nat) : List Str := (l.map fun c => [c]).map tx

section
variable {g b : Bool} {C : Ctx} {n : Nat} {sc : Scope} {ρ : List (Str × D)}
theorem appS {ys : List Str} {y : Str} (hz : ys.length ≤ 10000) : ∀ (us : List Value) (u : Value) (V : Addr → Obj → Prop), OwnIs us (.ownS ys) → Rep C.key V u (.str y) → OwnIs (us ++ [u]) (.ownS (ys ++ [y])) ∧ us.length ≤ 10000 := fun us u V h r => by
  obtain ⟨t, rfl⟩ := is_str r
  have h : StrsAre us ys := h
  exact ⟨StrsAre.append' h (.cons y t .nil), by have := h.length; omega⟩
theorem appI {ys : List Int} {y : Int} (hz : ys.length ≤ 10000) : ∀ (us : List Value) (u : Value) (V : Addr → Obj → Prop), OwnIs us (.ownI ys) → Rep C.key V u (.int y) → OwnIs (us ++ [u]) (.ownI (ys ++ [y])) ∧ us.length ≤ 10000 := fun us u V h r => by
  obtain ⟨t, rfl⟩ := is_int r
  have h : IntsAre us ys := h
  exact ⟨IntsAre.append h (.cons y t .nil), by have := h.length; omega⟩
theorem Ev.modC {e : Expr} {p p2 : Pos} {i m : Int} {k : Nat} (h : Ev C b n sc ρ e (.int i)) (hm : m ≠ 0) : Ev C b n sc ρ (.BinOp e .Mod (.Constant (.int m) k p2) p) (.int (Int.fmod i m)) := Ev.bin h Ev.int (Bop.modInt hm)
theorem Ev.divC {e : Expr} {p p2 : Pos} {i m : Int} {k : Nat} (h : Ev C b n sc ρ e (.int i)) (hm : m ≠ 0) (hs : m.natAbs < 1073741824) : Ev C b n sc ρ (.BinOp e .FloorDiv (.Constant (.int m) k p2) p) (.int (Int.fdiv i m)) := Ev.bin h Ev.int (Bop.divInt hm hs)
theorem ones_get {l : List Nat} {i : Nat} (h : i < l.length) : (ones l)[i]? = some (tx [l.getD i 0]) := by
  simp [ones, List.getD, List.getElem?_eq_getElem h]
theorem Ev.signAt {e i : Expr} {pos : Pos} {l : List Nat} {k : Int} (h : Ev C b n sc ρ e (.strs (ones l))) (hi : Ev C b n sc ρ i (.int k)) (h0 : 0 ≤ k) (hk : k.toNat < l.length) (hz : l.length ≤ 10000) (hs : ∀ o i', subscripted i false o i' = operate [o, i'] (getItem o i') := by intro _ _; rfl) :
    Ev C b n sc ρ (.Subscript e i pos) (.str (tx [l.getD k.toNat 0])) := Ev.item h hi (Itm.strs h0 (by omega) (ones_get hk)) hs

theorem Ev.signAtN {e i : Expr} {pos : Pos} {l : List Nat} {k : Nat} (h : Ev C b n sc ρ e (.strs (ones l))) (hi : Ev C b n sc ρ i (.int (k : Int))) (hk : k < l.length) (hz : l.length ≤ 10000) (hs : ∀ o i', subscripted i false o i' = operate [o, i'] (getItem o i') := by intro _ _; rfl) :
    Ev C b n sc ρ (.Subscript e i pos) (.str (tx [l.getD k 0])) := Ev.signAt h hi (by omega) (by omega) hz hs
theorem fmod5 (c : Int) {m : Int} (hm : 0 < m) : 0 ≤ Int.fmod c m ∧ Int.fmod c m < m := ⟨Int.fmod_nonneg_of_pos c hm, Int.fmod_lt_of_pos c hm⟩
theorem text_body (H : Has C) (cs : List Int) (hz : cs.length ≤ 1000) : Ex true true C (n + 1) (scp 12) [("cells", .ints cs)] (bd 12) (.ret (.pair (.strs (ones (cs.map fun c => (signOf c).1))) (.str (tx (cs.map fun c => (signOf c).2))))) := by
  refine Ex.cons (Sm.assignPair (Ev.callF Evs.nil (fnSigns (n := n) H) (fun h m => (H.f11 h m).fn))) ?_
  refine Ex.cons (Sm.newOwn (.inr rfl)) (Ex.cons (Sm.assign (Ev.strT [])) ?_)
  refine Ex.cons (Sm.forT (names := ["cell"]) (items := cs.map fun i => [Sc.int i]) (fun i => [("kinds", .str (tx ((cs.take i).map fun c => (signOf c).2))), ("typed", .ownS (ones ((cs.take i).map fun c => (signOf c).1))), ("beside", .strs (ones besideL)), ("unseen", .strs (ones unseenL)), ("cells", .ints cs)]) (by rfl)
    (IterK.ints (Ev.var rfl)) (.one _ _) (by simp) ?_) ?_
  · intro i it hit
    rw [List.getElem?_map] at hit
    cases hq : cs[i]? with
    | none => rw [hq] at hit; cases hit
    | some c =>
      rw [hq] at hit
      cases hit
      have hlt : i < cs.length := (List.getElem?_eq_some_iff.mp hq).1
      have hl : ∀ (f : Int → Nat), (cs.take (i + 1)).map f = (cs.take i).map f ++ [f c] := fun f => by
        rw [List.take_add_one, hq, List.map_append]; simp
      have hz1 : (ones ((cs.take i).map fun c => (signOf c).1)).length ≤ 10000 := by
        simp [ones]; omega
      have hz2 : ((cs.take i).map fun c => (signOf c).2).length + 1 ≤ 10000 := by
        simp; omega
      have fin : ∀ (y k : Nat), signOf c = (y, k) → Sub [("kinds", .str (tx ((cs.take (i + 1)).map fun c => (signOf c).2))), ("typed", .ownS (ones ((cs.take (i + 1)).map fun c => (signOf c).1))), ("beside", .strs (ones besideL)), ("unseen", .strs (ones unseenL)), ("cells", .ints cs)]
          [("kinds", .str (tx (((cs.take i).map fun c => (signOf c).2) ++ [k]))), ("typed", .ownS (ones ((cs.take i).map fun c => (signOf c).1) ++ [tx [y]])), ("cell", .sc (.int c)), ("kinds", .str (tx ((cs.take i).map fun c => (signOf c).2))), ("typed", .ownS (ones ((cs.take i).map fun c => (signOf c).1))), ("beside", .strs (ones besideL)), ("unseen", .strs (ones unseenL)), ("cells", .ints cs)] := fun y k e => by
        refine Sub.cons ?_ (Sub.cons ?_ (Sub.cons rfl (Sub.cons rfl (Sub.cons rfl Sub.nil))))
        · rw [hl, e]; rfl
        · rw [hl, e]
          have : ones (((cs.take i).map fun c => (signOf c).1) ++ [y]) = ones ((cs.take i).map fun c => (signOf c).1) ++ [tx [y]] := by simp [ones]
          rw [this]; rfl
      have m5 := fmod5 c (m := 5) (by decide)
      by_cases h2 : Int.fmod c 5 < 2
      · refine Ex.one (Sm.if_ (Tr.cmp (Ev.modC (Ev.var rfl) (by decide)) Ev.int Cmp.ltInt) (fun _ => Ex.post ?_ (fin 34 109 (by simp [signOf, h2]))) fun h => absurd h (by simp [h2]))
        exact Ex.cons (Sm.append (Ev.strT [34]) rfl rfl rfl (appS hz1)) (Ex.one (Sm.assign (Ev.cat (Ev.var rfl) (Ev.strT [109]) hz2)))
      · by_cases h4 : Int.fmod c 5 < 4
        · refine Ex.one (Sm.if_ (Tr.cmp (Ev.modC (Ev.var rfl) (by decide)) Ev.int Cmp.ltInt) (fun h => absurd h (by simp [h2])) fun _ => Ex.one (Sm.if_ (Tr.cmp (Ev.modC (Ev.var rfl) (by decide)) Ev.int Cmp.ltInt) (fun _ => Ex.post ?_ (fin _ 117 (by simp [signOf, h2, h4]; rfl))) fun h => absurd h (by simp [h4])))
          have m27 := fmod5 (Int.fdiv c 5) (m := 27) (by decide)
          exact Ex.cons (Sm.append (Ev.signAt (Ev.var rfl) (Ev.modC (Ev.divC (Ev.var rfl) (by decide) (by decide)) (by decide)) m27.1 (by have : unseenL.length = 27 := rfl; omega) (by decide)) rfl rfl rfl (appS hz1)) (Ex.one (Sm.assign (Ev.cat (Ev.var rfl) (Ev.strT [117]) hz2)))
        · refine Ex.one (Sm.if_ (Tr.cmp (Ev.modC (Ev.var rfl) (by decide)) Ev.int Cmp.ltInt) (fun h => absurd h (by simp [h2])) fun _ => Ex.one (Sm.if_ (Tr.cmp (Ev.modC (Ev.var rfl) (by decide)) Ev.int Cmp.ltInt) (fun h => absurd h (by simp [h4])) fun _ => Ex.post ?_ (fin _ 115 (by simp [signOf, h2, h4]; rfl))))
          have m17 := fmod5 (Int.fdiv c 5) (m := 17) (by decide)
          exact Ex.cons (Sm.append (Ev.signAt (Ev.eq (d := .strs (ones (102 :: besideL))) (Ev.bin (Ev.listStrs (ns := [tx [102]]) (Evs.cons (Ev.strT [102]) Evs.nil) (by decide)) (Ev.var rfl) (Bop.addStrs (by decide))) rfl) (Ev.modC (Ev.divC (Ev.var rfl) (by decide) (by decide)) (by decide)) m17.1 (by have : (102 :: besideL).length = 17 := rfl; omega) (by decide)) rfl rfl rfl (appS hz1)) (Ex.one (Sm.assign (Ev.cat (Ev.var rfl) (Ev.strT [115]) hz2)))
  · refine Ex.release (Ex.ret (Sm.ret (Ev.eq (Ev.tuple2 (Evs.cons (Ev.var rfl) (Evs.cons (Ev.var rfl) Evs.nil))) ?_)))
    rw [List.length_map, List.take_length]
    rfl
theorem fnText (H : Has C) {cs : List Int} (hz : cs.length ≤ 1000) : Fn C true (n + 2) 94 [.ints cs] (.pair (.strs (ones (cs.map fun c => (signOf c).1))) (.str (tx (cs.map fun c => (signOf c).2)))) :=
  Fn.def_ (ps := ["cells"]) H.f12 (text_body H cs hz) fun fd vals h h2 h3 hl => by
    obtain ⟨v, rfl⟩ := vals1 hl
    rw [bind_eta h h2 h3]; rfl

/-! _law_told -/
def keep (ts os : List Nat) : List Nat := ((List.range ts.length).filter fun i => !os.contains i).map fun i => ts.getD i 0
def toldOf (ts os : List Nat) : List Nat := (told (keep ts os)).filter fun c => !inB1 c
abbrev zs (os : List Nat) : List Int := os.map fun i : Nat => (i : Int)
theorem any_zs (os : List Nat) (i : Nat) : ((zs os).any fun x => x == (i : Int)) = os.contains i := by
  rw [List.contains_eq_any_beq, List.any_map]
  congr 1
  funext a
  simp only [Function.comp]
  rw [Bool.eq_iff_iff, beq_iff_eq, beq_iff_eq]
  omega
theorem Cmp.notInN {i : Nat} {os : List Nat} : Cmp C n .NotIn (.int (i : Int)) (.ints (zs os)) (!os.contains i) := by
  have := Cmp.notInInts (C := C) (n := n) (i := (i : Int)) (ns := zs os)
  rwa [any_zs] at this
theorem told_le : ∀ (k : Nat) (l : List Nat), l.length ≤ k → (told l).length ≤ l.length
  | _, [], _ => Nat.le_refl _
  | _, [c], _ => by unfold told; split <;> simp
  | 0, _ :: _ :: _, h => by simp at h
  | k + 1, c :: d :: r, h => by
    simp only [List.length_cons] at h
    unfold told
    split
    · split
      · have := told_le k r (by omega); simp; omega
      · simp
    · have := told_le k (d :: r) (by simp; omega); simp at this ⊢; omega
theorem foldl_len (sep : Str) : ∀ (ls : List (List Nat)) (a : Nat), (ls.map tx).foldl (fun n s => n + s.length + sep.length) a = a + ls.flatten.length + ls.length * sep.length
  | [], a => by simp
  | l :: ls, a => by
    rw [List.map_cons, List.foldl_cons, foldl_len sep ls, tx_len, List.flatten_cons, List.length_append, List.length_cons, Nat.add_mul, Nat.one_mul]
    omega
theorem join_ok {ls : List (List Nat)} (h : ls.flatten.length ≤ 10000) : JoinOk (tx []) (ls.map tx) = true := by
  unfold JoinOk
  rw [List.foldl_toArray, foldl_len]
  have : (tx []).length = 0 := rfl
  rw [this]
  unfold Builtin.Str.tooLong
  rw [sizeLine_eq]
  have h2 : ¬ (0 + ls.flatten.length + ls.length * 0 > 16777216) := by omega
  rw [decide_eq_false h2]; rfl
theorem Ev.joinT {o e : Expr} {apos pos : Pos} {ls : List (List Nat)} (ho : Ev C b n sc ρ o (.str (tx []))) (he : Ev C b n sc ρ e (.strs (ls.map tx))) (hz : ls.flatten.length ≤ 10000)
    (hb : ∀ env, attributeBase o "join" env (eval o env) = eval o env := by intro _; rfl) (hl : (apos.endLine == pos.line) = true := by rfl)
    (hf : ∀ env, ((backTo pos (starEach [e] env)).all (fun x => !x.1) && (backToKw pos (keywordEach [] env)).all (fun x => x.1.isSome) && decide ([e].length + ([] : List Keyword).length + (if ([] : List Keyword).isEmpty = true then 0 else 1) < 30)) = true := by intro _; rfl)
    (hp : ∀ env, (backTo pos (starEach [e] env)).any (·.1) = false := by intro _; rfl) (hp2 : ∀ env, starEach (e :: []) env = (false, eval e env) :: starEach [] env := by intro _; rfl) : Ev C b n sc ρ (.Call (.Attribute o "join" apos) [e] [] pos) (.str (tx ls.flatten)) := by
  rw [← join_nil]
  exact Ev.method ho (Evs.cons he Evs.nil hp2) (Bi.join (join_ok hz)) F.slot_str_join F.type_str_join hb hl hf hp
theorem Ev.lenS {e : Expr} {p pos : Pos} {l : List Str} (h : Ev C b n sc ρ e (.strs l)) (hz : l.length ≤ 10000) (hk : sc.names.lookup ("len" : Str) = some .globalImplicit := by rfl)
    (hp : ∀ env, starEach (e :: []) env = (false, eval e env) :: starEach [] env := by intro _; rfl) (hp2 : ∀ env, (backTo pos (starEach [e] env)).any (·.1) = false := by intro _; rfl) : Ev C b n sc ρ (.Call (.Name "len" p) [e] [] pos) (.int (l.length : Int)) :=
  Ev.callB (id := "len") (p := p) (pos := pos) (Evs.cons h Evs.nil hp) (Bi.lenStrs (C := C) (n := n) hz) (by decide +kernel) (by decide) hk hp2
theorem Ev.lenI {e : Expr} {p pos : Pos} {l : List Int} (h : Ev C b n sc ρ e (.ints l)) (hz : l.length ≤ 10000) (hk : sc.names.lookup ("len" : Str) = some .globalImplicit := by rfl)
    (hp : ∀ env, starEach (e :: []) env = (false, eval e env) :: starEach [] env := by intro _; rfl) (hp2 : ∀ env, (backTo pos (starEach [e] env)).any (·.1) = false := by intro _; rfl) : Ev C b n sc ρ (.Call (.Name "len" p) [e] [] pos) (.int (l.length : Int)) :=
  Ev.callB (id := "len") (p := p) (pos := pos) (Evs.cons h Evs.nil hp) (Bi.lenInts (C := C) (n := n) hz) (by decide +kernel) (by decide) hk hp2
theorem ones_len (l : List Nat) : (ones l).length = l.length := by simp [ones]
theorem flat_ones (l : List Nat) : (l.map fun c => [c]).flatten = l := by
  induction l with
  | nil => rfl
  | cons a r ih => rw [List.map_cons, List.flatten_cons, ih]; rfl
theorem keep_len (ts os : List Nat) : (keep ts os).length ≤ ts.length := by
  unfold keep
  rw [List.length_map]
  exact Nat.le_trans (List.length_filter_le _ _) (by simp)
theorem tell_open (x : List Nat) : tell ([50, 53, 55, 32, 34] ++ x) = told x := by
  unfold tell
  rw [if_pos (by simp)]
  simp

theorem told_body (H : Has C) (ts os : List Nat) (hz : ts.length ≤ 300) : Ex true true C (n + 1) (scp 13) [("typed", .strs (ones ts)), ("out", .ints (zs os))] (bd 13) (.ret (.str (tx (toldOf ts os)))) := by
  refine Ex.cons (Sm.compTx deN deN_em (fun i => !os.contains i) (fun i => [ts.getD i 0]) (Iter.rangeN (m := ts.length) (Ev.eq (Ev.lenS (Ev.var rfl) (by rw [ones_len]; omega)) (by rw [ones_len])) (by omega)) (fun i _ => TrIfs.one (Tr.cmp (Ev.var rfl) (Ev.var rfl) Cmp.notInN)) (fun i hi _ => ?_) (by simp; omega)) ?_
  · have hi := List.mem_range.mp hi
    exact Ev.signAtN (Ev.var rfl) (Ev.var rfl) hi (by omega)
  · have e1 : (((List.range ts.length).filter fun i => !os.contains i).map fun i => [ts.getD i 0]).flatten = keep ts os := by
      unfold keep
      rw [← flat_ones ((List.filter (fun i => !os.contains i) (List.range ts.length)).map fun i => ts.getD i 0), List.map_map]
      rfl
    have hk := keep_len ts os
    refine Ex.cons (Sm.assign (d := .str (tx (told (keep ts os)))) (Ev.eq (Ev.callF (Evs.cons (Ev.cat (Ev.strT [50, 53, 55, 32, 34]) (Ev.eq (d := .str (tx (keep ts os))) (Ev.joinT (Ev.strT []) (Ev.var rfl) (by rw [e1]; omega)) (by rw [e1])) (by simp; omega)) Evs.nil) (fn257 (n := n) H (l := [50, 53, 55, 32, 34] ++ keep ts os) (by simp) (by simp; omega)) (fun h m => (H.f3 h m).fn)) (by rw [tell_open]))) ?_
    have ht := told_le _ (keep ts os) (Nat.le_refl _)
    refine Ex.ret (Sm.ret (Ev.eq (Ev.joinT (ls := ((told (keep ts os)).filter fun c => !inB1 c).map fun c => [c]) (Ev.strT []) (Ev.compTx deC deC_em (fun c => !inB1 c) (fun c => [c]) (Iter.signs (Ev.var rfl)) (fun c _ => TrIfs.one (Tr.not (Tr.val (Ev.callF (Evs.cons (Ev.var rfl) Evs.nil) (fnB1 (n := n) H (c := c)) (fun h m => (H.f9 h m).fn))))) (fun c _ _ => Ev.var rfl) (by omega)) ?_) ?_))
    · rw [flat_ones]
      exact Nat.le_trans (List.length_filter_le _ _) (by omega)
    · rw [flat_ones]; rfl
theorem fnTold (H : Has C) {ts os : List Nat} (hz : ts.length ≤ 300) : Fn C true (n + 2) 99 [.strs (ones ts), .ints (zs os)] (.str (tx (toldOf ts os))) :=
  Fn.def_ (ps := ["typed", "out"]) H.f13 (told_body H ts os hz) fun fd vals h h2 h3 hl => by
    obtain ⟨v, u, rfl⟩ := vals2 hl
    rw [bind_eta h h2 h3]; rfl
end
end Mine
end
section
open PySem PySem.W PyProof.Rows PySem.Calls
namespace Mine
def odds (ks : List Nat) (i : Nat) : List Nat := (splitL 115 (ks.take i)).map fun p => p.count 109 % 2
def isNeeded (ks : List Nat) (i : Nat) : Bool := (ks.getD i 0 == 117) && ((odds ks i).getLastD 0 == 1) && !((odds ks i).dropLast.contains 1) && (((ks.drop i).filter (· != 117)).take 1 == [109])
def neededOf (ks : List Nat) : List Nat := (List.range ks.length).filter (isNeeded ks)
section
variable {g b : Bool} {C : Ctx} {n : Nat} {sc : Scope} {ρ : List (Str × D)}
theorem IterK.rangeN {e : Expr} {p pos px : Pos} {m : Nat} {x : Str} (h : Ev C b n sc ρ e (.int (m : Int))) (h1 : m ≤ 1000000) (hk : sc.names.lookup ("range" : Str) = some .globalImplicit := by rfl)
    (hp : ∀ env, starEach [e] env = [(false, eval e env)] := by intro _; rfl) : IterK C b n sc ρ (.Name x px) (.Call (.Name "range" p) [e] [] pos) ((List.range m).map fun i => [emN i]) := by
  have := IterK.range1 (px := px) (x := x) (pos := pos) (p := p) h (by omega) (by omega) hk hp
  have e : ((rng 0 (m : Int)).map fun i => [Sc.int i]) = (List.range m).map fun i => [emN i] := by
    have := congrArg (List.map fun s : Sc => [s]) (rng_map m)
    rw [List.map_map, List.map_map] at this
    exact this
  rwa [e] at this
theorem Ev.neg {e : Expr} {p : Pos} {i : Int} (h : Ev C b n sc ρ e (.int i)) : Ev C b n sc ρ (.UnaryOp .USub e p) (.int (-i)) := .mk fun A env hid s E hs hA X => by
  refine wpAny_UnaryOp (h.go hs hA X fun v s₁ k t X₁ r => ?_)
  obtain ⟨t', rfl⟩ := is_int r
  exact PyProof.Rows.neg_int ⟨k.trans (.of_keeps (keeps_tok _ _)), rfl⟩
theorem Cmp.eqN {x y : Nat} : Cmp C n .Eq (.int (x : Int)) (.int (y : Int)) (x == y) := by
  have := Cmp.eqInt (C := C) (n := n) (i := (x : Int)) (j := (y : Int))
  rwa [show (((x : Int) == (y : Int)) : Bool) = (x == y) by rw [Bool.eq_iff_iff, beq_iff_eq, beq_iff_eq]; omega] at this
theorem fmodN (a b : Nat) : Int.fmod (a : Int) (b : Int) = ((a % b : Nat) : Int) := by
  rw [Int.fmod_eq_emod_of_nonneg _ (by omega)]; rfl
theorem partsFrom_len (x : Str) (w : Nat) : ∀ (cuts : List Nat) (a : Nat), (StrLaws.partsFrom x w a cuts).length = cuts.length + 1
  | [], _ => rfl
  | c :: r, a => by
    show (_ :: StrLaws.partsFrom x w (c + w) r).length = _
    rw [List.length_cons, partsFrom_len x w r]; rfl
theorem Ev.splitT {o e : Expr} {apos pos : Pos} {l : List Nat} {c : Nat} (ho : Ev C b n sc ρ o (.str (tx l))) (he : Ev C b n sc ρ e (.str (tx [c]))) (hz : l.length ≤ 5000)
    (hb : ∀ env, attributeBase o "split" env (eval o env) = eval o env := by intro _; rfl) (hl : (apos.endLine == pos.line) = true := by rfl)
    (hf : ∀ env, ((backTo pos (starEach [e] env)).all (fun x => !x.1) && (backToKw pos (keywordEach [] env)).all (fun x => x.1.isSome) && decide ([e].length + ([] : List Keyword).length + (if ([] : List Keyword).isEmpty = true then 0 else 1) < 30)) = true := by intro _; rfl)
    (hp : ∀ env, (backTo pos (starEach [e] env)).any (·.1) = false := by intro _; rfl) (hp2 : ∀ env, starEach (e :: []) env = (false, eval e env) :: starEach [] env := by intro _; rfl) : Ev C b n sc ρ (.Call (.Attribute o "split" apos) [e] [] pos) (.strs ((splitL c l).map tx)) := by
  rw [← split_tx]
  refine Ev.method ho (Evs.cons he Evs.nil hp2) (Bi.split (by rfl) (by rw [tx_len]; omega) ?_) F.slot_str_split F.type_str_split hb hl hf hp
  rw [StrLaws.partsBetween_eq, partsFrom_len, sizeLine_eq]
  have := StrLaws.occ_length_le (tx l) (tx [c]) 0 (tx l).length ((tx l).length + 1)
  rw [tx_len] at this ⊢
  omega
theorem Ev.countT {o e : Expr} {apos pos : Pos} {l : List Nat} {c : Nat} (ho : Ev C b n sc ρ o (.str (tx l))) (he : Ev C b n sc ρ e (.str (tx [c])))
    (hb : ∀ env, attributeBase o "count" env (eval o env) = eval o env := by intro _; rfl) (hl : (apos.endLine == pos.line) = true := by rfl)
    (hf : ∀ env, ((backTo pos (starEach [e] env)).all (fun x => !x.1) && (backToKw pos (keywordEach [] env)).all (fun x => x.1.isSome) && decide ([e].length + ([] : List Keyword).length + (if ([] : List Keyword).isEmpty = true then 0 else 1) < 30)) = true := by intro _; rfl)
    (hp : ∀ env, (backTo pos (starEach [e] env)).any (·.1) = false := by intro _; rfl) (hp2 : ∀ env, starEach (e :: []) env = (false, eval e env) :: starEach [] env := by intro _; rfl) : Ev C b n sc ρ (.Call (.Attribute o "count" apos) [e] [] pos) (.int (l.count c : Int)) := by
  rw [← count_tx]
  exact Ev.method ho (Evs.cons he Evs.nil hp2) Bi.count F.slot_str_count F.type_str_count hb hl hf hp
theorem Ev.strike {o : Expr} {apos pos p1 p2 : Pos} {kd1 kd2 : Nat} {l : List Nat} {y z : Str} (hT : 1 ≤ C.tk) (c : Nat) (ho : Ev C b n sc ρ o (.str (tx l))) (hz : l.length ≤ 10000) (hy : y = tx [c] := by rfl) (hz0 : z = tx [] := by rfl)
    (hb : ∀ env, attributeBase o "replace" env (eval o env) = eval o env := by intro _; rfl) (hl : (apos.endLine == pos.line) = true := by rfl) :
    Ev C b n sc ρ (.Call (.Attribute o "replace" apos) [.Constant (.str y) kd1 p1, .Constant (.str z) kd2 p2] [] pos) (.str (tx (l.filter (· != c)))) := by
  subst hy hz0
  rw [← strike_tx]
  exact Ev.replaceC hT ho (by rw [tx_beq]; rfl) (by rw [tx_len, tx_len]; simp; omega) hb hl
theorem Ev.dbl {o : Expr} {apos pos p1 p2 : Pos} {kd1 kd2 : Nat} {l : List Nat} {y z : Str} (hT : 1 ≤ C.tk) (c : Nat) (ho : Ev C b n sc ρ o (.str (tx l))) (hz : l.length ≤ 10000) (hy : y = tx [c] := by rfl) (hz0 : z = tx [c, c] := by rfl)
    (hb : ∀ env, attributeBase o "replace" env (eval o env) = eval o env := by intro _; rfl) (hl : (apos.endLine == pos.line) = true := by rfl) :
    Ev C b n sc ρ (.Call (.Attribute o "replace" apos) [.Constant (.str y) kd1 p1, .Constant (.str z) kd2 p2] [] pos) (.str (tx (StrLaws.dbl c l))) := by
  subst hy hz0
  rw [← double_tx]
  exact Ev.replaceC hT ho (by rw [tx_beq]; simp) (by rw [tx_len, tx_len]; simp; omega) hb hl

theorem zs_last {os : List Nat} (h : os ≠ []) : (zs os).getLast? = some ((os.getLastD 0 : Nat) : Int) := by
  rw [List.getLast?_map, List.getLastD_eq_getLast?]
  cases e : os.getLast? with
  | none => exact absurd (List.getLast?_eq_none_iff.mp e) h
  | some x => rfl
theorem zs_init (os : List Nat) : (zs os).dropLast = zs os.dropLast := List.map_dropLast.symm
theorem odds_zs (ks : List Nat) (i : Nat) : (((splitL 115 (ks.take i)).filter fun _ => true).map fun p => ((p.count 109 % 2 : Nat) : Int)) = zs (odds ks i) := by
  rw [filter_all]; unfold odds zs; rw [List.map_map]; rfl

theorem needed_body (H : Has C) (hT : 1 ≤ C.tk) (ks : List Nat) (hz : ks.length ≤ 300) : Ex true true C n (scp 14) [("kinds", .str (tx ks))] (bd 14) (.ret (.ints (zs (neededOf ks)))) := by
  refine Ex.cons (Sm.newOwn (.inl rfl)) ?_
  refine Ex.cons (Sm.forT (names := ["place"]) (items := (List.range ks.length).map fun i => [emN i]) (fun i => [("needed", .ownI (zs ((List.range i).filter (isNeeded ks)))), ("kinds", .str (tx ks))]) (by rfl)
    (IterK.rangeN (Ev.lenT (Ev.var rfl) (by omega)) (by omega)) (.one _ _) (by simp) ?_) ?_
  · intro i it hit
    rw [List.getElem?_map] at hit
    cases hq : (List.range ks.length)[i]? with
    | none => rw [hq] at hit; cases hit
    | some j =>
      rw [hq] at hit
      cases hit
      have hj : j = i ∧ i < ks.length := by
        have h1 := (List.getElem?_eq_some_iff.mp hq).1
        rw [List.length_range] at h1
        rw [List.getElem?_range h1] at hq
        exact ⟨(Option.some.inj hq).symm, h1⟩
      obtain ⟨rfl, hlt⟩ := hj
      have hne : odds ks j ≠ [] := by
        unfold odds
        intro h
        exact splitL_ne 115 (ks.take j) (List.map_eq_nil_iff.mp h)
      have hol : (odds ks j).length ≤ 1000 := by
        unfold odds
        rw [List.length_map]
        have h1 := split_le (tx (ks.take j)) (tx [115])
        rw [split_tx, List.length_map, tx_len, List.length_take] at h1
        omega
      have hget : ks[j]? = some (ks.getD j 0) := by simp [List.getD, List.getElem?_eq_getElem hlt]
      refine Ex.cons (Sm.compNs deT deT_em (fun _ => true) (fun p => ((p.count 109 % 2 : Nat) : Int)) (Iter.texts (Ev.splitT (c := 115) (Ev.sTo (Ev.var rfl) (Ev.var rfl) (by omega)) (Ev.strT [115]) (by rw [List.length_take]; omega))) (fun _ _ => TrIfs.nil) (fun p _ _ => ?_) ?_) ?_
      · exact Ev.eq (Ev.modC (Ev.countT (Ev.var rfl) (Ev.strT [109])) (by decide)) (by rw [← fmodN]; rfl)
      · have h1 := split_le (tx (ks.take j)) (tx [115])
        rw [split_tx, List.length_map, tx_len, List.length_take] at h1
        omega
      · rw [odds_zs]
        refine Ex.cons (Sm.assign (Ev.sTo (j := 1) (Ev.strike hT 117 (Ev.sFrom (Ev.var rfl) (Ev.var rfl) (by omega)) (by rw [List.length_drop]; omega)) (Ev.intN 1) (Nat.le_trans (List.length_filter_le _ _) (by rw [List.length_drop]; omega)))) ?_
        have hif : Tr C true n (scp 14) [("behind", .str (tx (((ks.drop j).filter (· != 117)).take 1))), ("odd", .ints (zs (odds ks j))), ("place", .sc (emN j)), ("needed", .ownI (zs ((List.range j).filter (isNeeded ks)))), ("kinds", .str (tx ks))] (match nth (match nth (bd 14) 1 with | .For _ _ b _ _ => b | _ => []) 2 with | .If t _ _ _ => t | _ => .Constant .none 0 ⟨0, 0, 0, 0⟩) (isNeeded ks j) := by
          refine Tr.eq (Tr.and (TrAll.cons (Tr.cmp (Ev.sAt (Ev.var rfl) (Ev.var rfl) hget (by omega)) (Ev.strT [117]) Cmp.eqT) fun _ => TrAll.cons (Tr.cmp (Ev.item (Ev.var rfl) (Ev.neg (Ev.intN 1)) (Itm.last (by rw [List.length_map]; omega) (zs_last hne))) (Ev.intN 1) Cmp.eqN) fun _ =>
            TrAll.cons (Tr.cmp (Ev.intN 1) (Ev.slice (lo := none) (hi := some (-1)) (st := none) (Ev.var rfl) trivial (Ev.neg (Ev.intN 1)) trivial (Slc.ints (by rw [List.length_map]; omega) (by decide))) (by rw [pick_init, zs_init]; exact Cmp.notInN)) fun _ => TrAll.cons (Tr.cmp (Ev.var rfl) (Ev.strT [109]) Cmp.eqT) fun _ => TrAll.nil)) ?_
          unfold isNeeded
          rw [Bool.and_true, Bool.and_assoc, Bool.and_assoc]
          congr 1
          rw [Bool.eq_iff_iff]
          simp
        have hl : (List.range (j + 1)).filter (isNeeded ks) = (List.range j).filter (isNeeded ks) ++ (if isNeeded ks j then [j] else []) := by
          rw [List.range_succ, List.filter_append]
          cases h : isNeeded ks j <;> simp [h]
        refine Ex.one (Sm.if_ hif (fun h => ?_) fun h => ?_)
        · refine Ex.post (Ex.one (Sm.append (d := .ownI (zs ((List.range j).filter (isNeeded ks)) ++ [(j : Int)])) (Ev.var rfl) rfl rfl rfl (appI ?_))) (Sub.cons ?_ (Sub.cons rfl Sub.nil))
          · rw [List.length_map]
            exact Nat.le_trans (List.length_filter_le _ _) (by rw [List.length_range]; omega)
          · rw [hl, h]
            have : zs ((List.range j).filter (isNeeded ks) ++ [j]) = zs ((List.range j).filter (isNeeded ks)) ++ [(j : Int)] := by simp [zs]
            rw [if_pos rfl, this]; rfl
        · refine Ex.post Ex.nil (Sub.cons ?_ (Sub.cons rfl Sub.nil))
          rw [hl, h]
          simp; rfl
  · refine Ex.release (Ex.ret (Sm.ret (Ev.eq (Ev.var rfl) ?_)))
    rw [List.length_map, List.length_range]
    rfl
theorem fnNeeded (H : Has C) (hT : 1 ≤ C.tk) {ks : List Nat} (hz : ks.length ≤ 300) : Fn C true (n + 1) 104 [.str (tx ks)] (.ints (zs (neededOf ks))) :=
  Fn.def_ (ps := ["kinds"]) H.f14 (needed_body H hT ks hz) fun fd vals h h2 h3 hl => by
    obtain ⟨v, rfl⟩ := vals1 hl
    rw [bind_eta h h2 h3]; rfl
end
end Mine
end
section
open PySem PySem.W PyProof.Rows PySem.Calls
namespace Mine
section
variable {C : Ctx} {b : Bool} {n : Nat} {sc : Scope} {ρ : List (Str × D)}
/-- a call of a def of the text, whatever the arguments are bound by -/
theorem callDef {a : Addr} {body : List Stmt} {scope : Scope} {ps : List Str} {vs : List Value} {ds : List D} {d : D} {args : Args} {A : Around} {hid : Addr → Prop} {s : Shared} {R : Result → Shared → Prop} {o : Obj} {fd : FuncData} (hA : Calm (n + 1) A) (X : St C hid s) (hr : RepAll C.key (Vis hid s.heap) vs ds)
    (ho : s.heap.get? a = some o) (hd : o.data = .func fd) (hbd : fd.body = .stmts body) (hs : fd.scope = scope) (hg : fd.globals = mainGlobals) (hbi : fd.builtins = builtinsNs) (hcl : fd.closure = []) (hcd : s.heap.CodeRec fd.code fd.qualname) (hbind : BindsTo s fd args (ps.zip vs))
    (hbody : Ex true b C n scope (ps.zip ds) body (.ret d)) (hR : ∀ v s', KR b s s' → Rep C.key (Vis hid s'.heap) v d → R (.ok (.ret v)) s') (hnd : ps.Nodup := by decide) (hloc : ps.all (locCell scope) = true := by rfl) (hnf : noFree scope = true := by rfl)
    (hk : scope.kind = .function := by rfl) (hco : scope.isCoroutine = false := by rfl) (hgen : scope.isGenerator = false := by rfl) : codeAny (model prog C.w) A (.call (.ref a) args) R s := by
  subst hs
  refine codeAny_call_function hA.room ho hd hco hgen hbd hcd (hbind _ _ _ _ ?_)
  rw [hcl]
  refine wpAny_mono (wpAny_toks (wpAny_newFunctionEnv_cells (Q := fun env s' => env = callEnvC fd s.heap.objs.size a ∧ InCallC s (callEnvC fd s.heap.objs.size a).locals (bindL (callEnvC fd s.heap.objs.size a).kindOf (ps.zip vs) fun _ => none) (callEnvC fd s.heap.objs.size a).cells (bindC (callEnvC fd s.heap.objs.size a).kindOf (ps.zip vs) fun _ => none) s') hk ?_ fun env he s' x => ?_)) ?_ fun _ _ e => e.2
  · rintro ⟨x, v⟩ hx
    have hx : x ∈ ps := (List.of_mem_zip hx).1
    have := List.all_eq_true.mp hloc x hx
    rcases locCell_of (env := callEnvC fd s.heap.objs.size a) this rfl with q | q
    · exact .inl q
    · exact .inr ⟨q, cellsFrom_some _ _ _ _ (lookup_mem_kind q)⟩
  · subst he; exact ⟨rfl, x⟩
  · rintro env s₁ ⟨ht, rfl, I⟩
    have X₁ := EnvX.start X hr hnd hk hg hbi hloc hnf I ht
    obtain ⟨h₁, tk, rfl⟩ := I.toInCall.same
    have hkeep := I.toInCall.keep
    refine ⟨(C.lim _ X.md).keeps hkeep, codeAny_func (wpAny_mono (hbody.all (A.deeper _) _ hid _ s.heap.objs.size _ _ rfl (hA.deeper _) X₁) ?_ fun _ _ e => e)⟩
    rintro fl s₂ ⟨K, v, rfl, rv⟩
    refine hR v s₂ ?_ rv
    obtain ⟨h₂, tk₂, rfl, k₂, t₂⟩ := K
    have fresh : ∀ z o, s.heap.get? z = some o → ¬ FrW (callEnvC fd s.heap.objs.size a) z := fun z o e hz => absurd (Heap.lt_size e) (Nat.not_lt.mpr (X₁.wlo z hz))
    cases b
    · exact ⟨h₂, tk₂, rfl, fun z o nz e => k₂ z o (fresh z o e) (.inl nz) (hkeep z o e), fun t => t₂ (tab_of_keeps hkeep t)⟩
    · exact ⟨h₂, tk₂, rfl, fun z o e => k₂ z o (fresh z o e) (.inr rfl) (hkeep z o e)⟩

/-- halving -/
def bisGo (up : Nat → Bool) : Nat → Nat → Nat → Nat
  | 0, lo, _ => lo
  | k + 1, lo, hi => if lo < hi then (if up ((lo + hi) / 2) then bisGo up k ((lo + hi) / 2 + 1) hi else bisGo up k lo ((lo + hi) / 2)) else lo

theorem bisGo_up {up : Nat → Bool} {k lo hi : Nat} (h : lo < hi) (hu : up ((lo + hi) / 2) = true) : bisGo up (k + 1) lo hi = bisGo up k ((lo + hi) / 2 + 1) hi := by
  show (if lo < hi then _ else _) = _
  rw [if_pos h, if_pos hu]
theorem bisGo_dn {up : Nat → Bool} {k lo hi : Nat} (h : lo < hi) (hu : up ((lo + hi) / 2) = false) : bisGo up (k + 1) lo hi = bisGo up k lo ((lo + hi) / 2) := by
  show (if lo < hi then _ else _) = _
  rw [if_pos h, if_neg (by rw [hu]; decide)]
theorem bisGo_end {up : Nat → Bool} {k lo hi : Nat} (h : ¬ lo < hi) : bisGo up (k + 1) lo hi = lo := by
  show (if lo < hi then _ else _) = _
  rw [if_neg h]
theorem Ev.none_ {k : Nat} {p : Pos} : Ev C b n sc ρ (.Constant .none k p) (.sc .none) := .mk fun A env hid s E _ _ _ => wpAny_Constant_none ⟨.refl _, trivial⟩
theorem Cmp.isNone : Cmp C n .Is (.sc .none) (.sc .none) true := fun A hid s E u v hA ru rv => by
  obtain rfl := is_none ru
  obtain rfl := is_none rv
  exact wpAny_is_plain rfl ⟨keeps_refl _, rfl⟩
theorem Cmp.keyNone {f : Addr} (hkey : C.key = .ref f) : Cmp C n .Is .key (.sc .none) false := fun A hid s E u v hA ru rv => by
  have ru : u = C.key := ru
  rw [hkey] at ru
  subst ru
  obtain rfl := is_none rv
  exact wpAny_is_plain rfl ⟨keeps_refl _, rfl⟩
theorem fdivN (a b : Nat) : Int.fdiv (a : Int) (b : Int) = ((a / b : Nat) : Int) := by
  rw [Int.fdiv_eq_ediv_of_nonneg _ (by omega)]; rfl
theorem Ev.callKey {x : Str} {f : Addr} {p pos : Pos} {es : List Expr} {ds : List D} {d : D} (hkey : C.key = .ref f) (hx : ρ.lookup x = some .key) (ha : Evs C b n sc ρ es ds) (hF : Fn C b n f ds d) (hfo : ∀ h, C.Md h → ∃ o fd, h.get? f = some o ∧ o.data = .func fd)
    (hk : (match sc.names.lookup x with | some .local | some .cell | some .free => true | _ => false) = true := by rfl)
    (hp : ∀ env, (backTo pos (starEach es env)).any (·.1) = false := by intro _; rfl) (hd : (x == ("__debug__" : Str)) = false := by decide) (hn : (x == ("__classdict__" : Str)) = false := by decide) :
    Ev C b n sc ρ (.Call (.Name x p) es [] pos) d := by
  refine .mk ?_
  rintro A env hid s E rfl hA X
  have hvar : Ev C b n env.scope ρ (.Name x p) .key := Ev.var hx rfl hk hd hn
  refine wpAny_Call_NameR (hvar.go rfl hA X fun v s₁ k t X1 r => ?_)
  have r : v = C.key := r
  rw [hkey] at r
  subst r
  obtain ⟨o, fd, ho, hfd⟩ := hfo _ X1.md
  refine callWith_function (o := o) (fd := fd) (args_plain (hp env) (ha.go rfl hA X1 fun vs s₂ k2 t2 X2 r2 => ?_))
  obtain ⟨o2, fd2, ho2, hfd2⟩ := hfo _ X2.md
  refine ⟨⟨?_, hfd⟩, wpAny_call (hF A hid s₂ _ vs hA X2.st r2 fun v s' k' r' => ⟨(k.trans k2).trans k', r'⟩)⟩
  by_cases e : f = P0
  · obtain ⟨ps, q, _⟩ := X1.tab
    rw [e, q] at ho
    cases ho; cases hfd
  · exact k2.heap.1 _ _ e ho

section
variable {ns : List Nat} {q : Nat → Bool} {f : Addr} (hkey : C.key = .ref f) (hF : ∀ k : Nat, Fn C true n f [.int (k : Int)] (.bool (q k))) (hfo : ∀ h, C.Md h → ∃ o fd, h.get? f = some o ∧ o.data = .func fd)
include hkey hF hfo
def elseW (i : Nat) : Stmt := nth (match nth (bd i) 2 with | .If _ _ o _ => o | _ => []) 0
theorem bisR_loop : ∀ (k lo hi : Nat) (ρ₀ : List (Str × D)), hi - lo ≤ k → lo ≤ hi → hi ≤ ns.length → ns.length ≤ 1000 → Sub [("a", .ints (zs ns)), ("x", .bool false), ("key", .key), ("lo", .int (lo : Int)), ("hi", .int (hi : Int))] ρ₀ →
    ∃ ρ₁, Sub [("lo", .int ((bisGo (fun i => !q (ns.getD i 0)) k lo hi : Nat) : Int))] ρ₁ ∧ Whl true C n (scp 5) (whlT (elseW 5)) (whlB (elseW 5)) ρ₀ ρ₁ := by
  intro k
  induction k with
  | zero =>
    intro lo hi ρ₀ h1 h2 h3 h4 hs
    refine ⟨ρ₀, (Sub.cons rfl Sub.nil).trans hs, Whl.stop (Tr.pre (Tr.eq (Tr.cmp (Ev.var rfl) (Ev.var rfl) Cmp.ltN) (by simp; omega)) hs)⟩
  | succ k ih =>
    intro lo hi ρ₀ h1 h2 h3 h4 hs
    by_cases hlt : lo < hi
    · have test : Tr C true n (scp 5) ρ₀ (whlT (elseW 5)) true := Tr.pre (Tr.eq (Tr.cmp (Ev.var rfl) (Ev.var rfl) Cmp.ltN) (by simpa using hlt)) hs
      have hm : (lo + hi) / 2 < ns.length := by omega
      have hget : (zs ns)[((lo + hi) / 2 : Nat)]? = some ((ns.getD ((lo + hi) / 2) 0 : Nat) : Int) := by simp [List.getD, List.getElem?_eq_getElem hm]
      have mid : Sm false true C n (scp 5) [("a", .ints (zs ns)), ("x", .bool false), ("key", .key), ("lo", .int (lo : Int)), ("hi", .int (hi : Int))] (nth (whlB (elseW 5)) 0) (.next [("mid", .int (((lo + hi) / 2 : Nat) : Int)), ("a", .ints (zs ns)), ("x", .bool false), ("key", .key), ("lo", .int (lo : Int)), ("hi", .int (hi : Int))]) :=
        Sm.assign (Ev.eq (Ev.divC (Ev.addN (Ev.var rfl) (Ev.var rfl)) (by decide) (by decide)) (congrArg D.int (fdivN (lo + hi) 2)))
      have cond : Tr C true n (scp 5) [("mid", .int (((lo + hi) / 2 : Nat) : Int)), ("a", .ints (zs ns)), ("x", .bool false), ("key", .key), ("lo", .int (lo : Int)), ("hi", .int (hi : Int))] (match nth (whlB (elseW 5)) 1 with | .If t _ _ _ => t | _ => .Constant .none 0 ⟨0, 0, 0, 0⟩) (q (ns.getD ((lo + hi) / 2) 0)) :=
        Tr.eq (Tr.cmp (Ev.var rfl) (Ev.callKey hkey rfl (Evs.cons (Ev.item (Ev.var rfl) (Ev.var rfl) (Itm.ints (by omega) (by omega) hget)) Evs.nil) (hF _) hfo) Cmp.ltBool) (by simp)
      cases hq : q (ns.getD ((lo + hi) / 2) 0) with
      | true =>
        obtain ⟨ρ₁, g1, g2⟩ := ih lo ((lo + hi) / 2) [("hi", .int (((lo + hi) / 2 : Nat) : Int)), ("mid", .int (((lo + hi) / 2 : Nat) : Int)), ("a", .ints (zs ns)), ("x", .bool false), ("key", .key), ("lo", .int (lo : Int)), ("hi", .int (hi : Int))] (by omega) (by omega) (by omega) h4 (Sub.cons rfl (Sub.cons rfl (Sub.cons rfl (Sub.cons rfl (Sub.cons rfl Sub.nil)))))
        refine ⟨ρ₁, by rw [bisGo_dn hlt (by rw [hq]; rfl)]; exact g1, Whl.step test (Ex.pre (Ex.cons mid (Ex.one (Sm.if_ (Tr.eq cond hq) (fun _ => ?_) fun h => absurd h (by simp)))) hs) g2⟩
        exact Ex.one (Sm.assign (Ev.var rfl))
      | false =>
        obtain ⟨ρ₁, g1, g2⟩ := ih ((lo + hi) / 2 + 1) hi [("lo", .int (((lo + hi) / 2 + 1 : Nat) : Int)), ("mid", .int (((lo + hi) / 2 : Nat) : Int)), ("a", .ints (zs ns)), ("x", .bool false), ("key", .key), ("lo", .int (lo : Int)), ("hi", .int (hi : Int))] (by omega) (by omega) (by omega) h4 (Sub.cons rfl (Sub.cons rfl (Sub.cons rfl (Sub.cons rfl (Sub.cons rfl Sub.nil)))))
        refine ⟨ρ₁, by rw [bisGo_up hlt (by rw [hq]; rfl)]; exact g1, Whl.step test (Ex.pre (Ex.cons mid (Ex.one (Sm.if_ (Tr.eq cond hq) (fun h => absurd h (by simp)) fun _ => ?_))) hs) g2⟩
        exact Ex.one (Sm.assign (Ev.addN (Ev.var rfl) (Ev.intN 1)))
    · refine ⟨ρ₀, (Sub.cons (by rw [bisGo_end hlt]; rfl) Sub.nil).trans hs, Whl.stop (Tr.pre (Tr.eq (Tr.cmp (Ev.var rfl) (Ev.var rfl) Cmp.ltN) (by simpa using hlt)) hs)⟩
theorem bisR_body (h4 : ns.length ≤ 1000) : Ex true true C n (scp 5) [("a", .ints (zs ns)), ("x", .bool false), ("lo", .int ((0 : Nat) : Int)), ("hi", .sc .none), ("key", .key)] (bd 5) (.ret (.int ((bisGo (fun i => !q (ns.getD i 0)) ns.length 0 ns.length : Nat) : Int))) := by
  refine Ex.cons (Sm.if_ (Tr.cmp (Ev.var rfl) (Ev.intN 0) Cmp.ltN) (fun h => absurd h (by simp)) fun _ => Ex.nil) ?_
  refine Ex.cons (Sm.if_ (Tr.cmp (Ev.var rfl) Ev.none_ Cmp.isNone) (fun _ => Ex.one (Sm.assign (Ev.eq (d := .int (ns.length : Int)) (Ev.lenI (Ev.var rfl) (by rw [List.length_map]; omega)) (by rw [List.length_map])))) fun h => absurd h (by simp)) ?_
  obtain ⟨ρ₁, h1, h2⟩ := bisR_loop (ns := ns) hkey hF hfo ns.length 0 ns.length [("hi", .int (ns.length : Int)), ("a", .ints (zs ns)), ("x", .bool false), ("lo", .int ((0 : Nat) : Int)), ("hi", .sc .none), ("key", .key)] (by omega) (by omega) (Nat.le_refl _) h4 (Sub.cons rfl (Sub.cons rfl (Sub.cons rfl (Sub.cons rfl (Sub.cons rfl Sub.nil)))))
  refine Ex.cons (Sm.if_ (Tr.cmp (Ev.var rfl) Ev.none_ (Cmp.keyNone hkey)) (fun h => absurd h (by simp)) fun _ => Ex.one (Sm.post (Sm.while_ h2) h1)) ?_
  exact Ex.ret (Sm.ret (Ev.var rfl))
theorem bisL_loop : ∀ (k lo hi : Nat) (ρ₀ : List (Str × D)), hi - lo ≤ k → lo ≤ hi → hi ≤ ns.length → ns.length ≤ 1000 → Sub [("a", .ints (zs ns)), ("x", .bool true), ("key", .key), ("lo", .int (lo : Int)), ("hi", .int (hi : Int))] ρ₀ →
    ∃ ρ₁, Sub [("lo", .int ((bisGo (fun i => !q (ns.getD i 0)) k lo hi : Nat) : Int))] ρ₁ ∧ Whl true C n (scp 6) (whlT (elseW 6)) (whlB (elseW 6)) ρ₀ ρ₁ := by
  intro k
  induction k with
  | zero =>
    intro lo hi ρ₀ h1 h2 h3 h4 hs
    refine ⟨ρ₀, (Sub.cons rfl Sub.nil).trans hs, Whl.stop (Tr.pre (Tr.eq (Tr.cmp (Ev.var rfl) (Ev.var rfl) Cmp.ltN) (by simp; omega)) hs)⟩
  | succ k ih =>
    intro lo hi ρ₀ h1 h2 h3 h4 hs
    by_cases hlt : lo < hi
    · have test : Tr C true n (scp 6) ρ₀ (whlT (elseW 6)) true := Tr.pre (Tr.eq (Tr.cmp (Ev.var rfl) (Ev.var rfl) Cmp.ltN) (by simpa using hlt)) hs
      have hm : (lo + hi) / 2 < ns.length := by omega
      have hget : (zs ns)[((lo + hi) / 2 : Nat)]? = some ((ns.getD ((lo + hi) / 2) 0 : Nat) : Int) := by simp [List.getD, List.getElem?_eq_getElem hm]
      have mid : Sm false true C n (scp 6) [("a", .ints (zs ns)), ("x", .bool true), ("key", .key), ("lo", .int (lo : Int)), ("hi", .int (hi : Int))] (nth (whlB (elseW 6)) 0) (.next [("mid", .int (((lo + hi) / 2 : Nat) : Int)), ("a", .ints (zs ns)), ("x", .bool true), ("key", .key), ("lo", .int (lo : Int)), ("hi", .int (hi : Int))]) :=
        Sm.assign (Ev.eq (Ev.divC (Ev.addN (Ev.var rfl) (Ev.var rfl)) (by decide) (by decide)) (congrArg D.int (fdivN (lo + hi) 2)))
      have cond : Tr C true n (scp 6) [("mid", .int (((lo + hi) / 2 : Nat) : Int)), ("a", .ints (zs ns)), ("x", .bool true), ("key", .key), ("lo", .int (lo : Int)), ("hi", .int (hi : Int))] (match nth (whlB (elseW 6)) 1 with | .If t _ _ _ => t | _ => .Constant .none 0 ⟨0, 0, 0, 0⟩) (!q (ns.getD ((lo + hi) / 2) 0)) :=
        Tr.eq (Tr.cmp (Ev.callKey hkey rfl (Evs.cons (Ev.item (Ev.var rfl) (Ev.var rfl) (Itm.ints (by omega) (by omega) hget)) Evs.nil) (hF _) hfo) (Ev.var rfl) Cmp.ltBool) (by simp)
      cases hq : q (ns.getD ((lo + hi) / 2) 0) with
      | true =>
        obtain ⟨ρ₁, g1, g2⟩ := ih lo ((lo + hi) / 2) [("hi", .int (((lo + hi) / 2 : Nat) : Int)), ("mid", .int (((lo + hi) / 2 : Nat) : Int)), ("a", .ints (zs ns)), ("x", .bool true), ("key", .key), ("lo", .int (lo : Int)), ("hi", .int (hi : Int))] (by omega) (by omega) (by omega) h4 (Sub.cons rfl (Sub.cons rfl (Sub.cons rfl (Sub.cons rfl (Sub.cons rfl Sub.nil)))))
        refine ⟨ρ₁, by rw [bisGo_dn hlt (by rw [hq]; rfl)]; exact g1, Whl.step test (Ex.pre (Ex.cons mid (Ex.one (Sm.if_ (Tr.eq cond (d := false) (by rw [hq]; rfl)) (fun h => absurd h (by simp)) fun _ => ?_))) hs) g2⟩
        exact Ex.one (Sm.assign (Ev.var rfl))
      | false =>
        obtain ⟨ρ₁, g1, g2⟩ := ih ((lo + hi) / 2 + 1) hi [("lo", .int (((lo + hi) / 2 + 1 : Nat) : Int)), ("mid", .int (((lo + hi) / 2 : Nat) : Int)), ("a", .ints (zs ns)), ("x", .bool true), ("key", .key), ("lo", .int (lo : Int)), ("hi", .int (hi : Int))] (by omega) (by omega) (by omega) h4 (Sub.cons rfl (Sub.cons rfl (Sub.cons rfl (Sub.cons rfl (Sub.cons rfl Sub.nil)))))
        refine ⟨ρ₁, by rw [bisGo_up hlt (by rw [hq]; rfl)]; exact g1, Whl.step test (Ex.pre (Ex.cons mid (Ex.one (Sm.if_ (Tr.eq cond (d := true) (by rw [hq]; rfl)) (fun _ => ?_) fun h => absurd h (by simp)))) hs) g2⟩
        exact Ex.one (Sm.assign (Ev.addN (Ev.var rfl) (Ev.intN 1)))
    · refine ⟨ρ₀, (Sub.cons (by rw [bisGo_end hlt]; rfl) Sub.nil).trans hs, Whl.stop (Tr.pre (Tr.eq (Tr.cmp (Ev.var rfl) (Ev.var rfl) Cmp.ltN) (by simpa using hlt)) hs)⟩
theorem bisL_body (h4 : ns.length ≤ 1000) : Ex true true C n (scp 6) [("a", .ints (zs ns)), ("x", .bool true), ("lo", .int ((0 : Nat) : Int)), ("hi", .sc .none), ("key", .key)] (bd 6) (.ret (.int ((bisGo (fun i => !q (ns.getD i 0)) ns.length 0 ns.length : Nat) : Int))) := by
  refine Ex.cons (Sm.if_ (Tr.cmp (Ev.var rfl) (Ev.intN 0) Cmp.ltN) (fun h => absurd h (by simp)) fun _ => Ex.nil) ?_
  refine Ex.cons (Sm.if_ (Tr.cmp (Ev.var rfl) Ev.none_ Cmp.isNone) (fun _ => Ex.one (Sm.assign (Ev.eq (d := .int (ns.length : Int)) (Ev.lenI (Ev.var rfl) (by rw [List.length_map]; omega)) (by rw [List.length_map])))) fun h => absurd h (by simp)) ?_
  obtain ⟨ρ₁, h1, h2⟩ := bisL_loop (ns := ns) hkey hF hfo ns.length 0 ns.length [("hi", .int (ns.length : Int)), ("a", .ints (zs ns)), ("x", .bool true), ("lo", .int ((0 : Nat) : Int)), ("hi", .sc .none), ("key", .key)] (by omega) (by omega) (Nat.le_refl _) h4 (Sub.cons rfl (Sub.cons rfl (Sub.cons rfl (Sub.cons rfl (Sub.cons rfl Sub.nil)))))
  refine Ex.cons (Sm.if_ (Tr.cmp (Ev.var rfl) Ev.none_ (Cmp.keyNone hkey)) (fun h => absurd h (by simp)) fun _ => Ex.one (Sm.post (Sm.while_ h2) h1)) ?_
  exact Ex.ret (Sm.ret (Ev.var rfl))

/-- a bisect, as an object of the heap -/
def BisAt (h : Heap) (a : Addr) (i : Nat) (qual : Str) : Prop := ∃ o fd T oT t m, h.get? a = some o ∧ o.data = .func fd ∧ fd.params = prm i ∧ fd.body = .stmts (bd i) ∧ fd.scope = scp i ∧ fd.qualname = qual ∧ fd.globals = mainGlobals ∧ fd.builtins = builtinsNs ∧ fd.closure = [] ∧ h.CodeRec fd.code qual ∧
  fd.defaults = .ref T ∧ h.get? T = some oT ∧ oT.data = .seq #[.int 0 t, .none] m
theorem callBisR (hB : ∀ h, C.Md h → BisAt h 55 5 "bisect_right") (h4 : ns.length ≤ 1000) {A : Around} {hid : Addr → Prop} {s : Shared} {R : Result → Shared → Prop} {u : Value} (hA : Calm (n + 1) A) (X : St C hid s) (hu : Rep C.key (Vis hid s.heap) u (.ints (zs ns)))
    (hR : ∀ v s', Keeps s s' → Sc.Is v (.int ((bisGo (fun i => !q (ns.getD i 0)) ns.length 0 ns.length : Nat) : Int)) → R (.ok (.ret v)) s') : codeAny (model prog C.w) A (.call (.ref 55) ⟨[u, .bool false], [("key", C.key)]⟩) R s := by
  obtain ⟨o, fd, T, oT, t, m, ho, hd, hp, hbd, hs, hq, hg, hbi, hcl, hcd, hdf, hoT, hdT⟩ := hB _ X.md
  refine callDef (ps := ["a", "x", "lo", "hi", "key"]) (vs := [u, .bool false, .int 0 t, .none, C.key]) (ds := [.ints (zs ns), .bool false, .int ((0 : Nat) : Int), .sc .none, .key]) hA X (.cons hu (.cons (show Sc.Is (.bool false) (.bool false) from rfl) (.cons (show Sc.Is (.int 0 t) (.int ((0 : Nat) : Int)) from rfl) (.cons (show Sc.Is .none .none from trivial) (.cons (show C.key = C.key from rfl) .nil))))) ho hd hbd hs hg hbi hcl (by rw [hq]; exact hcd) ?_ (bisR_body hkey hF hfo h4) (fun v s' K r => hR v s' K r)
  obtain ⟨⟩ := fd
  simp only at hp hdf
  subst hp hdf
  exact BindsTo.of_defaults rfl hoT hdT rfl rfl
theorem callBisL (hB : ∀ h, C.Md h → BisAt h 64 6 "bisect_left") (h4 : ns.length ≤ 1000) {A : Around} {hid : Addr → Prop} {s : Shared} {R : Result → Shared → Prop} {u : Value} (hA : Calm (n + 1) A) (X : St C hid s) (hu : Rep C.key (Vis hid s.heap) u (.ints (zs ns)))
    (hR : ∀ v s', Keeps s s' → Sc.Is v (.int ((bisGo (fun i => !q (ns.getD i 0)) ns.length 0 ns.length : Nat) : Int)) → R (.ok (.ret v)) s') : codeAny (model prog C.w) A (.call (.ref 64) ⟨[u, .bool true], [("key", C.key)]⟩) R s := by
  obtain ⟨o, fd, T, oT, t, m, ho, hd, hp, hbd, hs, hq, hg, hbi, hcl, hcd, hdf, hoT, hdT⟩ := hB _ X.md
  refine callDef (ps := ["a", "x", "lo", "hi", "key"]) (vs := [u, .bool true, .int 0 t, .none, C.key]) (ds := [.ints (zs ns), .bool true, .int ((0 : Nat) : Int), .sc .none, .key]) hA X (.cons hu (.cons (show Sc.Is (.bool true) (.bool true) from rfl) (.cons (show Sc.Is (.int 0 t) (.int ((0 : Nat) : Int)) from rfl) (.cons (show Sc.Is .none .none from trivial) (.cons (show C.key = C.key from rfl) .nil))))) ho hd hbd hs hg hbi hcl (by rw [hq]; exact hcd) ?_ (bisL_body hkey hF hfo h4) (fun v s' K r => hR v s' K r)
  obtain ⟨⟩ := fd
  simp only at hp hdf
  subst hp hdf
  exact BindsTo.of_defaults rfl hoT hdT rfl rfl
end
end
end Mine
end
section
open PySem PySem.W PyProof.Rows PySem.Calls
namespace Mine
/-- list(range(1, m)) -/
def cnts (m : Nat) : List Nat := (List.range (m - 1)).map (· + 1)
theorem cnts_len (m : Nat) : (cnts m).length = m - 1 := by simp [cnts]
theorem intsAre_of_get : ∀ {vs : List Value} {ns : List Int}, vs.length = ns.length → (∀ (i : Nat) v n, vs[i]? = some v → ns[i]? = some n → ∃ t, v = .int n t) → IntsAre vs ns
  | [], [], _, _ => .nil
  | v :: vs, n :: ns, hl, h => by
    obtain ⟨t, rfl⟩ := h 0 v n rfl rfl
    exact .cons n t (intsAre_of_get (by simpa using hl) fun i v n e e' => h (i + 1) v n (by simpa using e) (by simpa using e'))
  | [], _ :: _, hl, _ => by simp at hl
  | _ :: _, [], hl, _ => by simp at hl
section
variable {C : Ctx} {b : Bool} {n : Nat} {sc : Scope} {ρ : List (Str × D)}
theorem Ev.listRange {e : Expr} {p p2 p3 pos pos2 : Pos} {k m : Nat} (h : Ev C b n sc ρ e (.int (m : Int))) (hz : m ≤ 1000) (hk : sc.names.lookup ("range" : Str) = some .globalImplicit := by rfl) (hk2 : sc.names.lookup ("list" : Str) = some .globalImplicit := by rfl)
    (hp : ∀ env, backTo pos2 (starEach [.Constant (.int 1) k p3, e] env) = [(false, eval (.Constant (.int 1) k p3) env), (false, eval e env)] := by intro _; rfl)
    (hp2 : ∀ env, backTo pos (starEach [.Call (.Name "range" p2) [.Constant (.int 1) k p3, e] [] pos2] env) = [(false, eval (.Call (.Name "range" p2) [.Constant (.int 1) k p3, e] [] pos2) env)] := by intro _; rfl) :
    Ev C b n sc ρ (.Call (.Name "list" p) [.Call (.Name "range" p2) [.Constant (.int 1) k p3, e] [] pos2] [] pos) (.ints (zs (cnts m))) := by
  refine .mk ?_
  rintro A env hid s E rfl hA X
  refine wpAny_Call_NameR (name_bi X (v := .type "list") (by decide +kernel) (by decide) hk2 ?_)
  rw [hp2]
  refine PyProof.Rows.callWith_type rfl (evalArgs_plain (spliced_cons ?_))
  refine wpAny_Call_NameR (name_bi X (v := .type "range") (by decide +kernel) (by decide) hk ?_)
  rw [hp]
  have hone : Ev C b n env.scope ρ (.Constant (.int 1) k p3) (.int 1) := Ev.int
  refine PyProof.Rows.callWith_type rfl (evalArgs_plain (spliced_cons (hone.go rfl hA X fun v₁ s₁ k1 t1 X1 r1 => spliced_cons (h.go rfl hA X1 fun v₂ s₂ k2 t2 X2 r2 => spliced_nil ?_))))
  obtain ⟨t, rfl⟩ := is_int r1
  obtain ⟨u, rfl⟩ := is_int r2
  refine call_range_2 (spliced_nil ?_)
  have kk1 := keeps_push s₂ { cls := .type "range", data := .fields #[.int 1 t, .int (m : Int) u, .int 1 s₂.toks] } (s₂.toks + 1)
  have X3 := X2.kp (KR.of_keeps (b := true) kk1).heap (Nat.le_succ _)
  have hsz : Builtin.Range.rangeSize 1 (m : Int) 1 = ((m - 1 : Nat) : Int) := by rw [rangeSize_one]; split <;> omega
  refine call_list_range hA.1 (IsRange.new _ _ _ _ _ _ _) (small_one (by omega) (by omega) (by omega) (by omega)) hsz (by omega) fun h' tk acc' c' hk' hS hI => ?_
  have kk2 : Keeps { s₂ with heap := s₂.heap.push { cls := .type "range", data := .fields #[.int 1 t, .int (m : Int) u, .int 1 s₂.toks] }, toks := s₂.toks + 1 } { s₂ with heap := h', toks := tk } := keeps_mk hk'
  refine ⟨((k1.trans k2).trans (.of_keeps kk1)).trans (.of_keeps kk2), ints_rep (vs := acc'.toList) ⟨_, hS, rfl, _, rfl⟩ (intsAre_of_get (by simp [hI.1, cnts]) fun i v x e e' => ?_) (X3.fresh (get_size _))⟩
  obtain ⟨t', ht'⟩ := hI.2 i v (by simpa using e)
  have hi : i < m - 1 := by
    have := (List.getElem?_eq_some_iff.mp e).1
    rw [Array.length_toList, hI.1] at this
    exact this
  have : x = 1 + (i : Int) * 1 := by
    simp [cnts, hi] at e'
    omega
  exact ⟨t', by rw [this]; exact ht'⟩

/-- no key function in it -/
def D.noKey : D → Bool
  | .key => false
  | .pair a b => a.noKey && b.noKey
  | _ => true
theorem rep_key {key key' : Value} {V : Addr → Obj → Prop} : ∀ {d : D} {v : Value}, d.noKey = true → Rep key V v d → Rep key' V v d
  | .sc _, _, _, h => h
  | .ints _, _, _, h => h
  | .strs _, _, _, h => h
  | .pair _ _, _, hn, ⟨a, o, p, q, n, e, x, c, d, r1, r2⟩ => by
    have hn := Bool.and_eq_true_iff.mp hn
    exact ⟨a, o, p, q, n, e, x, c, d, rep_key hn.1 r1, rep_key hn.2 r2⟩
  | .key, _, hn, _ => by cases hn
  | .ownI _, _, _, h => h
  | .ownS _, _, _, h => h

/-- the key function and what it closes over -/
structure LamAt (f : Addr) (params : Arguments) (body : Expr) (scope : Scope) (clos : List (Str × Addr)) (caps : List (Str × D)) (opn : Addr → Prop) (h : Heap) : Prop where
  fn : ∃ pm c' ctv, h.get? f = some { cls := .type "function", data := .func (kla_fn "<lambda>" lamQual params body scope clos pm (.ref c') ctv) } ∧ c' < f ∧ c' ≠ P0 ∧ h.CodeRec (.ref c') lamQual
  cap : ∀ x d, caps.lookup x = some d → ∃ c v, clos.lookup x = some c ∧ c < f ∧ c ≠ P0 ∧ h.IsCell c (some v) ∧ Rep (.ref f) (fun a o => h.get? a = some o ∧ opn a) v d
  op : ∀ a, opn a → ∃ o, h.get? a = some o
theorem LamAt.keep {f : Addr} {params : Arguments} {body : Expr} {scope : Scope} {clos : List (Str × Addr)} {caps : List (Str × D)} {opn : Addr → Prop} {h h' : Heap} (hf : f ≠ P0) (ho : ∀ a, opn a → a < f ∧ a ≠ P0) (k : KeptBelow (f + 1) h h') (x : LamAt f params body scope clos caps opn h) : LamAt f params body scope clos caps opn h' where
  fn := by
    obtain ⟨pm, c', ctv, e1, e2, e3, cc, oc, vs, t, e, g1, g2, g3⟩ := x.fn
    cases e
    exact ⟨pm, c', ctv, k.1 f _ (Nat.lt_succ_self _) hf e1, e2, e3, c', oc, vs, t, rfl, k.1 c' _ (Nat.lt_succ_of_lt e2) e3 g1, g2, g3⟩
  cap := fun y d e => by
    obtain ⟨c, v, e1, e2, e3, ⟨o, g1, g2⟩, r⟩ := x.cap y d e
    exact ⟨c, v, e1, e2, e3, ⟨o, k.1 c _ (Nat.lt_succ_of_lt e2) e3 g1, g2⟩, r.mono fun a o z => ⟨k.1 a o (Nat.lt_succ_of_lt (ho a z.2).1) (ho a z.2).2 z.1, z.2⟩⟩
  op := fun a ha => let ⟨o, e⟩ := x.op a ha; ⟨o, k.1 a o (Nat.lt_succ_of_lt (ho a ha).1) (ho a ha).2 e⟩

/-- the context of the key's calls -/
def Ctx.lam (C : Ctx) (f : Addr) (params : Arguments) (body : Expr) (scope : Scope) (clos : List (Str × Addr)) (caps : List (Str × D)) (opn : Addr → Prop) (hf : C.lo ≤ f) (ho : ∀ a, opn a → a < f ∧ a ≠ P0): Ctx :=
  { C with
    key := .ref f
    lo := f + 1
    Md := fun h => C.Md h ∧ LamAt f params body scope clos caps opn h
    stable := fun h h' k m => ⟨C.stable h h' (k.mono (Nat.le_succ_of_le hf)) m.1, m.2.keep (fun e => absurd (Nat.lt_of_lt_of_le C.plo hf) (by rw [e]; exact Nat.lt_irrefl _)) ho k⟩
    g := fun h m => C.g h m.1
    b := fun h m => C.b h m.1
    lim := fun h m => C.lim h m.1
    big := fun h m => by
      obtain ⟨pm, c', ctv, e1, _⟩ := m.2.fn
      exact Heap.lt_size e1
    plo := Nat.lt_succ_of_lt (Nat.lt_of_lt_of_le C.plo hf)
    opn := fun a => C.opn a ∨ opn a
    opx := fun h m a ha => ha.elim (C.opx h m.1 a) (m.2.op a) }
theorem Has.lam {C : Ctx} (H : Has C) {f : Addr} {params : Arguments} {body : Expr} {scope : Scope} {clos : List (Str × Addr)} {caps : List (Str × D)} {opn : Addr → Prop} {hf : C.lo ≤ f} {ho : ∀ a, opn a → a < f ∧ a ≠ P0} :
    Has (C.lam f params body scope clos caps opn hf ho) where
  f3 := fun h m => H.f3 h m.1
  set := fun h m => H.set h m.1
  f9 := fun h m => H.f9 h m.1
  f11 := fun h m => H.f11 h m.1
  f12 := fun h m => H.f12 h m.1
  f13 := fun h m => H.f13 h m.1
  f14 := fun h m => H.f14 h m.1
  f15 := fun h m => H.f15 h m.1
  f16 := fun h m => H.f16 h m.1

theorem vis_opn {hid : Addr → Prop} {opn : Addr → Prop} {h : Heap} (H : ∀ a, opn a → ¬ hid a) : ∀ a o, (h.get? a = some o ∧ opn a) → Vis hid h a o := fun a o z => ⟨z.1, H a z.2⟩

/-- a call of the key function -/
theorem fnLam {f : Addr} {params : Arguments} {body : Expr} {scope : Scope} {clos : List (Str × Addr)} {caps : List (Str × D)} {opn : Addr → Prop} {hf : C.lo ≤ f} {ho : ∀ a, opn a → a < f ∧ a ≠ P0} {x : Str} {d d' : D}
    (hev : Ev (C.lam f params body scope clos caps opn hf ho) true n scope ((x, d) :: caps) body d') (hbind : ∀ (fd : FuncData) (v : Value), fd.params = params → fd.defaults = .none → fd.kwdefaults = .none → bindArgs fd ⟨[v], []⟩ = pure [(x, v)])
    (hxl : scope.names.lookup x = some .local := by rfl) (hfree : scope.names.all (fun p => p.2 != .free || (caps.lookup p.1).isSome) = true := by rfl) (hloc : scope.names.all (fun p => p.2 != .local || p.1 == x) = true := by rfl) (hcl : scope.names.all (fun p => p.2 != .cell) = true := by rfl)
    (hk : scope.kind = .function := by rfl) (hco : scope.isCoroutine = false := by rfl) (hgen : scope.isGenerator = false := by rfl) : Fn (C.lam f params body scope clos caps opn hf ho) true (n + 1) f [d] d' := fun A hid s R vs hA X hr hR => by
  obtain ⟨v, rfl, hv⟩ := rep1 hr
  obtain ⟨pm, c', ctv, hfn, _, _, hcd⟩ := X.md.2.fn
  refine kla_callFunE hA.room hfn rfl hco hgen rfl hcd ?_
  rw [hbind _ v rfl rfl rfl]
  refine wpAny_pure (wpAny_newFunctionEnv (fun z hz => by simpa using List.all_eq_true.mp hcl z hz) (fun z hz => by rw [List.mem_singleton.mp hz]; exact hxl) (fun h₁ hns hsb => ?_) hk)
  have hkeep : ∀ b o, s.heap.get? b = some o → h₁.get? b = some o := fun b o e => hsb.extBut b o (Nat.ne_of_lt (Heap.lt_size e)) (Heap.get?_push_of_some _ e)
  have kr : Keeps s { s with heap := h₁, toks := s.toks + [(x, v)].length } := keeps_mk hkeep
  have X₁ := X.kp (s' := { s with heap := h₁, toks := s.toks + [(x, v)].length }) (KR.of_keeps (b := true) kr).heap (Nat.le_add_right _ _)
  refine ⟨((C.lam f params body scope clos caps opn hf ho).lim _ X.md).keeps hkeep, kla_codeExpr ?_⟩
  have hP : P0 < s.heap.objs.size := Nat.lt_of_lt_of_le (C.lam f params body scope clos caps opn hf ho).plo ((C.lam f params body scope clos caps opn hf ho).big _ X.md)
  have vis : ∀ z o, Vis hid s.heap z o → Vis (fun a => hid a ∨ a = s.heap.objs.size) h₁ z o := fun z o q => ⟨hkeep z o q.1, fun e => e.elim q.2 fun e => by
    have := q.1
    rw [e, get_size] at this; cases this⟩
  have E₁ : EnvE (C.lam f params body scope clos caps opn hf ho) (fun a => hid a ∨ a = s.heap.objs.size) (newEnv scope s.heap.objs.size mainGlobals clos (lamQual ++ ".<locals>.") (some f) (.ref c') none builtinsNs) ((x, d) :: caps) { s with heap := h₁, toks := s.toks + [(x, v)].length } := {
    kind := hk
    glob := rfl
    bi := rfl
    tok := X₁.tok
    md := X₁.md
    tab := X₁.tab
    h106 := .inl X.h106
    hin := fun a ha => ha.elim (X₁.hin a) fun e => by
      obtain ⟨o, _, _, e', _⟩ := hns
      exact ⟨o, e ▸ e'⟩
    L106 := Nat.ne_of_gt hP
    opn := fun a ha q => q.elim (X.opn a ha) fun e => by
      obtain ⟨o, e'⟩ := (C.lam f params body scope clos caps opn hf ho).opx _ X.md a ha
      rw [e, get_size] at e'; cases e'
    cc := fun z hz => by
      rcases hz with q | q
      · have q : scope.names.lookup z = some .cell := q
        have := List.all_eq_true.mp hcl _ (lookup_mem_kind q)
        simp at this
      · have q : scope.names.lookup z = some .free := q
        have := List.all_eq_true.mp hfree _ (lookup_mem_kind q)
        have h2 : (caps.lookup z).isSome = true := by simpa using this
        obtain ⟨e, he⟩ := Option.isSome_iff_exists.mp h2
        obtain ⟨c, u, e1, _⟩ := X.md.2.cap z e he
        show (clos.lookup z).isSome = true
        rw [e1]; rfl
    loc := ⟨_, hns, fun z e hz _ hkz => by
      have q : scope.names.lookup z = some .local := hkz
      have hzx : z = x := by simpa using List.all_eq_true.mp hloc _ (lookup_mem_kind q)
      subst hzx
      rw [List.lookup_cons] at hz
      simp at hz
      subst hz
      exact ⟨v, by simp, hv.mono vis⟩⟩
    cel := fun z e hz _ hkz => by
      have q : scope.names.lookup z = some .free := by
        rcases hkz with q | q
        · have q : scope.names.lookup z = some .cell := q
          have := List.all_eq_true.mp hcl _ (lookup_mem_kind q)
          simp at this
        · exact q
      have hzx : ¬ z = x := fun e => by rw [e, hxl] at q; cases q
      rw [List.lookup_cons] at hz
      have hb : (z == x) = false := beq_eq_false_iff_ne.mpr hzx
      rw [hb] at hz
      obtain ⟨c, u, e1, e2, e3, e4, r⟩ := X.md.2.cap z e hz
      exact ⟨c, u, e1, e3, e4.keeps hkeep, (r.mono (vis_opn fun a ha => X.opn a (.inr ha))).mono vis⟩ }
  refine wpAny_mono (hev.all (A.deeper _) _ _ _ _ rfl (hA.deeper _) E₁) ?_ fun _ _ e => e
  rintro u s₂ ⟨k₂, r₂⟩
  exact hR u s₂ (KR.trans (b := true) kr k₂) (r₂.mono (vis_more fun _ e => .inl e))
end
end Mine
end
section
open PySem PySem.W PyProof.Rows PySem.Calls
namespace Mine
structure HasL (C : Ctx) : Prop where
  has : Has C
  c15 : ∀ h, C.Md h → ∀ o fd, h.get? 111 = some o → o.data = .func fd → fd.code = .ref 110
  hd15 : ∀ h, C.Md h → CodeHd h 110 P0
  bia : ∀ h, C.Md h → h.BuiltinsAt C.mg P0
  b5 : ∀ h, C.Md h → BisAt h 55 5 "bisect_right"
  b6 : ∀ h, C.Md h → BisAt h 64 6 "bisect_left"
theorem codeAmong_snoc_inv {pos pos' : Pos} {c cv : Value} (l : List Value) (h : TriplesOk l) (hc : codeAmong pos (l ++ [rawInt pos'.line, rawInt pos'.col, c]) = some cv) : codeAmong pos l = some cv ∨ cv = c := by
  fun_induction TriplesOk l with
  | case1 =>
    simp only [List.nil_append, rawInt, codeAmong] at hc
    split at hc
    · cases hc; exact .inr rfl
    · cases hc
  | case2 a t b u x rest ih =>
    simp only [List.cons_append, codeAmong] at hc ⊢
    split
    · rename_i e
      rw [if_pos e] at hc
      exact .inl hc
    · rename_i e
      rw [if_neg e] at hc
      exact ih h hc
  | case3 l h1 h2 => exact h.elim
theorem code_ne {h : Heap} {ps : Array Value} {c : Addr} {q : Str} (hP : h.get? P0 = some (tabObj ps)) (ht : TriplesOk ps.toList) (hc : h.CodeRec (.ref c) q) : c ≠ P0 := by
  rintro rfl
  obtain ⟨c', o, vs, t, e, g1, g2, g3⟩ := hc
  cases e
  rw [hP] at g1
  cases g1
  cases g2
  have g3' : ps.toList[1]? = some (.str q t) := by simpa using g3
  revert ht g3'
  generalize ps.toList = l
  intro ht g
  match l, ht, g with
  | .int _ _ :: .int _ _ :: _ :: _, _, g => cases g

section
variable {C : Ctx} {b : Bool} {n : Nat} {ρ : List (Str × D)}
theorem evLam {A : Around} {env : Env} {hid : Addr → Prop} {s : Shared} {E : Value → Shared → Prop} {Q : Value → Shared → Prop} {params : Arguments} {body : Expr} {scope : Scope} {pos : Pos} (H : HasL C) (X : EnvE C hid env ρ s) (hcode : env.code = .ref 110) (hq : env.qual = ("_law_place.<locals>." : Str)) (hdef : defaultsOf params env = ([], []))
    (hfr : scope.names.all (fun p => p.2 != .free || env.scope.names.lookup p.1 == some .cell || env.scope.names.lookup p.1 == some .free) = true)
    (k : ∀ f c' pm ctv s', Kp s s' → s.toks ≤ s'.toks → c' < f → c' ≠ P0 → s'.heap.get? f = some { cls := .type "function", data := .func (kla_fn "<lambda>" lamQual params body scope (closL env scope.names []) pm (.ref c') ctv) } → s'.heap.CodeRec (.ref c') lamQual → C.lo ≤ f →
      (∀ a o, s.heap.get? a = some o → a < f) → Q (.ref f) s') : wpAny (model prog C.w) A (eval (.Lambda params body scope pos) env) Q E s := by
  have hqual : env.qual ++ ("<lambda>" : Str) = lamQual := by rw [hq]; decide +kernel
  obtain ⟨ps, hP, ht, hcs⟩ := X.tab
  have hbig := C.big _ X.md
  refine wpAny_mono (wpAny_toks (Q := fun v s' => ∃ f c' pm ctv, v = .ref f ∧ Kp s s' ∧ c' < f ∧ c' ≠ P0 ∧ s'.heap.get? f = some { cls := .type "function", data := .func (kla_fn "<lambda>" lamQual params body scope (closL env scope.names []) pm (.ref c') ctv) } ∧ s'.heap.CodeRec (.ref c') lamQual ∧ C.lo ≤ f ∧ (∀ a o, s.heap.get? a = some o → a < f)) (kla_eval hdef ?_)) ?_ fun _ _ e => e.2
  · rw [hqual]
    cases hf : codeAmong pos ps.toList with
    | none =>
      have hgP : mainGlobals ≠ P0 := by decide
      refine kla_makeFunction (mg := C.mg) (hclos_of X hfr) X.glob (C.g _ X.md) hcode (H.hd15 _ X.md) hP ht hf hgP (H.bia _ X.md) fun c' ctv h' tk hx hge hlt hrec htb => ?_
      have hsz : s.heap.objs.size ≤ h'.objs.size := Nat.le_trans hge (Nat.le_of_lt hlt)
      have up : ∀ b o, b ≠ P0 → s.heap.get? b = some o → (h'.push (kla_obj "<lambda>" lamQual params body scope (closL env scope.names []) ((C.mg "__name__").getD .none) c' ctv)).get? b = some o := fun b o hb e => Heap.get?_push_of_some _ (hx b o hb e)
      have htb' : (h'.push (kla_obj "<lambda>" lamQual params body scope (closL env scope.names []) ((C.mg "__name__").getD .none) c' ctv)).get? P0 = some (tabObj (ps ++ #[rawInt pos.line, rawInt pos.col, .ref c'])) := Heap.get?_push_of_some _ htb
      have hrec' := hrec.push (kla_obj "<lambda>" lamQual params body scope (closL env scope.names []) ((C.mg "__name__").getD .none) c' ctv)
      refine ⟨_, c', _, ctv, rfl, ⟨_, tk, rfl, up, fun _ => ⟨_, htb', ?_, fun pos' cv e => ?_⟩⟩, hlt, ?_, Heap.get?_push_size _ rfl, hrec', Nat.le_trans hbig hsz, fun a o e => Nat.lt_of_lt_of_le (Heap.lt_size e) hsz⟩
      · have := TriplesOk_snoc pos.line pos.col (.ref c') ps.toList ht
        simpa [rawInt] using this
      · have e' : codeAmong pos' (ps.toList ++ [rawInt pos.line, rawInt pos.col, .ref c']) = some cv := by simpa using e
        rcases codeAmong_snoc_inv ps.toList ht e' with e' | rfl
        · obtain ⟨d, rfl, hd⟩ := hcs pos' cv e'
          have hne := code_ne hP ht hd
          obtain ⟨cc, o, vs, t, g0, g1, g2, g3⟩ := hd
          cases g0
          exact ⟨d, rfl, d, o, vs, t, rfl, up d o hne g1, g2, g3⟩
        · exact ⟨c', rfl, hrec'⟩
      · exact fun e => absurd (Nat.lt_of_lt_of_le C.plo (Nat.le_trans hbig hge)) (by rw [e]; exact Nat.lt_irrefl _)
    | some cv =>
      obtain ⟨c', rfl, hrec⟩ := hcs pos cv hf
      refine kla_makeFunctionHit (mg := C.mg) (hclos_of X hfr) X.glob (C.g _ X.md) hcode (H.hd15 _ X.md) hP ht hf (H.bia _ X.md) fun ctv h' tk hk hsz => ?_
      have hlt : c' < s.heap.objs.size := by
        obtain ⟨cc, o, vs, t, g0, g1, g2, g3⟩ := hrec
        cases g0
        exact Heap.lt_size g1
      have up : ∀ b o, s.heap.get? b = some o → (h'.push { cls := .type "function", data := .func (kla_fn "<lambda>" lamQual params body scope (closL env scope.names []) ((C.mg "__name__").getD .none) (.ref c') ctv) }).get? b = some o := fun b o e => Heap.get?_push_of_some _ (hk b o e)
      exact ⟨_, c', _, ctv, rfl, ⟨_, tk, rfl, .of_keeps up⟩, Nat.lt_of_lt_of_le hlt hsz, code_ne hP ht hrec, Heap.get?_push_size _ rfl, hrec.keeps up, Nat.le_trans hbig hsz, fun a o e => Nat.lt_of_lt_of_le (Heap.lt_size e) hsz⟩
  · rintro v s' ⟨ht', f, c', pm, ctv, rfl, a1, a2, a3, a4, a5, a6, a7⟩
    exact k f c' pm ctv s' a1 ht' a2 a3 a4 a5 a6 a7

def retE : Stmt → Expr
  | .Return (some e) _ => e
  | _ => .Constant .none 0 ⟨0, 0, 0, 0⟩
def kwE : Expr → Expr
  | .Call _ _ (k :: _) _ => k.value
  | _ => .Constant .none 0 ⟨0, 0, 0, 0⟩
def lamP : Expr → Arguments
  | .Lambda p _ _ _ => p
  | _ => ⟨[], [], none, [], [], none, []⟩
def lamB : Expr → Expr
  | .Lambda _ e _ _ => e
  | _ => .Constant .none 0 ⟨0, 0, 0, 0⟩
def lamS : Expr → Scope
  | .Lambda _ _ s _ => s
  | _ => default
def lamQ : Expr → Pos
  | .Lambda _ _ _ p => p
  | _ => ⟨0, 0, 0, 0⟩
def retR : Expr := retE (nth (match nth (bd 15) 1 with | .If _ b _ _ => b | _ => []) 0)
def retL : Expr := retE (nth (bd 15) 2)
/-- where halving ends -/
def placeOf (ts os rs fl : List Nat) : Nat := bisGo (fun i => !(toldOf ts (os ++ rs.take ((cnts rs.length).getD i 0)) == fl)) (cnts rs.length).length 0 (cnts rs.length).length
def capsOf (ts os rs fl : List Nat) : List (Str × D) := [("typed", .strs (ones ts)), ("out", .ints (zs os)), ("row", .ints (zs rs)), ("full", .str (tx fl))]
theorem zs_app (a b : List Nat) : zs (a ++ b) = zs a ++ zs b := List.map_append
theorem pick_zs (rs : List Nat) (k : Nat) : pickNums (zs rs) none (some (k : Int)) none = zs (rs.take k) := by rw [pick_to]; exact List.map_take.symm

theorem placeR {A : Around} {env : Env} {hid : Addr → Prop} {s : Shared} {E : Value → Shared → Prop} {Q : Value → Shared → Prop} {ts os rs fl : List Nat} (H : HasL C) (hA : Calm (n + 4) A) (X : EnvE C hid env ρ s) (hs : env.scope = scp 15) (hcode : env.code = .ref 110) (hq : env.qual = ("_law_place.<locals>." : Str))
    (hρ : Sub (("counts", .ints (zs (cnts rs.length))) :: capsOf ts os rs fl) ρ) (hz1 : ts.length ≤ 300) (hz2 : os.length + rs.length ≤ 900) (k : ∀ v s', Kp s s' → Sc.Is v (.int (placeOf ts os rs fl : Int)) → Q v s') : wpAny (model prog C.w) A (eval retR env) Q E s := by
  have X := X.sub hρ
  refine wpAny_Call_Name_kw (name_gl X (a := 55) (by rfl) (by rw [hs]; rfl) ?_)
  obtain ⟨o55, fd55, _, _, _, _, ho55, hd55, _⟩ := H.b5 _ X.md
  refine callWith_function_kw (o := o55) (fd := fd55) (evalArgs_kw rfl ((Evs.cons (C := C) (b := true) (n := n + 4) (sc := scp 15) (Ev.var (x := "counts") (d := .ints (zs (cnts rs.length))) rfl) (Evs.cons (Ev.bool (c := false)) Evs.nil)).go hs hA X fun vs s₂ k2 t2 X2 r2 => ?_))
  obtain ⟨u, v, rfl, ru, r2⟩ := rep2 r2
  have r2 : Sc.Is v (.bool false) := r2
  obtain rfl := is_bool r2
  refine wpAny_evalAll_cons (wpAny_bind (evLam (params := lamP (kwE retR)) (body := lamB (kwE retR)) (scope := lamS (kwE retR)) (pos := lamQ (kwE retR)) H X2 hcode hq rfl (by rw [hs]; rfl) fun f c' pm ctv s₃ k3 t3 hc1 hc2 hfo hcd hlo hlt => wpAny_bind (wpAny_standAt (wpAny_pure (wpAny_evalAll_nil ⟨⟨k3.heap.1 _ _ (by decide) ((KR.heap k2).1 _ _ (by decide) ho55), hd55⟩, ?_⟩)))))
  have X3 := X2.kp k3.heap t3
  have cel : ∀ x d, (capsOf ts os rs fl).lookup x = some d → ∃ c v, (closL env (lamS (kwE retR)).names []).lookup x = some c ∧ c < f ∧ c ≠ P0 ∧ s₃.heap.IsCell c (some v) ∧ Rep C.key (Vis hid s₂.heap) v d := fun x d hx => by
    have hmem : x = "typed" ∨ x = "out" ∨ x = "row" ∨ x = "full" := by
      unfold capsOf at hx
      simp only [List.lookup_cons, List.lookup_nil] at hx
      split at hx
      · rename_i e; exact .inl (beq_iff_eq.mp e)
      · split at hx
        · rename_i e; exact .inr (.inl (beq_iff_eq.mp e))
        · split at hx
          · rename_i e; exact .inr (.inr (.inl (beq_iff_eq.mp e)))
          · split at hx
            · rename_i e; exact .inr (.inr (.inr (beq_iff_eq.mp e)))
            · cases hx
    have hkind : env.kindOf x = some .cell := by
      show env.scope.names.lookup x = _
      rw [hs]
      rcases hmem with rfl | rfl | rfl | rfl <;> rfl
    have hfree : (x, NameKind.free) ∈ (lamS (kwE retR)).names := by
      rcases hmem with rfl | rfl | rfl | rfl <;> decide
    have hx' : ((("counts" : Str), D.ints (zs (cnts rs.length))) :: capsOf ts os rs fl).lookup x = some d := by
      rw [List.lookup_cons]
      have : (x == ("counts" : Str)) = false := by rcases hmem with rfl | rfl | rfl | rfl <;> decide
      rw [this]; exact hx
    have ho : d.isOwn = false := by
      rcases hmem with rfl | rfl | rfl | rfl <;> (cases hx; rfl)
    obtain ⟨c, v, e1, e2, e3, r⟩ := X2.cel x d hx' ho (.inl hkind)
    refine ⟨c, v, ?_, ?_, e2, cell_kp k3.heap e2 e3, r⟩
    · rw [(closL_in env (lamS (kwE retR)).names [] x).1 hfree, e1]; rfl
    · obtain ⟨o, e, _⟩ := e3; exact hlt c o e
  obtain ⟨ct, vt, t1', t2', t3', t4', t5'⟩ := cel "typed" _ rfl
  obtain ⟨co, vo, o1', o2', o3', o4', o5'⟩ := cel "out" _ rfl
  obtain ⟨cr, vr, r1', r2', r3', r4', r5'⟩ := cel "row" _ rfl
  obtain ⟨cf, vf, f1', f2', f3', f4', f5'⟩ := cel "full" _ rfl
  obtain ⟨at', ot, vst, nt, rfl, Vt, ct1, ct2, ct3⟩ := t5'
  obtain ⟨ao, oo, vso, no, rfl, Vo, co1, co2, co3⟩ := o5'
  obtain ⟨ar, or', vsr, nr, rfl, Vr, cr1, cr2, cr3⟩ := r5'
  have hopn : ∀ a, (a = at' ∨ a = ao ∨ a = ar) → a < f ∧ a ≠ P0 := fun a ha => by
    rcases ha with rfl | rfl | rfl
    · exact ⟨hlt _ _ Vt.1, fun e => Vt.2 (e ▸ X2.h106)⟩
    · exact ⟨hlt _ _ Vo.1, fun e => Vo.2 (e ▸ X2.h106)⟩
    · exact ⟨hlt _ _ Vr.1, fun e => Vr.2 (e ▸ X2.h106)⟩
  have up : ∀ a o, Vis hid s₂.heap a o → s₃.heap.get? a = some o := fun a o z => k3.heap.1 a o (fun e => z.2 (e ▸ X2.h106)) z.1
  have L : LamAt f (lamP (kwE retR)) (lamB (kwE retR)) (lamS (kwE retR)) (closL env (lamS (kwE retR)).names []) (capsOf ts os rs fl) (fun a => a = at' ∨ a = ao ∨ a = ar) s₃.heap := {
    fn := ⟨pm, c', ctv, hfo, hc1, hc2, hcd⟩
    cap := fun x d hx => by
      unfold capsOf at hx
      simp only [List.lookup_cons, List.lookup_nil] at hx
      split at hx
      · rename_i e; cases hx
        obtain rfl := beq_iff_eq.mp e
        exact ⟨ct, _, t1', t2', t3', t4', at', ot, vst, nt, rfl, ⟨up _ _ Vt, .inl rfl⟩, ct1, ct2, ct3⟩
      · split at hx
        · rename_i e; cases hx
          obtain rfl := beq_iff_eq.mp e
          exact ⟨co, _, o1', o2', o3', o4', ao, oo, vso, no, rfl, ⟨up _ _ Vo, .inr (.inl rfl)⟩, co1, co2, co3⟩
        · split at hx
          · rename_i e; cases hx
            obtain rfl := beq_iff_eq.mp e
            exact ⟨cr, _, r1', r2', r3', r4', ar, or', vsr, nr, rfl, ⟨up _ _ Vr, .inr (.inr rfl)⟩, cr1, cr2, cr3⟩
          · split at hx
            · rename_i e; cases hx
              obtain rfl := beq_iff_eq.mp e
              exact ⟨cf, _, f1', f2', f3', f4', f5'⟩
            · cases hx
    op := fun a ha => by
      rcases ha with rfl | rfl | rfl
      · exact ⟨_, up _ _ Vt⟩
      · exact ⟨_, up _ _ Vo⟩
      · exact ⟨_, up _ _ Vr⟩ }
  have St' : St (C.lam f (lamP (kwE retR)) (lamB (kwE retR)) (lamS (kwE retR)) (closL env (lamS (kwE retR)).names []) (capsOf ts os rs fl) (fun a => a = at' ∨ a = ao ∨ a = ar) hlo hopn) hid s₃ :=
    ⟨X3.tok, ⟨X3.md, L⟩, X3.tab, X3.h106, X3.hin, fun a ha => ha.elim (X3.opn a) fun ha => by
      rcases ha with rfl | rfl | rfl
      · exact Vt.2
      · exact Vo.2
      · exact Vr.2⟩
  have hev : ∀ j : Nat, Ev (C.lam f (lamP (kwE retR)) (lamB (kwE retR)) (lamS (kwE retR)) (closL env (lamS (kwE retR)).names []) (capsOf ts os rs fl) (fun a => a = at' ∨ a = ao ∨ a = ar) hlo hopn) true (n + 2) (lamS (kwE retR)) (("count", .int (j : Int)) :: capsOf ts os rs fl) (lamB (kwE retR)) (.bool (toldOf ts (os ++ rs.take j) == fl)) := fun j =>
    Ev.cmp (Ev.callF (Evs.cons (Ev.var rfl) (Evs.cons (Ev.eq (d := .ints (zs (os ++ rs.take j))) (Ev.bin (Ev.var rfl) (Ev.slice (lo := none) (hi := some (j : Int)) (st := none) (Ev.var rfl) trivial (Ev.var rfl) trivial (Slc.ints (by rw [List.length_map]; omega) (by decide))) (Bop.addInts (by rw [pick_zs, List.length_map, List.length_map, List.length_take]; omega))) (by rw [pick_zs, zs_app])) Evs.nil)) (fnTold (n := n) H.has.lam hz1) (fun h m => (H.has.lam.f13 h m).fn)) (Ev.var rfl) Cmp.eqT
  refine wpAny_call (callBisR (C := C.lam f (lamP (kwE retR)) (lamB (kwE retR)) (lamS (kwE retR)) (closL env (lamS (kwE retR)).names []) (capsOf ts os rs fl) (fun a => a = at' ∨ a = ao ∨ a = ar) hlo hopn) (n := n + 3) (ns := cnts rs.length) (q := fun j => toldOf ts (os ++ rs.take j) == fl) rfl (fun j => fnLam (hev j) (fun fd v h1 h2 h3 => by rw [bind_eta h1 h2 h3]; rfl)) (fun h m => ⟨_, _, m.2.fn.choose_spec.choose_spec.choose_spec.1, rfl⟩) (fun h m => H.b5 h m.1) (by rw [cnts_len]; omega) hA St' (rep_key rfl (ru.mono (vis_kp k3.heap X2.h106))) fun v s₄ k4 r4 => ?_)
  exact k v s₄ ((KR.kp k2).trans (k3.trans (Kp.of_keeps k4))) r4
theorem placeL {A : Around} {env : Env} {hid : Addr → Prop} {s : Shared} {E : Value → Shared → Prop} {Q : Value → Shared → Prop} {ts os rs fl : List Nat} (H : HasL C) (hA : Calm (n + 4) A) (X : EnvE C hid env ρ s) (hs : env.scope = scp 15) (hcode : env.code = .ref 110) (hq : env.qual = ("_law_place.<locals>." : Str))
    (hρ : Sub (("counts", .ints (zs (cnts rs.length))) :: capsOf ts os rs fl) ρ) (hz1 : ts.length ≤ 300) (hz2 : os.length + rs.length ≤ 900) (k : ∀ v s', Kp s s' → Sc.Is v (.int (placeOf ts os rs fl : Int)) → Q v s') : wpAny (model prog C.w) A (eval retL env) Q E s := by
  have X := X.sub hρ
  refine wpAny_Call_Name_kw (name_gl X (a := 64) (by rfl) (by rw [hs]; rfl) ?_)
  obtain ⟨o55, fd55, _, _, _, _, ho55, hd55, _⟩ := H.b6 _ X.md
  refine callWith_function_kw (o := o55) (fd := fd55) (evalArgs_kw rfl ((Evs.cons (C := C) (b := true) (n := n + 4) (sc := scp 15) (Ev.var (x := "counts") (d := .ints (zs (cnts rs.length))) rfl) (Evs.cons (Ev.bool (c := true)) Evs.nil)).go hs hA X fun vs s₂ k2 t2 X2 r2 => ?_))
  obtain ⟨u, v, rfl, ru, r2⟩ := rep2 r2
  have r2 : Sc.Is v (.bool true) := r2
  obtain rfl := is_bool r2
  refine wpAny_evalAll_cons (wpAny_bind (evLam (params := lamP (kwE retL)) (body := lamB (kwE retL)) (scope := lamS (kwE retL)) (pos := lamQ (kwE retL)) H X2 hcode hq rfl (by rw [hs]; rfl) fun f c' pm ctv s₃ k3 t3 hc1 hc2 hfo hcd hlo hlt => wpAny_bind (wpAny_standAt (wpAny_pure (wpAny_evalAll_nil ⟨⟨k3.heap.1 _ _ (by decide) ((KR.heap k2).1 _ _ (by decide) ho55), hd55⟩, ?_⟩)))))
  have X3 := X2.kp k3.heap t3
  have cel : ∀ x d, (capsOf ts os rs fl).lookup x = some d → ∃ c v, (closL env (lamS (kwE retL)).names []).lookup x = some c ∧ c < f ∧ c ≠ P0 ∧ s₃.heap.IsCell c (some v) ∧ Rep C.key (Vis hid s₂.heap) v d := fun x d hx => by
    have hmem : x = "typed" ∨ x = "out" ∨ x = "row" ∨ x = "full" := by
      unfold capsOf at hx
      simp only [List.lookup_cons, List.lookup_nil] at hx
      split at hx
      · rename_i e; exact .inl (beq_iff_eq.mp e)
      · split at hx
        · rename_i e; exact .inr (.inl (beq_iff_eq.mp e))
        · split at hx
          · rename_i e; exact .inr (.inr (.inl (beq_iff_eq.mp e)))
          · split at hx
            · rename_i e; exact .inr (.inr (.inr (beq_iff_eq.mp e)))
            · cases hx
    have hkind : env.kindOf x = some .cell := by
      show env.scope.names.lookup x = _
      rw [hs]
      rcases hmem with rfl | rfl | rfl | rfl <;> rfl
    have hfree : (x, NameKind.free) ∈ (lamS (kwE retL)).names := by
      rcases hmem with rfl | rfl | rfl | rfl <;> decide
    have hx' : ((("counts" : Str), D.ints (zs (cnts rs.length))) :: capsOf ts os rs fl).lookup x = some d := by
      rw [List.lookup_cons]
      have : (x == ("counts" : Str)) = false := by rcases hmem with rfl | rfl | rfl | rfl <;> decide
      rw [this]; exact hx
    have ho : d.isOwn = false := by
      rcases hmem with rfl | rfl | rfl | rfl <;> (cases hx; rfl)
    obtain ⟨c, v, e1, e2, e3, r⟩ := X2.cel x d hx' ho (.inl hkind)
    refine ⟨c, v, ?_, ?_, e2, cell_kp k3.heap e2 e3, r⟩
    · rw [(closL_in env (lamS (kwE retL)).names [] x).1 hfree, e1]; rfl
    · obtain ⟨o, e, _⟩ := e3; exact hlt c o e
  obtain ⟨ct, vt, t1', t2', t3', t4', t5'⟩ := cel "typed" _ rfl
  obtain ⟨co, vo, o1', o2', o3', o4', o5'⟩ := cel "out" _ rfl
  obtain ⟨cr, vr, r1', r2', r3', r4', r5'⟩ := cel "row" _ rfl
  obtain ⟨cf, vf, f1', f2', f3', f4', f5'⟩ := cel "full" _ rfl
  obtain ⟨at', ot, vst, nt, rfl, Vt, ct1, ct2, ct3⟩ := t5'
  obtain ⟨ao, oo, vso, no, rfl, Vo, co1, co2, co3⟩ := o5'
  obtain ⟨ar, or', vsr, nr, rfl, Vr, cr1, cr2, cr3⟩ := r5'
  have hopn : ∀ a, (a = at' ∨ a = ao ∨ a = ar) → a < f ∧ a ≠ P0 := fun a ha => by
    rcases ha with rfl | rfl | rfl
    · exact ⟨hlt _ _ Vt.1, fun e => Vt.2 (e ▸ X2.h106)⟩
    · exact ⟨hlt _ _ Vo.1, fun e => Vo.2 (e ▸ X2.h106)⟩
    · exact ⟨hlt _ _ Vr.1, fun e => Vr.2 (e ▸ X2.h106)⟩
  have up : ∀ a o, Vis hid s₂.heap a o → s₃.heap.get? a = some o := fun a o z => k3.heap.1 a o (fun e => z.2 (e ▸ X2.h106)) z.1
  have L : LamAt f (lamP (kwE retL)) (lamB (kwE retL)) (lamS (kwE retL)) (closL env (lamS (kwE retL)).names []) (capsOf ts os rs fl) (fun a => a = at' ∨ a = ao ∨ a = ar) s₃.heap := {
    fn := ⟨pm, c', ctv, hfo, hc1, hc2, hcd⟩
    cap := fun x d hx => by
      unfold capsOf at hx
      simp only [List.lookup_cons, List.lookup_nil] at hx
      split at hx
      · rename_i e; cases hx
        obtain rfl := beq_iff_eq.mp e
        exact ⟨ct, _, t1', t2', t3', t4', at', ot, vst, nt, rfl, ⟨up _ _ Vt, .inl rfl⟩, ct1, ct2, ct3⟩
      · split at hx
        · rename_i e; cases hx
          obtain rfl := beq_iff_eq.mp e
          exact ⟨co, _, o1', o2', o3', o4', ao, oo, vso, no, rfl, ⟨up _ _ Vo, .inr (.inl rfl)⟩, co1, co2, co3⟩
        · split at hx
          · rename_i e; cases hx
            obtain rfl := beq_iff_eq.mp e
            exact ⟨cr, _, r1', r2', r3', r4', ar, or', vsr, nr, rfl, ⟨up _ _ Vr, .inr (.inr rfl)⟩, cr1, cr2, cr3⟩
          · split at hx
            · rename_i e; cases hx
              obtain rfl := beq_iff_eq.mp e
              exact ⟨cf, _, f1', f2', f3', f4', f5'⟩
            · cases hx
    op := fun a ha => by
      rcases ha with rfl | rfl | rfl
      · exact ⟨_, up _ _ Vt⟩
      · exact ⟨_, up _ _ Vo⟩
      · exact ⟨_, up _ _ Vr⟩ }
  have St' : St (C.lam f (lamP (kwE retL)) (lamB (kwE retL)) (lamS (kwE retL)) (closL env (lamS (kwE retL)).names []) (capsOf ts os rs fl) (fun a => a = at' ∨ a = ao ∨ a = ar) hlo hopn) hid s₃ :=
    ⟨X3.tok, ⟨X3.md, L⟩, X3.tab, X3.h106, X3.hin, fun a ha => ha.elim (X3.opn a) fun ha => by
      rcases ha with rfl | rfl | rfl
      · exact Vt.2
      · exact Vo.2
      · exact Vr.2⟩
  have hev : ∀ j : Nat, Ev (C.lam f (lamP (kwE retL)) (lamB (kwE retL)) (lamS (kwE retL)) (closL env (lamS (kwE retL)).names []) (capsOf ts os rs fl) (fun a => a = at' ∨ a = ao ∨ a = ar) hlo hopn) true (n + 2) (lamS (kwE retL)) (("count", .int (j : Int)) :: capsOf ts os rs fl) (lamB (kwE retL)) (.bool (toldOf ts (os ++ rs.take j) == fl)) := fun j =>
    Ev.cmp (Ev.callF (Evs.cons (Ev.var rfl) (Evs.cons (Ev.eq (d := .ints (zs (os ++ rs.take j))) (Ev.bin (Ev.var rfl) (Ev.slice (lo := none) (hi := some (j : Int)) (st := none) (Ev.var rfl) trivial (Ev.var rfl) trivial (Slc.ints (by rw [List.length_map]; omega) (by decide))) (Bop.addInts (by rw [pick_zs, List.length_map, List.length_map, List.length_take]; omega))) (by rw [pick_zs, zs_app])) Evs.nil)) (fnTold (n := n) H.has.lam hz1) (fun h m => (H.has.lam.f13 h m).fn)) (Ev.var rfl) Cmp.eqT
  refine wpAny_call (callBisL (C := C.lam f (lamP (kwE retL)) (lamB (kwE retL)) (lamS (kwE retL)) (closL env (lamS (kwE retL)).names []) (capsOf ts os rs fl) (fun a => a = at' ∨ a = ao ∨ a = ar) hlo hopn) (n := n + 3) (ns := cnts rs.length) (q := fun j => toldOf ts (os ++ rs.take j) == fl) rfl (fun j => fnLam (hev j) (fun fd v h1 h2 h3 => by rw [bind_eta h1 h2 h3]; rfl)) (fun h m => ⟨_, _, m.2.fn.choose_spec.choose_spec.choose_spec.1, rfl⟩) (fun h m => H.b6 h m.1) (by rw [cnts_len]; omega) hA St' (rep_key rfl (ru.mono (vis_kp k3.heap X2.h106))) fun v s₄ k4 r4 => ?_)
  exact k v s₄ ((KR.kp k2).trans (k3.trans (Kp.of_keeps k4))) r4
end
end Mine
end
section
open PySem PySem.W PyProof.Rows PySem.Calls
namespace Mine
section
variable {C : Ctx} {b : Bool} {n : Nat}
theorem callDefG {a : Addr} {body : List Stmt} {scope : Scope} {ps : List Str} {vs : List Value} {ds : List D} {d : D} {args : Args} {A : Around} {hid : Addr → Prop} {s : Shared} {R : Result → Shared → Prop} {o : Obj} {fd : FuncData} (hA : Calm (n + 1) A) (X : St C hid s) (hr : RepAll C.key (Vis hid s.heap) vs ds)
    (ho : s.heap.get? a = some o) (hd : o.data = .func fd) (hbd : fd.body = .stmts body) (hs : fd.scope = scope) (hg : fd.globals = mainGlobals) (hbi : fd.builtins = builtinsNs) (hcl : fd.closure = []) (hcd : s.heap.CodeRec fd.code fd.qualname) (hbind : BindsTo s fd args (ps.zip vs))
    (hbody : ∀ (s₁ : Shared) (E : Value → Shared → Prop), Keeps s s₁ → EnvX C hid (FrW (callEnvC fd s.heap.objs.size a)) s.heap.objs.size (callEnvC fd s.heap.objs.size a) (ps.zip ds) s₁ → wpAny (model prog C.w) (A.deeper (callEnvC fd s.heap.objs.size a)) (execs body (callEnvC fd s.heap.objs.size a)) (PostX true b C hid (FrW (callEnvC fd s.heap.objs.size a)) s.heap.objs.size (callEnvC fd s.heap.objs.size a) s₁ (.ret d)) E s₁)
    (hR : ∀ v s', KR b s s' → Rep C.key (Vis hid s'.heap) v d → R (.ok (.ret v)) s') (hnd : ps.Nodup := by decide) (hloc : ps.all (locCell scope) = true := by rfl) (hnf : noFree scope = true := by rfl)
    (hk : scope.kind = .function := by rfl) (hco : scope.isCoroutine = false := by rfl) (hgen : scope.isGenerator = false := by rfl) : codeAny (model prog C.w) A (.call (.ref a) args) R s := by
  subst hs
  refine codeAny_call_function hA.room ho hd hco hgen hbd hcd (hbind _ _ _ _ ?_)
  rw [hcl]
  refine wpAny_mono (wpAny_toks (wpAny_newFunctionEnv_cells (Q := fun env s' => env = callEnvC fd s.heap.objs.size a ∧ InCallC s (callEnvC fd s.heap.objs.size a).locals (bindL (callEnvC fd s.heap.objs.size a).kindOf (ps.zip vs) fun _ => none) (callEnvC fd s.heap.objs.size a).cells (bindC (callEnvC fd s.heap.objs.size a).kindOf (ps.zip vs) fun _ => none) s') hk ?_ fun env he s' x => ?_)) ?_ fun _ _ e => e.2
  · rintro ⟨x, v⟩ hx
    have hx : x ∈ ps := (List.of_mem_zip hx).1
    have := List.all_eq_true.mp hloc x hx
    rcases locCell_of (env := callEnvC fd s.heap.objs.size a) this rfl with q | q
    · exact .inl q
    · exact .inr ⟨q, cellsFrom_some _ _ _ _ (lookup_mem_kind q)⟩
  · subst he; exact ⟨rfl, x⟩
  · rintro env s₁ ⟨ht, rfl, I⟩
    have X₁ := EnvX.start X hr hnd hk hg hbi hloc hnf I ht
    obtain ⟨h₁, tk, rfl⟩ := I.toInCall.same
    have hkeep := I.toInCall.keep
    refine ⟨(C.lim _ X.md).keeps hkeep, codeAny_func (wpAny_mono (hbody _ _ (keeps_mk hkeep) X₁) ?_ fun _ _ e => e)⟩
    rintro fl s₂ ⟨K, v, rfl, rv⟩
    refine hR v s₂ ?_ rv
    obtain ⟨h₂, tk₂, rfl, k₂, t₂⟩ := K
    have fresh : ∀ z o, s.heap.get? z = some o → ¬ FrW (callEnvC fd s.heap.objs.size a) z := fun z o e hz => absurd (Heap.lt_size e) (Nat.not_lt.mpr (X₁.wlo z hz))
    cases b
    · exact ⟨h₂, tk₂, rfl, fun z o nz e => k₂ z o (fresh z o e) (.inl nz) (hkeep z o e), fun t => t₂ (tab_of_keeps hkeep t)⟩
    · exact ⟨h₂, tk₂, rfl, fun z o e => k₂ z o (fresh z o e) (.inr rfl) (hkeep z o e)⟩

theorem fnPlace (H : HasL C) {ts os rs fl : List Nat} {rt : Bool} (hz1 : ts.length ≤ 300) (hz2 : os.length + rs.length ≤ 900) : Fn C false (n + 5) 111 [.strs (ones ts), .ints (zs os), .ints (zs rs), .str (tx fl), .bool rt] (.int (placeOf ts os rs fl : Int)) := fun A hid s R vs hA X hr hR => by
  obtain ⟨v, u, w, x, y, rfl⟩ := vals5 (paired_length hr)
  obtain ⟨o, fd, ho, hd, hp, hbd, hs, hq, hg, hbi, hcl, hcd, hdf, hkd⟩ := (H.has.f15 _ X.md).ex
  have hcode := H.c15 _ X.md o fd ho hd
  refine callDefG (ps := ["typed", "out", "row", "full", "right"]) hA X hr ho hd hbd hs hg hbi hcl (by rw [hq]; exact hcd) (.of_eq (by rw [bind_eta hp hdf hkd]; rfl)) (fun s₁ E K₀ X₁ => ?_) hR
  have hA' : Calm (n + 4) (A.deeper (callEnvC fd s.heap.objs.size 111)) := hA.deeper _
  have hsc : (callEnvC fd s.heap.objs.size 111).scope = scp 15 := hs
  have hcd' : (callEnvC fd s.heap.objs.size 111).code = .ref 110 := hcode
  have hqu : (callEnvC fd s.heap.objs.size 111).qual = ("_law_place.<locals>." : Str) := by
    show fd.qualname ++ (".<locals>." : Str) = _
    rw [hq]; decide +kernel
  generalize callEnvC fd s.heap.objs.size 111 = env at X₁ hA' hsc hcd' hqu ⊢
  have e : bd 15 = [nth (bd 15) 0, nth (bd 15) 1, nth (bd 15) 2] := rfl
  rw [e]
  have st0 : Sm true false C (n + 4) (scp 15) [("typed", .strs (ones ts)), ("out", .ints (zs os)), ("row", .ints (zs rs)), ("full", .str (tx fl)), ("right", .bool rt)] (nth (bd 15) 0) (.next [("counts", .ints (zs (cnts rs.length))), ("typed", .strs (ones ts)), ("out", .ints (zs os)), ("row", .ints (zs rs)), ("full", .str (tx fl)), ("right", .bool rt)]) :=
    Sm.assign (Ev.listRange (Ev.eq (d := .int (rs.length : Int)) (Ev.lenI (Ev.var rfl) (by rw [List.length_map]; omega)) (by rw [List.length_map])) (by omega))
  refine wpAny_execs_cons (wpAny_mono (st0.all _ env hid _ _ s₁ _ hsc hA' X₁) ?_ fun _ _ e => e)
  rintro f s₂ ⟨K, rfl, W', w1, w2, X₂⟩
  refine wpAny_mono (?_ : wpAny (model prog C.w) (A.deeper _) (execs [nth (bd 15) 1, nth (bd 15) 2] env) (PostX true false C hid W' _ env s₂ (.ret (.int (placeOf ts os rs fl : Int)))) _ s₂) (fun fl s₃ p => p.seq K X₁.e.tab w1 w2) fun _ _ e => e
  have hsub : Sub (("counts", .ints (zs (cnts rs.length))) :: capsOf ts os rs fl) [("counts", .ints (zs (cnts rs.length))), ("typed", .strs (ones ts)), ("out", .ints (zs os)), ("row", .ints (zs rs)), ("full", .str (tx fl)), ("right", .bool rt)] := Sub.cons rfl (Sub.cons rfl (Sub.cons rfl (Sub.cons rfl (Sub.cons rfl Sub.nil))))
  have test : Tr C false (n + 4) (scp 15) [("counts", .ints (zs (cnts rs.length))), ("typed", .strs (ones ts)), ("out", .ints (zs os)), ("row", .ints (zs rs)), ("full", .str (tx fl)), ("right", .bool rt)] (match nth (bd 15) 1 with | .If t _ _ _ => t | _ => .Constant .none 0 ⟨0, 0, 0, 0⟩) rt := Tr.val (Ev.var rfl)
  refine wpAny_execs_cons (wpAny_If (test.go hsc hA' X₂.e fun s₃ k₃ t₃ _ => ?_))
  have X₃ := X₂.kp k₃.heap t₃
  have fin : ∀ {v : Value} {s' : Shared}, Kp s₃ s' → Sc.Is v (.int (placeOf ts os rs fl : Int)) → PostX true false C hid W' s.heap.objs.size env s₂ (.ret (.int (placeOf ts os rs fl : Int))) (.ret v) s' := fun {v s'} k r =>
    ⟨.of_kr (b := false) (Kp.trans k₃ k), v, rfl, r⟩
  cases rt with
  | true =>
    rw [if_pos rfl]
    exact wpAny_execs_cons (wpAny_Return_some (placeR H hA' X₃.e hsc hcd' hqu hsub hz1 hz2 fun v s' k r => fin k r))
  | false =>
    rw [if_neg (by decide)]
    refine wpAny_execs_nil ?_
    exact wpAny_execs_cons (wpAny_Return_some (placeL H hA' X₃.e hsc hcd' hqu hsub hz1 hz2 fun v s' k r => fin k r))
end
end Mine
end
section
open PySem PySem.W PyProof.Rows PySem.Calls
namespace Mine
/-- the turns of _law_found -/
inductive FoundRun (ts fl : List Nat) : List Nat → List Nat → List Nat → Prop
  | stop {fs rs : List Nat} : toldOf ts fs = fl → FoundRun ts fl fs rs fs
  | step {fs rs out : List Nat} : toldOf ts fs ≠ fl → placeOf ts fs rs fl < rs.length → FoundRun ts fl (fs ++ [rs.getD (placeOf ts fs rs fl) 0]) (rs.take (placeOf ts fs rs fl)) out → FoundRun ts fl fs rs out
section
variable {C : Ctx} {n : Nat}
theorem zs_get {rs : List Nat} {p : Nat} (h : p < rs.length) : (zs rs)[(p : Int).toNat]? = some ((rs.getD p 0 : Nat) : Int) := by
  rw [show ((p : Int)).toNat = p by omega]
  simp [List.getD, List.getElem?_eq_getElem h]
def whl16 : Stmt := nth (bd 16) 1
theorem found_loop (H : HasL C) {ts fl fs rs out : List Nat} {rt : Bool} (hz1 : ts.length ≤ 300) (h : FoundRun ts fl fs rs out) : ∀ ρ₀, fs.length + rs.length ≤ 900 → Sub [("typed", .strs (ones ts)), ("row", .ints (zs rs)), ("full", .str (tx fl)), ("right", .bool rt), ("found", .ints (zs fs))] ρ₀ →
    ∃ ρ₁, Sub [("found", .ints (zs out))] ρ₁ ∧ Whl false C (n + 5) (scp 16) (whlT whl16) (whlB whl16) ρ₀ ρ₁ := by
  have test : ∀ (fs rs : List Nat), Tr C false (n + 5) (scp 16) [("typed", .strs (ones ts)), ("row", .ints (zs rs)), ("full", .str (tx fl)), ("right", .bool rt), ("found", .ints (zs fs))] (whlT whl16) (toldOf ts fs != fl) := fun fs rs =>
    Tr.cmp (Ev.weak (Ev.callF (Evs.cons (Ev.var rfl) (Evs.cons (Ev.var rfl) Evs.nil)) (fnTold (n := n + 3) H.has hz1) (fun h m => (H.has.f13 h m).fn))) (Ev.var rfl) Cmp.neT
  induction h with
  | @stop fs rs he =>
    intro ρ₀ hz hs
    exact ⟨ρ₀, (Sub.cons rfl Sub.nil).trans hs, Whl.stop (Tr.pre (Tr.eq (test fs rs) (by simp [he])) hs)⟩
  | @step fs rs out hne hp _ ih =>
    intro ρ₀ hz hs
    obtain ⟨ρ₁, h1, h2⟩ := ih [("row", .ints (zs (rs.take (placeOf ts fs rs fl)))), ("found", .ints (zs (fs ++ [rs.getD (placeOf ts fs rs fl) 0]))), ("place", .int (placeOf ts fs rs fl : Int)), ("typed", .strs (ones ts)), ("row", .ints (zs rs)), ("full", .str (tx fl)), ("right", .bool rt), ("found", .ints (zs fs))] (by simp; omega)
      (Sub.cons rfl (Sub.cons rfl (Sub.cons rfl (Sub.cons rfl (Sub.cons rfl Sub.nil)))))
    refine ⟨ρ₁, h1, Whl.step (Tr.pre (Tr.eq (test fs rs) (by simp [hne])) hs) (Ex.pre ?_ hs) h2⟩
    refine Ex.cons (Sm.assign (Ev.callF (Evs.cons (Ev.var rfl) (Evs.cons (Ev.var rfl) (Evs.cons (Ev.var rfl) (Evs.cons (Ev.var rfl) (Evs.cons (Ev.var rfl) Evs.nil))))) (fnPlace (n := n) H hz1 (by omega)) (fun h m => (H.has.f15 h m).fn))) ?_
    refine Ex.cons (Sm.assign (Ev.eq (d := .ints (zs (fs ++ [rs.getD (placeOf ts fs rs fl) 0]))) (Ev.bin (Ev.var rfl) (Ev.listInts (ns := [((rs.getD (placeOf ts fs rs fl) 0 : Nat) : Int)]) (Evs.cons (Ev.item (Ev.var rfl) (Ev.var rfl) (Itm.ints (by omega) (by omega) (zs_get hp))) Evs.nil) (by simp)) (Bop.addInts (by rw [List.length_map]; simp; omega))) (by rw [zs_app]; rfl))) ?_
    refine Ex.one (Sm.assign (Ev.eq (Ev.slice (lo := none) (hi := some (placeOf ts fs rs fl : Int)) (st := none) (Ev.var rfl) trivial (Ev.var rfl) trivial (Slc.ints (by rw [List.length_map]; omega) (by decide))) (by rw [pick_zs])))
theorem fnFound (H : HasL C) {ts fl rs out : List Nat} {rt : Bool} (hz1 : ts.length ≤ 300) (hz : rs.length ≤ 900) (h : FoundRun ts fl [] rs out) : Fn C false (n + 6) 118 [.strs (ones ts), .ints (zs rs), .str (tx fl), .bool rt] (.ints (zs out)) :=
  Fn.def_ (ps := ["typed", "row", "full", "right"]) H.has.f16 (by
    refine Ex.cons (Sm.assign (Ev.listInts (ns := []) Evs.nil (by simp))) ?_
    obtain ⟨ρ₁, h1, h2⟩ := found_loop (n := n) (rt := rt) H hz1 h [("found", .ints []), ("typed", .strs (ones ts)), ("row", .ints (zs rs)), ("full", .str (tx fl)), ("right", .bool rt)] (by simpa using hz) (Sub.cons rfl (Sub.cons rfl (Sub.cons rfl (Sub.cons rfl (Sub.cons rfl Sub.nil)))))
    exact Ex.cons (Sm.post (Sm.while_ h2) h1) (Ex.ret (Sm.ret (Ev.var rfl)))) fun fd vals h h2 h3 hl => by
    obtain ⟨v, u, w, x, rfl⟩ := vals4 hl
    rw [bind_eta h h2 h3]; rfl
end
end Mine
end
section
open PySem PySem.W PyProof.Rows PySem.Calls
namespace Mine
def first9 : List Int := [0, 2, 1, 38, 5, 62, 6, 4, 133]
def cellItems : List (Sc × Sc) := first9.zipIdx.map fun q => (Sc.int q.2, Sc.int q.1)
def cellsOf (ns : List Int) : List Int := (cellItems.filter fun _ => true).map fun q => deI q.2 + (pickNums ns (some (deI q.1)) none (some 9)).sum
def tsOf (cs : List Int) : List Nat := cs.map fun c => (signOf c).1
def ksOf (cs : List Int) : List Nat := cs.map fun c => (signOf c).2
def seenOf (ts ks : List Nat) : List Nat := ((ts.zip ks).filter fun q => q.2 != 117).map (·.1)
def hiddenOf (ks : List Nat) : List Nat := (List.range 9).filter fun i => ks.getD i 0 == 117
theorem cellsOf_len (ns : List Int) : (cellsOf ns).length = 9 := rfl
section
variable {g b : Bool} {C : Ctx} {n : Nat} {sc : Scope} {ρ : List (Str × D)}
theorem Itm.fst {x y : D} : Itm C n (.pair x y) 0 x := fun A hid s E u t hA r => by
  obtain ⟨a, o, p, q, m, rfl, hV, hc, hd, r1, r2⟩ := r
  exact ⟨"tuple", _, PySem.F.slot_tuple_getitem.lookup, ⟨o, hV.1, hc⟩, PyProof.Rows.getItem_tuple (items := #[p, q]) (j := 0) ⟨o, hV.1, hc, m, hd⟩ (by decide) (by decide) rfl rfl ⟨keeps_refl _, r1⟩⟩
theorem Bi.min2 {i j : Int} : Bi C n (.builtin "min") [.int i, .int j] (.int (if j < i then j else i)) := fun A hid s E vs hA hf rr => by
  obtain ⟨v, u, rfl, r, r2⟩ := rep2 rr
  obtain ⟨t, rfl⟩ := is_int r
  obtain ⟨t', rfl⟩ := is_int r2
  refine min_two_ints hA.1 fun h' tk hk => ⟨keeps_mk hk, ?_⟩
  split <;> rfl
theorem Ev.sumI {e : Expr} {p pos : Pos} {ns : List Int} (h : Ev C b n sc ρ e (.ints ns)) (hk : sc.names.lookup ("sum" : Str) = some .globalImplicit := by rfl)
    (hp : ∀ env, starEach (e :: []) env = (false, eval e env) :: starEach [] env := by intro _; rfl) (hp2 : ∀ env, (backTo pos (starEach [e] env)).any (·.1) = false := by intro _; rfl) : Ev C b n sc ρ (.Call (.Name "sum" p) [e] [] pos) (.int ns.sum) :=
  Ev.callB (id := "sum") (p := p) (pos := pos) (Evs.cons h Evs.nil hp) (Bi.sum (C := C) (n := n)) (by decide +kernel) (by decide) hk hp2
theorem Ev.min2 {e f : Expr} {p pos : Pos} {i j : Int} (h : Ev C b n sc ρ e (.int i)) (h' : Ev C b n sc ρ f (.int j)) (hk : sc.names.lookup ("min" : Str) = some .globalImplicit := by rfl)
    (hp : ∀ env, starEach (e :: [f]) env = (false, eval e env) :: starEach [f] env := by intro _; rfl) (hp1 : ∀ env, starEach (f :: []) env = (false, eval f env) :: starEach [] env := by intro _; rfl) (hp2 : ∀ env, (backTo pos (starEach [e, f] env)).any (·.1) = false := by intro _; rfl) : Ev C b n sc ρ (.Call (.Name "min" p) [e, f] [] pos) (.int (if j < i then j else i)) :=
  Ev.callB (id := "min") (p := p) (pos := pos) (Evs.cons h (Evs.cons h' Evs.nil hp1) hp) (Bi.min2 (C := C) (n := n)) (by decide +kernel) (by decide) hk hp2

/-- the law's environment, when the text is typed -/
def base1 (ns : List Int) (ts ks : List Nat) : List (Str × D) := [("kinds", .str (tx ks)), ("typed", .strs (ones ts)), ("script", .ints ns)]
def base2 (ns : List Int) (ts ks : List Nat) : List (Str × D) := ("full", .str (tx (told (seenOf ts ks)))) :: ("seen", .str (tx (seenOf ts ks))) :: base1 ns ts ks

theorem law_cells (ns : List Int) (hz : ns.length ≤ 63) : Sm g b C n (scp 17) [("script", .ints ns)] (nth (bd 17) 0) (.next [("cells", .ints (cellsOf ns)), ("script", .ints ns)]) := by
  refine Sm.compTInts (items := cellItems) (p := fun _ => true) (f := fun q => deI q.2 + (pickNums ns (some (deI q.1)) none (some 9)).sum)
    (IterK.enum (Ev.listInts (ns := first9) (Evs.cons Ev.int (Evs.cons Ev.int (Evs.cons Ev.int (Evs.cons Ev.int (Evs.cons Ev.int (Evs.cons Ev.int (Evs.cons Ev.int (Evs.cons Ev.int (Evs.cons Ev.int Evs.nil))))))))) (by decide))) (fun _ _ => TrIfs.nil) (fun q hq _ => ?_) (by decide)
  obtain ⟨⟨x, i⟩, hm, rfl⟩ := List.mem_map.mp hq
  exact Ev.bin (Ev.var rfl) (Ev.sumI (Ev.slice (lo := some (i : Int)) (hi := none) (st := some 9) (Ev.var rfl) (Ev.var rfl) trivial Ev.int (Slc.ints (by omega) (by decide)))) Bop.addInt
theorem zipOnes (ts ks : List Nat) : (((ones ts).zip ks).map fun q => (Sc.str q.1, Sc.str ⟨#[q.2]⟩)) = (ts.zip ks).map fun q => (emC q.1, emC q.2) := by
  induction ts generalizing ks with
  | nil => rfl
  | cons t ts ih =>
    cases ks with
    | nil => rfl
    | cons k ks =>
      have := ih ks
      simp only [ones, List.map_cons, List.zip_cons_cons] at this ⊢
      rw [this]; rfl
theorem IterK.zipT {e1 e2 : Expr} {p pos tp : Pos} {elts : List Expr} {k : Nat} {ts ks : List Nat} (h1 : Ev C b n sc ρ e1 (.strs (ones ts))) (h2 : Ev C b n sc ρ e2 (.str (tx ks))) (ha : ks.all (· < 128) = true) (hl : ts.length = ks.length)
    (hk : sc.names.lookup ("zip" : Str) = some .globalImplicit := by rfl) (hp : ∀ env, starEach [e1, e2] env = [(false, eval e1 env), (false, eval e2 env)] := by intro _; rfl) :
    IterK C b n sc ρ (.Tuple elts k tp) (.Call (.Name "zip" p) [e1, e2] [] pos) (itemsT ((ts.zip ks).map fun q => (emC q.1, emC q.2))) := by
  have := IterK.zip (elts := elts) (k := k) (tp := tp) (p := p) (pos := pos) h1 h2 (by simpa [tx] using ha) (by simp [ones, tx, hl]) hk hp
  rwa [show ((ones ts).zip (tx ks).cps.toList) = (ones ts).zip ks by simp [tx], zipOnes] at this

theorem law_signs (H : Has C) {ns : List Int} {ts ks : List Nat} (ha : ks.all (· < 128) = true) (hl : ts.length = ks.length) (F1 : ∀ q ∈ ts.zip ks, inB1 q.1 = (q.2 == 117)) : Sm g b C (n + 1) (scp 17) (base1 ns ts ks) (nth (bd 17) 2) (.next (base1 ns ts ks)) := by
  refine Sm.forT (names := ["sign", "kind"]) (items := itemsT ((ts.zip ks).map fun q => (emC q.1, emC q.2))) (fun _ => base1 ns ts ks) rfl (IterK.zipT (Ev.var rfl) (Ev.var rfl) ha hl) (.two _ _ _ _ _ _) (fun it hit => ?_) fun i it hit => ?_
  · obtain ⟨q, _, rfl⟩ := List.mem_map.mp hit; rfl
  · have hm := List.mem_of_getElem? hit
    obtain ⟨q', hq', rfl⟩ := List.mem_map.mp hm
    obtain ⟨q, hq, rfl⟩ := List.mem_map.mp hq'
    refine Ex.post (Ex.one (Sm.if_ (Tr.cmp (Ev.weak (Ev.callF (Evs.cons (Ev.var rfl) Evs.nil) (fnB1 (n := n) H (c := q.1)) (fun h m => (H.f9 h m).fn))) (Ev.cmp (Ev.var rfl) (Ev.strT [117]) Cmp.eqT) Cmp.isNotBool) (fun h => absurd h ?_) fun _ => Ex.nil)) (Sub.cons rfl (Sub.cons rfl (Sub.cons rfl Sub.nil)))
    rw [F1 q hq, show ([q.2] == [117]) = (q.2 == 117) by rw [Bool.eq_iff_iff]; simp]
    simp
theorem seenOf_len (ts ks : List Nat) : (seenOf ts ks).length ≤ ts.length := by
  unfold seenOf
  rw [List.length_map]
  exact Nat.le_trans (List.length_filter_le _ _) (by rw [List.length_zip]; omega)
theorem law_seen (H : Has C) {ns : List Int} {ts ks : List Nat} (ha : ks.all (· < 128) = true) (hl : ts.length = ks.length) (hz : ts.length ≤ 300) : Sm g b C (n + 1) (scp 17) (base1 ns ts ks) (nth (bd 17) 3) (.next (("seen", .str (tx (seenOf ts ks))) :: base1 ns ts ks)) := by
  refine Sm.assign (Ev.weak (Ev.eq (Ev.joinT (ls := (seenOf ts ks).map fun c => [c]) (Ev.strT []) (Ev.eq (Ev.compTStrs (items := (ts.zip ks).map fun q => (emC q.1, emC q.2)) (p := fun q => deC q.2 != 117) (f := fun q => tx [deC q.1]) (IterK.zipT (Ev.var rfl) (Ev.var rfl) ha hl) (fun q hq => ?_) (fun q hq _ => ?_) ?_) ?_) ?_) ?_))
  · obtain ⟨q', hq', rfl⟩ := List.mem_map.mp hq
    refine TrIfs.one (Tr.eq (Tr.cmp (Ev.var rfl) (Ev.strT [117]) Cmp.neT) ?_)
    show ([q'.2] != [117]) = (q'.2 != 117)
    rw [Bool.eq_iff_iff]; simp
  · obtain ⟨q', hq', rfl⟩ := List.mem_map.mp hq
    exact Ev.var rfl
  · rw [List.length_map, List.length_zip]; omega
  · unfold seenOf
    congr 1
    generalize ts.zip ks = l
    induction l with
    | nil => rfl
    | cons q l ih =>
      rw [List.map_cons, List.filter_cons, List.filter_cons]
      show List.map _ (if (q.2 != 117) = true then _ else _) = _
      split
      · simp only [List.map_cons]
        rw [ih]; rfl
      · exact ih
  · rw [flat_ones]; have := seenOf_len ts ks; omega
  · rw [flat_ones]
theorem Ev.reply (H : Has C) {e : Expr} {p p1 p2 pos : Pos} {kd : Nat} {x : Str} {l : List Nat} (he : Ev C true (n + 1) sc ρ e (.str (tx l))) (hz : l.length ≤ 400) (hx : x = tx [50, 53, 55, 32, 34] := by rfl) (hk : sc.names.lookup ("parse257" : Str) = some .globalImplicit := by rfl)
    (hp : ∀ env, (backTo pos (starEach [.BinOp (.Constant (.str x) kd p1) .Add e p2] env)).any (·.1) = false := by intro _; rfl) : Ev C true (n + 1) sc ρ (.Call (.Name "parse257" p) [.BinOp (.Constant (.str x) kd p1) .Add e p2] [] pos) (.str (tx (told l))) := by
  subst hx
  exact Ev.eq (Ev.callF (Evs.cons (Ev.cat (Ev.strT [50, 53, 55, 32, 34]) he (by simp; omega)) Evs.nil) (fn257 (n := n) H (l := [50, 53, 55, 32, 34] ++ l) (by simp) (by simp; omega)) (fun h m => (H.f3 h m).fn) (by rfl) hk hp) (by rw [tell_open])
theorem law_full (H : Has C) {ns : List Int} {ts ks : List Nat} (hz : ts.length ≤ 300) : Sm g b C (n + 1) (scp 17) (("seen", .str (tx (seenOf ts ks))) :: base1 ns ts ks) (nth (bd 17) 4) (.next (base2 ns ts ks)) :=
  Sm.assign (Ev.weak (Ev.reply H (Ev.var rfl) (by have := seenOf_len ts ks; omega)))

/-- what is told is a beginning of the text, its marks doubled -/
def beginsOk (text tl : List Nat) : Prop := text.take (StrLaws.dbl 34 tl).length = StrLaws.dbl 34 tl ∧ ((text.drop (StrLaws.dbl 34 tl).length).take 1 = [] ∨ (text.drop (StrLaws.dbl 34 tl).length).take 1 = [34]) ∧ (text.drop (StrLaws.dbl 34 tl).length).take 2 ≠ [34, 34]
theorem dbl_len (l : List Nat) : (StrLaws.dbl 34 l).length ≤ 2 * l.length := by
  induction l with
  | nil => simp [StrLaws.dbl]
  | cons c r ih =>
    unfold StrLaws.dbl
    split <;> simp <;> omega
theorem law_begins (H : Has C) (hT : 1 ≤ C.tk) {ns : List Int} {ts ks : List Nat} (hz : ts.length ≤ 300) (F2 : beginsOk (seenOf ts ks) (told (seenOf ts ks)) ∧ beginsOk ts (told ts)) : Sm g b C (n + 1) (scp 17) (base2 ns ts ks) (nth (bd 17) 5) (.next (base2 ns ts ks)) := by
  have hj : ∀ {ρ : List (Str × D)} {o e : Expr} {apos pos : Pos}, True := fun {_ _ _ _ _} => trivial
  have flat : (ts.map fun c => [c]).flatten = ts := flat_ones ts
  refine Sm.forT (names := ["text", "told"]) (items := itemsT [(emT (seenOf ts ks), emT (told (seenOf ts ks))), (emT ts, emT (told ts))]) (fun _ => base2 ns ts ks) rfl
    (IterK.pairs (ps := [(emT (seenOf ts ks), emT (told (seenOf ts ks))), (emT ts, emT (told ts))]) (Evs.cons (Ev.tuple2 (Evs.cons (Ev.var rfl) (Evs.cons (Ev.var rfl) Evs.nil)))
      (Evs.cons (Ev.tuple2 (Evs.cons (Ev.eq (d := .str (tx ts)) (Ev.joinT (Ev.strT []) (Ev.var rfl) (by rw [flat]; omega)) (by rw [flat])) (Evs.cons (Ev.weak (Ev.reply H (Ev.eq (d := .str (tx ts)) (Ev.joinT (Ev.strT []) (Ev.var rfl) (by rw [flat]; omega)) (by rw [flat])) (by omega))) Evs.nil))) Evs.nil)) (by simp)) (.two _ _ _ _ _ _) (fun it hit => ?_) fun i it hit => ?_
  · obtain ⟨q, _, rfl⟩ := List.mem_map.mp hit; rfl
  · have hm := List.mem_of_getElem? hit
    obtain ⟨q, hq, rfl⟩ := List.mem_map.mp hm
    have main : ∀ (text tl : List Nat), text.length ≤ 400 → tl.length ≤ 400 → beginsOk text tl → Ex false b C (n + 1) (scp 17) (bindAll ["text", "told"] [emT text, emT tl] (base2 ns ts ks)) (match nth (bd 17) 5 with | .For _ _ b _ _ => b | _ => []) (.next (base2 ns ts ks)) := fun text tl h1 h2 ⟨b1, b2, b3⟩ => by
      have hd := dbl_len tl
      refine Ex.post (Ex.cons (Sm.assign (Ev.dbl hT 34 (Ev.var rfl) (by omega))) (Ex.cons (Sm.assign (Ev.sFrom (Ev.var rfl) (Ev.lenT (Ev.var rfl) (by omega)) (by omega)))
        (Ex.one (Sm.if_ (Tr.or (TrAny.cons (Tr.cmp (Ev.sTo (Ev.var rfl) (Ev.lenT (Ev.var rfl) (by omega)) (by omega)) (Ev.var rfl) Cmp.neT) fun _ => TrAny.cons (Tr.cmp (Ev.sTo (Ev.var rfl) (Ev.intN 1) (by rw [List.length_drop]; omega)) (Ev.listStrs (ns := [tx [], tx [34]]) (Evs.cons (Ev.strT []) (Evs.cons (Ev.strT [34]) Evs.nil)) (by decide)) Cmp.notInStrs) fun _ =>
          TrAny.cons (Tr.cmp (Ev.sTo (Ev.var rfl) (Ev.intN 2) (by rw [List.length_drop]; omega)) (Ev.strT [34, 34]) Cmp.eqT) fun _ => TrAny.nil)) (fun h => absurd h ?_) fun _ => Ex.nil)))) (Sub.cons rfl (Sub.cons rfl (Sub.cons rfl (Sub.cons rfl (Sub.cons rfl Sub.nil)))))
      rw [b1]
      have e2 : ([tx [], tx [34]].any fun x => x == tx ((text.drop (StrLaws.dbl 34 tl).length).take 1)) = true := by
        rcases b2 with e | e <;> rw [e] <;> simp
      rw [e2]
      simp [b3]
    rcases List.mem_cons.mp hq with rfl | hq
    · have := seenOf_len ts ks
      have := told_le _ (seenOf ts ks) (Nat.le_refl _)
      exact main _ _ (by omega) (by omega) F2.1
    · rcases List.mem_cons.mp hq with rfl | hq
      · have := told_le _ ts (Nat.le_refl _)
        exact main _ _ (by omega) (by omega) F2.2
      · cases hq
end
end Mine
end
section
open PySem PySem.W PyProof.Rows PySem.Calls
namespace Mine
def turnOf (ns : List Int) (ks : List Nat) : Nat := (Int.fmod ns.sum (((hiddenOf ks).length + 1 : Nat) : Int)).toNat
def rowOf (ns : List Int) (ks : List Nat) : List Nat := (hiddenOf ks).drop (turnOf ns ks) ++ (hiddenOf ks).take (turnOf ns ks)
def base3 (ns : List Int) (ts ks : List Nat) : List (Str × D) := ("row", .ints (zs (rowOf ns ks))) :: ("turn", .int (turnOf ns ks : Int)) :: ("hidden", .ints (zs (hiddenOf ks))) :: ("needed", .ints (zs (neededOf ks))) :: base2 ns ts ks
def base4 (ns : List Int) (ts ks : List Nat) : List (Str × D) := [("row", .ints (zs (rowOf ns ks))), ("hidden", .ints (zs (hiddenOf ks))), ("needed", .ints (zs (neededOf ks))), ("full", .str (tx (told (seenOf ts ks)))), ("kinds", .str (tx ks)), ("typed", .strs (ones ts)), ("script", .ints ns)]
theorem hidden_le (ks : List Nat) : (hiddenOf ks).length ≤ 9 := Nat.le_trans (List.length_filter_le _ _) (by simp)
theorem row_len (ns : List Int) (ks : List Nat) : (rowOf ns ks).length ≤ 9 := by
  unfold rowOf
  have := hidden_le ks
  rw [List.length_append, List.length_drop, List.length_take]; omega
theorem needed_len (ks : List Nat) : (neededOf ks).length ≤ ks.length := Nat.le_trans (List.length_filter_le _ _) (by simp)
theorem pick_zs_from (rs : List Nat) (k : Nat) : pickNums (zs rs) (some (k : Int)) none none = zs (rs.drop k) := by rw [pick_from]; exact List.map_drop.symm
theorem pick_zs_rev (rs : List Nat) : pickNums (zs rs) none none (some (-1)) = zs rs.reverse := by rw [pick_rev]; exact List.map_reverse.symm
section
variable {g b : Bool} {C : Ctx} {n : Nat} {sc : Scope} {ρ : List (Str × D)}
theorem Cmp.neN {x y : Nat} : Cmp C n .NotEq (.int (x : Int)) (.int (y : Int)) (x != y) := by
  have := Cmp.neInt (C := C) (n := n) (i := (x : Int)) (j := (y : Int))
  rwa [show (((x : Int) != (y : Int)) : Bool) = (x != y) by rw [Bool.eq_iff_iff, bne_iff_ne, bne_iff_ne]; omega] at this
theorem Cmp.inN {i : Nat} {os : List Nat} : Cmp C n .In (.int (i : Int)) (.ints (zs os)) (os.contains i) := by
  have := Cmp.inInts (C := C) (n := n) (i := (i : Int)) (ns := zs os)
  rwa [any_zs] at this
theorem law_needed (H : Has C) (hT : 1 ≤ C.tk) {ns : List Int} {ts ks : List Nat} (hk : ks.length = 9) : Sm g b C (n + 1) (scp 17) (base2 ns ts ks) (nth (bd 17) 6) (.next (("needed", .ints (zs (neededOf ks))) :: base2 ns ts ks)) :=
  Sm.assign (Ev.weak (Ev.callF (Evs.cons (Ev.var rfl) Evs.nil) (fnNeeded (n := n) H hT (by omega)) (fun h m => (H.f14 h m).fn)))
theorem law_hidden {ns : List Int} {ts ks : List Nat} (hk : ks.length = 9) : Sm g b C n (scp 17) (("needed", .ints (zs (neededOf ks))) :: base2 ns ts ks) (nth (bd 17) 7) (.next (("hidden", .ints (zs (hiddenOf ks))) :: ("needed", .ints (zs (neededOf ks))) :: base2 ns ts ks)) := by
  refine Sm.compNs deN deN_em (fun i => ks.getD i 0 == 117) (fun i => (i : Int)) (Iter.rangeN (m := 9) (Ev.intN 9) (by decide)) (fun i hi => ?_) (fun i _ _ => Ev.var rfl) (by simp)
  have hi := List.mem_range.mp hi
  have hget : ks[i]? = some (ks.getD i 0) := by simp [List.getD, List.getElem?_eq_getElem (show i < ks.length by omega)]
  refine TrIfs.one (Tr.eq (Tr.cmp (Ev.sAt (Ev.var rfl) (Ev.var rfl) hget (by omega)) (Ev.strT [117]) Cmp.eqT) ?_)
  rw [Bool.eq_iff_iff]; simp
theorem law_turn {ns : List Int} {ts ks : List Nat} : Sm g b C n (scp 17) (("hidden", .ints (zs (hiddenOf ks))) :: ("needed", .ints (zs (neededOf ks))) :: base2 ns ts ks) (nth (bd 17) 8) (.next (("turn", .int (turnOf ns ks : Int)) :: ("hidden", .ints (zs (hiddenOf ks))) :: ("needed", .ints (zs (neededOf ks))) :: base2 ns ts ks)) := by
  have hh := hidden_le ks
  refine Sm.assign (Ev.eq (Ev.bin (Ev.sumI (Ev.var rfl)) (Ev.addN (x := (hiddenOf ks).length) (Ev.eq (Ev.lenI (Ev.var rfl) (by rw [List.length_map]; omega)) (by rw [List.length_map])) (Ev.intN 1)) (Bop.modInt (by omega))) ?_)
  have := fmod5 ns.sum (m := (((hiddenOf ks).length + 1 : Nat) : Int)) (by omega)
  unfold turnOf
  rw [Int.toNat_of_nonneg this.1]
theorem law_row {ns : List Int} {ts ks : List Nat} : Sm g b C n (scp 17) (("turn", .int (turnOf ns ks : Int)) :: ("hidden", .ints (zs (hiddenOf ks))) :: ("needed", .ints (zs (neededOf ks))) :: base2 ns ts ks) (nth (bd 17) 9) (.next (base3 ns ts ks)) := by
  have hh := hidden_le ks
  refine Sm.assign (Ev.eq (Ev.bin (Ev.slice (lo := some (turnOf ns ks : Int)) (hi := none) (st := none) (Ev.var rfl) (Ev.var rfl) trivial trivial (Slc.ints (by rw [List.length_map]; omega) (by decide))) (Ev.slice (lo := none) (hi := some (turnOf ns ks : Int)) (st := none) (Ev.var rfl) trivial (Ev.var rfl) trivial (Slc.ints (by rw [List.length_map]; omega) (by decide))) (Bop.addInts ?_)) ?_)
  · rw [pick_zs_from, pick_zs, List.length_map, List.length_map, List.length_drop, List.length_take]; omega
  · rw [pick_zs_from, pick_zs]
    unfold rowOf
    rw [zs_app]
theorem law_keeps (H : Has C) {ns : List Int} {ts ks : List Nat} (hz : ts.length ≤ 300) (F3 : ∀ p ∈ hiddenOf ks, (toldOf ts ((hiddenOf ks).filter fun i => i != p) == told (seenOf ts ks)) = !(neededOf ks).contains p) : Sm g b C (n + 2) (scp 17) (base3 ns ts ks) (nth (bd 17) 10) (.next (base4 ns ts ks)) := by
  have hh := hidden_le ks
  refine Sm.post (Sm.forT (names := ["place"]) (items := (zs (hiddenOf ks)).map fun i => [Sc.int i]) (fun _ => base3 ns ts ks) rfl (IterK.ints (Ev.var rfl)) (.one _ _) (fun it hit => ?_) fun i it hit => ?_)
    (Sub.cons rfl (Sub.cons rfl (Sub.cons rfl (Sub.cons rfl (Sub.cons rfl (Sub.cons rfl (Sub.cons rfl Sub.nil)))))))
  · obtain ⟨q, _, rfl⟩ := List.mem_map.mp hit; rfl
  · have hm := List.mem_of_getElem? hit
    obtain ⟨q', hq', rfl⟩ := List.mem_map.mp hm
    obtain ⟨p, hp, rfl⟩ := List.mem_map.mp hq'
    refine Ex.post (Ex.one (Sm.if_ (Tr.cmp (Ev.weak (Ev.cmp (Ev.callF (Evs.cons (Ev.var rfl) (Evs.cons (Ev.compNs deN deN_em (fun i => i != p) (fun i => (i : Int)) (Iter.nats (Ev.var rfl)) (fun i _ => TrIfs.one (Tr.cmp (Ev.var rfl) (Ev.var rfl) Cmp.neN)) (fun i _ _ => Ev.var rfl) (by omega)) Evs.nil)) (fnTold (n := n) H (os := (hiddenOf ks).filter fun i => i != p) hz) (fun h m => (H.f13 h m).fn)) (Ev.var rfl) Cmp.eqT)) (Ev.cmp (Ev.var rfl) (Ev.var rfl) Cmp.notInN) Cmp.isNotBool) (fun h => absurd h ?_) fun _ => Ex.nil)) ?_
    · rw [F3 p hp]; simp
    · exact Sub.cons rfl (Sub.cons rfl (Sub.cons rfl (Sub.cons rfl (Sub.cons rfl (Sub.cons rfl (Sub.cons rfl (Sub.cons rfl (Sub.cons rfl Sub.nil))))))))
theorem law_found1 (H : HasL C) {ns : List Int} {ts ks : List Nat} (hz : ts.length ≤ 300) (F4 : FoundRun ts (told (seenOf ts ks)) [] (rowOf ns ks) ((rowOf ns ks).reverse.filter fun i => (neededOf ks).contains i)) : Sm g false C (n + 6) (scp 17) (base4 ns ts ks) (nth (bd 17) 11) (.next (base4 ns ts ks)) := by
  have hr := row_len ns ks
  refine Sm.if_ (Tr.cmp (Ev.callF (Evs.cons (Ev.var rfl) (Evs.cons (Ev.var rfl) (Evs.cons (Ev.var rfl) (Evs.cons Ev.bool Evs.nil)))) (fnFound (n := n) H hz (by omega) F4) (fun h m => (H.has.f16 h m).fn)) (Ev.weak (Ev.compNs deN deN_em (fun i => (neededOf ks).contains i) (fun i => (i : Int)) (Iter.nats (ns := (rowOf ns ks).reverse) (Ev.eq (Ev.slice (lo := none) (hi := none) (st := some (-1)) (Ev.var rfl) trivial trivial (Ev.neg (Ev.intN 1)) (Slc.ints (by rw [List.length_map]; omega) (by decide))) (by rw [pick_zs_rev]))) (fun i _ => TrIfs.one (Tr.cmp (Ev.var rfl) (Ev.var rfl) Cmp.inN)) (fun i _ _ => Ev.var rfl) (by rw [List.length_reverse]; omega))) Cmp.neInts) (fun h => absurd h (by simp)) fun _ => Ex.nil
theorem law_found2 (H : HasL C) {ns : List Int} {ts ks : List Nat} (hz : ts.length ≤ 300) (F5 : FoundRun ts (told (seenOf ts ks)) [] (rowOf ns ks).reverse ((rowOf ns ks).filter fun i => (neededOf ks).contains i)) : Sm g false C (n + 6) (scp 17) (base4 ns ts ks) (nth (bd 17) 12) (.next (base4 ns ts ks)) := by
  have hr := row_len ns ks
  refine Sm.if_ (Tr.cmp (Ev.callF (Evs.cons (Ev.var rfl) (Evs.cons (Ev.eq (d := .ints (zs (rowOf ns ks).reverse)) (Ev.slice (lo := none) (hi := none) (st := some (-1)) (Ev.var rfl) trivial trivial (Ev.neg (Ev.intN 1)) (Slc.ints (by rw [List.length_map]; omega) (by decide))) (by rw [pick_zs_rev])) (Evs.cons (Ev.var rfl) (Evs.cons Ev.bool Evs.nil)))) (fnFound (n := n) H hz (by rw [List.length_reverse]; omega) F5) (fun h m => (H.has.f16 h m).fn)) (Ev.weak (Ev.compNs deN deN_em (fun i => (neededOf ks).contains i) (fun i => (i : Int)) (Iter.nats (Ev.var rfl)) (fun i _ => TrIfs.one (Tr.cmp (Ev.var rfl) (Ev.var rfl) Cmp.inN)) (fun i _ _ => Ev.var rfl) (by omega))) Cmp.neInts) (fun h => absurd h (by simp)) fun _ => Ex.nil

def wayOf (ns : List Int) : Nat := (Int.fmod (Int.fdiv ns.sum 28) 8).toNat
def laidOf (ns : List Int) : Nat := (unseenL ++ [57]).getD (Int.fmod ns.sum 28).toNat 0
def opening : List Nat := [50, 53, 55, 32, 34]
def spoiledOf (ns : List Int) (ts : List Nat) : List Nat := opening.take (wayOf ns % 5) ++ [laidOf ns] ++ opening.drop (wayOf ns % 5 + min (wayOf ns / 3) 1) ++ ts
theorem law_way {ns : List Int} {ts ks : List Nat} : Sm g b C n (scp 17) (base4 ns ts ks) (nth (bd 17) 13) (.next (("way", .int (wayOf ns : Int)) :: base4 ns ts ks)) := by
  refine Sm.assign (Ev.eq (Ev.modC (Ev.divC (Ev.sumI (Ev.var rfl)) (by decide) (by decide)) (by decide)) ?_)
  unfold wayOf
  rw [Int.toNat_of_nonneg (fmod5 _ (by decide)).1]
theorem law_place {ns : List Int} {ts ks : List Nat} : Sm g b C n (scp 17) (("way", .int (wayOf ns : Int)) :: base4 ns ts ks) (nth (bd 17) 14) (.next (("place", .int ((wayOf ns % 5 : Nat) : Int)) :: ("way", .int (wayOf ns : Int)) :: base4 ns ts ks)) :=
  Sm.assign (Ev.eq (Ev.modC (Ev.var rfl) (by decide)) (congrArg D.int (fmodN (wayOf ns) 5)))
theorem law_laid (H : Has C) {ns : List Int} {ts ks : List Nat} : Sm g b C (n + 1) (scp 17) (("place", .int ((wayOf ns % 5 : Nat) : Int)) :: ("way", .int (wayOf ns : Int)) :: base4 ns ts ks) (nth (bd 17) 15) (.next (("laid", .str (tx [laidOf ns])) :: ("place", .int ((wayOf ns % 5 : Nat) : Int)) :: ("way", .int (wayOf ns : Int)) :: base4 ns ts ks)) := by
  have h28 := fmod5 ns.sum (m := 28) (by decide)
  refine Sm.assign (Ev.weak (Ev.signAt (l := unseenL ++ [57]) (Ev.eq (Ev.bin (Ev.item (Ev.callF Evs.nil (fnSigns (n := n) H) (fun h m => (H.f11 h m).fn)) (Ev.int (i := 0)) Itm.fst) (Ev.listStrs (ns := [tx [57]]) (Evs.cons (Ev.strT [57]) Evs.nil) (by decide)) (Bop.addStrs (by decide))) rfl) (Ev.modC (Ev.sumI (Ev.var rfl)) (by decide)) h28.1 ?_ (by decide)))
  have : (unseenL ++ [57]).length = 28 := rfl
  omega
theorem law_spoiled {ns : List Int} {ts ks : List Nat} (hz : ts.length ≤ 300) : Sm g b C n (scp 17) (("laid", .str (tx [laidOf ns])) :: ("place", .int ((wayOf ns % 5 : Nat) : Int)) :: ("way", .int (wayOf ns : Int)) :: base4 ns ts ks) (nth (bd 17) 16) (.next (("spoiled", .str (tx (spoiledOf ns ts))) :: ("laid", .str (tx [laidOf ns])) :: ("place", .int ((wayOf ns % 5 : Nat) : Int)) :: ("way", .int (wayOf ns : Int)) :: base4 ns ts ks)) := by
  have flat : (ts.map fun c => [c]).flatten = ts := flat_ones ts
  have ho : opening.length = 5 := rfl
  refine Sm.assign (Ev.cat (Ev.cat (Ev.cat (Ev.sTo (Ev.strT opening) (Ev.var rfl) (by decide)) (Ev.var rfl) (by rw [List.length_take]; simp; omega)) (Ev.sFrom (Ev.strT opening) (Ev.addN (y := min (wayOf ns / 3) 1) (Ev.var rfl) (Ev.eq (Ev.min2 (Ev.divC (Ev.var rfl) (by decide) (by decide)) Ev.int) ?_)) (by decide)) ?_) (Ev.eq (d := .str (tx ts)) (Ev.joinT (Ev.strT []) (Ev.var rfl) (by rw [flat]; omega)) (by rw [flat])) ?_)
  · have e : Int.fdiv (wayOf ns : Int) 3 = ((wayOf ns / 3 : Nat) : Int) := fdivN (wayOf ns) 3
    rw [e]
    congr 2
    split <;> omega
  · simp only [List.length_append, List.length_take, List.length_drop, List.length_cons, List.length_nil]; omega
  · simp only [List.length_append, List.length_take, List.length_drop, List.length_cons, List.length_nil]; omega
end
end Mine
end
section
open PySem PySem.W PyProof.Rows PySem.Calls
open Builtin Builtin.BaseException Builtin.Exceptions
set_option maxRecDepth 100000
namespace Mine
/-- the class error_reply, made of Error, made of Exception -/
structure ErrCls (h : Heap) : Prop where
  ex : ∃ nm q N bs hdct sn sub ab col dd k0 k1 k2 k3 k5 mN, h.get? 37 = some (excClassObj nm q 37 N bs [.ref 24, .type "Exception", .type "BaseException", .type "object"] hdct sn sub ab col dd k0 k1 k2 k3 k5 "Exception.__new__") ∧ h.Ns N mN ∧ mN "__init__" = none ∧ mN "__str__" = none
  e24 : ∃ c0 dd cd sl m24, h.get? 24 = some { cls := c0, dict := dd, data := .cls cd, slots := sl } ∧ h.Ns cd.ns m24 ∧ m24 "__init__" = none ∧ m24 "__str__" = none
abbrev excMro : List Value := [.type "Exception", .type "BaseException", .type "object"]
theorem ErrCls.keeps {h h' : Heap} (x : ErrCls h) (k : ∀ b o, h.get? b = some o → h'.get? b = some o) : ErrCls h' :=
  let ⟨⟨nm, q, N, bs, hdct, sn, sub, ab, col, dd, k0, k1, k2, k3, k5, mN, a, b, c, d⟩, ⟨c0, dd', cd, sl, m24, e, f, g, i⟩⟩ := x
  ⟨⟨nm, q, N, bs, hdct, sn, sub, ab, col, dd, k0, k1, k2, k3, k5, mN, k _ _ a, b.keeps k, c, d⟩, ⟨c0, dd', cd, sl, m24, k _ _ e, f.keeps k, g, i⟩⟩
theorem ErrCls.tail {h : Heap} (x : ErrCls h) : OwnTail h excMro (.ref 24 :: excMro) :=
  let ⟨c0, dd', cd, sl, m24, e, f, g, i⟩ := x.e24
  .own e f g .base
theorem ErrCls.own {h : Heap} {mg : Str → Option Value} {x : Str} (E : ErrCls h) (hb : mg x = some (.ref 37)) : OwnCls x 37 excMro "Exception.__new__" mg h :=
  let ⟨nm, q, N, bs, hdct, sn, sub, ab, col, dd, k0, k1, k2, k3, k5, mN, a, b, c, d⟩ := E.ex
  ⟨hb, _, N, nm, q, bs, hdct, sn, sub, ab, col, dd, k0, k1, k2, k3, k5, mN, a, b, c, E.tail⟩
theorem lookup_str_exc : lookupAlong excMro "__str__" = pure (some (.builtin "BaseException.__str__")) := by
  have h := F.excStr_Exception.str.lookup
  rw [typeLookup_eq, F.excBase_Exception.mroIs] at h
  exact h

/-- an error made by the text: one string its argument -/
structure ErrAt (h : Heap) (e t : Addr) (x : Str) (tk : Tok) : Prop where
  cls : ErrCls h
  ex : ∃ o vs, h.get? e = some o ∧ o.cls = .ref 37 ∧ o.data = .fields vs ∧ vs[0]? = some (.ref t)
  tup : h.TupAt t [.str x tk]

section
variable {prog : Program} {w : World} {A : Around} {E : Value → Shared → Prop} {s : Shared} {e t0 : Addr}
theorem specialOf_err {M : Model} {h : Heap} {g : Array GenState} {d : Drawn} {t : Nat} {os : OsState} {o : Obj} {Q : Option Value → Shared → Prop} (X : ErrCls h) (hx : h.get? e = some o) (hc : o.cls = .ref 37) (hq : Q (some (.builtin "BaseException.__str__")) ⟨h, g, d, t, os⟩) :
    wpAny M A (specialOf (.ref e) "__str__") Q E ⟨h, g, d, t, os⟩ := by
  obtain ⟨⟨nm, q, N, bs, hdct, sn, sub, ab, col, dd, k0, k1, k2, k3, k5, mN, a, b, c, d'⟩, ⟨c0, dd', cd, sl, m24, e', f, g', i⟩⟩ := X
  unfold specialOf
  refine wpAny_bind (m := typeOf (.ref e)) ?_
  have fin : wpAny M A (typeLookup (.ref 37) "__str__") Q E ⟨h, g, d, t, os⟩ := by
    rw [typeLookup_eq]
    refine wpAny_bind (wpAny_mroOf_exc a ?_)
    rw [lookupAlong_cons]
    refine wpAny_bind (wpAny_classOwn_exc a b ?_)
    rw [d']
    simp only
    rw [lookupAlong_cons]
    refine wpAny_bind (wpAny_classOwn_cls e' f ?_)
    rw [i]
    exact wpAny_of_eq lookup_str_exc hq
  repeat (first | (with_reducible refine wpAny_loadPart_at hx ?_; rw [hc]) | exact fin | wp_step)
theorem check_err {M : Model} {o : Obj} {Q : Unit → Shared → Prop} (X : ErrCls s.heap) (hx : s.heap.get? e = some o) (hc : o.cls = .ref 37) (hq : Q () s) : wpAny M A (checkBuiltinCall "BaseException.__str__" ⟨[.ref e], []⟩) Q E s := by
  obtain ⟨⟨nm, q, N, bs, hdct, sn, sub, ab, col, dd, k0, k1, k2, k3, k5, mN, a, b, c, d'⟩, _⟩ := X
  obtain ⟨h, g, d, t, os⟩ := s
  have hk : builtinKind "BaseException.__str__" = some .slot := by decide +kernel
  have hsplit : splitId "BaseException.__str__" = some ("BaseException", "__str__") := by decide +kernel
  have hcB : (Value.ref 37 :: [.ref 24, .type "Exception", .type "BaseException", .type "object"] : List Value).contains (.type "BaseException") = true := by decide +kernel
  have ha := F.args_bexc_str (.ref e)
  simp only [checkBuiltinCall, hk, hsplit]
  refine wpAny_bind ?_
  unfold isInstance
  repeat (first | (with_reducible refine wpAny_loadPart_at hx ?_; rw [hc]) | (with_reducible refine wpAny_isSubtype_exc a ?_; rw [hcB]) | wp_step)
  exact hq
theorem bexcStr_err {x : Str} {tk : Tok} {Q : Fin → Shared → Prop} (X : ErrAt s.heap e t0 x tk) (hq : Q (.done (.ret (.str x tk))) s) :
    wpAny (model prog w) A (Builtin.«BaseException.__str__» ⟨[.ref e], []⟩) Q E s := by
  obtain ⟨_, ⟨o, vs, ho, _, hd, h0⟩, ⟨ot, k, hto, _, htd⟩⟩ := X
  have f1 : ∀ {Q : Value × List Value → Shared → Prop} {E : Value → Shared → Prop}, Q (.ref t0, [.str x tk]) s → wpAny (model prog w) A (bexcArgs (.ref e)) Q E s := fun hq => by
    unfold bexcArgs
    exact wpAny_bind (wpAny_field ho hd h0 (wpAny_bind (wpAny_seqItems hto htd (wpAny_pure hq))))
  unfold Builtin.«BaseException.__str__»
  repeat (first | with_reducible refine f1 ?_ | wp_step)
  exact hq
theorem strOf_err (hu : A.units < cLine) {x : Str} {tk : Tok} {Q : Value → Shared → Prop} (X : ErrAt s.heap e t0 x tk) (hq : Q (.str x tk) s) :
    wpAny (model prog w) A (PySem.Builtin.Str.strOf (.ref e)) Q E s := by
  obtain ⟨o, vs, ho, hoc, hd, h0⟩ := X.ex
  have hB : ∀ {Q : Value → Shared → Prop}, Q (.str x tk) s → wpAny (model prog w) A (call (.builtin "BaseException.__str__") [.ref e]) Q E s := fun hq => by
    refine wpAny_call (codeAny_call_builtin F.excStr_Exception.str.plain F.entry_bexc_str (check_err X.cls ho hoc ?_))
    exact bexcStr_err X hq
  have hs : ∀ {Q : Option Value → Shared → Prop}, Q (some (.str x tk)) s → wpAny (model prog w) A (callSpecial? (.ref e) "__str__" []) Q E s := fun hq => by
    simp only [callSpecial?]
    refine wpAny_bind ?_
    obtain ⟨h, g, d, t, os⟩ := s
    refine specialOf_err X.cls ho hoc ?_
    simp only [F.excStr_Exception.str.bind]
    exact wpAny_holding (wpAny_bind (wpAny_pure (wpAny_bind (wpAny_mono (hB (Q := fun v s' => v = _ ∧ s' = _) ⟨rfl, rfl⟩) (fun v s' h' => wpAny_pure (by obtain ⟨rfl, rfl⟩ := h'; exact hq)) fun _ _ h' => h'))))
  unfold PySem.Builtin.Str.strOf
  repeat (first | with_reducible refine wpAny_cRoomFor hu ?_ | with_reducible refine hs ?_ | wp_step)
  exact hq
theorem str_err (hu : A.units + 2 < cLine) {x : Str} {tk : Tok} {Q : Value → Shared → Prop} (X : ErrAt s.heap e t0 x tk) (h : Q (.str x tk) s) :
    wpAny (model prog w) A (call (.type "str") [.ref e]) Q E s :=
  callType_new F.called_str (by decide) (F.typeCall_str_1 _) (F.newCall_str_1 _) (fun obj => F.args_object_init_2 obj _) F.entry_str_new
    (meets_str_new (S := fun A' R s' => A'.units + 1 < cLine ∧ ErrAt s'.heap e t0 x tk ∧ R (.ok (.ret (.str x tk))) s')
      fun _ _ A' _ _ hq => strOf_err (A := A'.in1) hq.1 hq.2.1 hq.2.2)
    ⟨(show A.units + 1 + 1 < cLine from hu), X, typeIs_str _ _ _, h⟩
end
end Mine
end
section
open PySem PySem.W PyProof.Rows PySem.Calls
set_option maxRecDepth 100000
namespace Mine
section
variable {C : Ctx} {n : Nat}
/-- a call of a def that raises -/
theorem callDefR {b : Bool} {a : Addr} {body : List Stmt} {scope : Scope} {ps : List Str} {vs : List Value} {ds : List D} {args : Args} {A : Around} {hid : Addr → Prop} {s : Shared} {R : Result → Shared → Prop} {o : Obj} {fd : FuncData} (hA : Calm (n + 1) A) (X : St C hid s) (hr : RepAll C.key (Vis hid s.heap) vs ds)
    (ho : s.heap.get? a = some o) (hd : o.data = .func fd) (hbd : fd.body = .stmts body) (hs : fd.scope = scope) (hg : fd.globals = mainGlobals) (hbi : fd.builtins = builtinsNs) (hcl : fd.closure = []) (hcd : s.heap.CodeRec fd.code fd.qualname) (hbind : BindsTo s fd args (ps.zip vs))
    (hbody : ∀ (s₁ : Shared), Keeps s s₁ → EnvX C hid (FrW (callEnvC fd s.heap.objs.size a)) s.heap.objs.size (callEnvC fd s.heap.objs.size a) (ps.zip ds) s₁ → wpAny (model prog C.w) (A.deeper (callEnvC fd s.heap.objs.size a)) (execs body (callEnvC fd s.heap.objs.size a)) (fun _ _ => False)
      (fun e s' => wpAny (model prog C.w) (A.deeper (callEnvC fd s.heap.objs.size a)) (leaving (callEnvC fd s.heap.objs.size a) e) (fun _ s'' => R (.error e) s'') (fun e' s'' => R (.error e') s'') s') s₁)
    (hnd : ps.Nodup := by decide) (hloc : ps.all (locCell scope) = true := by rfl) (hnf : noFree scope = true := by rfl)
    (hk : scope.kind = .function := by rfl) (hco : scope.isCoroutine = false := by rfl) (hgen : scope.isGenerator = false := by rfl) : codeAny (model prog C.w) A (.call (.ref a) args) R s := by
  subst hs
  refine codeAny_call_function hA.room ho hd hco hgen hbd hcd (hbind _ _ _ _ ?_)
  rw [hcl]
  refine wpAny_mono (wpAny_toks (wpAny_newFunctionEnv_cells (Q := fun env s' => env = callEnvC fd s.heap.objs.size a ∧ InCallC s (callEnvC fd s.heap.objs.size a).locals (bindL (callEnvC fd s.heap.objs.size a).kindOf (ps.zip vs) fun _ => none) (callEnvC fd s.heap.objs.size a).cells (bindC (callEnvC fd s.heap.objs.size a).kindOf (ps.zip vs) fun _ => none) s') hk ?_ fun env he s' x => ?_)) ?_ fun _ _ e => e.2
  · rintro ⟨x, v⟩ hx
    have hx : x ∈ ps := (List.of_mem_zip hx).1
    have := List.all_eq_true.mp hloc x hx
    rcases locCell_of (env := callEnvC fd s.heap.objs.size a) this rfl with q | q
    · exact .inl q
    · exact .inr ⟨q, cellsFrom_some _ _ _ _ (lookup_mem_kind q)⟩
  · subst he; exact ⟨rfl, x⟩
  · rintro env s₁ ⟨ht, rfl, I⟩
    have X₁ := EnvX.start X hr hnd hk hg hbi hloc hnf I ht
    obtain ⟨h₁, tk, rfl⟩ := I.toInCall.same
    have hkeep := I.toInCall.keep
    exact ⟨(C.lim _ X.md).keeps hkeep, codeAny_func (wpAny_mono (hbody _ (keeps_mk hkeep) X₁) (fun _ _ q => q.elim) fun _ _ e => e)⟩

/-- what a raise leaves: the error in flight, all else as it was -/
def Flown (base : Heap) (outer : List Env) (s : Shared) (x : Str) (e : Value) (s' : Shared) : Prop :=
  ∃ a t tk h' k, e = .ref a ∧ s' = { s with heap := h', toks := k } ∧ Heap.FlyingW base outer a (.ref 37) (.ref t) h' ∧ h'.TupAt t [.str x tk] ∧ base.get? t = none ∧ s.heap.UpToSlots h'

theorem parseRaises (H : Has C) (HE : ∀ h, C.Md h → ErrCls h) {l : List Nat} (h3 : l.take 3 ≠ [50, 53, 55]) (hz : l.length ≤ 500) {A : Around} {hid : Addr → Prop} {s : Shared} {R : Result → Shared → Prop} {v : Value} {base : Heap} {env₀ : Env} {outer : List Env}
    (hA : Calm (n + 2) A) (hfr : A.frames = some (env₀ :: outer)) (X : St C hid s) (hr : RepAll C.key (Vis hid s.heap) [v] [.str (tx l)]) (hb : base.StaysIn s.heap) (hff : s.heap.FunFrames base (env₀ :: outer))
    (hR : ∀ e s', Flown base (env₀ :: outer) s (tx l) e s' → R (.error e) s') : codeAny (model prog C.w) A (.call (.ref 46) ⟨[v], []⟩) R s := by
  obtain ⟨o, fd, ho, hd, hp, hbd, hs, hq, hg, hbi, hcl, hcd, hdf, hkd⟩ := (H.f3 _ X.md).ex
  refine callDefR (b := true) (ps := ["resp"]) (n := n + 1) hA X hr ho hd hbd hs hg hbi hcl (by rw [hq]; exact hcd) (.of_eq (by rw [bind_eta hp hdf hkd]; rfl)) (fun s₁ K₀ X₁ => ?_)
  have hA' : Calm (n + 1) (A.deeper (callEnvC fd s.heap.objs.size 46)) := hA.deeper _
  have hsc : (callEnvC fd s.heap.objs.size 46).scope = scp 3 := hs
  have hfrm : (callEnvC fd s.heap.objs.size 46).frame = some (callEnvC fd s.heap.objs.size 46).locals := rfl
  have hfr' : (A.deeper (callEnvC fd s.heap.objs.size 46)).frames = some (callEnvC fd s.heap.objs.size 46 :: env₀ :: outer) := Around.frames_deeper hfr
  generalize callEnvC fd s.heap.objs.size 46 = env at X₁ hA' hsc hfrm hfr' ⊢
  have e : bd 3 = nth (bd 3) 0 :: (bd 3).drop 1 := rfl
  rw [e]
  have test : Tr C true (n + 1) (scp 3) [("resp", .str (tx l))] (match nth (bd 3) 0 with | .If t _ _ _ => t | _ => .Constant .none 0 ⟨0, 0, 0, 0⟩) true :=
    Tr.eq (Tr.cmp (Ev.sTo (Ev.var rfl) (Ev.intN 3) (by omega)) (Ev.strT [50, 53, 55]) Cmp.neT) (by simp [h3])
  refine wpAny_execs_cons (wpAny_If (test.go hsc hA' X₁.e fun s₂ k₂ t₂ X₂ => ?_))
  rw [if_pos rfl]
  obtain ⟨nm, q, N, bs, hdct, sn, sub, ab, col, dd, k0, k1, k2, k3, k5, mN, c1, c2, c3, c4⟩ := (HE _ X₂.md).ex
  have T := (HE _ X₂.md).tail
  refine wpAny_execs_cons (wpAny_Raise_call_subU (C := 37) (nm := nm) (q := q) (N := N) (bs := bs) (bm := .ref 24 :: excMro) (hdct := hdct) (sn := sn) (sub := sub) (ab := ab) (col := col) (dd := dd) (k0 := k0) (k1 := k1) (k2 := k2) (k3 := k3) (k5 := k5) F.excBase_Exception (by decide +kernel) F.excBase_Exception (by decide +kernel) hA'.1 (by rfl) c3 (name_gl X₂ (a := 37) (by rfl) (by rw [hsc]; rfl) ⟨rfl, ?_⟩))
  refine args_plain (by rfl) ((Evs.cons (Ev.var (d := .str (tx l)) rfl) Evs.nil : Evs C true (n + 1) (scp 3) [("resp", .str (tx l))] _ _).go hsc hA' X₂ fun vs s₃ k₃ t₃ X₃ r₃ => ?_)
  refine ⟨rfl, ?_, keeps_heap k₃ _ _ c1, c2.keeps (keeps_heap k₃), T.keeps (keeps_heap k₃), fun h' e hm => ?_⟩
  · have := paired_length r₃
    show vs.length ≤ _
    rw [this, sizeLine_eq]; simp
  · obtain ⟨h₁, tk₁, rfl, x₁⟩ := K₀
    obtain ⟨h₂, tk₂, rfl, x₂⟩ := k₂
    obtain ⟨h₃, tk₃, rfl, x₃⟩ := k₃
    obtain ⟨u, rfl, ru⟩ := rep1 r₃
    obtain ⟨tk, rfl⟩ := is_str ru
    have kk : ∀ b o, s.heap.get? b = some o → h₃.get? b = some o := fun b o q => x₃ b o (x₂ b o (x₁ b o q))
    have hb₃ : base.StaysIn h₃ := fun b o q => kk b o (hb b o q)
    refine wpAny_leaves_madeW hfr' hfrm hb₃ ?_ hm fun h'' t f1 f2 f3 f4 => hR _ _ ⟨e, t, tk, h'', tk₃, rfl, rfl, f1, f2, f3, fun b o q hn => f4 b o (hm.keeps b o (kk b o q)) hn⟩
    refine ⟨?_, ?_, hff.of_keeps fun b o q _ => ⟨o, kk b o q, rfl⟩⟩
    · rw [hsc]; decide
    · obtain ⟨m, ⟨oL, es, ep, hL, hLd, _⟩, _⟩ := X₁.e.loc
      refine ⟨env.locals, oL, hfrm, ?_, x₃ _ _ (x₂ _ _ hL), fun vs q => by rw [hLd] at q; cases q⟩
      cases hq' : base.get? env.locals with
      | none => rfl
      | some o' => exact absurd (Heap.lt_size (hb _ _ hq')) (Nat.not_lt.mpr (X₁.wlo _ X₁.wl))
end
end Mine
end
section
open PySem PySem.W PyProof.Rows PySem.Calls
set_option maxRecDepth 100000
namespace Mine
section
variable {g b : Bool} {C : Ctx} {n : Nat} {sc : Scope} {ρ : List (Str × D)}
theorem Ev.and2 {x y : Expr} {pos : Pos} {c d : Bool} (h1 : Ev C b n sc ρ x (.bool c)) (h2 : c = true → Ev C b n sc ρ y (.bool d)) : Ev C b n sc ρ (.BoolOp .And [x, y] pos) (.bool (c && d)) := .mk fun A env hid s E hs hA X => by
  refine wpAny_And2 (h1.go hs hA X fun u s₁ k1 t1 X1 r1 => ?_)
  obtain rfl := is_bool r1
  refine wpAny_truthy_bool ?_
  cases c with
  | false => rw [if_neg (by decide)]; exact ⟨k1, rfl⟩
  | true =>
    rw [if_pos rfl]
    exact (h2 rfl).go hs hA X1 fun v s₂ k2 t2 X2 r2 => ⟨k1.trans k2, by simpa using r2⟩
theorem Sm.tryRet {body : List Stmt} {h₀ : ExceptHandler} {hs : List ExceptHandler} {pos : Pos} {d : D} (h : Ex g b C n sc ρ body (.ret d)) : Sm g b C n sc ρ (.Try body (h₀ :: hs) [] [] pos) (.ret d) := .mk fun A env hid₀ W lo s E hsc hA X => by
  refine wpAny_Try_except (wpAny_mono (h.all A env hid₀ W lo s _ hsc hA X) ?_ fun _ _ e => e)
  rintro f s₁ ⟨K, v, rfl, r⟩
  exact ⟨K, v, rfl, r⟩
theorem law_try_good (H : Has C) {l : List Nat} {p : Nat} (h3 : l.take 3 = [50, 53, 55]) (ht : tell l = []) (hz : l.length ≤ 500) (hp : 2 < p) (hl : ρ.lookup ("spoiled" : Str) = some (.str (tx l))) (hpl : ρ.lookup ("place" : Str) = some (.int (p : Int))) :
    Sm g b C (n + 1) (scp 17) ρ (nth (bd 17) 17) (.ret (.bool true)) := by
  refine Sm.tryRet (Ex.ret (Sm.ret (Ev.weak (Ev.eq (Ev.and2 (c := true) (d := true) (Ev.eq (Ev.cmp (Ev.callF (Evs.cons (Ev.var hl) Evs.nil) (fn257 (n := n) H h3 hz) (fun h m => (H.f3 h m).fn)) (Ev.strT []) Cmp.eqT) ?_) fun _ => Ev.eq (Ev.cmp (Ev.var hpl) (Ev.int (i := 2)) Cmp.gtInt) ?_) rfl))))
  · rw [ht]; rfl
  · have : decide ((2 : Int) < (p : Int)) = true := decide_eq_true (by omega)
    rw [this]
end

/-- all is kept but what stands at L, a dict -/
theorem tab_hid {L : Addr} {h h' : Heap} (hL : L ≠ P0) (hn : ∃ m, h.Ns L m) (k : ∀ a o, a ≠ L → h.get? a = some o → h'.get? a = some o) (t : Tab h) : Tab h' := by
  obtain ⟨m, oL, es, ep, e1, e2, _⟩ := hn
  obtain ⟨ps, a, b, c⟩ := t
  refine ⟨ps, k _ _ (Ne.symm hL) a, b, fun pos cv e => ?_⟩
  obtain ⟨d, e3, e4⟩ := c pos cv e
  obtain ⟨c', o, vs, t', q1, q2, q3, q4⟩ := e4
  refine ⟨d, e3, c', o, vs, t', q1, k _ _ (fun q => ?_) q2, q3, q4⟩
  rw [q, e1] at q2; cases q2
  rw [e2] at q3; cases q3
theorem EnvE.stays {C : Ctx} {hid : Addr → Prop} {env : Env} {ρ : List (Str × D)} {s s' : Shared} (x : EnvE C hid env ρ s) (hL : hid env.locals) (hlo : C.lo ≤ env.locals) (k : ∀ a o, a ≠ env.locals → s.heap.get? a = some o → s'.heap.get? a = some o) (hu : s.heap.UpToSlots s'.heap) (ht : s.toks ≤ s'.toks) : EnvE C hid env ρ s' := by
  have hn : ∃ m, s.heap.Ns env.locals m := let ⟨m, a, _⟩ := x.loc; ⟨m, a⟩
  have vis : ∀ a o, Vis hid s.heap a o → Vis hid s'.heap a o := fun a o q => ⟨k a o (fun e => q.2 (e ▸ hL)) q.1, q.2⟩
  exact {
    kind := x.kind
    glob := x.glob
    bi := x.bi
    tok := Nat.le_trans x.tok ht
    md := C.stable _ _ ⟨fun b o hb _ e => k b o (Nat.ne_of_lt (Nat.lt_of_lt_of_le hb hlo)) e, tab_hid x.L106 hn k⟩ x.md
    tab := tab_hid x.L106 hn k x.tab
    h106 := x.h106
    hin := fun a ha => by
      by_cases q : a = env.locals
      · obtain ⟨m, o, es, ep, e1, e2, _⟩ := hn
        obtain ⟨sl, e3⟩ := hu _ _ e1 fun vs q => by rw [e2] at q; cases q
        exact ⟨_, q ▸ e3⟩
      · obtain ⟨o, e⟩ := x.hin a ha
        exact ⟨o, k a o q e⟩
    L106 := x.L106
    opn := x.opn
    cc := x.cc
    loc := let ⟨m, a, b⟩ := x.loc; ⟨m, hu.ns a, fun y d e o q => let ⟨v, e1, r⟩ := b y d e o q; ⟨v, e1, r.mono vis⟩⟩
    cel := fun y d e o q => by
      obtain ⟨c, v, e1, e2, ⟨oc, e3, e4⟩, r⟩ := x.cel y d e o q
      obtain ⟨sl, e5⟩ := hu _ _ e3 fun vs q => by rw [e4] at q; cases q
      exact ⟨c, v, e1, e2, ⟨_, e5, e4⟩, r.mono vis⟩ }

section
variable {g : Bool} {C : Ctx} {n : Nat} {ρ : List (Str × D)}
theorem law_try_bad (H : Has C) (HE : ∀ h, C.Md h → ErrCls h) {l : List Nat} {p : Nat} (h3 : l.take 3 ≠ [50, 53, 55]) (hz : l.length ≤ 500) (hp : p < 3) (hl : ρ.lookup ("spoiled" : Str) = some (.str (tx l))) (hpl : ρ.lookup ("place" : Str) = some (.int (p : Int)))
    {A : Around} {env : Env} {hid W : Addr → Prop} {lo : Nat} {s : Shared} {E : Value → Shared → Prop} (hsc : env.scope = scp 17) (hA : Calm (n + 2) A) (hfr : A.frames = some [env]) (hff : env.frame = some env.locals) (X : EnvX C hid W lo env ρ s) :
    wpAny (model prog C.w) A (exec (nth (bd 17) 17) env) (PostX g false C hid W lo env s (.ret (.bool true))) E s := by
  have hks : env.kindOf "spoiled" = some .local := by show env.scope.names.lookup _ = _; rw [hsc]; rfl
  have hkp : env.kindOf "place" = some .cell := by show env.scope.names.lookup _ = _; rw [hsc]; rfl
  have hkc : env.kindOf "caught" = some .local := by show env.scope.names.lookup _ = _; rw [hsc]; rfl
  refine wpAny_Try_except (wpAny_execs_cons (wpAny_Return_some (wpAny_And2 (wpAny_Compare1 (wpAny_Call_NameR (name_gl X.e (a := 46) (by rfl) (by rw [hsc]; rfl) ?_)) ?_))))
  · obtain ⟨o, fd, ho, hfd⟩ := (H.f3 _ X.e.md).fn
    refine callWith_function (o := o) (fd := fd) (args_plain (by rfl) ((Evs.cons (Ev.var hl) Evs.nil : Evs C true (n + 1) (scp 17) ρ _ _).go hsc (hA.less (by omega)) X.e fun vs s₁ k t X1 r => ⟨⟨keeps_heap k _ _ ho, hfd⟩, ?_⟩))
    obtain ⟨u, rfl, ru⟩ := rep1 r
    obtain ⟨m, hm, hmv⟩ := X1.loc
    obtain ⟨oL, es, ep, hoL, hdL, _⟩ := id hm
    refine wpAny_call (parseRaises (n := n) (outer := []) H HE h3 hz hA hfr X1.st r (base := s₁.heap.hide env.locals) (fun b o q => Heap.of_hide q) ⟨by rw [hsc]; decide, ⟨env.locals, oL, hff, Heap.hide_self _ _, hoL, fun vs q => by rw [hdL] at q; cases q⟩, trivial⟩ fun e s₂ fl => ?_)
    obtain ⟨a, t, tk, h', k', rfl, rfl, f1, f2, f3, f4⟩ := fl
    have hLL : (fun a => hid a ∨ W a) env.locals := .inr X.wl
    have hlo : C.lo ≤ env.locals := Nat.le_trans X.clo (X.wlo _ X.wl)
    refine wpAny_looks_onW hfr hff f1 fun h₂ g1 u1 => ?_
    refine wpAny_landsW g1 fun h₃ g2 u2 => ?_
    have u3 := (f4.trans u1).trans u2
    have stay : ∀ {h'' : Heap}, Heap.FlyingW (s₁.heap.hide env.locals) [env] a (.ref 37) (.ref t) h'' → ∀ b o, b ≠ env.locals → s₁.heap.get? b = some o → h''.get? b = some o := fun f b o q e => f.1 b o ((Heap.hide_ne _ q).trans e)
    have hn : ∃ m, s₁.heap.Ns env.locals m := ⟨m, hm⟩
    have md3 : ∀ {h'' : Heap}, (∀ b o, b ≠ env.locals → s₁.heap.get? b = some o → h''.get? b = some o) → C.Md h'' := fun k => C.stable _ _ ⟨fun b o hb _ e => k b o (Nat.ne_of_lt (Nat.lt_of_lt_of_le hb hlo)) e, tab_hid X1.L106 hn k⟩ X1.md
    have M3 := md3 (stay g2)
    have HE3 := HE _ M3
    obtain ⟨⟨nm, q, N, bs, hdct, sn, sub, ab, col, dd, k0, k1, k2, k3, k5, mN, c1, c2, c3, c4⟩, _⟩ := id HE3
    obtain ⟨oe, ves, he, hec, hed, he0⟩ := g2.first
    refine wpAny_handleBy_cons (codeAny_handlers_test (Name_function_global X.e.kind (show env.scope.names.lookup ("error_reply" : Str) = some .globalImplicit by rw [hsc]; rfl) (loadGlobal_global (mg := C.mg) (X.e.glob ▸ C.g _ M3) (C.gl _ 37 (by rfl)) ?_) (by decide))) (by intro q; cases q)
    refine wpAny_excMatches_sub_self c1 he hec (HE3.tail.hasType (by decide +kernel)) (codeAny_handlers_suite_as ?_)
    refine lands_againW g2 fun h₄ g3 u4 => ?_
    have u5 := u3.trans u4
    have hpk : (env.scope.kind == .class || (env.scope.kind == .module && env.locals != env.globals)) = false := by rw [X.e.kind]; rfl
    refine wpAny_storeName_local hkc (u5.ns hm) (fun h₅ n5 b5 => ?_) hpk
    have stay5 : ∀ b o, b ≠ env.locals → s₁.heap.get? b = some o → h₅.get? b = some o := fun b o q e => (b5.2 b q).trans (stay g3 b o q e)
    have M5 := md3 stay5
    obtain ⟨vs', hvs, rvs⟩ := hmv "spoiled" _ hl rfl hks
    obtain ⟨ts', rfl⟩ := is_str rvs
    obtain ⟨cp, vp, hcp1, hcp2, hcp3, rvp⟩ := X1.cel "place" _ hpl rfl (.inl hkp)
    obtain ⟨tp', rfl⟩ := is_int rvp
    obtain ⟨oc, hoc, hoc2⟩ := hcp3
    have hcpL : cp ≠ env.locals := fun q => by rw [q, hoL] at hoc; cases hoc; rw [hdL] at hoc2; cases hoc2
    have cell5 : h₅.IsCell cp (some (.int (p : Int) tp')) := ⟨oc, stay5 _ _ hcpL hoc, hoc2⟩
    obtain ⟨oe4, ve4, he4, hec4, hed4, he04⟩ := g3.first
    obtain ⟨oL5, es5, ep5, hoL5, hdL5, _⟩ := id (u5.ns hm)
    have haL : a ≠ env.locals := fun q => by rw [q, hoL5] at he4; cases he4; rw [hdL5] at hed4; cases hed4
    have tup4 := f2.of_slots ((u1.trans u2).trans u4)
    obtain ⟨ot, nt, ht1, ht2, ht3⟩ := id tup4
    have htL : t ≠ env.locals := fun q => by rw [q, hoL5] at ht1; cases ht1; rw [hdL5] at ht3; cases ht3
    have err5 : ErrAt h₅ a t (tx l) tk := ⟨HE _ M5, ⟨oe4, ve4, (b5.2 a haL).trans he4, hec4, hed4, he04⟩, ⟨ot, nt, (b5.2 t htL).trans ht1, ht2, ht3⟩⟩
    refine wpAny_execs_cons (wpAny_Return_some (wpAny_And2 (wpAny_Compare1 (wpAny_Name (wpAny_loadName_cell X.e.kind hkp hcp1 cell5 (wpAny_Constant_int (lt_int (wpAny_truthy_bool ?_)))) (by decide)) (by rfl))))
    rw [decide_eq_true (show (p : Int) < 3 by omega), if_pos rfl]
    refine wpAny_Compare1 (wpAny_Call_NameR (Name_function_global X.e.kind (show env.scope.names.lookup ("str" : Str) = some .globalImplicit by rw [hsc]; rfl) (loadGlobal_builtin (mg := C.mg) (mb := C.mb) (v := .type "str") (X.e.glob ▸ C.g _ M5) (C.nobi _ (by decide)) (X.e.bi ▸ C.b _ M5) (by rw [C.bb _ (by decide)]; decide +kernel) ?_) (by decide))) (by rfl)
    refine PySem.callWith_type (by rfl) (args_plain (by rfl) (PyProof.Rows.spliced_more (wpAny_Name (wpAny_loadName_local (v := .ref a) X.e.kind hkc n5 (by rfl) (PyProof.Rows.spliced_none ?_)) (by decide))))
    refine str_err (by have := hA.2.2; show A.units + 2 < _; unfold cLine; omega) err5 ?_
    refine wpAny_Name (wpAny_loadName_local (v := .str (tx l) ts') X.e.kind hks n5 ?_ (eq_str ?_)) (by decide)
    · exact (if_neg (by decide)).trans hvs
    rw [show ((tx l == tx l) = true) from beq_self_eq_true _]
    refine wpAny_nameGoes hkc n5 hpk fun h₆ m₆ n₆ b₆ => ?_
    obtain ⟨hh, tk₁, rfl, x₁⟩ := k
    refine ⟨⟨h₆, _, rfl, fun b o nw _ e => ?_, ?_⟩, .bool true, rfl, rfl⟩
    · have q : b ≠ env.locals := fun q => nw (q ▸ X.wl)
      exact (b₆.2 b q).trans (stay5 b o q (x₁ b o e))
    · obtain ⟨m0, hm0, _⟩ := X.e.loc
      exact tab_hid X.e.L106 ⟨m0, hm0⟩ fun b o q e => (b₆.2 b q).trans (stay5 b o q (x₁ b o e))
  · rfl
end
end Mine
end
section
open PySem PySem.W PyProof.Rows PySem.Calls
namespace Mine
/-! the plain law: no program in sight -/
/-- what a sign typed is -/
def SignOk (q : Nat × Nat) : Prop := (q.2 = 109 ∧ q.1 = 34) ∨ (q.2 = 117 ∧ inB1 q.1 = true ∧ q.1 ≠ 34) ∨ (q.2 = 115 ∧ inB1 q.1 = false ∧ q.1 ≠ 34)
/-- parse257 as two states: behind a mark or not -/
def tf : Bool → List Nat → List Nat
  | _, [] => []
  | false, c :: r => if c = 34 then tf true r else c :: tf false r
  | true, c :: r => if c = 34 then 34 :: tf false r else []
theorem told_tf : ∀ l : List Nat, told l = tf false l
  | [] => rfl
  | [c] => rfl
  | c :: d :: r => by
    have h1 := told_tf r
    have h2 := told_tf (d :: r)
    unfold told
    show _ = if c = 34 then (if d = 34 then 34 :: tf false r else []) else c :: tf false (d :: r)
    rw [h1, h2]
def keepP : (Nat → Bool) → List Nat → List Nat
  | _, [] => []
  | out, t :: r => if out 0 then keepP (fun i => out (i + 1)) r else t :: keepP (fun i => out (i + 1)) r
theorem keepP_eq : ∀ (ts : List Nat) (out : Nat → Bool), ((List.range ts.length).filter fun i => !out i).map (fun i => ts.getD i 0) = keepP out ts
  | [], _ => rfl
  | t :: r, out => by
    have ih := keepP_eq r fun i => out (i + 1)
    rw [List.length_cons, List.range_succ_eq_map, List.filter_cons, List.filter_map]
    have e : List.map (fun i => (t :: r).getD i 0) (List.map Nat.succ (List.filter ((fun i => !out i) ∘ Nat.succ) (List.range r.length))) = keepP (fun i => out (i + 1)) r := by
      rw [← ih, List.map_map]; rfl
    show _ = if out 0 then _ else _
    cases h : out 0
    · simp only [Bool.not_false, if_true, Bool.false_eq_true, if_false, List.map_cons]
      rw [e]; rfl
    · simp only [Bool.not_true, Bool.false_eq_true, if_false, if_true]
      exact e
theorem keep_eq (ts os : List Nat) : keep ts os = keepP (fun i => os.contains i) ts := keepP_eq ts fun i => os.contains i

/-- the sign at place i has to go; st: behind an odd number of marks -/
def nd : Bool → List Nat → Nat → Bool
  | _, [], _ => false
  | st, k :: r, 0 => st && (k == 117) && ((r.filter (· != 117)).take 1 == [109])
  | st, k :: r, i + 1 => if k = 109 then nd (!st) r i else if k = 115 then (!st && nd false r i) else nd st r i
def seenP (ps : List (Nat × Nat)) : List Nat := (ps.filter fun q => q.2 != 117).map (·.1)
theorem seenP_cons (t k : Nat) (r : List (Nat × Nat)) : seenP ((t, k) :: r) = if k = 117 then seenP r else t :: seenP r := by
  unfold seenP
  rw [List.filter_cons]
  by_cases h : k = 117
  · subst h; rfl
  · have : (k != 117) = true := by simpa using h
    simp [this, h]
theorem nd_off : ∀ (ks : List Nat), (∀ k ∈ ks, k = 109 ∨ k = 117 ∨ k = 115) → (ks.filter (· != 117)).take 1 ≠ [109] → ∀ i, nd true ks i = false
  | [], _, _, _ => rfl
  | k :: r, h, hn, i => by
    have hr := fun x hx => h x (List.mem_cons_of_mem _ hx)
    rcases h k List.mem_cons_self with rfl | rfl | rfl
    · exact absurd rfl hn
    · have hn' : (r.filter (· != 117)).take 1 ≠ [109] := hn
      cases i with
      | zero => simp only [nd]; simp [hn']
      | succ i => exact nd_off r hr hn' i
    · cases i with
      | zero => rfl
      | succ i => rfl
theorem tf_seen (ps : List (Nat × Nat)) (h : ∀ q ∈ ps, SignOk q) : tf true (seenP ps) = [] ↔ ((ps.map (·.2)).filter (· != 117)).take 1 ≠ [109] := by
  induction ps with
  | nil => simp [seenP, tf]
  | cons q r ih =>
    have ih := ih fun x hx => h x (List.mem_cons_of_mem _ hx)
    obtain ⟨t, k⟩ := q
    rcases h _ List.mem_cons_self with ⟨h1, h2⟩ | ⟨h1, h2, h3⟩ | ⟨h1, h2, h3⟩ <;> simp only at h1 h2
    · subst h1 h2
      simp [seenP, tf]
    · subst h1
      simpa [seenP] using ih
    · subst h1
      simp only at h3
      rw [seenP_cons]
      simp [tf, h3]
theorem all_split {P : Nat → Prop} : (∀ i, P i) ↔ P 0 ∧ ∀ i, P (i + 1) := ⟨fun h => ⟨h 0, fun i => h (i + 1)⟩, fun h i => by cases i; exact h.1; exact h.2 _⟩
theorem whole_iff : ∀ (ps : List (Nat × Nat)) (st : Bool) (out : Nat → Bool), (∀ q ∈ ps, SignOk q) → (∀ i, out i = true → (ps.map (·.2)).getD i 0 = 117) →
    ((tf st (keepP out (ps.map (·.1)))).filter (fun c => !inB1 c) = tf st (seenP ps) ↔ ∀ i, nd st (ps.map (·.2)) i = true → out i = true)
  | [], st, out, _, _ => by cases st <;> simp [keepP, tf, seenP, nd]
  | (t, k) :: r, st, out, h, ho => by
    have hr : ∀ q ∈ r, SignOk q := fun x hx => h x (List.mem_cons_of_mem _ hx)
    have ho' : ∀ i, out (i + 1) = true → (r.map (·.2)).getD i 0 = 117 := fun i hi => by simpa using ho (i + 1) hi
    have kinds : ∀ k ∈ r.map (·.2), k = 109 ∨ k = 117 ∨ k = 115 := fun k hk => by
      obtain ⟨q, hq, rfl⟩ := List.mem_map.mp hk
      rcases hr q hq with ⟨e, _⟩ | ⟨e, _⟩ | ⟨e, _⟩ <;> simp [e]
    have IH := fun st => whole_iff r st (fun i => out (i + 1)) hr ho'
    rw [all_split]
    rcases h _ List.mem_cons_self with ⟨h1, h2⟩ | ⟨h1, h2, h3⟩ | ⟨h1, h2, h3⟩ <;> simp only at h1 h2
    · subst h1 h2
      have o0 : out 0 = false := by
        cases e : out 0 with
        | false => rfl
        | true => have := ho 0 e; simp at this
      have b1 : inB1 34 = false := by decide
      cases st with
      | false =>
        have := IH true
        simp only [List.map_cons, keepP, o0, seenP, tf, nd] at this ⊢
        simpa [tf, nd, seenP] using this
      | true =>
        have := IH false
        simp only [List.map_cons, keepP, o0, seenP, tf, nd] at this ⊢
        simpa [tf, nd, seenP, b1] using this
    · subst h1
      simp only at h3
      have hs : seenP ((t, 117) :: r) = seenP r := by rw [seenP_cons]; rfl
      rw [hs]
      cases o0 : out 0 with
      | true =>
        have := IH st
        simp only [List.map_cons, keepP, o0, if_true, nd] at this ⊢
        simpa [nd] using this
      | false =>
        cases st with
        | false =>
          have := IH false
          simp only [List.map_cons, keepP, o0, nd] at this ⊢
          simpa [tf, nd, h2, h3] using this
        | true =>
          have z := tf_seen r hr
          simp only [List.map_cons, keepP, o0, nd]
          have e : ∀ x, tf true (t :: x) = [] := fun x => by simp [tf, h3]
          simp only [Bool.false_eq_true, if_false, e, List.filter_nil]
          by_cases hq : ((r.map (·.2)).filter (· != 117)).take 1 = [109]
          · have : ¬ tf true (seenP r) = [] := fun w => z.mp w hq
            rw [hq]
            simp only [beq_self_eq_true, Bool.and_true]
            constructor
            · intro w; exact absurd w.symm this
            · rintro ⟨w, _⟩; simp at w
          · have z' := z.mpr hq
            have n := nd_off _ kinds hq
            rw [z']
            simp [n, hq]
    · subst h1
      simp only at h3
      have o0 : out 0 = false := by
        cases e : out 0 with
        | false => rfl
        | true => have := ho 0 e; simp at this
      have hs : seenP ((t, 115) :: r) = t :: seenP r := by rw [seenP_cons]; rfl
      rw [hs]
      cases st with
      | false =>
        have := IH false
        simp only [List.map_cons, keepP, o0, nd] at this ⊢
        simpa [tf, nd, h2, h3] using this
      | true =>
        simp only [List.map_cons, keepP, o0, nd]
        simp [tf, h3]
end Mine
end
section
open PySem PySem.W PyProof.Rows PySem.Calls
namespace Mine
theorem splitL_same (c : Nat) (l : List Nat) : splitL c (c :: l) = [] :: splitL c l := by
  show (if c = c then _ else _) = _
  rw [if_pos rfl]
theorem splitL_other {c x : Nat} (h : x ≠ c) (l : List Nat) : ∃ p ps, splitL c l = p :: ps ∧ splitL c (x :: l) = (x :: p) :: ps := by
  cases e : splitL c l with
  | nil => exact absurd e (splitL_ne c l)
  | cons p ps =>
    refine ⟨p, ps, rfl, ?_⟩
    show (if x = c then _ else match splitL c l with | [] => [[x]] | p :: ps => (x :: p) :: ps) = _
    rw [if_neg h, e]
theorem getD_cons (k : Nat) (r : List Nat) (i : Nat) : (k :: r).getD (i + 1) 0 = r.getD i 0 := rfl
theorem odds_ne (ks : List Nat) (i : Nat) : odds ks i ≠ [] := by
  unfold odds
  intro h
  exact splitL_ne 115 (ks.take i) (List.map_eq_nil_iff.mp h)
theorem needed_of {k : Nat} {r r' : List Nat} {i j : Nat} (h1 : (k :: r).drop (i + 1) = r'.drop j) (h2 : (k :: r).getD (i + 1) 0 = r'.getD j 0)
    (h3 : (odds (k :: r) (i + 1)).getLastD 0 = (odds r' j).getLastD 0) (h4 : (odds (k :: r) (i + 1)).dropLast.contains 1 = (odds r' j).dropLast.contains 1) : isNeeded (k :: r) (i + 1) = isNeeded r' j := by
  unfold isNeeded
  rw [h1, h2, h3, h4]
theorem need_u (r : List Nat) (i : Nat) : isNeeded (117 :: r) (i + 1) = isNeeded r i := by
  have e : odds (117 :: r) (i + 1) = odds r i := by
    unfold odds
    rw [List.take_succ_cons]
    obtain ⟨p, ps, e1, e2⟩ := splitL_other (c := 115) (x := 117) (by decide) (r.take i)
    rw [e2, e1]
    simp
  exact needed_of rfl rfl (by rw [e]) (by rw [e])
theorem need_s (r : List Nat) (i : Nat) : isNeeded (115 :: r) (i + 1) = isNeeded r i := by
  have e : odds (115 :: r) (i + 1) = 0 :: odds r i := by
    unfold odds
    rw [List.take_succ_cons, splitL_same]
    rfl
  have hn := odds_ne r i
  refine needed_of rfl rfl ?_ ?_
  · rw [e]
    cases h : odds r i with
    | nil => exact absurd h hn
    | cons a l => rfl
  · rw [e]
    cases h : odds r i with
    | nil => exact absurd h hn
    | cons a l => rfl
theorem need_mm (r : List Nat) (i : Nat) : isNeeded (109 :: 109 :: r) (i + 1 + 1) = isNeeded r i := by
  have e : odds (109 :: 109 :: r) (i + 1 + 1) = odds r i := by
    unfold odds
    rw [List.take_succ_cons, List.take_succ_cons]
    obtain ⟨p, ps, e1, e2⟩ := splitL_other (c := 115) (x := 109) (by decide) (r.take i)
    obtain ⟨p', ps', e3, e4⟩ := splitL_other (c := 115) (x := 109) (by decide) (109 :: r.take i)
    rw [e2] at e3
    cases e3
    rw [e4, e1]
    simp [List.count_cons]
    omega
  exact needed_of rfl rfl (by rw [e]) (by rw [e])
theorem need_mu (r : List Nat) (i : Nat) : isNeeded (109 :: 117 :: r) (i + 1 + 1) = isNeeded (109 :: r) (i + 1) := by
  have e : odds (109 :: 117 :: r) (i + 1 + 1) = odds (109 :: r) (i + 1) := by
    unfold odds
    rw [List.take_succ_cons, List.take_succ_cons, List.take_succ_cons]
    obtain ⟨p, ps, e1, e2⟩ := splitL_other (c := 115) (x := 117) (by decide) (r.take i)
    obtain ⟨p', ps', e3, e4⟩ := splitL_other (c := 115) (x := 109) (by decide) (117 :: r.take i)
    obtain ⟨p'', ps'', e5, e6⟩ := splitL_other (c := 115) (x := 109) (by decide) (r.take i)
    rw [e2] at e3
    cases e3
    rw [e1] at e5
    cases e5
    rw [e4, e6]
    simp [List.count_cons]
  exact needed_of rfl rfl (by rw [e]) (by rw [e])
theorem need_ms (r : List Nat) (i : Nat) : isNeeded (109 :: 115 :: r) (i + 1 + 1) = false := by
  have e : odds (109 :: 115 :: r) (i + 1 + 1) = 1 :: odds r i := by
    unfold odds
    rw [List.take_succ_cons, List.take_succ_cons]
    obtain ⟨p', ps', e3, e4⟩ := splitL_other (c := 115) (x := 109) (by decide) (115 :: r.take i)
    rw [splitL_same] at e3
    cases e3
    rw [e4]
    rfl
  have hn := odds_ne r i
  unfold isNeeded
  rw [e]
  cases h : odds r i with
  | nil => exact absurd h hn
  | cons a l => simp
theorem need_0 (k : Nat) (r : List Nat) : isNeeded (k :: r) 0 = false := by
  unfold isNeeded
  have : (odds (k :: r) 0).getLastD 0 = 0 := rfl
  rw [this]
  simp
theorem need_m0 (k : Nat) (r : List Nat) : isNeeded (109 :: k :: r) (0 + 1) = nd true (k :: r) 0 := by
  unfold isNeeded
  have : odds (109 :: k :: r) (0 + 1) = [1] := rfl
  rw [this]
  show ((k == 117) && true && true && (((k :: r).filter (· != 117)).take 1 == [109])) = _
  by_cases h : k = 117
  · subst h
    simp [nd]
  · have : (k == 117) = false := by simpa using h
    simp [nd, this]
theorem need_nil (i : Nat) : isNeeded [] i = false := by
  unfold isNeeded
  simp
theorem need_m_nil (i : Nat) : isNeeded [109] (i + 1) = false := by
  unfold isNeeded
  rw [getD_cons]
  simp
theorem need_nd : ∀ (ks : List Nat), (∀ k ∈ ks, k = 109 ∨ k = 117 ∨ k = 115) → (∀ i, isNeeded ks i = nd false ks i) ∧ ∀ i, isNeeded (109 :: ks) (i + 1) = nd true ks i
  | [], _ => ⟨fun i => (need_nil i).trans rfl, fun i => (need_m_nil i).trans rfl⟩
  | k :: r, h => by
    obtain ⟨P, Q⟩ := need_nd r fun x hx => h x (List.mem_cons_of_mem _ hx)
    refine ⟨fun i => ?_, fun i => ?_⟩
    · cases i with
      | zero => rw [need_0]; rfl
      | succ i =>
        rcases h k List.mem_cons_self with rfl | rfl | rfl
        · exact Q i
        · rw [need_u, P]; rfl
        · rw [need_s, P]; simp [nd]
    · cases i with
      | zero => exact need_m0 k r
      | succ i =>
        rcases h k List.mem_cons_self with rfl | rfl | rfl
        · rw [need_mm, P]; rfl
        · rw [need_mu, Q]; rfl
        · rw [need_ms]; simp [nd]

/-- told whole just if all that has to go is out -/
theorem told_whole (ps : List (Nat × Nat)) (hs : ∀ q ∈ ps, SignOk q) (os : List Nat) (ho : ∀ o ∈ os, (ps.map (·.2)).getD o 0 = 117) :
    toldOf (ps.map (·.1)) os = told (seenP ps) ↔ ∀ i, isNeeded (ps.map (·.2)) i = true → i ∈ os := by
  have kinds : ∀ k ∈ ps.map (·.2), k = 109 ∨ k = 117 ∨ k = 115 := fun k hk => by
    obtain ⟨q, hq, rfl⟩ := List.mem_map.mp hk
    rcases hs q hq with ⟨e, _⟩ | ⟨e, _⟩ | ⟨e, _⟩ <;> simp [e]
  have := whole_iff ps false (fun i => os.contains i) hs fun i hi => ho i (by simpa using hi)
  unfold toldOf
  rw [told_tf, told_tf, keep_eq]
  refine this.trans (forall_congr' fun i => ?_)
  rw [(need_nd _ kinds).1]
  simp

/-! halving -/
theorem bisGo_spec {up : Nat → Bool} {p : Nat} : ∀ (k lo hi : Nat), hi - lo ≤ k → lo ≤ p → p ≤ hi → (∀ i, lo ≤ i → i < hi → up i = decide (i < p)) → bisGo up k lo hi = p
  | 0, lo, hi, h1, h2, h3, _ => by
    show lo = p
    omega
  | k + 1, lo, hi, h1, h2, h3, h => by
    by_cases hl : lo < hi
    · have hm := h ((lo + hi) / 2) (by omega) (by omega)
      by_cases hp : (lo + hi) / 2 < p
      · rw [bisGo_up hl (by rw [hm]; simpa using hp)]
        exact bisGo_spec k _ _ (by omega) (by omega) h3 fun i a b => h i (by omega) b
      · rw [bisGo_dn hl (by rw [hm]; simpa using hp)]
        exact bisGo_spec k _ _ (by omega) h2 (by omega) fun i a b => h i a (by omega)
    · rw [bisGo_end hl]; omega
theorem cnts_get {m i : Nat} (h : i < m - 1) : (cnts m).getD i 0 = i + 1 := by simp [cnts, List.getD, h]

section
variable {ts fl : List Nat} {N H : Nat → Bool}
theorem last_needed {rs : List Nat} : (∃ i ∈ rs, N i = true) → ∃ pre p post, rs = pre ++ p :: post ∧ N p = true ∧ ∀ j ∈ post, N j = false := by
  induction rs with
  | nil => rintro ⟨i, hi, _⟩; cases hi
  | cons x r ih =>
    rintro ⟨i, hi, hN⟩
    by_cases h : ∃ i ∈ r, N i = true
    · obtain ⟨pre, p, post, e, a, b⟩ := ih h
      exact ⟨x :: pre, p, post, by rw [e]; rfl, a, b⟩
    · rcases List.mem_cons.mp hi with rfl | hi
      · refine ⟨[], i, r, rfl, hN, fun j hj => ?_⟩
        cases e : N j with
        | false => rfl
        | true => exact absurd ⟨j, hj, e⟩ h
      · exact absurd ⟨i, hi, hN⟩ h
theorem found_run (W : ∀ os : List Nat, (∀ o ∈ os, H o = true) → (toldOf ts os = fl ↔ ∀ i, N i = true → i ∈ os)) : ∀ (k : Nat) (rs fs : List Nat), rs.length ≤ k → rs.Nodup → (∀ i ∈ rs, H i = true) → (∀ i ∈ fs, H i = true) → (∀ i ∈ rs, i ∉ fs) →
    (∀ i, N i = true → i ∈ fs ∨ i ∈ rs) → FoundRun ts fl fs rs (fs ++ rs.reverse.filter N) := by
  intro k
  induction k with
  | zero =>
    intro rs fs hk hnd hr hf hd hN
    obtain rfl := List.length_eq_zero_iff.mp (Nat.le_zero.mp hk)
    have : FoundRun ts fl fs [] fs := .stop ((W fs hf).mpr fun i hi => (hN i hi).elim id fun q => by cases q)
    simpa using this
  | succ k ih =>
    intro rs fs hk hnd hr hf hd hN
    by_cases hall : ∀ i ∈ rs, N i = false
    · have e : rs.reverse.filter N = [] := by
        rw [List.filter_eq_nil_iff]
        intro i hi
        rw [hall i (List.mem_reverse.mp hi)]; decide
      rw [e, List.append_nil]
      refine .stop ((W fs hf).mpr fun i hi => (hN i hi).elim id fun q => ?_)
      rw [hall i q] at hi; cases hi
    · have hex : ∃ i ∈ rs, N i = true := by
        refine Classical.byContradiction fun hc => hall fun i hi => ?_
        cases e : N i with
        | false => rfl
        | true => exact absurd ⟨i, hi, e⟩ hc
      obtain ⟨pre, p, post, rfl, hp, hpost⟩ := last_needed hex
      have hpf : p ∉ fs := hd p (by simp)
      have hpp : p ∉ pre := by
        have := List.nodup_append.mp hnd
        exact fun q => this.2.2 p q p (by simp) rfl
      have hH : ∀ c, ∀ o ∈ fs ++ (pre ++ p :: post).take c, H o = true := fun c o ho => by
        rcases List.mem_append.mp ho with q | q
        · exact hf o q
        · exact hr o (List.mem_of_mem_take q)
      have hpl : placeOf ts fs (pre ++ p :: post) fl = pre.length := by
        unfold placeOf
        refine bisGo_spec _ _ _ (by omega) (Nat.zero_le _) (by rw [cnts_len]; simp) fun i _ hi => ?_
        rw [cnts_len] at hi
        rw [cnts_get hi]
        by_cases q : i < pre.length
        · have : ¬ toldOf ts (fs ++ (pre ++ p :: post).take (i + 1)) = fl := fun w => by
            have := (W _ (hH _)).mp w p hp
            rcases List.mem_append.mp this with z | z
            · exact hpf z
            · rw [List.take_append_of_le_length (by omega)] at z
              exact hpp (List.mem_of_mem_take z)
          simp [this, q]
        · have : toldOf ts (fs ++ (pre ++ p :: post).take (i + 1)) = fl := (W _ (hH _)).mpr fun j hj => by
            rcases hN j hj with z | z
            · exact List.mem_append_left _ z
            · refine List.mem_append_right _ ?_
              rw [show pre ++ p :: post = (pre ++ [p]) ++ post by simp, List.take_append, List.take_of_length_le (show (pre ++ [p]).length ≤ i + 1 by simp; omega)]
              refine List.mem_append_left _ ?_
              rcases List.mem_append.mp z with z | z
              · exact List.mem_append_left _ z
              · rcases List.mem_cons.mp z with rfl | z
                · simp
                · rw [hpost j z] at hj; cases hj
          simp [this, q]
      have hnw : toldOf ts fs ≠ fl := fun w => hpf ((W fs hf).mp w p hp)
      have eN : (pre ++ p :: post).reverse.filter N = p :: pre.reverse.filter N := by
        have : post.reverse.filter N = [] := by
          rw [List.filter_eq_nil_iff]
          intro i hi
          rw [hpost i (List.mem_reverse.mp hi)]; decide
        simp [List.reverse_append, List.filter_append, this, hp]
      have nd := List.nodup_append.mp hnd
      have := ih pre (fs ++ [p]) (by simp at hk; omega) nd.1 (fun i hi => hr i (List.mem_append_left _ hi)) (fun i hi => by
          rcases List.mem_append.mp hi with q | q
          · exact hf i q
          · rw [List.mem_singleton.mp q]; exact hr p (by simp)) (fun i hi q => by
          rcases List.mem_append.mp q with q | q
          · exact hd i (List.mem_append_left _ hi) q
          · rw [List.mem_singleton.mp q] at hi; exact hpp hi) (fun i hi => by
          rcases hN i hi with z | z
          · exact .inl (List.mem_append_left _ z)
          · rcases List.mem_append.mp z with z | z
            · exact .inr z
            · rcases List.mem_cons.mp z with rfl | z
              · exact .inl (by simp)
              · rw [hpost i z] at hi; cases hi)
      rw [eN]
      refine .step hnw (by rw [hpl]; simp) ?_
      rw [hpl]
      have e1 : (pre ++ p :: post).getD pre.length 0 = p := by simp [List.getD]
      have e2 : (pre ++ p :: post).take pre.length = pre := by simp
      rw [e1, e2]
      simpa using this
end
end Mine
end
section
open PySem PySem.W PyProof.Rows PySem.Calls
namespace Mine
theorem getD_mem {l : List Nat} {i : Nat} (h : i < l.length) : l.getD i 0 ∈ l := by
  simp [List.getD, List.getElem?_eq_getElem h]
theorem signOk (c : Int) : SignOk (signOf c) := by
  unfold signOf
  have h27 := fmod5 (Int.fdiv c 5) (m := 27) (by decide)
  have h17 := fmod5 (Int.fdiv c 5) (m := 17) (by decide)
  split
  · exact .inl ⟨rfl, rfl⟩
  · split
    · refine .inr (.inl ⟨rfl, ?_⟩)
      have hm := getD_mem (l := unseenL) (i := (Int.fmod (Int.fdiv c 5) 27).toNat) (by show _ < 27; omega)
      exact (by decide : ∀ t ∈ unseenL, inB1 t = true ∧ t ≠ 34) _ hm
    · refine .inr (.inr ⟨rfl, ?_⟩)
      have hm := getD_mem (l := 102 :: besideL) (i := (Int.fmod (Int.fdiv c 5) 17).toNat) (by show _ < 17; omega)
      exact (by decide : ∀ t ∈ (102 :: besideL), inB1 t = false ∧ t ≠ 34) _ hm

/-! what is told, its marks doubled, is a beginning -/
theorem begins_ex : ∀ (l : List Nat), (∃ rest, l = StrLaws.dbl 34 (tf false l) ++ rest ∧ (rest = [] ∨ ∃ r, rest = 34 :: r ∧ r.take 1 ≠ [34])) ∧ ∃ rest, 34 :: l = StrLaws.dbl 34 (tf true l) ++ rest ∧ (rest = [] ∨ ∃ r, rest = 34 :: r ∧ r.take 1 ≠ [34])
  | [] => ⟨⟨[], rfl, .inl rfl⟩, ⟨[34], rfl, .inr ⟨[], rfl, by decide⟩⟩⟩
  | c :: r => by
    obtain ⟨P, Q⟩ := begins_ex r
    refine ⟨?_, ?_⟩
    · show ∃ rest, c :: r = StrLaws.dbl 34 (if c = 34 then tf true r else c :: tf false r) ++ rest ∧ _
      by_cases h : c = 34
      · rw [if_pos h, h]; exact Q
      · rw [if_neg h]
        obtain ⟨rest, e, z⟩ := P
        refine ⟨rest, ?_, z⟩
        show c :: r = (if c = 34 then _ else c :: StrLaws.dbl 34 (tf false r)) ++ rest
        rw [if_neg h, List.cons_append, ← e]
    · show ∃ rest, 34 :: c :: r = StrLaws.dbl 34 (if c = 34 then 34 :: tf false r else []) ++ rest ∧ _
      by_cases h : c = 34
      · rw [if_pos h]
        obtain ⟨rest, e, z⟩ := P
        refine ⟨rest, ?_, z⟩
        show 34 :: c :: r = (if (34 : Nat) = 34 then 34 :: 34 :: StrLaws.dbl 34 (tf false r) else _) ++ rest
        rw [if_pos rfl, List.cons_append, List.cons_append, ← e, h]
      · rw [if_neg h]
        refine ⟨34 :: c :: r, rfl, .inr ⟨c :: r, rfl, ?_⟩⟩
        show [c] ≠ [34]
        simpa using h
theorem begins_ok (l : List Nat) : beginsOk l (told l) := by
  obtain ⟨rest, e, z⟩ := (begins_ex l).1
  rw [← told_tf] at e
  generalize hdd : StrLaws.dbl 34 (told l) = d at e
  have h1 : l.take d.length = d := by rw [e]; simp
  have h2 : l.drop d.length = rest := by rw [e]; simp
  unfold beginsOk
  have main : ∀ d', d' = d → l.take d'.length = d' ∧ ((l.drop d'.length).take 1 = [] ∨ (l.drop d'.length).take 1 = [34]) ∧ (l.drop d'.length).take 2 ≠ [34, 34] := fun d' hd => by
    rw [hd, h1, h2]
    refine ⟨rfl, ?_⟩
    rcases z with rfl | ⟨r, rfl, hr⟩
    · exact ⟨.inl rfl, by decide⟩
    · refine ⟨.inr rfl, fun q => hr ?_⟩
      cases r with
      | nil => cases q
      | cons x r =>
        have : [34, x] = [34, 34] := q
        show [x] = [34]
        simpa using this
  exact main _ hdd
end Mine
end
section
open PySem PySem.W PyProof.Rows PySem.Calls
namespace Mine
theorem zip_maps {α β γ : Type} (f : α → β) (g : α → γ) : ∀ l : List α, (l.map f).zip (l.map g) = l.map fun x => (f x, g x)
  | [] => rfl
  | x :: l => by rw [List.map_cons, List.map_cons, List.map_cons, List.zip_cons_cons, zip_maps f g l]
section
variable (cs : List Int)
theorem ts_eq : tsOf cs = (cs.map signOf).map (·.1) := by rw [List.map_map]; rfl
theorem ks_eq : ksOf cs = (cs.map signOf).map (·.2) := by rw [List.map_map]; rfl
theorem zip_eq : (tsOf cs).zip (ksOf cs) = cs.map signOf := by
  unfold tsOf ksOf
  rw [zip_maps]
theorem seen_eq : seenOf (tsOf cs) (ksOf cs) = seenP (cs.map signOf) := by
  unfold seenOf seenP
  rw [zip_eq]
theorem cs_ok : ∀ q ∈ cs.map signOf, SignOk q := fun q hq => by
  obtain ⟨c, _, rfl⟩ := List.mem_map.mp hq
  exact signOk c
theorem ks_small : (ksOf cs).all (· < 128) = true := by
  rw [List.all_eq_true, ks_eq]
  intro k hk
  obtain ⟨q, hq, rfl⟩ := List.mem_map.mp hk
  rcases cs_ok cs q hq with ⟨e, _⟩ | ⟨e, _⟩ | ⟨e, _⟩ <;> rw [e] <;> decide
theorem F1 : ∀ q ∈ (tsOf cs).zip (ksOf cs), inB1 q.1 = (q.2 == 117) := fun q hq => by
  rw [zip_eq] at hq
  rcases cs_ok cs q hq with ⟨e, e'⟩ | ⟨e, e', _⟩ | ⟨e, e', _⟩ <;> rw [e, e'] <;> decide
theorem whole (os : List Nat) (ho : ∀ o ∈ os, (ksOf cs).getD o 0 = 117) : toldOf (tsOf cs) os = told (seenOf (tsOf cs) (ksOf cs)) ↔ ∀ i, isNeeded (ksOf cs) i = true → i ∈ os := by
  rw [seen_eq, ts_eq, ks_eq] at *
  exact told_whole _ (cs_ok cs) os ho
theorem need_kind {ks : List Nat} {i : Nat} (h : isNeeded ks i = true) : ks.getD i 0 = 117 ∧ i < ks.length := by
  unfold isNeeded at h
  simp only [Bool.and_eq_true, beq_iff_eq] at h
  have h1 := h.1.1.1
  refine ⟨h1, ?_⟩
  by_cases q : i < ks.length
  · exact q
  · simp [List.getD, List.getElem?_eq_none (Nat.le_of_not_lt q)] at h1
theorem need_in {ks : List Nat} {i : Nat} : i ∈ neededOf ks ↔ isNeeded ks i = true := by
  unfold neededOf
  rw [List.mem_filter, List.mem_range]
  exact ⟨fun h => h.2, fun h => ⟨(need_kind h).2, h⟩⟩
theorem hid_in {ks : List Nat} (hk : ks.length = 9) {i : Nat} : i ∈ hiddenOf ks ↔ ks.getD i 0 = 117 := by
  unfold hiddenOf
  rw [List.mem_filter, List.mem_range, beq_iff_eq]
  refine ⟨fun h => h.2, fun h => ⟨?_, h⟩⟩
  by_cases q : i < ks.length
  · omega
  · simp [List.getD, List.getElem?_eq_none (Nat.le_of_not_lt q)] at h
theorem hid_nodup (ks : List Nat) : (hiddenOf ks).Nodup := List.Pairwise.filter _ List.nodup_range
theorem row_perm (ns : List Int) (ks : List Nat) : (rowOf ns ks).Perm (hiddenOf ks) := by
  unfold rowOf
  refine List.perm_append_comm.trans ?_
  rw [List.take_append_drop]
section
variable (hk : (ksOf cs).length = 9)
include hk
theorem F3 : ∀ p ∈ hiddenOf (ksOf cs), (toldOf (tsOf cs) ((hiddenOf (ksOf cs)).filter fun i => i != p) == told (seenOf (tsOf cs) (ksOf cs))) = !(neededOf (ksOf cs)).contains p := fun p hp => by
  have W := whole cs ((hiddenOf (ksOf cs)).filter fun i => i != p) fun o ho => (hid_in hk).mp (List.mem_filter.mp ho).1
  rw [Bool.eq_iff_iff, beq_iff_eq, W, Bool.not_eq_true', List.contains_eq_mem, decide_eq_false_iff_not, need_in]
  refine ⟨fun h q => ?_, fun h i hi => List.mem_filter.mpr ⟨(hid_in hk).mpr (need_kind hi).1, ?_⟩⟩
  · have := (List.mem_filter.mp (h p q)).2
    simp at this
  · simp only [bne_iff_ne, ne_eq]
    rintro rfl
    exact h hi
theorem found_of (rs : List Nat) (hn : rs.Nodup) (hm : ∀ i, i ∈ rs ↔ i ∈ hiddenOf (ksOf cs)) : FoundRun (tsOf cs) (told (seenOf (tsOf cs) (ksOf cs))) [] rs (rs.reverse.filter fun i => (neededOf (ksOf cs)).contains i) := by
  have := found_run (ts := tsOf cs) (fl := told (seenOf (tsOf cs) (ksOf cs))) (N := isNeeded (ksOf cs)) (H := fun i => (ksOf cs).getD i 0 == 117) (fun os ho => whole cs os fun o h => by simpa using ho o h) rs.length rs [] (Nat.le_refl _) hn
    (fun i hi => by simpa using (hid_in hk).mp ((hm i).mp hi)) (fun i hi => by cases hi) (fun i _ hi => by cases hi) fun i hi => .inr ((hm i).mpr ((hid_in hk).mpr (need_kind hi).1))
  rw [List.nil_append] at this
  have e : (fun i => (neededOf (ksOf cs)).contains i) = isNeeded (ksOf cs) := by
    funext i
    rw [Bool.eq_iff_iff, List.contains_eq_mem, decide_eq_true_iff, need_in]
  rw [e]
  exact this
theorem F4 (ns : List Int) : FoundRun (tsOf cs) (told (seenOf (tsOf cs) (ksOf cs))) [] (rowOf ns (ksOf cs)) ((rowOf ns (ksOf cs)).reverse.filter fun i => (neededOf (ksOf cs)).contains i) :=
  found_of cs hk _ ((row_perm ns _).nodup_iff.mpr (hid_nodup _)) fun i => (row_perm ns _).mem_iff
theorem F5 (ns : List Int) : FoundRun (tsOf cs) (told (seenOf (tsOf cs) (ksOf cs))) [] (rowOf ns (ksOf cs)).reverse ((rowOf ns (ksOf cs)).filter fun i => (neededOf (ksOf cs)).contains i) := by
  have := found_of cs hk (rowOf ns (ksOf cs)).reverse ((List.reverse_perm _).nodup_iff.mpr ((row_perm ns _).nodup_iff.mpr (hid_nodup _))) fun i => by rw [List.mem_reverse]; exact (row_perm ns _).mem_iff
  rwa [List.reverse_reverse] at this
end
end

/-! the spoiled reply -/
theorem way_lt (ns : List Int) : wayOf ns < 8 := by
  have := fmod5 (Int.fdiv ns.sum 28) (m := 8) (by decide)
  unfold wayOf
  omega
theorem laid_in (ns : List Int) : laidOf ns ∈ unseenL ++ [57] := by
  have := fmod5 ns.sum (m := 28) (by decide)
  exact getD_mem (l := unseenL ++ [57]) (by show _ < 28; omega)
theorem laid_ne (ns : List Int) : laidOf ns ≠ 50 ∧ laidOf ns ≠ 53 ∧ laidOf ns ≠ 55 ∧ laidOf ns ≠ 32 ∧ laidOf ns ≠ 34 :=
  (by decide : ∀ t ∈ unseenL ++ [57], t ≠ 50 ∧ t ≠ 53 ∧ t ≠ 55 ∧ t ≠ 32 ∧ t ≠ 34) _ (laid_in ns)
theorem spoiled_bad (ns : List Int) (ts : List Nat) (h : wayOf ns % 5 < 3) : (spoiledOf ns ts).take 3 ≠ [50, 53, 55] := by
  obtain ⟨h1, h2, h3, h4, h5⟩ := laid_ne ns
  have hw := way_lt ns
  unfold spoiledOf
  generalize laidOf ns = x at *
  generalize wayOf ns = w at *
  have : w = 0 ∨ w = 1 ∨ w = 2 ∨ w = 5 ∨ w = 6 ∨ w = 7 := by omega
  rcases this with rfl | rfl | rfl | rfl | rfl | rfl <;> simp [opening, h1, h2, h3]
theorem spoiled_good (ns : List Int) (ts : List Nat) (h : ¬ wayOf ns % 5 < 3) : (spoiledOf ns ts).take 3 = [50, 53, 55] ∧ tell (spoiledOf ns ts) = [] := by
  obtain ⟨h1, h2, h3, h4, h5⟩ := laid_ne ns
  have hw := way_lt ns
  unfold spoiledOf tell
  generalize laidOf ns = x at *
  generalize wayOf ns = w at *
  have : w = 3 ∨ w = 4 := by omega
  rcases this with rfl | rfl <;> simp [opening, h4, h5]
theorem spoiled_len (ns : List Int) (ts : List Nat) (h : ts.length ≤ 300) : (spoiledOf ns ts).length ≤ 500 := by
  have ho : opening.length = 5 := rfl
  unfold spoiledOf
  simp only [List.length_append, List.length_take, List.length_drop, List.length_cons, List.length_nil]
  omega
end Mine
end
section
open PySem PySem.W PyProof.Rows PySem.Calls
set_option maxRecDepth 100000
set_option maxHeartbeats 4000000
namespace Mine
/-- the context, tokens made -/
def Ctx.up (C : Ctx) : Ctx := { C with tk := 1 }
theorem Has.up {C : Ctx} (H : Has C) : Has C.up := ⟨H.f3, H.set, H.f9, H.f11, H.f12, H.f13, H.f14, H.f15, H.f16⟩
theorem HasL.up {C : Ctx} (H : HasL C) : HasL C.up := ⟨H.has.up, H.c15, H.hd15, H.bia, H.b5, H.b6⟩
theorem EnvX.up {C : Ctx} {hid W : Addr → Prop} {lo : Nat} {env : Env} {ρ : List (Str × D)} {s : Shared} (X : EnvX C hid W lo env ρ s) (ht : 1 ≤ s.toks) : EnvX C.up hid W lo env ρ s where
  e := ⟨X.e.kind, X.e.glob, X.e.bi, ht, X.e.md, X.e.tab, X.e.h106, X.e.hin, X.e.L106, X.e.opn, X.e.cc, X.e.loc, X.e.cel⟩
  h106 := X.h106
  hin := X.hin
  clo := X.clo
  plo := X.plo
  wlo := X.wlo
  wl := X.wl
  dis := X.dis
  wc := X.wc
  ac := X.ac
  own := X.own
section
variable {g b : Bool} {C : Ctx} {n : Nat} {sc : Scope} {ρ ρ₁ : List (Str × D)} {out : Out}
theorem Sm.then_ {st : Stmt} {rest : List Stmt} (h : Sm g b C n sc ρ st (.next ρ₁)) {A : Around} {env : Env} {hid W : Addr → Prop} {lo : Nat} {s : Shared} {E : Value → Shared → Prop} (hsc : env.scope = sc) (hA : Calm n A) (X : EnvX C hid W lo env ρ s)
    (k : ∀ W' s₁, EnvX C hid W' lo env ρ₁ s₁ → wpAny (model prog C.w) A (execs rest env) (PostX g b C hid W' lo env s₁ out) E s₁) : wpAny (model prog C.w) A (execs (st :: rest) env) (PostX g b C hid W lo env s out) E s := by
  refine wpAny_execs_cons (wpAny_mono (h.all A env hid W lo s E hsc hA X) ?_ fun _ _ e => e)
  rintro f s₁ ⟨K, rfl, W', w1, w2, X'⟩
  exact wpAny_mono (k W' s₁ X') (fun fl s₂ p => p.seq K X.e.tab w1 w2) fun _ _ e => e
/-- a local is bound: a token is made -/
theorem Sm.assignUp {x : Str} {p pos : Pos} {e : Expr} {d : D} {rest : List Stmt} (h : Ev C b n sc ρ e d) {A : Around} {env : Env} {hid W : Addr → Prop} {lo : Nat} {s : Shared} {E : Value → Shared → Prop} (hsc : env.scope = sc) (hA : Calm n A) (X : EnvX C hid W lo env ρ s)
    (k : ∀ s₁, 1 ≤ s₁.toks → EnvX C hid W lo env ((x, d) :: ρ) s₁ → wpAny (model prog C.w) A (execs rest env) (PostX g b C hid W lo env s₁ out) E s₁) (hd : d.isOwn = false := by rfl)
    (hx : sc.names.lookup x = some .local := by rfl) (hs : ∀ env : Env, env.scope = sc → swapsWith e (some (.Name x p)) pos.line env = pure false := by intro _ _; rfl) :
    wpAny (model prog C.w) A (execs (.Assign [.Name x p] e pos :: rest) env) (PostX g b C hid W lo env s out) E s := by
  refine wpAny_execs_cons (wpAny_Assign_Name (h.go hsc hA X.e fun v s₁ k₁ t X₁ r => ?_) (hs env hsc))
  have hx' : env.kindOf x = some .local := by show env.scope.names.lookup x = _; rw [hsc]; exact hx
  have X₁' := X.kp k₁.heap t
  obtain ⟨m, hm, _⟩ := X₁'.e.loc
  refine wpAny_storeName_local hx' hm (fun h' hn hsb => ?_) (by rw [X.e.kind]; rfl)
  have K : KpW b W s₁ { s₁ with heap := h', toks := s₁.toks + 1 } := kpw_one X₁'.wl hsb.extBut X₁'.e.L106 (ns_nofields hm)
  refine wpAny_mono (k _ (Nat.le_add_left 1 _) (X₁'.setLocal hm hn hsb hx' r hd (Nat.le_succ _))) (fun fl s₂ p => p.seq (K.kr k₁) X.e.tab (fun _ e => e) fun _ e => .inl e) fun _ _ e => e
end
theorem ret_up {g b : Bool} {C : Ctx} {hid W : Addr → Prop} {lo : Nat} {env : Env} {s s' : Shared} {d : D} {fl : Flow} (p : PostX g b C.up hid W lo env s (.ret d) fl s') : PostX g b C hid W lo env s (.ret d) fl s' := p

section
variable {g : Bool} {C : Ctx}
theorem law_body (H : HasL C) (HE : ∀ h, C.Md h → ErrCls h) {ns : List Int} (hz : ns.length ≤ 63) {A : Around} {env : Env} {hid W : Addr → Prop} {lo : Nat} {s : Shared} {E : Value → Shared → Prop} (hsc : env.scope = scp 17) (hA : Calm 6 A) (hfr : A.frames = some [env]) (hff : env.frame = some env.locals)
    (X : EnvX C hid W lo env [("script", .ints ns)] s) : wpAny (model prog C.w) A (execs (bd 17) env) (PostX g false C hid W lo env s (.ret (.bool true))) E s := by
  have hts : (tsOf (cellsOf ns)).length = 9 := by rw [ts_eq, List.length_map, List.length_map, cellsOf_len]
  have hks : (ksOf (cellsOf ns)).length = 9 := by rw [ks_eq, List.length_map, List.length_map, cellsOf_len]
  have ha := ks_small (cellsOf ns)
  have hl : (tsOf (cellsOf ns)).length = (ksOf (cellsOf ns)).length := by rw [hts, hks]
  have f1 := F1 (cellsOf ns)
  have f3 := F3 (cellsOf ns) hks
  have f4 := F4 (cellsOf ns) hks ns
  have f5 := F5 (cellsOf ns) hks ns
  have e : bd 17 = [nth (bd 17) 0, nth (bd 17) 1, nth (bd 17) 2, nth (bd 17) 3, nth (bd 17) 4, nth (bd 17) 5, nth (bd 17) 6, nth (bd 17) 7, nth (bd 17) 8, nth (bd 17) 9, nth (bd 17) 10, nth (bd 17) 11, nth (bd 17) 12, nth (bd 17) 13, nth (bd 17) 14, nth (bd 17) 15, nth (bd 17) 16, nth (bd 17) 17] := rfl
  have st1 : Sm g false C 6 (scp 17) [("cells", .ints (cellsOf ns)), ("script", .ints ns)] (nth (bd 17) 1) (.next (base1 ns (tsOf (cellsOf ns)) (ksOf (cellsOf ns)))) :=
    Sm.post (Sm.assignPair (Ev.weak (Ev.callF (Evs.cons (Ev.var rfl) Evs.nil) (fnText (n := 4) H.has (cs := cellsOf ns) (by rw [cellsOf_len]; decide)) (fun h m => (H.has.f12 h m).fn)))) (Sub.cons rfl (Sub.cons rfl (Sub.cons rfl Sub.nil)))
  generalize tsOf (cellsOf ns) = ts at *
  generalize ksOf (cellsOf ns) = ks at *
  have z300 : ts.length ≤ 300 := by omega
  rw [e]
  refine (law_cells ns hz).then_ hsc hA X fun W₁ s₁ X₁ => ?_
  refine st1.then_ hsc hA X₁ fun W₂ s₂ X₂ => ?_
  refine (law_signs (n := 5) H.has ha hl f1).then_ hsc hA X₂ fun W₃ s₃ X₃ => ?_
  refine (law_seen (n := 5) H.has ha hl z300).then_ hsc hA X₃ fun W₄ s₄ X₄ => ?_
  have hseen := seenOf_len ts ks
  refine Sm.assignUp (Ev.weak (Ev.reply (n := 5) H.has (Ev.var rfl) (by omega))) hsc hA X₄ fun s₅ t₅ X₅ => ?_
  have X₅ := X₅.up t₅
  have HU := H.up
  have hT : 1 ≤ C.up.tk := Nat.le_refl 1
  show wpAny (model prog C.up.w) A _ (PostX g false C.up hid W₄ lo env s₅ (.ret (.bool true))) E s₅
  refine (law_begins (n := 5) HU.has hT z300 ⟨begins_ok _, begins_ok _⟩).then_ hsc hA X₅ fun W₆ s₆ X₆ => ?_
  refine (law_needed (n := 5) HU.has hT hks).then_ hsc hA X₆ fun W₇ s₇ X₇ => ?_
  refine (law_hidden hks).then_ hsc hA X₇ fun W₈ s₈ X₈ => ?_
  refine law_turn.then_ hsc hA X₈ fun W₉ s₉ X₉ => ?_
  refine law_row.then_ hsc hA X₉ fun Wa sa Xa => ?_
  refine (law_keeps (n := 4) HU.has z300 f3).then_ hsc hA Xa fun Wb sb Xb => ?_
  refine (law_found1 (n := 0) HU z300 f4).then_ hsc hA Xb fun Wc s_c Xc => ?_
  refine (law_found2 (n := 0) HU z300 f5).then_ hsc hA Xc fun Wd sd Xd => ?_
  refine law_way.then_ hsc hA Xd fun We se Xe => ?_
  refine law_place.then_ hsc hA Xe fun Wf sf Xf => ?_
  refine (law_laid (n := 5) HU.has).then_ hsc hA Xf fun Wg sg Xg => ?_
  refine (law_spoiled z300).then_ hsc hA Xg fun Wh sh Xh => ?_
  have hsp := spoiled_len ns ts z300
  by_cases hp : wayOf ns % 5 < 3
  · refine wpAny_execs_cons (wpAny_mono (law_try_bad (g := g) (n := 4) HU.has HE (spoiled_bad ns ts hp) hsp hp rfl rfl hsc hA hfr hff Xh) ?_ fun _ _ e => e)
    rintro f s' ⟨K, v, rfl, r⟩
    exact ⟨K, v, rfl, r⟩
  · obtain ⟨h3, ht⟩ := spoiled_good ns ts hp
    exact (Ex.ret (law_try_good (n := 5) HU.has h3 ht hsp (by omega) rfl rfl)).all A env hid Wh lo sh E hsc hA Xh
end
end Mine
end
section
open PySem PySem.W PyProof.Rows PySem.Calls
set_option maxRecDepth 100000
namespace Mine
/-! what is seen of the heap behind the top -/
def codeName (h : Heap) (v : Value) : Option Str := match v with
  | .ref c => (match h.get? c with
    | some o => (match o.data with
      | .fields vs => (match (vs[1]? : Option Value) with
        | some (.str q _) => some q
        | _ => none)
      | _ => none)
    | none => none)
  | _ => none
structure FnSeen where
  params : Arguments
  body : FuncBody
  scope : Scope
  qual : Str
  globals : Addr
  builtins : Addr
  closure : List (Str × Addr)
  code : Option Str
def fnSeen (h : Heap) (a : Addr) : Option (FnSeen × Value × Value) := match h.get? a with
  | some o => (match o.data with
    | .func fd => some (⟨fd.params, fd.body, fd.scope, fd.qualname, fd.globals, fd.builtins, fd.closure, codeName h fd.code⟩, fd.defaults, fd.kwdefaults)
    | _ => none)
  | none => none
def fnGood (i : Nat) (q : Str) : FnSeen := ⟨prm i, .stmts (bd i), scp i, q, mainGlobals, builtinsNs, [], some q⟩
theorem codeRec_of {h : Heap} {v : Value} {q : Str} (e : codeName h v = some q) : h.CodeRec v q := by
  unfold codeName at e
  repeat' split at e
  all_goals first | (cases e; done) | skip
  rename_i c _ o ho _ vs hd _ _ t hv
  cases e
  exact ⟨c, o, vs, t, rfl, ho, hd, hv⟩
theorem fn_of {h : Heap} {a : Addr} {f : FnSeen} {dV kV : Value} (e : fnSeen h a = some (f, dV, kV)) : ∃ o fd, h.get? a = some o ∧ o.data = .func fd ∧ f = ⟨fd.params, fd.body, fd.scope, fd.qualname, fd.globals, fd.builtins, fd.closure, codeName h fd.code⟩ ∧ fd.defaults = dV ∧ fd.kwdefaults = kV := by
  unfold fnSeen at e
  split at e
  · rename_i o ho
    split at e
    · rename_i fd hd
      cases e
      exact ⟨o, fd, ho, hd, rfl, rfl, rfl⟩
    · cases e
  · cases e
theorem defAt_of {h : Heap} {a : Addr} {i : Nat} {q : Str} (e : fnSeen h a = some (fnGood i q, .none, .none)) : DefAt h a (prm i) (bd i) (scp i) q := by
  obtain ⟨o, fd, ho, hd, hf, h1, h2⟩ := fn_of e
  unfold fnGood at hf
  injection hf with e1 e2 e3 e4 e5 e6 e7 e8
  exact ⟨o, fd, ho, hd, e1.symm, e2.symm, e3.symm, e4.symm, e5.symm, e6.symm, e7.symm, codeRec_of e8.symm, h1, h2⟩
def dfltSeen (h : Heap) (v : Value) : Option Int := match v with
  | .ref T => (match h.get? T with
    | some o => (match o.data with
      | .seq xs _ => (match xs.toList with
        | [.int i _, .none] => some i
        | _ => none)
      | _ => none)
    | none => none)
  | _ => none
def bisSeen (h : Heap) (a : Addr) : Option (FnSeen × Option Int) := (fnSeen h a).map fun x => (x.1, dfltSeen h x.2.1)
theorem bisAt_of {h : Heap} {a : Addr} {i : Nat} {q : Str} (e : bisSeen h a = some (fnGood i q, some 0)) : BisAt h a i q := by
  obtain ⟨⟨f, dV, kV⟩, h1, h2⟩ := Option.map_eq_some_iff.mp e
  obtain ⟨e1, e2⟩ := Prod.mk.inj h2
  simp only at e1 e2
  subst e1
  obtain ⟨o, fd, ho, hd, hf, g1, g2⟩ := fn_of h1
  unfold fnGood at hf
  injection hf with e1 e2' e3 e4 e5 e6 e7 e8
  unfold dfltSeen at e2
  split at e2
  · rename_i T
    split at e2
    · rename_i oT hoT
      split at e2
      · rename_i xs m hxs
        split at e2
        · rename_i j t hx
          cases e2
          exact ⟨o, fd, T, oT, t, m, ho, hd, e1.symm, e2'.symm, e3.symm, e4.symm, e5.symm, e6.symm, e7.symm, codeRec_of (e4 ▸ e8.symm), g1, hoT, by rw [hxs, ← hx]⟩
        · cases e2
      · cases e2
    · cases e2
  · cases e2
def intOf (v : Value) : Option Int := match v with
  | .int i _ => some i
  | _ => none
def setSeen (h : Heap) (a : Addr) : Option (Value × Option Addr × Nat × List (Int × Option Int) × Bool) := match h.get? a with
  | some o => (match o.data with
    | .set es _ t => some (o.cls, o.dict, o.slots.size, es.toList.map (fun e => (e.1, intOf e.2)), t.fits es.size)
    | _ => none)
  | none => none
/-- the set, in its table's order -/
def setL : List Int := [65024, 65025, 65026, 65027, 65028, 65029, 6150, 65030, 65031, 65032, 65033, 6155, 6156, 6157, 8203, 8204, 8205, 65034, 65035, 65036, 65037, 65038, 65039, 173, 847, 8288, 65279]
def setGood : Option (Value × Option Addr × Nat × List (Int × Option Int) × Bool) := some (.type "set", none, 0, setL.map fun i => (i, some i), true)
def errSeen (h : Heap) (a : Addr) : Option (Value × List Value × Bool × Option Value × Bool × Option Value × Option Value) := match h.get? a with
  | some o => (match o.data with
    | .cls cd => (match o.slots.toList with
      | [_, _, _, _, k4, _] => some (o.cls, cd.mro, cd.hasDel, k4, h.isNs cd.ns, h.nsMap cd.ns "__init__", h.nsMap cd.ns "__str__")
      | _ => none)
    | _ => none)
  | none => none
def errGood : Option (Value × List Value × Bool × Option Value × Bool × Option Value × Option Value) := some (.type "type", [.ref 37, .ref 24, .type "Exception", .type "BaseException", .type "object"], false, some (.builtin "Exception.__new__"), true, none, none)
def baseSeen (h : Heap) (a : Addr) : Option (Bool × Option Value × Option Value) := match h.get? a with
  | some o => (match o.data with
    | .cls cd => some (h.isNs cd.ns, h.nsMap cd.ns "__init__", h.nsMap cd.ns "__str__")
    | _ => none)
  | none => none
theorem errCls_of {h : Heap} (e : errSeen h 37 = errGood) (e' : baseSeen h 24 = some (true, none, none)) : ErrCls h := by
  refine ⟨?_, ?_⟩
  · unfold errSeen errGood at e
    split at e
    · rename_i o ho
      split at e
      · rename_i cd hd
        split at e
        · rename_i k0 k1 k2 k3 k4 k5 hs
          obtain ⟨c, d, dt, sl⟩ := o
          simp only at hd hs
          subst hd
          injection e with e
          injection e with e1 e
          injection e with e2 e
          injection e with e3 e
          injection e with e4 e
          injection e with e5 e
          injection e with e6 e7
          have hsl : sl = #[k0, k1, k2, k3, k4, k5] := by rw [← hs]
          obtain ⟨nm, bs, mro, N, q, hdct, sn, sub, ab, col, hdel⟩ := cd
          simp only at e1 e2 e3 e4 e5 e6 e7
          subst e1 e2 e3 e4 hsl
          exact ⟨nm, q, N, bs, hdct, sn, sub, ab, col, d, k0, k1, k2, k3, k5, _, ho, .of_isNs e5, e6, e7⟩
        · cases e
      · cases e
    · cases e
  · unfold baseSeen at e'
    split at e'
    · rename_i o ho
      split at e'
      · rename_i cd hd
        injection e' with e'
        injection e' with e1 e'
        injection e' with e2 e3
        obtain ⟨c, d, dt, sl⟩ := o
        simp only at hd
        subst hd
        exact ⟨c, d, cd, sl, _, ho, .of_isNs e1, e2, e3⟩
      · cases e'
    · cases e'
def isStrV (v : Value) : Bool := match v with
  | .str _ _ => true
  | _ => false
def isIntV (v : Value) : Bool := match v with
  | .int _ _ => true
  | _ => false
def isBoolV (v : Value) : Bool := match v with
  | .bool _ => true
  | _ => false
def hdSeen (h : Heap) (c : Addr) : Option (Value × Option Value × Bool × Bool × Bool × Bool) := match h.get? c with
  | some o => (match o.data with
    | .fields vs => some (o.cls, vs[11]?, isStrV (vs.getD 18 .none), isIntV (vs.getD 7 .none), isBoolV (vs.getD 9 .none), isIntV (vs.getD 10 .none))
    | _ => none)
  | none => none
theorem codeHd_of {h : Heap} {c P : Addr} (e : hdSeen h c = some (.type "code", some (.ref P), true, true, true, true)) (hne : c ≠ P) : CodeHd h c P := by
  unfold hdSeen at e
  split at e
  · rename_i o ho
    split at e
    · rename_i vs hd
      injection e with e
      injection e with e1 e
      injection e with e2 e
      injection e with e3 e
      injection e with e4 e
      injection e with e5 e6
      have h3 : ∃ x t, vs.getD 18 .none = .str x t := by cases q : vs.getD 18 .none <;> rw [q] at e3 <;> first | exact ⟨_, _, rfl⟩ | cases e3
      have h4 : ∃ x t, vs.getD 7 .none = .int x t := by cases q : vs.getD 7 .none <;> rw [q] at e4 <;> first | exact ⟨_, _, rfl⟩ | cases e4
      have h5 : ∃ x, vs.getD 9 .none = .bool x := by cases q : vs.getD 9 .none <;> rw [q] at e5 <;> first | exact ⟨_, rfl⟩ | cases e5
      have h6 : ∃ x t, vs.getD 10 .none = .int x t := by cases q : vs.getD 10 .none <;> rw [q] at e6 <;> first | exact ⟨_, _, rfl⟩ | cases e6
      obtain ⟨f, tf, h3⟩ := h3
      obtain ⟨fl, tg, h4⟩ := h4
      obtain ⟨b, h5⟩ := h5
      obtain ⟨x, tt, h6⟩ := h6
      refine ⟨o, vs, f, tf, fl, tg, b, x, tt, ho, e1, hd, e2, ?_, h3, h4, h5, h6, hne⟩
      simp [Array.getD_eq_getD_getElem?, e2]
    · cases e
  · cases e
def bmSeen (h : Heap) (v : Option Value) : Option (Bool × Bool × Bool × Value × Option Addr × Bool) := match v with
  | some (.ref bm) => (match h.get? bm with
    | some o => some (bm == builtinsNs, bm == mainGlobals, bm == P0, o.cls, o.dict, match o.data with | .plain => true | _ => false)
    | none => none)
  | _ => none
theorem builtinsAt_of {h : Heap} {mg : Str → Option Value} (e : bmSeen h (mg "__builtins__") = some (false, false, false, .type "module", some builtinsNs, true)) : h.BuiltinsAt mg P0 := by
  unfold bmSeen at e
  split at e
  · rename_i bm hbm
    split at e
    · rename_i o ho
      injection e with e
      injection e with e1 e
      injection e with e2 e
      injection e with e3 e
      injection e with e4 e
      injection e with e5 e6
      have h6 : o.data = .plain := by cases q : o.data <;> rw [q] at e6 <;> first | rfl | cases e6
      exact ⟨bm, o, hbm, beq_eq_false_iff_ne.mp e1, beq_eq_false_iff_ne.mp e2, beq_eq_false_iff_ne.mp e3, ho, e4, e5, h6⟩
    · cases e
  · cases e

structure Obsv where
  size : Nat
  last : Bool
  tab : Option Obj
  glob : Bool
  refs : List (Option Value)
  bis : List (Option Value)
  bm : Option (Bool × Bool × Bool × Value × Option Addr × Bool)
  fns : List (Option (FnSeen × Value × Value))
  bs : List (Option (FnSeen × Option Int))
  set : Option (Value × Option Addr × Nat × List (Int × Option Int) × Bool)
  err : Option (Value × List Value × Bool × Option Value × Bool × Option Value × Option Value)
  base : Option (Bool × Option Value × Option Value)
  hd : Option (Value × Option Value × Bool × Bool × Bool × Bool)
  code : Option Value
def codeOf (h : Heap) (a : Addr) : Option Value := match h.get? a with
  | some o => (match o.data with
    | .func fd => some fd.code
    | _ => none)
  | none => none
def obsG (h g : Heap) : Obsv where
  size := h.objs.size
  last := (g.get? 123).isSome
  tab := h.get? P0
  glob := g.isNs mainGlobals
  refs := globTab.map fun p => g.nsMap mainGlobals p.1
  bis := biTab.map fun x => g.nsMap mainGlobals x
  bm := bmSeen g (g.nsMap mainGlobals "__builtins__")
  fns := [fnSeen g 46, fnSeen g 82, fnSeen g 87, fnSeen g 94, fnSeen g 99, fnSeen g 104, fnSeen g 111, fnSeen g 118]
  bs := [bisSeen g 55, bisSeen g 64]
  set := setSeen g 72
  err := errSeen g 37
  base := baseSeen g 24
  hd := hdSeen g 110
  code := codeOf g 111
def obsH (h : Heap) : Obsv := obsG h (h.hide P0)
def good : Obsv where
  size := 124
  last := true
  tab := some (tabObj #[])
  glob := true
  refs := globTab.map fun p => some (.ref p.2)
  bis := biTab.map fun _ => none
  bm := some (false, false, false, .type "module", some builtinsNs, true)
  fns := [some (fnGood 3 "parse257", .none, .none), some (fnGood 9 "in_table_b1", .none, .none), some (fnGood 11 "_law_signs", .none, .none), some (fnGood 12 "_law_text", .none, .none), some (fnGood 13 "_law_told", .none, .none), some (fnGood 14 "_law_needed", .none, .none), some (fnGood 15 "_law_place", .none, .none), some (fnGood 16 "_law_found", .none, .none)]
  bs := [some (fnGood 5 "bisect_right", some 0), some (fnGood 6 "bisect_left", some 0)]
  set := setGood
  err := errGood
  base := some (true, none, none)
  hd := some (.type "code", some (.ref P0), true, true, true, true)
  code := some (.ref 110)
end Mine
end
section
open PySem PySem.W PyProof.Rows PySem.Calls
set_option maxRecDepth 100000
set_option maxHeartbeats 2000000
namespace Mine
section
variable {h h' : Heap}
theorem DefAt.keeps {a : Addr} {p : Arguments} {b : List Stmt} {sc : Scope} {q : Str} (x : DefAt h a p b sc q) (k : ∀ b o, h.get? b = some o → h'.get? b = some o) : DefAt h' a p b sc q :=
  let ⟨o, fd, e1, e2, e3, e4, e5, e6, e7, e8, e9, e10, e11⟩ := x.ex; ⟨o, fd, k _ _ e1, e2, e3, e4, e5, e6, e7, e8, e9, e10.keeps k, e11⟩
theorem bisAt_keeps {a : Addr} {i : Nat} {q : Str} (x : BisAt h a i q) (k : ∀ b o, h.get? b = some o → h'.get? b = some o) : BisAt h' a i q :=
  let ⟨o, fd, T, oT, t, m, e1, e2, e3, e4, e5, e6, e7, e8, e9, e10, e11, e12, e13⟩ := x; ⟨o, fd, T, oT, t, m, k _ _ e1, e2, e3, e4, e5, e6, e7, e8, e9, e10.keeps k, e11, k _ _ e12, e13⟩
theorem setOf_keeps {w : World} {a : Addr} {S : Int → Bool} {n : Nat} (x : h.SetOf (intKind prog w) a S n) (k : ∀ b o, h.get? b = some o → h'.get? b = some o) : h'.SetOf (intKind prog w) a S n :=
  let ⟨o, es, ep, t, e1, r⟩ := x; ⟨o, es, ep, t, k _ _ e1, r⟩
end
theorem setL_in (k : Int) : inB1Z k = true ↔ k ∈ setL := by
  have h1 : ∀ c ∈ unseenL, (c : Int) ∈ setL := by decide
  have h2 : ∀ i ∈ setL, ∃ c ∈ unseenL, (c : Int) = i := by decide
  unfold inB1Z
  rw [List.any_eq_true]
  constructor
  · rintro ⟨c, hc, e⟩
    exact beq_iff_eq.mp e ▸ h1 c hc
  · intro hk
    obtain ⟨c, hc, e⟩ := h2 k hk
    exact ⟨c, hc, beq_iff_eq.mpr e⟩
theorem kind_is {w : World} {k i : Int} {t : Tok} : (intKind prog w).is k (.int i t) = true ↔ i = k := by
  show Value.isInt k (.int i t) = true ↔ _
  simp [Value.isInt]
theorem setOf_of {w : World} {h : Heap} {a : Addr} (e : setSeen h a = setGood) : h.SetOf (intKind prog w) a inB1Z 27 := by
  unfold setSeen setGood at e
  split at e
  · rename_i o ho
    split at e
    · rename_i es ep t hd
      injection e with e
      injection e with e1 e
      injection e with e2 e
      injection e with e3 e
      injection e with e4 e5
      have at_ : ∀ x ∈ es.toList, ∃ i ∈ setL, x.1 = i ∧ ∃ t, x.2 = .int i t := fun x hx => by
        have hm : (x.1, intOf x.2) ∈ es.toList.map fun e => (e.1, intOf e.2) := List.mem_map.mpr ⟨x, hx, rfl⟩
        rw [e4] at hm
        obtain ⟨i, hi, q⟩ := List.mem_map.mp hm
        injection q with q1 q2
        refine ⟨i, hi, q1.symm, ?_⟩
        cases hv : x.2 <;> rw [hv] at q2 <;> first | (cases q2; done) | skip
        cases q2
        exact ⟨_, rfl⟩
      have hl := congrArg List.length e4
      rw [List.length_map, List.length_map, show setL.length = 27 from rfl, Array.length_toList] at hl
      refine ⟨o, es, ep, t, ho, ⟨e1, e2, Array.size_eq_zero_iff.mp e3⟩, hd, fun x hx => ?_, fun k => ?_, by rw [hl]; decide, e5, hl⟩
      · obtain ⟨i, hi, h1, t, h2⟩ := at_ x hx
        have hh : hashInt i = i := (by decide : ∀ i ∈ setL, hashInt i = i) i hi
        refine ⟨⟨i, by rw [h2]; exact kind_is.mpr rfl, ?_⟩, by rw [h2]; rfl⟩
        rw [h1]; exact hh.symm
      · rw [setL_in]
        constructor
        · intro hk
          have hm : (k, some k) ∈ setL.map fun i => (i, some i) := List.mem_map.mpr ⟨k, hk, rfl⟩
          rw [← e4] at hm
          obtain ⟨x, hx, q⟩ := List.mem_map.mp hm
          refine ⟨x, hx, ?_⟩
          injection q with q1 q2
          obtain ⟨i, hi, h1, t, h2⟩ := at_ x hx
          rw [h2] at q2
          cases q2
          rw [h2]; exact kind_is.mpr rfl
        · rintro ⟨x, hx, q⟩
          obtain ⟨i, hi, h1, t, h2⟩ := at_ x hx
          rw [h2] at q
          have : k = i := (kind_is.mp q).symm
          rw [this]; exact hi
    · cases e
  · cases e

/-- what is known of the heap behind the top -/
structure Known (w : World) (g : Heap) : Prop where
  size : g.objs.size = 124
  low : ∀ b o, g.get? b = some o → b < 124 ∧ b ≠ P0
  last : ∃ o, g.get? 123 = some o
  glob : g.isNs mainGlobals = true
  refs : ∀ x a, globTab.lookup x = some a → g.nsMap mainGlobals x = some (.ref a)
  bis : ∀ x, biTab.contains x = true → g.nsMap mainGlobals x = none
  bm : g.BuiltinsAt (g.nsMap mainGlobals) P0
  f3 : DefAt g 46 (prm 3) (bd 3) (scp 3) "parse257"
  set : g.SetOf (intKind prog w) 72 inB1Z 27
  f9 : DefAt g 82 (prm 9) (bd 9) (scp 9) "in_table_b1"
  f11 : DefAt g 87 (prm 11) (bd 11) (scp 11) "_law_signs"
  f12 : DefAt g 94 (prm 12) (bd 12) (scp 12) "_law_text"
  f13 : DefAt g 99 (prm 13) (bd 13) (scp 13) "_law_told"
  f14 : DefAt g 104 (prm 14) (bd 14) (scp 14) "_law_needed"
  f15 : DefAt g 111 (prm 15) (bd 15) (scp 15) "_law_place"
  f16 : DefAt g 118 (prm 16) (bd 16) (scp 16) "_law_found"
  b5 : BisAt g 55 5 "bisect_right"
  b6 : BisAt g 64 6 "bisect_left"
  err : ErrCls g
  hd : CodeHd g 110 P0
  code : ∀ o fd, g.get? 111 = some o → o.data = .func fd → fd.code = .ref 110
theorem known_of {w : World} {h : Heap} (e : obsH h = good) : Known w (h.hide P0) ∧ h.get? P0 = some (tabObj #[]) := by
  unfold obsH obsG good at e
  injection e with e1 e2 e3 e4 e5 e6 e7 e8 e9 e10 e11 e12 e13 e14
  injection e8 with a1 e8
  injection e8 with a2 e8
  injection e8 with a3 e8
  injection e8 with a4 e8
  injection e8 with a5 e8
  injection e8 with a6 e8
  injection e8 with a7 e8
  injection e8 with a8 e8
  injection e9 with b1 e9
  injection e9 with b2 e9
  refine ⟨?_, e3⟩
  have hs : (h.hide P0).objs.size = 124 := by rw [Heap.hide_size]; exact e1
  exact {
    size := hs
    low := fun b o q => ⟨hs ▸ Heap.lt_size q, fun z => by rw [z, Heap.hide_self] at q; cases q⟩
    last := Option.isSome_iff_exists.mp e2
    glob := e4
    refs := fun x a q => by
      have hm := PySem.mem_of_lookup q
      have := List.map_inj_left.mp e5 (x, a) hm
      exact this
    bis := fun x q => List.map_inj_left.mp e6 x (by simpa using q)
    bm := builtinsAt_of e7
    f3 := defAt_of a1
    set := setOf_of e10
    f9 := defAt_of a2
    f11 := defAt_of a3
    f12 := defAt_of a4
    f13 := defAt_of a5
    f14 := defAt_of a6
    f15 := defAt_of a7
    f16 := defAt_of a8
    b5 := bisAt_of b1
    b6 := bisAt_of b2
    err := errCls_of e11 e12
    hd := codeHd_of e13 (by decide)
    code := fun o fd ho hd => by
      unfold codeOf at e14
      rw [ho] at e14
      simp only [hd] at e14
      exact Option.some.inj e14 }

/-- the context of the law's call -/
def gCtx (w : World) (g : Heap) (mg mb : Str → Option Value) (K : Known w g) (hmg : mg = g.nsMap mainGlobals) (hmb : ∀ x : Str, x ≠ "__name__" → mb x = bootBuiltins x) : Ctx where
  w := w
  key := .none
  lo := 124
  mg := mg
  mb := mb
  bb := hmb
  gl := fun x a e => by rw [hmg]; exact K.refs x a e
  nobi := fun x e => by rw [hmg]; exact K.bis x e
  Md := fun h => (∀ b o, g.get? b = some o → h.get? b = some o) ∧ h.Ns builtinsNs mb ∧ h.NoLimit
  stable := fun h h' k m => ⟨fun b o e => k.1 b o (K.low b o e).1 (K.low b o e).2 (m.1 b o e), let ⟨o, es, ep, e, r⟩ := m.2.1; ⟨o, es, ep, k.1 _ o (by decide) (by decide) e, r⟩,
    let ⟨mc, ⟨o, es, ep, e, r⟩, z⟩ := m.2.2; ⟨mc, ⟨o, es, ep, k.1 _ o (by decide) (by decide) e, r⟩, z⟩⟩
  g := fun h m => by rw [hmg]; exact (Heap.Ns.of_isNs K.glob).keeps m.1
  b := fun h m => m.2.1
  lim := fun h m => m.2.2
  big := fun h m => let ⟨o, e⟩ := K.last; Heap.lt_size (m.1 _ _ e)
  plo := by decide
  tk := 0
  opn := fun _ => False
  opx := fun _ _ _ e => e.elim
section
variable {w : World} {g : Heap} {mg mb : Str → Option Value} {K : Known w g} {hmg : mg = g.nsMap mainGlobals} {hmb : ∀ x : Str, x ≠ "__name__" → mb x = bootBuiltins x}
theorem gHasL : HasL (gCtx w g mg mb K hmg hmb) where
  has := ⟨fun h m => K.f3.keeps m.1, fun h m => setOf_keeps K.set m.1, fun h m => K.f9.keeps m.1, fun h m => K.f11.keeps m.1, fun h m => K.f12.keeps m.1, fun h m => K.f13.keeps m.1, fun h m => K.f14.keeps m.1, fun h m => K.f15.keeps m.1, fun h m => K.f16.keeps m.1⟩
  c15 := fun h m o fd ho hd => by
    obtain ⟨o', fd', e1, e2⟩ := K.f15.fn
    have := m.1 _ _ e1
    rw [ho] at this
    cases this
    rw [hd] at e2
    cases e2
    exact K.code o fd e1 hd
  hd15 := fun h m => K.hd.keeps m.1
  bia := fun h m => by
    show h.BuiltinsAt mg P0
    rw [hmg]; exact K.bm.keeps m.1
  b5 := fun h m => bisAt_keeps K.b5 m.1
  b6 := fun h m => bisAt_keeps K.b6 m.1
theorem gErr : ∀ h, (gCtx w g mg mb K hmg hmb).Md h → ErrCls h := fun h m => K.err.keeps m.1
end
end Mine
end
section
open PySem PySem.W PyProof.Rows PySem.Calls
set_option maxRecDepth 100000
namespace Mine
def qv : Program := view prog [1, 2, 3, 8, 9, 11, 12, 13, 14, 15, 16, 17]
def looseL : List Str := ["bisect_right", "bisect_left", "b1_set"]
abbrev Xt0 : Shared → Bool := fun s => recOk [] s
def Yf0 (s : Shared) : Obsv := obsH s.heap
abbrev LeftAt (w : World) : Prop := (openEnds treeTable prog w 3720).map (fun s => (openSeen qv looseL (importedModules prog.main.body) Xt0 true s, Yf0 s)) = some (openGood qv looseL, good)
open Fast in
theorem leftF (w : World) : LeftAt (w.withFollow "special-get-raises" false) := by
  show Option.map _ _ = _
  unfold openEnds fencedOpening topFrom
  rw [te14364793385576792824, te14082659384304107361, te10274390034422433532, te14289696077712309145, te1435165496053646825, te4187177175401517315]
  kernel_rfl
open Fast in
theorem leftT (w : World) : LeftAt (w.withFollow "special-get-raises" true) := by
  show Option.map _ _ = _
  unfold openEnds fencedOpening topFrom
  rw [te14364793385576792824, te14082659384304107361, te10274390034422433532, te14289696077712309145, te1435165496053646825, te4187177175401517315]
  kernel_rfl
theorem left0 : LeftO prog qv looseL Xt0 Yf0 (fun _ => good) 3720 := fun w => byRow2 "special-get-raises" (P := LeftAt) leftF leftT w
end Mine
end
section
open PySem PySem.W PyProof.Rows PySem.Calls
set_option maxRecDepth 100000
set_option maxHeartbeats 4000000
namespace Mine
section
variable {C : Ctx}
/-- a call of the law -/
theorem law_call (H : HasL C) (HE : ∀ h, C.Md h → ErrCls h) {ns : List Int} (hz : ns.length ≤ 63) {A : Around} {hid : Addr → Prop} {s : Shared} {R : Result → Shared → Prop} {a : Addr} {o : Obj} {fd : FuncData} {v : Value} (hA : Calm 7 A) (hfr : A.frames = some []) (X : St C hid s) (hr : Rep C.key (Vis hid s.heap) v (.ints ns))
    (ho : s.heap.get? a = some o) (hd : o.data = .func fd) (hp : fd.params = prm 17) (hbd : fd.body = .stmts (bd 17)) (hs : fd.scope = scp 17) (hg : fd.globals = mainGlobals) (hbi : fd.builtins = builtinsNs) (hcl : fd.closure = []) (hcd : s.heap.CodeRec fd.code fd.qualname) (hdf : fd.defaults = .none) (hkd : fd.kwdefaults = .none)
    (hR : ∀ s', KR false s s' → R (.ok (.ret (.bool true))) s') : codeAny (model prog C.w) A (.call (.ref a) ⟨[v], []⟩) R s := by
  refine callDefG (b := false) (ps := ["script"]) (ds := [.ints ns]) (d := .bool true) (n := 6) hA X (.cons hr .nil) ho hd hbd hs hg hbi hcl hcd (.of_eq (by rw [bind_eta hp hdf hkd]; rfl)) (fun s₁ E K₀ X₁ => ?_) fun u s' k r => ?_
  · exact law_body (g := true) H HE hz hs (hA.deeper _) (Around.frames_deeper hfr) rfl X₁
  · obtain rfl := is_bool r
    exact hR s' k
end

/-! the arguments -/
theorem ints_shape {R : WRecords} : ∀ {xs : List WData}, WShape.hasItems R xs .int = true → ∃ ns : List Int, xs = ns.map WData.int
  | [], _ => ⟨[], rfl⟩
  | x :: xs, h => by
    have h' : (WShape.has R x .int && WShape.hasItems R xs .int) = true := by simpa [WShape.hasItems] using h
    obtain ⟨h1, h2⟩ := Bool.and_eq_true_iff.mp h'
    obtain ⟨i, rfl⟩ := hasW_int h1
    obtain ⟨ns, rfl⟩ := ints_shape h2
    exact ⟨i :: ns, rfl⟩
theorem ints_read {R : WRecords} {cl : Str → Option Addr} {h : Heap} : ∀ {ns : List Int} {vs : List Value} {as : List Addr}, ReadsAllW R cl h vs (ns.map WData.int) as → IntsAre vs ns
  | [], vs, as, r => by cases r; exact .nil
  | i :: ns, vs, as, r => by
    cases r with
    | cons a r =>
      obtain ⟨t, rfl, rfl⟩ := readsW_int_inv a
      exact .cons i t (ints_read r)
abbrev theRow : OpenRow := PySem.Challenge.rw_ux0003_01.row
theorem args_of {args : List WData} (h : theRow.toRowW.claim.pre args = true) : ∃ ns : List Int, args = [.list (ns.map WData.int)] ∧ ns.length ≤ 63 := by
  obtain ⟨h1, h2⟩ := pre_splitW h
  obtain ⟨d, r, rfl, hd, hr⟩ := hasAllW_cons (e := .list .int) (es := []) h1
  obtain ⟨xs, rfl, hx⟩ := hasW_list hd
  obtain ⟨ns, rfl⟩ := ints_shape hx
  have := hasAllW_nil hr
  subst this
  refine ⟨ns, rfl, ?_⟩
  obtain ⟨h3, _⟩ := holds_andW (a := .not (.lt (.lit (.int 63)) (.len (.arg 0)))) h2
  have hv : (WTm.not (.lt (.lit (.int 63)) (.len (.arg 0)))).value theRow.toRowW.records { args := [WData.list (ns.map WData.int)] } = some (.bool (!decide ((63 : Int) < ((ns.map WData.int).length : Int)))) := w_not (w_lt w_lit (w_len_list (w_arg rfl)))
  rw [holdsW_of_value hv, List.length_map] at h3
  have : ¬ (63 : Int) < (ns.length : Int) := by simpa using h3
  omega

/-! the walk, from the heap behind the top -/
def says (w : World) (h : Heap) : Prop := ∃ h0, obsH h0 = good ∧ ∀ b o, h0.get? b = some o → h.get? b = some o
def posF : Stmt → Pos
  | .FunctionDef _ _ _ _ _ _ _ _ _ p => p
  | _ => ⟨0, 0, 0, 0⟩
def lawD : DefRec := ⟨"law", prm 17, bd 17, scp 17, posF (fst 17)⟩
theorem calm_caller : Calm 7 callerA := ⟨rfl, by decide, by decide⟩
theorem walk : WalkO qv looseL (fun _ _ => True) says theRow.toRowW lawD [] (fun f vs => PySem.call f vs) := by
  intro w s₀ s₁ mg mb G Y a o pm cd doc dV kV ho hd hcd hD hmg hg args vals as hpre hlay hrd hwl hlo
  obtain ⟨h0, e0, k0⟩ := Y
  obtain ⟨K, htab⟩ := known_of (w := w) e0
  obtain ⟨ns, rfl, hz⟩ := args_of hpre
  cases hrd with
  | cons r1 r2 =>
    cases r2
    obtain ⟨l, vs, as', rfl, hl, hri, rfl⟩ := readsW_list_inv r1
    have hi := ints_read hri
    have keep : ∀ b o, (h0.hide P0).get? b = some o → s₁.heap.get? b = some o := fun b o q => k0 b o (Heap.of_hide q)
    have hmg' : mg = (h0.hide P0).nsMap mainGlobals := ns_unique G.T.g ((Heap.Ns.of_isNs K.glob).keeps keep)
    have tab : Tab s₁.heap := ⟨#[], k0 _ _ htab, trivial, fun pos cv q => by cases q⟩
    have X : St (gCtx w (h0.hide P0) mg mb K hmg' G.T.builtins) (fun z => z = P0) s₁ := ⟨Nat.zero_le _, ⟨keep, G.T.b, G.T.nolimit⟩, tab, rfl, fun z hz => ⟨_, hz ▸ k0 _ _ htab⟩, fun _ e => e.elim⟩
    have hne : ¬ l = P0 := by
      rintro rfl
      obtain ⟨ol, e1, e2, _⟩ := hl
      rw [k0 _ _ htab] at e1
      cases e1
      cases e2
    have hr : Rep (gCtx w (h0.hide P0) mg mb K hmg' G.T.builtins).key (Vis (fun z => z = P0) s₁.heap) (.ref l) (.ints ns) := ints_rep (by simpa using hl) hi hne
    have hdV : dV = .none := hD.pos.elim (fun x => x.2) fun x => absurd rfl x.1
    have hkV : kV = .none := hD.kw.elim (fun x => x.2) fun x => absurd rfl x.1
    refine enter_call (law_call (C := gCtx w (h0.hide P0) mg mb K hmg' G.T.builtins) gHasL gErr hz calm_caller rfl X hr ho hd rfl rfl rfl rfl rfl rfl hcd hdV hkV fun s' k => ?_)
    obtain ⟨h', tk, rfl, kp, kt⟩ := k
    refine ⟨.inl ⟨.bool true, .bool true, [], rfl, fun cls => rfl, .bool true, postW_of (by rfl) (w_eq_bool (w_res rfl) w_lit) rfl, fun _ => ⟨List.nodup_nil, fun _ q => nomatch q⟩⟩, ⟨fun b ob e => ?_, fun b ob e => ?_⟩, rfl, .of_eq hg⟩
    · by_cases hb : b = P0
      · subst hb
        rw [k0 _ _ htab] at e
        cases e
        obtain ⟨ps, hps, _⟩ := kt tab
        obtain ⟨oc, cvs, _, _, _, _, _, _, _, c1, c2, c3, c4, _⟩ := K.hd
        exact .inr (.inl ⟨⟨110, oc, cvs, keep _ _ c1, c2, c3, c4⟩, rfl, #[], ps, rfl, by rw [hps]; simp⟩)
      · exact .inl (kp b ob hb e)
    · by_cases hb : b = P0
      · obtain ⟨ps, hps, _⟩ := kt tab
        exact ⟨_, hb ▸ hps⟩
      · exact ⟨ob, kp b ob hb e⟩

theorem row_holds (said : theRow.wellSaid = true) : theRow.Holds :=
  holds_open (r := theRow) (q := qv) (loose := looseL) (Xt := Xt0) (XP := fun _ _ => True) (Yf := Yf0) (Ya := fun _ => good) (YP := says) (d := lawD) (kwd := []) (N := 3720)
    left0 (fun w s e => ⟨s.heap, e, fun _ _ q => q⟩) (fun w h h' ⟨h0, e, k⟩ kk => ⟨h0, e, fun b o q => kk b o (k b o q)⟩) (fun _ _ => trivial) (fun _ _ _ _ _ => trivial)
    (by rfl) (by rfl) (by rfl) (fun s e => recFacts_of e) (by rfl) said (by decide +kernel) ⟨rfl, rfl, rfl, rfl, rfl, by decide +kernel⟩ ⟨[.list []], by decide +kernel, by decide +kernel⟩ walk
end Mine
end
open PySem PySem.W PyProof.Rows
set_option maxRecDepth 100000 in
set_option maxHeartbeats 8000000 in
theorem PySem.Challenge.cw_ux0003_01_holds : PySem.Challenge.rw_ux0003_01.Holds := by
  o_law
  exact Mine.row_holds (by assumption)
