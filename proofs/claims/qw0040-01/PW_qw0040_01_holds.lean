import PyProof.Rows.All
import Wide.All
import OpenK.AllK
import Wide.FinOn
import Lean
import PySem.Challenge.RW_qw0040_01
set_option Elab.async false
set_option linter.unusedVariables false
set_option linter.unusedSimpArgs false
set_option maxRecDepth 100000
namespace Mine
noncomputable section
open PySem PySem.W PyProof.Rows
/-! ### the head: the run of the text's top, by the kernel, and what is seen behind it -/
/-- the text, of which the law's own def alone is read as it stands -/
noncomputable def top : Program := view PySem.Challenge.pw_qw0040_01 [48]
/-- the names that the rest of the text binds -/
noncomputable def names : List Str := [PySem.Str.ofString "_wall", PySem.Str.ofString "S_IFMT", PySem.Str.ofString "S_IFDIR", PySem.Str.ofString "S_IFCHR", PySem.Str.ofString "S_IFBLK", PySem.Str.ofString "S_IFREG", PySem.Str.ofString "S_IFIFO", PySem.Str.ofString "S_IFLNK", PySem.Str.ofString "S_IFSOCK", PySem.Str.ofString "S_ISUID", PySem.Str.ofString "S_ISGID", PySem.Str.ofString "S_ISVTX", PySem.Str.ofString "S_IRUSR", PySem.Str.ofString "S_IWUSR", PySem.Str.ofString "S_IXUSR", PySem.Str.ofString "S_IRGRP", PySem.Str.ofString "S_IWGRP", PySem.Str.ofString "S_IXGRP", PySem.Str.ofString "S_IROTH", PySem.Str.ofString "S_IWOTH", PySem.Str.ofString "S_IXOTH", PySem.Str.ofString "_filemode_table", PySem.Str.ofString "filemode", PySem.Str.ofString "_strcoll", PySem.Str.ofString "_plain_name", PySem.Str.ofString "ABCMeta", PySem.Str.ofString "_ABCLike", PySem.Str.ofString "_abc_plain_meta", PySem.Str.ofString "fspath", PySem.Str.ofString "_check_arg_types", PySem.Str.ofString "_get_sep", PySem.Str.ofString "join", PySem.Str.ofString "commonpath", PySem.Str.ofString "_law_files", PySem.Str.ofString "_law_signs", PySem.Str.ofString "_law_below", PySem.Str.ofString "_law_closure", PySem.Str.ofString "_law_front", PySem.Str.ofString "_law_sets"]
/-- the state behind the top -/
noncomputable def endOf (w : World) (os : OsState) : Option Shared := topFrom treeTable PySem.Challenge.pw_qw0040_01 w 3044 ⟨boot_heap w.params, Array.mk [], boot_drawn, boot_toks, os⟩
noncomputable def seenAt (s : Shared) := openSeen top names (importedModules PySem.Challenge.pw_qw0040_01.main.body) (fun s => xlAt top [] s && recOk [] s) true s
theorem seen_a (w : World) (os : OsState) : (endOf w os).map (fun s => ((seenAt s).1, (seenAt s).2.1, (seenAt s).2.2.1)) = some ((openGood top names).1, (openGood top names).2.1, (openGood top names).2.2.1) := by
  delta endOf seenAt topFrom top
  rw [PySem.W.Fast.te14082659384304107361, PySem.W.Fast.te14364793385576792824, PySem.W.Fast.te4187177175401517315]
  kernel_rfl
theorem seen_b (w : World) (os : OsState) : (endOf w os).map (fun s => (seenAt s).2.2.2) = some (openGood top names).2.2.2 := by
  delta endOf seenAt topFrom top
  rw [PySem.W.Fast.te14082659384304107361, PySem.W.Fast.te14364793385576792824, PySem.W.Fast.te4187177175401517315]
  kernel_rfl
theorem map_both {σ A B : Type} {o : Option σ} {f : σ → A} {g : σ → B} {a : A} {b : B} (h1 : o.map f = some a) (h2 : o.map g = some b) : o.map (fun s => (f s, g s)) = some (a, b) := by
  cases o with
  | none => cases h1
  | some s => injection h1 with h1; injection h2 with h2; exact congrArg some (Prod.ext h1 h2)
theorem map_four {σ A B C D : Type} {o : Option σ} {F : σ → A × B × C × D} {g : A × B × C × D} (h1 : o.map (fun s => ((F s).1, (F s).2.1, (F s).2.2.1)) = some (g.1, g.2.1, g.2.2.1)) (h2 : o.map (fun s => (F s).2.2.2) = some g.2.2.2) : o.map F = some g := by
  cases o with
  | none => cases h1
  | some s =>
    injection h1 with h1; injection h2 with h2; injection h1 with e1 h1; injection h1 with e2 e3
    exact congrArg some (Prod.ext e1 (Prod.ext e2 (Prod.ext e3 h2)))
theorem left_of {p q : Program} {loose : List Str} {Xt : Shared → Bool} {α : Type} {Yf : Shared → α} {Ya : World → α} {N : Nat} {g0 : Bool} {H₀ : Params → Heap} {gs₀ : Array GenState} {d₀ : Drawn} {k₀ : Nat}
    (boot : ∀ w : World, (fencedOpening treeTable p w N).map (fun s => (s.heap, s.gens, s.drawn, s.toks)) = some (H₀ w.params, gs₀, d₀, k₀))
    (rest : ∀ (w : World) (os : OsState), (topFrom treeTable p w N ⟨H₀ w.params, gs₀, d₀, k₀, os⟩).map (fun s => (openSeen q loose (importedModules p.main.body) Xt g0 s, Yf s)) = some (openGood q loose, Ya w)) : LeftO p q loose Xt Yf Ya N g0 := fun w => by
  obtain ⟨s, e, q⟩ := Option.map_eq_some_iff.mp (boot w)
  have st : s = ⟨H₀ w.params, gs₀, d₀, k₀, s.os⟩ := by
    cases s
    injection q with q1 q; injection q with q2 q; injection q with q3 q4
    rw [← q1, ← q2, ← q3, ← q4]
  unfold openEnds
  rw [e, st]
  exact rest w s.os
theorem left_by {α : Type} {Yf : Shared → α} {Ya : World → α} (look : ∀ w os, (endOf w os).map Yf = some (Ya w)) : LeftO PySem.Challenge.pw_qw0040_01 top names (fun s => xlAt top [] s && recOk [] s) Yf Ya 3044 :=
  left_of (boot_open rfl rfl fun _ => rfl) fun w os => map_both (map_four (F := seenAt) (seen_a w os) (seen_b w os)) (look w os)
local macro_rules
  | `(tactic| o_head $H) => do
    let hw := Lean.mkIdent `hw
    let hc := Lean.mkIdent `hc
    `(tactic| (refine holds_open (q := top) (loose := names) (Xt := fun s => xlAt top [] s && recOk [] s) (XP := XL top []) (Yf := Hook.obs $H) (Ya := Hook.val $H) (YP := Hook.says $H) (N := 3044) (left_by (fun w os => by
        delta endOf topFrom
        rw [PySem.W.Fast.te14082659384304107361, PySem.W.Fast.te14364793385576792824]
        kernel_rfl)) (Hook.of $H) (Hook.keeps $H) (fun s e => xl_of s (Bool.and_eq_true_iff.mp e).1) XL.keeps (by rfl) (by rfl) (by rfl) (fun s e => recFacts_of (Bool.and_eq_true_iff.mp e).2) (by rfl) (by assumption) (by decide +kernel) ⟨rfl, rfl, rfl, rfl, rfl, by decide +kernel⟩ ?$hw ?$hc))
set_option maxHeartbeats 8000000 in
open_top hd for PySem.Challenge.rw_qw0040_01
end
noncomputable section
open PySem PySem.W PySem.Calls PySem.Spec PyProof.Rows
set_option autoImplicit false
/-! ## data in the heap -/
def Kept (h h' : Heap) : Prop := ∀ b o, h.get? b = some o → h'.get? b = some o
theorem Kept.refl (h : Heap) : Kept h h := fun _ _ e => e
theorem Kept.trans {h h' h'' : Heap} (x : Kept h h') (y : Kept h' h'') : Kept h h'' := fun b o e => y b o (x b o e)
theorem Kept.push (h : Heap) (o : Obj) : Kept h (h.push o) := fun _ _ e => Heap.get?_push_of_some o e

mutual
inductive Has (Z : List Addr) (h : Heap) : Value → PyData → Prop
  | none : Has Z h .none .none
  | bool {b : Bool} : Has Z h (.bool b) (.bool b)
  | int {i : Int} {t : Tok} : Has Z h (.int i t) (.int i)
  | str {x : Str} {t : Tok} : Has Z h (.str x t) (.str x)
  | seqL {a : Addr} {o : Obj} {vs : Array Value} {n : Nat} {xs : List PyData} : h.get? a = some o → o.cls = .type "list" → o.data = .seq vs n → a ∉ Z → HasAll Z h vs.toList xs → Has Z h (.ref a) (.list xs)
  | seqT {a : Addr} {o : Obj} {vs : Array Value} {n : Nat} {xs : List PyData} : h.get? a = some o → o.cls = .type "tuple" → o.data = .seq vs n → HasAll Z h vs.toList xs → Has Z h (.ref a) (.tuple xs)
inductive HasAll (Z : List Addr) (h : Heap) : List Value → List PyData → Prop
  | nil : HasAll Z h [] []
  | cons {v : Value} {d : PyData} {vs : List Value} {ds : List PyData} : Has Z h v d → HasAll Z h vs ds → HasAll Z h (v :: vs) (d :: ds)
end

mutual
theorem Has.keeps {Z : List Addr} {h h' : Heap} (k : Kept h h') : ∀ {v : Value} {d : PyData}, Has Z h v d → Has Z h' v d
  | _, _, .none => .none
  | _, _, .bool => .bool
  | _, _, .int => .int
  | _, _, .str => .str
  | _, _, .seqL a b c z r => .seqL (k _ _ a) b c z (HasAll.keeps k r)
  | _, _, .seqT a b c r => .seqT (k _ _ a) b c (HasAll.keeps k r)
theorem HasAll.keeps {Z : List Addr} {h h' : Heap} (k : Kept h h') : ∀ {v : List Value} {d : List PyData}, HasAll Z h v d → HasAll Z h' v d
  | _, _, .nil => .nil
  | _, _, .cons a b => .cons (Has.keeps k a) (HasAll.keeps k b)
end
mutual
theorem Has.reads {Z : List Addr} {h : Heap} : ∀ {v : Value} {d : PyData}, Has Z h v d → ∃ as, Reads h v d as
  | _, _, .none => ⟨_, .none⟩
  | _, _, .bool => ⟨_, .bool _⟩
  | _, _, .int => ⟨_, .int _ _⟩
  | _, _, .str => ⟨_, .str _ _⟩
  | _, _, .seqL a b c z r => let ⟨_, q⟩ := HasAll.reads r; ⟨_, .list a b c q⟩
  | _, _, .seqT a b c r => let ⟨_, q⟩ := HasAll.reads r; ⟨_, .tuple a b c q⟩
theorem HasAll.reads {Z : List Addr} {h : Heap} : ∀ {v : List Value} {d : List PyData}, HasAll Z h v d → ∃ as, ReadsAll h v d as
  | _, _, .nil => ⟨_, .nil⟩
  | _, _, .cons a b => let ⟨_, q⟩ := Has.reads a; let ⟨_, p⟩ := HasAll.reads b; ⟨_, .cons q p⟩
end
theorem Has.int_inv {Z : List Addr} {h : Heap} {v : Value} {i : Int} (x : Has Z h v (.int i)) : ∃ t, v = .int i t := by cases x; exact ⟨_, rfl⟩
theorem Has.str_inv {Z : List Addr} {h : Heap} {v : Value} {i : Str} (x : Has Z h v (.str i)) : ∃ t, v = .str i t := by cases x; exact ⟨_, rfl⟩
theorem Has.bool_inv {Z : List Addr} {h : Heap} {v : Value} {b : Bool} (x : Has Z h v (.bool b)) : v = .bool b := by cases x; rfl

theorem HasAll.cons_inv {Z : List Addr} {h : Heap} {d : PyData} {vs : List Value} {ds : List PyData} (x : HasAll Z h vs (d :: ds)) : ∃ v r, vs = v :: r ∧ Has Z h v d ∧ HasAll Z h r ds := by
  cases x with
  | cons a b => exact ⟨_, _, rfl, a, b⟩
theorem HasAll.nil_inv {Z : List Addr} {h : Heap} {vs : List Value} (x : HasAll Z h vs []) : vs = [] := by cases x; rfl
theorem HasAll.cons_iff {Z : List Addr} {h : Heap} {v : Value} {d : PyData} {vs : List Value} {ds : List PyData} : HasAll Z h (v :: vs) (d :: ds) ↔ Has Z h v d ∧ HasAll Z h vs ds :=
  ⟨fun x => by cases x with | cons a b => exact ⟨a, b⟩, fun ⟨a, b⟩ => .cons a b⟩
theorem HasAll.length {Z : List Addr} {h : Heap} {vs : List Value} {ds : List PyData} (x : HasAll Z h vs ds) : vs.length = ds.length := by
  induction ds generalizing vs with
  | nil => rw [x.nil_inv]; rfl
  | cons d ds ih => obtain ⟨v, r, rfl, _, b⟩ := x.cons_inv; simp [ih b]
theorem HasAll.get {Z : List Addr} {h : Heap} {vs : List Value} {ds : List PyData} (x : HasAll Z h vs ds) {i : Nat} {d : PyData} (hi : ds[i]? = some d) : ∃ v, vs[i]? = some v ∧ Has Z h v d := by
  induction ds generalizing vs i with
  | nil => simp at hi
  | cons e ds ih =>
    obtain ⟨v, r, rfl, a, b⟩ := x.cons_inv
    cases i with
    | zero => simp at hi; subst hi; exact ⟨v, rfl, a⟩
    | succ i => simpa using ih b (by simpa using hi)
theorem HasAll.get' {Z : List Addr} {h : Heap} {vs : List Value} {ds : List PyData} (x : HasAll Z h vs ds) {i : Nat} {v : Value} (hi : vs[i]? = some v) : ∃ d, ds[i]? = some d ∧ Has Z h v d := by
  induction ds generalizing vs i with
  | nil => rw [x.nil_inv] at hi; simp at hi
  | cons e ds ih =>
    obtain ⟨v, r, rfl, a, b⟩ := x.cons_inv
    cases i with
    | zero => simp at hi; subst hi; exact ⟨e, rfl, a⟩
    | succ i => simpa using ih b (by simpa using hi)
theorem HasAll.append {Z : List Addr} {h : Heap} {vs ws : List Value} {ds es : List PyData} (x : HasAll Z h vs ds) (y : HasAll Z h ws es) : HasAll Z h (vs ++ ws) (ds ++ es) := by
  induction ds generalizing vs with
  | nil => rw [x.nil_inv]; exact y
  | cons d ds ih => obtain ⟨v, r, rfl, a, b⟩ := x.cons_inv; exact HasAll.cons a (ih b)
theorem HasAll.take {Z : List Addr} {h : Heap} {vs : List Value} {ds : List PyData} (x : HasAll Z h vs ds) (n : Nat) : HasAll Z h (vs.take n) (ds.take n) := by
  induction ds generalizing vs n with
  | nil => rw [x.nil_inv]; simpa using HasAll.nil
  | cons d ds ih =>
    obtain ⟨v, r, rfl, a, b⟩ := x.cons_inv
    cases n with
    | zero => simpa using HasAll.nil
    | succ n => exact HasAll.cons a (ih b n)
theorem HasAll.drop {Z : List Addr} {h : Heap} {vs : List Value} {ds : List PyData} (x : HasAll Z h vs ds) (n : Nat) : HasAll Z h (vs.drop n) (ds.drop n) := by
  induction ds generalizing vs n with
  | nil => rw [x.nil_inv]; simpa using HasAll.nil
  | cons d ds ih =>
    obtain ⟨v, r, rfl, a, b⟩ := x.cons_inv
    cases n with
    | zero => exact HasAll.cons a b
    | succ n => exact ih b n

theorem Has.list {Z : List Addr} {h : Heap} {a : Addr} {vs : Array Value} {ds : List PyData} (hl : h.IsList a vs) (ha : a ∉ Z) (x : HasAll Z h vs.toList ds) : Has Z h (.ref a) (.list ds) := by
  obtain ⟨o, ho, hc, n, hd⟩ := hl; exact .seqL ho hc hd ha x
theorem Has.list_inv {Z : List Addr} {h : Heap} {v : Value} {ds : List PyData} (x : Has Z h v (.list ds)) : ∃ a vs, v = .ref a ∧ a ∉ Z ∧ h.IsList a vs ∧ HasAll Z h vs.toList ds := by
  cases x with
  | seqL ho hc hd z r => exact ⟨_, _, rfl, z, ⟨_, ho, hc, _, hd⟩, r⟩
theorem Has.tuple {Z : List Addr} {h : Heap} {a : Addr} {vs : Array Value} {ds : List PyData} (hl : IsTup h a vs) (x : HasAll Z h vs.toList ds) : Has Z h (.ref a) (.tuple ds) := by
  obtain ⟨o, ho, hc, n, hd⟩ := hl; exact .seqT ho hc hd x
theorem Has.tuple_inv {Z : List Addr} {h : Heap} {v : Value} {ds : List PyData} (x : Has Z h v (.tuple ds)) : ∃ a vs, v = .ref a ∧ IsTup h a vs ∧ HasAll Z h vs.toList ds := by
  cases x with
  | seqT ho hc hd r => exact ⟨_, _, rfl, ⟨_, ho, hc, _, hd⟩, r⟩

/-- a weak list: the list itself may be one that its frame still turns -/
def HasW (Z : List Addr) (h : Heap) (v : Value) (ds : List PyData) : Prop := ∃ a vs, v = .ref a ∧ h.IsList a vs ∧ HasAll Z h vs.toList ds
theorem Has.weak {Z : List Addr} {h : Heap} {v : Value} {ds : List PyData} (x : Has Z h v (.list ds)) : HasW Z h v ds :=
  let ⟨a, vs, e, _, l, r⟩ := x.list_inv; ⟨a, vs, e, l, r⟩
theorem HasW.keeps {Z : List Addr} {h h' : Heap} {v : Value} {ds : List PyData} (x : HasW Z h v ds) (k : Kept h h') : HasW Z h' v ds :=
  let ⟨a, vs, e, l, r⟩ := x; ⟨a, vs, e, l.at fun _ q => k _ _ q, HasAll.keeps k r⟩

/-! ## what the whole run keeps -/
structure Base (K : Frag) (h : Heap) : Prop where
  frag : K.In h
  nolimit : h.NoLimit
  blt : ∃ mb, h.Ns builtinsNs mb ∧ ∀ x : Str, x ≠ "__name__" → mb x = bootBuiltins x
theorem Base.keeps {K : Frag} {h h' : Heap} (x : Base K h) (k : Kept h h') : Base K h' :=
  ⟨x.frag.keeps k, x.nolimit.keeps k, let ⟨mb, a, b⟩ := x.blt; ⟨mb, a.keeps k, b⟩⟩

structure FrameOk (env : Env) (names : List (Str × NameKind)) : Prop where
  kind : env.scope.kind = .function
  glob : env.globals = mainGlobals
  blt : env.builtins = builtinsNs
  kinds : ∀ x k, names.lookup x = some k → env.kindOf x = some k ∨ (k = .free ∧ env.kindOf x = some .cell)

def Holds (env : Env) (h : Heap) (x : Str) (v : Value) : Prop :=
  (env.kindOf x = some .local ∧ ∃ m, h.Ns env.locals m ∧ m x = some v) ∨
  ((env.kindOf x = some .cell ∨ env.kindOf x = some .free) ∧ ∃ c, env.cells.lookup x = some c ∧ h.IsCell c (some v))
theorem Holds.keeps {env : Env} {h h' : Heap} {x : Str} {v : Value} (q : Holds env h x v) (k : Kept h h') : Holds env h' x v := by
  rcases q with ⟨a, m, b, c⟩ | ⟨a, c, b, d⟩
  · exact .inl ⟨a, m, b.keeps k, c⟩
  · exact .inr ⟨a, c, b, d.keeps k⟩

structure Cx where
  names : List (Str × NameKind)
  vars : List (Str × PyData)
  own : Option (Str × List PyData) := none

structure Sta (K : Frag) (env : Env) (c : Cx) (Z : List Addr) (h : Heap) : Prop where
  base : Base K h
  vars : ∀ x d, c.vars.lookup x = some d → ∃ v, Holds env h x v ∧ Has Z h v d
  own : ∀ x ds, c.own = some (x, ds) → ∃ v, Holds env h x v ∧ HasW Z h v ds
  zs : ∀ z ∈ Z, (h.get? z).isSome = true
theorem Sta.keeps {K : Frag} {env : Env} {c : Cx} {Z : List Addr} {h h' : Heap} (x : Sta K env c Z h) (k : Kept h h') : Sta K env c Z h' where
  base := x.base.keeps k
  vars := fun y d e => let ⟨v, a, b⟩ := x.vars y d e; ⟨v, a.keeps k, Has.keeps k b⟩
  own := fun y d e => let ⟨v, a, b⟩ := x.own y d e; ⟨v, a.keeps k, b.keeps k⟩
  zs := fun z hz => by
    obtain ⟨o, ho⟩ := Option.isSome_iff_exists.mp (x.zs z hz)
    rw [k z o ho]; rfl

structure Rm (n : Nat) (A : Around) : Prop where
  depth : A.depth + n < recursionLimit
  units : A.units + 20 * n + 100 < cLine
  handled : A.handled = none
theorem Rm.in1 {n : Nat} {A : Around} (r : Rm (n + 1) A) : Rm n A.in1 := ⟨Nat.lt_of_succ_lt r.depth, by have := r.units; show A.units + 1 + _ + _ < _; omega, r.handled⟩
theorem Rm.deeper {n : Nat} {A : Around} {env : Env} (r : Rm (n + 1) A) : Rm n (A.deeper env) := ⟨by have := r.depth; show A.depth + 1 + n < _; omega, by have := r.units; show A.units + 3 + _ + _ < _; omega, r.handled⟩
theorem Rm.down {n : Nat} {A : Around} (r : Rm (n + 1) A) : Rm n A := ⟨Nat.lt_of_succ_lt r.depth, by have := r.units; omega, r.handled⟩

theorem kp_refl (s : Shared) : Keeps s s := ⟨s.heap, s.toks, rfl, fun _ _ e => e⟩
theorem kp_trans {s s' s'' : Shared} (x : Keeps s s') (y : Keeps s' s'') : Keeps s s'' := by
  obtain ⟨h, t, rfl, k⟩ := x; obtain ⟨h', t', rfl, k'⟩ := y
  exact ⟨h', t', rfl, fun b o e => k' b o (k b o e)⟩
theorem kp_kept {s s' : Shared} (x : Keeps s s') : Kept s.heap s'.heap := by
  obtain ⟨h, t, rfl, k⟩ := x; exact k
theorem kp_tok (s : Shared) (t : Tok) : Keeps s { s with toks := t } := ⟨s.heap, t, rfl, fun _ _ e => e⟩
theorem kp_push (s : Shared) (o : Obj) : Keeps s { s with heap := s.heap.push o } := ⟨_, s.toks, rfl, fun _ _ e => Heap.get?_push_of_some o e⟩

abbrev noE : Value → Shared → Prop := fun _ _ => False

section
variable (prog : Program) (w : World) (K : Frag)

/-- the expression's value is the datum; nothing that stood is turned -/
def Ev (n : Nat) (c : Cx) (e : Expr) (d : PyData) : Prop :=
  ∀ A env Z (s : Shared), Rm n A → FrameOk env c.names → Sta K env c Z s.heap →
    wpAny (model prog w) A (eval e env) (fun v s' => Has Z s'.heap v d ∧ Keeps s s') noE s
def EvW (n : Nat) (c : Cx) (e : Expr) (ds : List PyData) : Prop :=
  ∀ A env Z (s : Shared), Rm n A → FrameOk env c.names → Sta K env c Z s.heap →
    wpAny (model prog w) A (eval e env) (fun v s' => HasW Z s'.heap v ds ∧ Keeps s s') noE s
/-- the test comes out so -/
def Tr (n : Nat) (c : Cx) (e : Expr) (b : Bool) : Prop :=
  ∀ A env Z (s : Shared), Rm n A → FrameOk env c.names → Sta K env c Z s.heap →
    wpAny (model prog w) A (isTrue e env (eval e env)) (fun r s' => r = b ∧ Keeps s s') noE s
end

section
variable {prog : Program} {w : World} {K : Frag} {n : Nat} {c : Cx}

theorem Ev.weak {e : Expr} {ds : List PyData} (x : Ev prog w K n c e (.list ds)) : EvW prog w K n c e ds :=
  fun A env Z s r f t => wpAny_mono (x A env Z s r f t) (fun _ _ q => ⟨q.1.weak, q.2⟩) fun _ _ q => q

theorem ev_int {i : Int} {k : Nat} {pos : Pos} : Ev prog w K n c (.Constant (.int i) k pos) (.int i) :=
  fun _ _ _ s _ _ _ => wpAny_Constant_int ⟨Has.int, kp_tok s _⟩
theorem ev_str {x : Str} {k : Nat} {pos : Pos} : Ev prog w K n c (.Constant (.str x) k pos) (.str x) :=
  fun _ _ _ s _ _ _ => wpAny_Constant_str ⟨Has.str, kp_tok s _⟩
theorem ev_bool {b : Bool} {k : Nat} {pos : Pos} : Ev prog w K n c (.Constant (.bool b) k pos) (.bool b) :=
  fun _ _ _ s _ _ _ => wpAny_Constant_bool ⟨Has.bool, kp_refl s⟩

theorem load_of_holds {M : Model} {A : Around} {E : Value → Shared → Prop} {env : Env} {x : Str} {v : Value} {s : Shared} {Q : Value → Shared → Prop} (hk : env.scope.kind = .function) (q : Holds env s.heap x v) (h : Q v s)
    (hn : (x == ("__classdict__" : Str)) = false) : wpAny M A (loadName env x) Q E s := by
  rcases q with ⟨a, m, b, e⟩ | ⟨a | a, c, b, d⟩
  · exact wpAny_loadName_local hk a b e h
  · exact wpAny_loadName_cell hk a b d h
  · exact wpAny_loadName_free hk a b d h hn

theorem ev_name {x : Str} {pos : Pos} {d : PyData} (h : c.vars.lookup x = some d) (hd : (x == ("__debug__" : Str)) = false := by rfl) (hn : (x == ("__classdict__" : Str)) = false := by rfl) :
    Ev prog w K n c (.Name x pos) d := fun _ _ _ s _ f t =>
  let ⟨_, a, b⟩ := t.vars x d h; wpAny_Name (load_of_holds f.kind a ⟨b, kp_refl s⟩ hn) hd
theorem ev_own {x : Str} {pos : Pos} {ds : List PyData} (h : c.own = some (x, ds)) (hd : (x == ("__debug__" : Str)) = false := by rfl) (hn : (x == ("__classdict__" : Str)) = false := by rfl) :
    EvW prog w K n c (.Name x pos) ds := fun _ _ _ s _ f t =>
  let ⟨_, a, b⟩ := t.own x ds h; wpAny_Name (load_of_holds f.kind a ⟨b, kp_refl s⟩ hn) hd

theorem Sta.step {env : Env} {Z : List Addr} {s s' : Shared} (t : Sta K env c Z s.heap) (k : Keeps s s') : Sta K env c Z s'.heap := t.keeps (kp_kept k)
end
end
noncomputable section
open PySem PySem.W PySem.Calls PySem.Spec PyProof.Rows
set_option autoImplicit false
section
variable {prog : Program} {w : World} {K : Frag} {n : Nat} {c : Cx}

def BinSpec (prog : Program) (w : World) (n : Nat) (op : Operator) (a b d : PyData) : Prop :=
  ∀ A Z (s : Shared) x y, Rm n A → (∀ z ∈ Z, (s.heap.get? z).isSome = true) → Has Z s.heap x a → Has Z s.heap y b → wpAny (model prog w) A (binaryOp op x y) (fun v s' => Has Z s'.heap v d ∧ Keeps s s') noE s
def CmpSpec (prog : Program) (w : World) (n : Nat) (op : CmpOp) (a b : PyData) (r : Bool) : Prop :=
  ∀ A Z (s : Shared) x y, Rm n A → Has Z s.heap x a → Has Z s.heap y b → wpAny (model prog w) A (compareOp op x y) (fun v s' => v = .bool r ∧ Keeps s s') noE s

theorem ev_bin {l r : Expr} {op : Operator} {pos : Pos} {a b d : PyData} (hl : Ev prog w K n c l a) (hr : Ev prog w K n c r b) (h : BinSpec prog w n op a b d) :
    Ev prog w K n c (.BinOp l op r pos) d := fun A env Z s rm f t =>
  wpAny_BinOp (wpAny_mono (hl A env Z s rm f t) (fun x s₁ ⟨hx, k₁⟩ => wpAny_mono (hr A env Z s₁ rm f (t.step k₁)) (fun y s₂ ⟨hy, k₂⟩ =>
    wpAny_mono (h A Z s₂ x y rm ((t.step k₁).step k₂).zs (Has.keeps (kp_kept k₂) hx) hy) (fun v s₃ ⟨hv, k₃⟩ => ⟨hv, kp_trans k₁ (kp_trans k₂ k₃)⟩) fun _ _ q => q) fun _ _ q => q) fun _ _ q => q)

theorem ev_cmp {l r : Expr} {op : CmpOp} {pos : Pos} {a b : PyData} {v : Bool} (hl : Ev prog w K n c l a) (hr : Ev prog w K n c r b) (h : CmpSpec prog w n op a b v) (hm : behindInMarks op r = false := by with_unfolding_all rfl) :
    Ev prog w K n c (.Compare l [op] [r] pos) (.bool v) := fun A env Z s rm f t =>
  wpAny_Compare1 (wpAny_mono (hl A env Z s rm f t) (fun x s₁ ⟨hx, k₁⟩ => wpAny_mono (hr A env Z s₁ rm f (t.step k₁)) (fun y s₂ ⟨hy, k₂⟩ =>
    wpAny_mono (h A Z s₂ x y rm (Has.keeps (kp_kept k₂) hx) hy) (fun v s₃ ⟨hv, k₃⟩ => ⟨hv ▸ Has.bool, kp_trans k₁ (kp_trans k₂ k₃)⟩) fun _ _ q => q) fun _ _ q => q) fun _ _ q => q) hm
theorem tr_cmp {l r : Expr} {op : CmpOp} {pos : Pos} {a b : PyData} {v : Bool} (hl : Ev prog w K n c l a) (hr : Ev prog w K n c r b) (h : CmpSpec prog w n op a b v) (hm : behindInMarks op r = false := by with_unfolding_all rfl) :
    Tr prog w K n c (.Compare l [op] [r] pos) v := fun A env Z s rm f t =>
  wpAny_isTrue_Compare1 (wpAny_mono (hl A env Z s rm f t) (fun x s₁ ⟨hx, k₁⟩ => wpAny_mono (hr A env Z s₁ rm f (t.step k₁)) (fun y s₂ ⟨hy, k₂⟩ =>
    wpAny_mono (h A Z s₂ x y rm (Has.keeps (kp_kept k₂) hx) hy) (fun v s₃ ⟨hv, k₃⟩ => hv ▸ wpAny_truthy_bool ⟨rfl, kp_trans k₁ (kp_trans k₂ k₃)⟩) fun _ _ q => q) fun _ _ q => q) fun _ _ q => q) hm

theorem tr_not {x : Expr} {pos : Pos} {b : Bool} (h : Tr prog w K n c x b) : Tr prog w K n c (.UnaryOp .Not x pos) (!b) := fun A env Z s rm f t =>
  wpAny_isTrue_Not (wpAny_mono (h A env Z s rm f t) (fun _ _ ⟨e, k⟩ => ⟨e ▸ rfl, k⟩) fun _ _ q => q)

/-- an «or» of two -/
theorem tr_or {x y : Expr} {pos : Pos} {a b : Bool} (hx : Tr prog w K n c x a) (hy : a = false → Tr prog w K n c y b) : Tr prog w K n c (.BoolOp .Or [x, y] pos) (a || b) := fun A env Z s rm f t =>
  wpAny_isTrue_BoolOp (wpAny_allTrue_Or_cons (wpAny_mono (hx A env Z s rm f t) (fun r s₁ ⟨e, k⟩ => by
    subst e
    cases r with
    | true => exact ⟨rfl, k⟩
    | false => exact wpAny_allTrue_Or_cons (wpAny_mono (hy rfl A env Z s₁ rm f (t.step k)) (fun r s₂ ⟨e, k'⟩ => by
        subst e
        cases r with
        | true => exact ⟨rfl, kp_trans k k'⟩
        | false => exact wpAny_allTrue_Or_nil ⟨rfl, kp_trans k k'⟩) fun _ _ q => q)) fun _ _ q => q))
theorem tr_and {x y : Expr} {pos : Pos} {a b : Bool} (hx : Tr prog w K n c x a) (hy : a = true → Tr prog w K n c y b) : Tr prog w K n c (.BoolOp .And [x, y] pos) (a && b) := fun A env Z s rm f t =>
  wpAny_isTrue_BoolOp (wpAny_allTrue_And_cons (wpAny_mono (hx A env Z s rm f t) (fun r s₁ ⟨e, k⟩ => by
    subst e
    cases r with
    | false => exact ⟨rfl, k⟩
    | true => exact wpAny_allTrue_And_cons (wpAny_mono (hy rfl A env Z s₁ rm f (t.step k)) (fun r s₂ ⟨e, k'⟩ => by
        subst e
        cases r with
        | false => exact ⟨rfl, kp_trans k k'⟩
        | true => exact wpAny_allTrue_And_nil ⟨rfl, kp_trans k k'⟩) fun _ _ q => q)) fun _ _ q => q))
/-- «x and y» as a value, both bools -/
theorem ev_and {x y : Expr} {pos : Pos} {a b : Bool} (hx : Ev prog w K n c x (.bool a)) (hy : a = true → Ev prog w K n c y (.bool b)) : Ev prog w K n c (.BoolOp .And [x, y] pos) (.bool (a && b)) := fun A env Z s rm f t =>
  wpAny_And2 (wpAny_mono (hx A env Z s rm f t) (fun v s₁ ⟨hv, k⟩ => by
    rw [hv.bool_inv]
    refine wpAny_truthy_bool ?_
    cases a with
    | false => exact ⟨Has.bool, k⟩
    | true => exact wpAny_mono (hy rfl A env Z s₁ rm f (t.step k)) (fun v s₂ ⟨hv, k'⟩ => ⟨by simpa using hv, kp_trans k k'⟩) fun _ _ q => q) fun _ _ q => q)
theorem ev_ifexp {x y z : Expr} {pos : Pos} {b : Bool} {d : PyData} (h : Tr prog w K n c x b) (hy : b = true → Ev prog w K n c y d) (hz : b = false → Ev prog w K n c z d) : Ev prog w K n c (.IfExp x y z pos) d := fun A env Z s rm f t =>
  wpAny_IfExp (wpAny_mono (h A env Z s rm f t) (fun r s₁ ⟨e, k⟩ => by
    subst e
    cases r with
    | true => exact wpAny_mono (hy rfl A env Z s₁ rm f (t.step k)) (fun v s₂ ⟨hv, k'⟩ => ⟨hv, kp_trans k k'⟩) fun _ _ q => q
    | false => exact wpAny_mono (hz rfl A env Z s₁ rm f (t.step k)) (fun v s₂ ⟨hv, k'⟩ => ⟨hv, kp_trans k k'⟩) fun _ _ q => q) fun _ _ q => q)
/-- truth of a value that is a str, a bool, a list, a tuple .. -/
def TruthSpec (prog : Program) (w : World) (n : Nat) (d : PyData) (b : Bool) : Prop :=
  ∀ A Z (s : Shared) x, Rm n A → Has Z s.heap x d → wpAny (model prog w) A (truthy x) (fun r s' => r = b ∧ Keeps s s') noE s
theorem tr_value {e : Expr} {d : PyData} {b : Bool} (h : Ev prog w K n c e d) (q : TruthSpec prog w n d b) (he : ∀ env whole, isTrue e env whole = (do let v ← whole; standAt e.pos; holding [v] (truthy v)) := by intro _ _; rfl) : Tr prog w K n c e b := fun A env Z s rm f t =>
  wpAny_isTrue_value (wpAny_mono (h A env Z s rm f t) (fun v s₁ ⟨hv, k⟩ => wpAny_mono (q A Z s₁ v rm hv) (fun _ _ ⟨e, k'⟩ => ⟨e, kp_trans k k'⟩) fun _ _ q => q) fun _ _ q => q) (he env _)

/-! ### binary operators -/
theorem bin_add_int {a b : Int} : BinSpec prog w n .Add (.int a) (.int b) (.int (a + b)) := fun A Z s x y _ _ hx hy => by
  obtain ⟨t, rfl⟩ := hx.int_inv; obtain ⟨u, rfl⟩ := hy.int_inv
  exact PyProof.Rows.add_int ⟨Has.int, kp_tok s _⟩
theorem bin_sub_int {a b : Int} : BinSpec prog w n .Sub (.int a) (.int b) (.int (a - b)) := fun A Z s x y _ _ hx hy => by
  obtain ⟨t, rfl⟩ := hx.int_inv; obtain ⟨u, rfl⟩ := hy.int_inv
  exact PyProof.Rows.sub_int ⟨Has.int, kp_tok s _⟩
theorem bin_and_int {a b : Int} : BinSpec prog w n .BitAnd (.int a) (.int b) (.int (Builtin.bitAnd a b)) := fun A Z s x y _ _ hx hy => by
  obtain ⟨t, rfl⟩ := hx.int_inv; obtain ⟨u, rfl⟩ := hy.int_inv
  exact PyProof.Rows.and_int ⟨Has.int, kp_tok s _⟩
theorem bin_or_int {a b : Int} : BinSpec prog w n .BitOr (.int a) (.int b) (.int (Builtin.bitOr a b)) := fun A Z s x y _ _ hx hy => by
  obtain ⟨t, rfl⟩ := hx.int_inv; obtain ⟨u, rfl⟩ := hy.int_inv
  exact PyProof.Rows.or_int ⟨Has.int, kp_tok s _⟩
theorem bin_div_int {a b : Int} (hb : b ≠ 0) (hs : b.natAbs < 1073741824) : BinSpec prog w n .FloorDiv (.int a) (.int b) (.int (a.fdiv b)) := fun A Z s x y _ _ hx hy => by
  obtain ⟨t, rfl⟩ := hx.int_inv; obtain ⟨u, rfl⟩ := hy.int_inv
  exact PyProof.Rows.floordiv_int hb ⟨Has.int, kp_tok s _⟩ (.inl (PyProof.noPylong_small hs))
theorem bin_mod_int {a b : Int} (hb : b ≠ 0) (hs : b.natAbs < 1073741824) : BinSpec prog w n .Mod (.int a) (.int b) (.int (a.fmod b)) := fun A Z s x y _ _ hx hy => by
  obtain ⟨t, rfl⟩ := hx.int_inv; obtain ⟨u, rfl⟩ := hy.int_inv
  exact PyProof.Rows.mod_int' hb ⟨Has.int, kp_tok s _⟩
theorem bin_pow_int {a k : Int} (hn : 0 ≤ k) (hsz : (Builtin.Int.intBits a : Int) * k ≤ 2 ^ 27) : BinSpec prog w n .Pow (.int a) (.int k) (.int (a ^ k.toNat)) := fun A Z s x y _ _ hx hy => by
  obtain ⟨t, rfl⟩ := hx.int_inv; obtain ⟨u, rfl⟩ := hy.int_inv
  exact PyProof.Rows.pow_int hn hsz ⟨Has.int, kp_tok s _⟩
theorem bin_mul_int {a b : Int} (hm : IntMulOk a b) : BinSpec prog w n .Mult (.int a) (.int b) (.int (a * b)) := fun A Z s x y _ _ hx hy => by
  obtain ⟨t, rfl⟩ := hx.int_inv; obtain ⟨u, rfl⟩ := hy.int_inv
  exact PyProof.Rows.mul_int ⟨Has.int, kp_tok s _⟩ hm
theorem bin_sub_bool {a b : Bool} : BinSpec prog w n .Sub (.bool a) (.bool b) (.int (b2i a - b2i b)) := fun A Z s x y _ _ hx hy => by
  rw [hx.bool_inv, hy.bool_inv]
  exact PyProof.Rows.sub_bool ⟨Has.int, kp_tok s _⟩
theorem bin_add_str {a b : Str} (hsz : a.length + b.length ≤ sizeLine) : BinSpec prog w n .Add (.str a) (.str b) (.str (a ++ b)) := fun A Z s x y _ _ hx hy => by
  obtain ⟨t, rfl⟩ := hx.str_inv; obtain ⟨u, rfl⟩ := hy.str_inv
  exact PyProof.Rows.add_str (fun t' tk => ⟨Has.str, kp_tok s _⟩) hsz

/-! ### comparisons -/
theorem cmp_eq_int {a b : Int} : CmpSpec prog w n .Eq (.int a) (.int b) (a == b) := fun A Z s x y _ hx hy => by
  obtain ⟨t, rfl⟩ := hx.int_inv; obtain ⟨u, rfl⟩ := hy.int_inv
  exact PyProof.Rows.eq_int ⟨rfl, kp_refl s⟩
theorem cmp_lt_int {a b : Int} : CmpSpec prog w n .Lt (.int a) (.int b) (decide (a < b)) := fun A Z s x y _ hx hy => by
  obtain ⟨t, rfl⟩ := hx.int_inv; obtain ⟨u, rfl⟩ := hy.int_inv
  exact PyProof.Rows.lt_int ⟨rfl, kp_refl s⟩
theorem cmp_eq_str {a b : Str} : CmpSpec prog w n .Eq (.str a) (.str b) (a == b) := fun A Z s x y _ hx hy => by
  obtain ⟨t, rfl⟩ := hx.str_inv; obtain ⟨u, rfl⟩ := hy.str_inv
  exact PyProof.Rows.eq_str ⟨rfl, kp_refl s⟩
theorem cmp_ne_str {a b : Str} : CmpSpec prog w n .NotEq (.str a) (.str b) (a != b) := fun A Z s x y _ hx hy => by
  obtain ⟨t, rfl⟩ := hx.str_inv; obtain ⟨u, rfl⟩ := hy.str_inv
  exact PyProof.Rows.ne_str ⟨rfl, kp_refl s⟩
theorem cmp_lt_str {a b : Str} : CmpSpec prog w n .Lt (.str a) (.str b) (decide (a.cps.toList < b.cps.toList)) := fun A Z s x y _ hx hy => by
  obtain ⟨t, rfl⟩ := hx.str_inv; obtain ⟨u, rfl⟩ := hy.str_inv
  exact PyProof.Rows.lt_str ⟨rfl, kp_refl s⟩
theorem cmp_gt_str {a b : Str} : CmpSpec prog w n .Gt (.str a) (.str b) (decide (b.cps.toList < a.cps.toList)) := fun A Z s x y _ hx hy => by
  obtain ⟨t, rfl⟩ := hx.str_inv; obtain ⟨u, rfl⟩ := hy.str_inv
  exact PySem.P.gt_str ⟨rfl, kp_refl s⟩
/-- == of any two shaped data -/
theorem cmp_eq_data {a b : PyData} (ha : SeqAt.shaped a = true) (hb : SeqAt.shaped b = true) : CmpSpec prog w n .Eq a b (PyData.eqv a b) := fun A Z s x y rm hx hy => by
  obtain ⟨as, ra⟩ := hx.reads; obtain ⟨bs, rb⟩ := hy.reads
  exact eq_dataH ra rb ha hb (by have := rm.units; omega) ⟨rfl, kp_refl s⟩
theorem cmp_ne_data {a b : PyData} (ha : SeqAt.shaped a = true) (hb : SeqAt.shaped b = true) : CmpSpec prog w n .NotEq a b (!PyData.eqv a b) := fun A Z s x y rm hx hy => by
  obtain ⟨as, ra⟩ := hx.reads; obtain ⟨bs, rb⟩ := hy.reads
  exact ne_dataH ra rb ha hb (by have := rm.units; omega) ⟨rfl, kp_refl s⟩

/-! ### displays -/
def EvAll (prog : Program) (w : World) (K : Frag) (n : Nat) (c : Cx) (es : List Expr) (ds : List PyData) : Prop :=
  ∀ A env Z (s : Shared) pos, Rm n A → FrameOk env c.names → Sta K env c Z s.heap →
    wpAny (model prog w) A (spliced (backTo pos (starEach es env))) (fun vs s' => HasAll Z s'.heap vs ds ∧ Keeps s s') noE s
theorem evs_nil : EvAll prog w K n c [] [] := fun _ _ _ s _ _ _ _ => wpAny_items_nil ⟨HasAll.nil, kp_refl s⟩
theorem evs_cons {e : Expr} {es : List Expr} {d : PyData} {ds : List PyData} (h : Ev prog w K n c e d) (hs : EvAll prog w K n c es ds) (he : ∀ env, starEach (e :: es) env = (false, eval e env) :: starEach es env := by intro _; rfl) :
    EvAll prog w K n c (e :: es) (d :: ds) := fun A env Z s pos rm f t =>
  wpAny_items_cons (wpAny_mono (h A env Z s rm f t) (fun v s₁ ⟨hv, k⟩ => wpAny_mono (hs A env Z s₁ pos rm f (t.step k)) (fun vs s₂ ⟨hvs, k'⟩ => ⟨HasAll.cons (Has.keeps (kp_kept k') hv) hvs, kp_trans k k'⟩) fun _ _ q => q) fun _ _ q => q) (he env)

theorem new_notin {Z : List Addr} {h : Heap} (hz : ∀ z ∈ Z, (h.get? z).isSome = true) : h.objs.size ∉ Z := fun hm => by
  have := hz _ hm
  rw [Heap.get?_none_of_le (Nat.le_refl _)] at this
  cases this
theorem ev_tuple {es : List Expr} {k : Nat} {pos : Pos} {ds : List PyData} (h : EvAll prog w K n c es ds) (hsz : ds.length ≤ sizeLine) : Ev prog w K n c (.Tuple es k pos) (.tuple ds) := fun A env Z s rm f t =>
  wpAny_Tuple (wpAny_mono (h A env Z s pos rm f t) (fun vs s₁ ⟨hv, k⟩ => ⟨by rw [hv.length]; exact hsz, Has.tuple (IsTup.new _ _) (by simpa using HasAll.keeps (Kept.push _ _) hv), kp_trans k (kp_push _ _)⟩) fun _ _ q => q)
theorem ev_list {es : List Expr} {pos : Pos} {ds : List PyData} (h : EvAll prog w K n c es ds) (hsz : ds.length ≤ sizeLine) : Ev prog w K n c (.List es pos) (.list ds) := fun A env Z s rm f t =>
  wpAny_List (wpAny_mono (h A env Z s pos rm f t) (fun vs s₁ ⟨hv, k⟩ => ⟨by rw [hv.length]; exact hsz, Has.list ⟨_, Heap.get?_push_size _ rfl, rfl, _, rfl⟩ (new_notin (t.step k).zs) (by simpa using HasAll.keeps (Kept.push _ _) hv), kp_trans k (kp_push _ _)⟩) fun _ _ q => q)
end
end
noncomputable section
open PySem PySem.W PySem.Calls PySem.Spec PyProof.Rows
set_option autoImplicit false
section
variable {prog : Program} {w : World} {K : Frag} {n : Nat} {c : Cx}

/-! ### names of the top and of the built-ins -/
theorem glob_kind {env : Env} {names : List (Str × NameKind)} {x : Str} (f : FrameOk env names) (h : names.lookup x = some .globalImplicit) : env.kindOf x = some .globalImplicit := by
  rcases f.kinds x _ h with e | ⟨e, _⟩
  · exact e
  · cases e
theorem name_glob {M : Model} {A : Around} {E : Value → Shared → Prop} {s : Shared} {env : Env} {x : Str} {p : Pos} {v : Value} {Q : Value → Shared → Prop} (f : FrameOk env c.names) (b : Base K s.heap)
    (hk : c.names.lookup x = some .globalImplicit) (hg : nsIn K mainGlobals x = some (some v)) (h : Q v s) (hd : (x == ("__debug__" : Str)) = false) : wpAny M A (eval (.Name x p) env) Q E s := by
  refine Calls.Name_function_global f.kind (glob_kind f hk) ?_ hd
  unfold loadGlobal
  rw [f.glob]
  exact wpAny_bind ((looks_nsIn b.frag hg).here (wpAny_pure h))
theorem name_blt {M : Model} {A : Around} {E : Value → Shared → Prop} {s : Shared} {env : Env} {x : Str} {p : Pos} {v : Value} {Q : Value → Shared → Prop} (f : FrameOk env c.names) (b : Base K s.heap)
    (hk : c.names.lookup x = some .globalImplicit) (hg : nsIn K mainGlobals x = some none) (hv : bootBuiltins x = some v) (h : Q v s) (hd : (x == ("__debug__" : Str)) = false) (hn : (x == ("__name__" : Str)) = false) : wpAny M A (eval (.Name x p) env) Q E s := by
  refine Calls.Name_function_global f.kind (glob_kind f hk) ?_ hd
  unfold loadGlobal
  rw [f.glob, f.blt]
  refine wpAny_bind ((looks_nsIn b.frag hg).here ?_)
  obtain ⟨mb, hb, he⟩ := b.blt
  refine wpAny_bind (wpAny_nsGet hb ?_)
  rw [he x (by simpa using hn), hv]
  exact wpAny_pure h

/-! ### calls -/
def FnSpec (prog : Program) (w : World) (K : Frag) (n : Nat) (f : Addr) (ds : List PyData) (d : PyData) : Prop :=
  ∀ A Z (s : Shared) vs, Rm n A → Base K s.heap → (∀ z ∈ Z, (s.heap.get? z).isSome = true) → HasAll Z s.heap vs ds →
    wpAny (model prog w) A (call (.ref f) vs) (fun v s' => Has Z s'.heap v d ∧ Keeps s s') noE s

theorem ev_call {x : Str} {p pos : Pos} {e : Expr} {es : List Expr} {f : Addr} {ds : List PyData} {d : PyData} (hargs : EvAll prog w K n c (e :: es) ds) (hf : FnSpec prog w K n f ds d)
    (hk : c.names.lookup x = some .globalImplicit) (hg : nsIn K mainGlobals x = some (some (.ref f))) (hkeep : keepIn K (.ref f) = true) (hd : (x == ("__debug__" : Str)) = false := by rfl)
    (he : ∀ env, starEach (e :: es) env = (false, eval e env) :: starEach es env := by intro _; rfl) (hp : ∀ env, (backTo pos (starEach es env)).any (·.1) = false := by intro _; rfl) :
    Ev prog w K n c (.Call (.Name x p) (e :: es) [] pos) d := fun A env Z s rm f t => by
  refine wpAny_Call_NameR (name_glob f t.base hk hg ?_ hd)
  refine callWith_K t.base.frag hkeep (wpAny_mono (hargs A env Z s pos rm f t) (fun vs s₁ ⟨hv, k⟩ => ⟨(t.step k).base.frag, ?_⟩) fun _ _ q => q) (he env) (hp env)
  exact wpAny_mono (hf A Z s₁ vs rm (t.step k).base (t.step k).zs hv) (fun v s₂ ⟨hv, k'⟩ => ⟨hv, kp_trans k k'⟩) fun _ _ q => q

/-- len of a list -/
theorem ev_len {p pos : Pos} {e : Expr} {ds : List PyData} (h : EvW prog w K n c e ds) (hk : c.names.lookup ("len" : Str) = some .globalImplicit) (hg : nsIn K mainGlobals ("len" : Str) = some none) (hsz : ds.length < 2 ^ 62)
    (he : ∀ env, starEach [e] env = [(false, eval e env)] := by intro _; rfl) : Ev prog w K n c (.Call (.Name ("len" : Str) p) [e] [] pos) (.int ds.length) := fun A env Z s rm f t => by
  refine wpAny_Call_NameR (name_blt (v := .builtin "len") f t.base hk hg (by decide +kernel) ?_ rfl rfl)
  rw [he env]
  refine callWith_builtin1 (wpAny_mono (h A env Z s rm f t) (fun v s₁ ⟨hv, k⟩ => ?_) fun _ _ q => q)
  obtain ⟨a, vs, rfl, hl, hall⟩ := hv
  have e : vs.size = ds.length := by rw [← Array.length_toList, hall.length]
  refine len_list hl (by rw [e]; omega) ?_
  rw [e]
  exact ⟨Has.int, kp_trans k (kp_tok _ _)⟩

/-! ### items -/
theorem ev_item_list {value idx : Expr} {pos : Pos} {ds : List PyData} {k : Int} {d : PyData} (hv : EvW prog w K n c value ds) (hi : Ev prog w K n c idx (.int k)) (h0 : 0 ≤ k) (hd : ds[k.toNat]? = some d) (hlt : k < 2 ^ 63)
    (hs : ∀ o i, subscripted idx false o i = operate [o, i] (getItem o i) := by intro _ _; rfl) : Ev prog w K n c (.Subscript value idx pos) d := fun A env Z s rm f t =>
  Subscript_ (wpAny_mono (hv A env Z s rm f t) (fun v s₁ ⟨hv, k₁⟩ => wpAny_mono (hi A env Z s₁ rm f (t.step k₁)) (fun i s₂ ⟨hi, k₂⟩ => by
    obtain ⟨a, vs, rfl, hl, hall⟩ := hv.keeps (kp_kept k₂)
    obtain ⟨u, rfl⟩ := hi.int_inv
    obtain ⟨v, hv, hh⟩ := hall.get hd
    exact tail_any hl.typeIs slot_list_getitem.lookup (wpAny_getItem_list hl h0 hlt (by simpa using hv) ⟨hh, kp_trans k₁ k₂⟩) (hs _ _)) fun _ _ q => q) fun _ _ q => q)
theorem ev_item_tuple {value idx : Expr} {pos : Pos} {ds : List PyData} {k : Int} {d : PyData} (hv : Ev prog w K n c value (.tuple ds)) (hi : Ev prog w K n c idx (.int k)) (h0 : 0 ≤ k) (hd : ds[k.toNat]? = some d) (hlt : k < 2 ^ 63)
    (hs : ∀ o i, subscripted idx false o i = operate [o, i] (getItem o i) := by intro _ _; rfl) : Ev prog w K n c (.Subscript value idx pos) d := fun A env Z s rm f t =>
  Subscript_ (wpAny_mono (hv A env Z s rm f t) (fun v s₁ ⟨hv, k₁⟩ => wpAny_mono (hi A env Z s₁ rm f (t.step k₁)) (fun i s₂ ⟨hi, k₂⟩ => by
    obtain ⟨a, vs, rfl, hl, hall⟩ := (Has.keeps (kp_kept k₂) hv).tuple_inv
    obtain ⟨u, rfl⟩ := hi.int_inv
    obtain ⟨v, hv, hh⟩ := hall.get hd
    have hlen : k.toNat < vs.size := by
      have := (List.getElem?_eq_some_iff.mp hv).1
      simpa using this
    exact tail_any hl.typeIs PyProof.Rows.slot_tuple_getitem.lookup (getItem_tuple hl (by omega) hlt (seqIndex_of h0 (by omega)) (by simpa using hv) ⟨hh, kp_trans k₁ k₂⟩) (hs _ _)) fun _ _ q => q) fun _ _ q => q)
theorem ev_item_str {value idx : Expr} {pos : Pos} {x : Str} {k : Int} {ch : Nat} (hv : Ev prog w K n c value (.str x)) (hi : Ev prog w K n c idx (.int k)) (h0 : 0 ≤ k) (hd : x.cps[k.toNat]? = some ch) (hlt : k < 2 ^ 63)
    (hs : ∀ o i, subscripted idx false o i = operate [o, i] (getItem o i) := by intro _ _; rfl) : Ev prog w K n c (.Subscript value idx pos) (.str ⟨#[ch]⟩) := fun A env Z s rm f t =>
  Subscript_ (wpAny_mono (hv A env Z s rm f t) (fun v s₁ ⟨hv, k₁⟩ => wpAny_mono (hi A env Z s₁ rm f (t.step k₁)) (fun i s₂ ⟨hi, k₂⟩ => by
    obtain ⟨u, rfl⟩ := hi.int_inv
    obtain ⟨u', rfl⟩ := hv.str_inv
    have hlen : k.toNat < x.length := (Array.getElem?_eq_some_iff.mp hd).1
    exact tail_any (typeIs_str _ _ _) F.slot_str_getitem.lookup (PyProof.Rows.getItem_str (by simp; omega) (by rw [seqIndex_of h0 (by omega)]; exact hd) ⟨Has.str, kp_trans k₁ (kp_trans k₂ (kp_tok _ _))⟩) (hs _ _)) fun _ _ q => q) fun _ _ q => q)

/-! ### slices -/
def Part (prog : Program) (w : World) (K : Frag) (n : Nat) (c : Cx) (e : Option Expr) (k : Option Int) : Prop :=
  ∀ A env Z (s : Shared), Rm n A → FrameOk env c.names → Sta K env c Z s.heap →
    wpAny (model prog w) A (evalPart e env) (fun v s' => IsPart v k ∧ Keeps s s') noE s
theorem part_none : Part prog w K n c none none := fun A env Z s _ _ _ => by rw [evalPart_none]; exact wpAny_pure ⟨.none, kp_refl s⟩
theorem part_some {e : Expr} {k : Int} (h : Ev prog w K n c e (.int k)) : Part prog w K n c (some e) (some k) := fun A env Z s rm f t => by
  rw [evalPart_some]
  exact wpAny_mono (h A env Z s rm f t) (fun v s₁ ⟨hv, k⟩ => by obtain ⟨u, rfl⟩ := hv.int_inv; exact ⟨.int _ _, k⟩) fun _ _ q => q

theorem ev_slice_list {value : Expr} {lower upper : Option Expr} {p pos : Pos} {ds es : List PyData} {lo hi : Option Int} (hv : EvW prog w K n c value ds) (hl : Part prog w K n c lower lo) (hu : Part prog w K n c upper hi)
    (hsz : ds.length ≤ sizeLine) (hes : ∀ (Z : List Addr) (h : Heap) (vs : Array Value), HasAll Z h vs.toList ds → HasAll Z h (slicePick vs lo hi none).toList es) :
    Ev prog w K n c (.Subscript value (.Slice lower upper none p) pos) (.list es) := fun A env Z s rm f t =>
  Subscript_ (wpAny_mono (hv A env Z s rm f t) (fun v s₁ ⟨hv, k₁⟩ => wpAny_Slice (wpAny_mono (hl A env Z s₁ rm f (t.step k₁)) (fun vl s₂ ⟨pl, k₂⟩ =>
    wpAny_mono (hu A env Z s₂ rm f ((t.step k₁).step k₂)) (fun vu s₃ ⟨pu, k₃⟩ => by
      rw [evalPart_none]
      refine wpAny_pure ?_
      obtain ⟨a, vs, rfl, hls, hall⟩ := hv.keeps ((kp_kept k₂).trans (kp_kept k₃))
      have e : vs.size = ds.length := by rw [← Array.length_toList, hall.length]
      have t3 := ((t.step k₁).step k₂).step k₃
      refine tail_any (hls.push _).typeIs slot_list_getitem.lookup (wpAny_getItem_list_slice (hls.push _) (Heap.IsSliceOf.new ..) pl pu .none (by simp) ?_ (by rw [e]; exact hsz)) (ops := [_, _]) rfl
      refine ⟨Has.list ⟨_, Heap.get?_push_size _ rfl, rfl, _, rfl⟩ ?_ (HasAll.keeps ((Kept.push _ _).trans (Kept.push _ _)) (hes Z _ vs hall)), kp_trans k₁ (kp_trans k₂ (kp_trans k₃ (kp_trans (kp_push _ _) (kp_push _ _))))⟩
      exact new_notin (t3.keeps (Kept.push _ _)).zs) fun _ _ q => q) fun _ _ q => q)) fun _ _ q => q)
theorem ev_upto {value : Expr} {e : Expr} {p pos : Pos} {ds : List PyData} {b : Nat} (hv : EvW prog w K n c value ds) (hu : Ev prog w K n c e (.int b)) (hsz : ds.length ≤ sizeLine) :
    Ev prog w K n c (.Subscript value (.Slice none (some e) none p) pos) (.list (ds.take b)) :=
  ev_slice_list hv part_none (part_some hu) hsz fun Z h vs x => by rw [slicePick_upto']; simpa using x.take b
theorem ev_from {value : Expr} {e : Expr} {p pos : Pos} {ds : List PyData} {b : Nat} (hv : EvW prog w K n c value ds) (hu : Ev prog w K n c e (.int b)) (hsz : ds.length ≤ sizeLine) :
    Ev prog w K n c (.Subscript value (.Slice (some e) none none p) pos) (.list (ds.drop b)) :=
  ev_slice_list hv (part_some hu) part_none hsz fun Z h vs x => by rw [slicePick_from']; simpa using x.drop b
theorem ev_butlast {value : Expr} {e : Expr} {p pos : Pos} {ds : List PyData} (hv : EvW prog w K n c value ds) (hu : Ev prog w K n c e (.int (-1))) (hsz : ds.length ≤ sizeLine) :
    Ev prog w K n c (.Subscript value (.Slice none (some e) none p) pos) (.list (ds.take (ds.length - 1))) :=
  ev_slice_list hv part_none (part_some hu) hsz fun Z h vs x => by
    have e : vs.size = ds.length := by rw [← Array.length_toList, x.length]
    rw [show (-1 : Int) = -((1 : Nat) : Int) from rfl, slicePick_butLast _ 1 (Nat.le_refl _), e]; simpa using x.take (ds.length - 1)

/-! ### methods of str -/
theorem ev_method {o : Expr} {name : Str} {apos pos : Pos} {a : Expr} {x : Str} {id : String} {d : PyData} (ho : Ev prog w K n c o (.str x)) (slot : Slot "str" name id) (hty : typeOf (.builtin id) = pure (.type "method_descriptor"))
    (hc : ∀ A env Z (s : Shared) t, Rm n A → FrameOk env c.names → Sta K env c Z s.heap → wpAny (model prog w) A (eval a env) (fun v s₁ => wpAny (model prog w) A (call (.builtin id) [.str x t, v]) (fun r s' => Has Z s'.heap r d ∧ Keeps s s') noE s₁) noE s)
    (hbase : ∀ env, attributeBase o name env (eval o env) = eval o env := by intro _; rfl) (hline : (apos.endLine == pos.line) = true := by rfl) (he : ∀ env, starEach [a] env = [(false, eval a env)] := by intro _; rfl) :
    Ev prog w K n c (.Call (.Attribute o name apos) [a] [] pos) d := fun A env Z s rm f t => by
  refine wpAny_Call_method (hbase env) (by rw [he env]; rfl) hline F.plainAttrs_str slot hty (wpAny_mono (ho A env Z s rm f t) (fun v s₁ ⟨hv, k⟩ => ?_) fun _ _ q => q)
  obtain ⟨u, rfl⟩ := hv.str_inv
  refine ⟨typeIs_str _ _ _, (fun _ e => (nomatch e)), ?_⟩
  rw [he env]
  refine Calls.callWith_builtin rfl (Calls.evalArgs_plain (Calls.spliced_cons (wpAny_mono (hc A env Z s₁ u rm f (t.step k)) (fun v s₂ h₂ => Calls.spliced_nil ?_) fun _ _ q => q)))
  exact wpAny_mono h₂ (fun r s₃ ⟨hr, k'⟩ => ⟨hr, kp_trans k k'⟩) fun _ _ q => q
theorem ev_startswith {o a : Expr} {apos pos : Pos} {x y : Str} (ho : Ev prog w K n c o (.str x)) (ha : Ev prog w K n c a (.str y))
    (hbase : ∀ env, attributeBase o ("startswith" : Str) env (eval o env) = eval o env := by intro _; rfl) (hline : (apos.endLine == pos.line) = true := by rfl) (he : ∀ env, starEach [a] env = [(false, eval a env)] := by intro _; rfl) :
    Ev prog w K n c (.Call (.Attribute o ("startswith" : Str) apos) [a] [] pos) (.bool (Txt.startswith x y)) :=
  ev_method ho F.slot_str_startswith F.type_str_startswith (fun A env Z s t rm f st => wpAny_mono (ha A env Z s rm f st) (fun v s₁ ⟨hv, k⟩ => by
    obtain ⟨u, rfl⟩ := hv.str_inv; exact SC.startswith ⟨Has.bool, k⟩) fun _ _ q => q) hbase hline he
theorem ev_endswith {o a : Expr} {apos pos : Pos} {x y : Str} (ho : Ev prog w K n c o (.str x)) (ha : Ev prog w K n c a (.str y))
    (hbase : ∀ env, attributeBase o ("endswith" : Str) env (eval o env) = eval o env := by intro _; rfl) (hline : (apos.endLine == pos.line) = true := by rfl) (he : ∀ env, starEach [a] env = [(false, eval a env)] := by intro _; rfl) :
    Ev prog w K n c (.Call (.Attribute o ("endswith" : Str) apos) [a] [] pos) (.bool (Txt.endswith x y)) :=
  ev_method ho F.slot_str_endswith F.type_str_endswith (fun A env Z s t rm f st => wpAny_mono (ha A env Z s rm f st) (fun v s₁ ⟨hv, k⟩ => by
    obtain ⟨u, rfl⟩ := hv.str_inv; exact SC.endswith ⟨Has.bool, k⟩) fun _ _ q => q) hbase hline he

theorem hasAll_strs {Z : List Addr} {h : Heap} : ∀ (l : List (Str × Tok)), HasAll Z h (strValues l) (l.map fun p => PyData.str p.1)
  | [] => HasAll.nil
  | (x, t) :: l => HasAll.cons Has.str (hasAll_strs l)
theorem hasAll_strs_inv {Z : List Addr} {h : Heap} : ∀ (xs : List Str) (vs : List Value), HasAll Z h vs (xs.map PyData.str) → ∃ l : List (Str × Tok), vs = strValues l ∧ l.map (·.1) = xs
  | [], vs, x => ⟨[], x.nil_inv, rfl⟩
  | y :: xs, vs, x => by
    obtain ⟨v, r, rfl, a, b⟩ := x.cons_inv
    obtain ⟨t, rfl⟩ := a.str_inv
    obtain ⟨l, rfl, e⟩ := hasAll_strs_inv xs r b
    exact ⟨(y, t) :: l, rfl, by simp [e]⟩

theorem call_split {A : Around} {E : Value → Shared → Prop} {s : Shared} {x y : Str} {t u : Tok} {Q : Value → Shared → Prop} (hy : (y.length == 0) = false)
    (hq : ∀ (l : List (Str × Tok)) tk, l.map (·.1) = Txt.split x y → Q (.ref s.heap.objs.size) { s with heap := s.heap.push { cls := .type "list", data := .seq (strValues l).toArray }, toks := tk })
    (hsz : x.length ≤ sizeLine) (hsz2 : (Builtin.Str.partsBetween x (Builtin.Str.occurrences x y 0 x.length (x.length + 1)) y.length).length ≤ sizeLine) :
    wpAny (model prog w) A (call (.builtin "str.split") [.str x t, .str y u]) Q E s := by
  cases h1 : (decide (x.length < y.length) || decide (Builtin.Str.strKind x < Builtin.Str.strKind y))
  · cases hf : (Builtin.Str.occurrences x y 0 x.length (x.length + 1)).isEmpty
    · refine call_meets F.slot_str_split (typeIs_str _ _ _) F.entry_str_split (F.args_str_split_2 _ _) (meets_str_split_sep x y t u h1 hy hf hsz hsz2) ?_
      show wants Q E _ { s with toks := _, heap := s.heap.push { cls := .type "list", data := .seq (strsFrom s.toks (Builtin.Str.partsBetween x (Builtin.Str.occurrences x y 0 x.length (x.length + 1)) y.length)).toArray } }
      rw [strsFrom_eq]
      exact hq (numbered s.toks _) _ ((numbered_texts _ _).trans ((if_neg (ne_true_of_eq_false h1)).trans (if_neg (ne_true_of_eq_false hf))).symm)
    · exact call_meets F.slot_str_split (typeIs_str _ _ _) F.entry_str_split (F.args_str_split_2 _ _) (meets_str_split_not_found x y t u h1 hy hf)
        (hq [(x, t)] s.toks ((if_neg (ne_true_of_eq_false h1)).trans (if_pos hf)).symm)
  · exact call_meets F.slot_str_split (typeIs_str _ _ _) F.entry_str_split (F.args_str_split_2 _ _) (meets_str_split_cannot_occur x y t u h1)
      (hq [(x, t)] s.toks (if_pos h1).symm)
theorem ev_split {o a : Expr} {apos pos : Pos} {x y : Str} (ho : Ev prog w K n c o (.str x)) (ha : Ev prog w K n c a (.str y)) (hy : (y.length == 0) = false) (hsz : x.length ≤ sizeLine) (hsz2 : (Builtin.Str.partsBetween x (Builtin.Str.occurrences x y 0 x.length (x.length + 1)) y.length).length ≤ sizeLine)
    (hbase : ∀ env, attributeBase o ("split" : Str) env (eval o env) = eval o env := by intro _; rfl) (hline : (apos.endLine == pos.line) = true := by rfl) (he : ∀ env, starEach [a] env = [(false, eval a env)] := by intro _; rfl) :
    Ev prog w K n c (.Call (.Attribute o ("split" : Str) apos) [a] [] pos) (.list ((Txt.split x y).map PyData.str)) :=
  ev_method ho F.slot_str_split F.type_str_split (fun A env Z s t rm f st => wpAny_mono (ha A env Z s rm f st) (fun v s₁ ⟨hv, k⟩ => by
    obtain ⟨u, rfl⟩ := hv.str_inv
    refine call_split hy (fun l tk hl => ?_) hsz hsz2
    refine ⟨Has.list ⟨_, Heap.get?_push_size _ rfl, rfl, _, rfl⟩ (new_notin (st.step k).zs) ?_, kp_trans k (kp_trans (kp_push _ _) (kp_tok _ _))⟩
    have hall := hasAll_strs (Z := Z) (h := s₁.heap.push { cls := .type "list", data := .seq (strValues l).toArray }) l
    rw [show (l.map fun p => PyData.str p.1) = (Txt.split x y).map PyData.str by rw [← hl, List.map_map]; rfl] at hall
    simpa using hall) fun _ _ q => q) hbase hline he
theorem ev_join {o a : Expr} {apos pos : Pos} {x : Str} {ys : List Str} (ho : Ev prog w K n c o (.str x)) (ha : EvW prog w K n c a (ys.map PyData.str)) (hok : JoinOk x ys = true)
    (hbase : ∀ env, attributeBase o ("join" : Str) env (eval o env) = eval o env := by intro _; rfl) (hline : (apos.endLine == pos.line) = true := by rfl) (he : ∀ env, starEach [a] env = [(false, eval a env)] := by intro _; rfl) :
    Ev prog w K n c (.Call (.Attribute o ("join" : Str) apos) [a] [] pos) (.str (Txt.join x ys)) :=
  ev_method ho F.slot_str_join F.type_str_join (fun A env Z s t rm f st => wpAny_mono (ha A env Z s rm f st) (fun v s₁ ⟨hv, k⟩ => by
    obtain ⟨b, vs, rfl, hl, hall⟩ := hv
    obtain ⟨l, e, hl'⟩ := hasAll_strs_inv _ _ hall
    refine SC.join (l := l) (by rw [← e]; exact hl) hl' hok fun t' tk => ⟨Has.str, kp_trans k (kp_tok _ _)⟩) fun _ _ q => q) hbase hline he

/-! ### more operators -/
theorem bin_add_list {as bs : List PyData} (hsz : as.length + bs.length ≤ sizeLine) : BinSpec prog w n .Add (.list as) (.list bs) (.list (as ++ bs)) := fun A Z s x y rm hz hx hy => by
  obtain ⟨a, vs, rfl, _, hl, hall⟩ := hx.list_inv
  obtain ⟨b, us, rfl, _, hl', hall'⟩ := hy.list_inv
  have e : vs.size = as.length := by rw [← Array.length_toList, hall.length]
  have e' : us.size = bs.length := by rw [← Array.length_toList, hall'.length]
  obtain ⟨⟨cls, dd, data, sl⟩, ho, hc, n, hd⟩ := hl
  obtain ⟨⟨cls2, dd2, data2, sl2⟩, ho2, hc2, n2, hd2⟩ := hl'
  simp only at hc hd hc2 hd2
  subst hc hd hc2 hd2
  refine concat_meets ⟨_, ho, rfl⟩ ⟨_, ho2, rfl⟩ noFill_list_add seq_list_add PySem.F.slot_list_add PySem.F.entry_list_add (PySem.F.args_list_add_2 _ _) (list_addW a b vs us n n2 dd dd2 sl sl2 (by omega)) ⟨ho, ho2, ?_⟩
  exact ⟨Has.list ⟨_, Heap.get?_push_size _ rfl, rfl, _, rfl⟩ (new_notin hz) (by simpa using HasAll.keeps (Kept.push _ _) (hall.append hall')), kp_push _ _⟩
theorem truth_str {x : Str} (hsz : x.length ≤ sizeLine) : TruthSpec prog w n (.str x) ((x.length : Int) != 0) := fun A Z s v rm hv => by
  obtain ⟨t, rfl⟩ := hv.str_inv
  exact PySem.P.truthy_str (by rw [sizeLine_eq] at hsz; omega) ⟨rfl, kp_tok _ _⟩
theorem truth_bool {b : Bool} : TruthSpec prog w n (.bool b) b := fun A Z s v rm hv => by
  rw [hv.bool_inv]; exact wpAny_truthy_bool ⟨rfl, kp_refl s⟩
theorem truth_tuple {ds : List PyData} (hsz : ds.length ≤ sizeLine) : TruthSpec prog w n (.tuple ds) (!ds.isEmpty) := fun A Z s v rm hv => by
  obtain ⟨a, vs, rfl, hl, hall⟩ := hv.tuple_inv
  have e : vs.size = ds.length := by rw [← Array.length_toList, hall.length]
  refine truthy_tuple hl (by rw [e]; rw [sizeLine_eq] at hsz; omega) ?_
  refine ⟨?_, kp_tok _ _⟩
  rw [← List.isEmpty_toArray]
  cases ds with
  | nil => simp at e; simp [e]
  | cons d ds =>
    have e2 : vs ≠ #[] := by rintro rfl; simp at e
    simp [e2]

theorem HasW.reads {Z : List Addr} {h : Heap} {v : Value} {ds : List PyData} (x : HasW Z h v ds) : ∃ as, Reads h v (.list ds) as := by
  obtain ⟨a, vs, rfl, ⟨o, ho, hc, n, hd⟩, r⟩ := x
  obtain ⟨as, q⟩ := r.reads
  exact ⟨a :: as, .list ho hc hd q⟩
theorem tr_notin {l r : Expr} {pos : Pos} {d : PyData} {ds : List PyData} (hl : Ev prog w K n c l d) (hr : EvW prog w K n c r ds) (hc : SeqAt.shaped (.list ds) = true) (hd : SeqAt.shaped d = true) (hm : behindInMarks .NotIn r = false := by with_unfolding_all rfl) :
    Tr prog w K n c (.Compare l [.NotIn] [r] pos) (!(ds.any fun y => PyData.eqv y d)) := fun A env Z s rm f t =>
  wpAny_isTrue_Compare1 (wpAny_mono (hl A env Z s rm f t) (fun x s₁ ⟨hx, k₁⟩ => wpAny_mono (hr A env Z s₁ rm f (t.step k₁)) (fun y s₂ ⟨hy, k₂⟩ => by
    obtain ⟨as, ra⟩ := hy.reads
    obtain ⟨bs, rb⟩ := (Has.keeps (kp_kept k₂) hx).reads
    exact PySem.SeqAt.notIn_list_reads ra rb (SeqAt.canLay_of_shaped hc) (SeqAt.canLay_of_shaped hd) (room_in_shaped hd (by have := rm.units; omega)) (wpAny_truthy_bool ⟨rfl, kp_trans k₁ k₂⟩)) fun _ _ q => q) fun _ _ q => q) hm
end
end
noncomputable section
open PySem PySem.W PySem.Calls PySem.Spec PyProof.Rows
set_option autoImplicit false
def isSeq (o : Obj) : Prop := ∃ xs k, o.data = .seq xs k
def isFlds (o : Obj) : Prop := ∃ vs, o.data = .fields vs
/-- the sequences that are not of Z stay -/
def KeptS (Z : List Addr) (h h' : Heap) : Prop := ∀ b o, h.get? b = some o → isSeq o → (b ∉ Z ∨ o.cls = .type "tuple") → h'.get? b = some o
theorem Kept.s {Z : List Addr} {h h' : Heap} (k : Kept h h') : KeptS Z h h' := fun b o e _ _ => k b o e

mutual
theorem Has.keptS {Z : List Addr} {h h' : Heap} (k : KeptS Z h h') : ∀ {v : Value} {d : PyData}, Has Z h v d → Has Z h' v d
  | _, _, .none => .none
  | _, _, .bool => .bool
  | _, _, .int => .int
  | _, _, .str => .str
  | _, _, .seqL a b c z r => .seqL (k _ _ a ⟨_, _, c⟩ (.inl z)) b c z (HasAll.keptS k r)
  | _, _, .seqT a b c r => .seqT (k _ _ a ⟨_, _, c⟩ (.inr b)) b c (HasAll.keptS k r)
theorem HasAll.keptS {Z : List Addr} {h h' : Heap} (k : KeptS Z h h') : ∀ {v : List Value} {d : List PyData}, HasAll Z h v d → HasAll Z h' v d
  | _, _, .nil => .nil
  | _, _, .cons a b => .cons (Has.keptS k a) (HasAll.keptS k b)
end
-- more addresses to shun: those that are not live
mutual
theorem Has.shun {Z Z' : List Addr} {h : Heap} (k : ∀ z ∈ Z', z ∈ Z ∨ h.get? z = none) : ∀ {v : Value} {d : PyData}, Has Z h v d → Has Z' h v d
  | _, _, .none => .none
  | _, _, .bool => .bool
  | _, _, .int => .int
  | _, _, .str => .str
  | _, _, .seqL a b c z r => .seqL a b c (fun hm => (k _ hm).elim z fun e => by rw [a] at e; cases e) (HasAll.shun k r)
  | _, _, .seqT a b c r => .seqT a b c (HasAll.shun k r)
theorem HasAll.shun {Z Z' : List Addr} {h : Heap} (k : ∀ z ∈ Z', z ∈ Z ∨ h.get? z = none) : ∀ {v : List Value} {d : List PyData}, HasAll Z h v d → HasAll Z' h v d
  | _, _, .nil => .nil
  | _, _, .cons a b => .cons (Has.shun k a) (HasAll.shun k b)
end

/-! ### a frame that writes: its names and its own cells -/
structure FrW (env : Env) (own : List Str) (W : List Addr) (h : Heap) : Prop where
  ns : ∃ m, h.Ns env.locals m
  inW : env.locals ∈ W
  cell : ∀ x ∈ own, ∃ c, env.cells.lookup x = some c ∧ c ∈ W ∧ (∃ v, h.IsCell c v) ∧ ∀ y, env.cells.lookup y = some c → y = x
def Wr (W : List Addr) (h h' : Heap) : Prop := (∀ b o, h.get? b = some o → (b ∉ W ∨ isSeq o ∨ isFlds o) → h'.get? b = some o) ∧ ∀ b, (h.get? b).isSome = true → (h'.get? b).isSome = true
theorem Wr.refl (W : List Addr) (h : Heap) : Wr W h h := ⟨fun _ _ e _ => e, fun _ e => e⟩
theorem Wr.trans {W : List Addr} {h h' h'' : Heap} (x : Wr W h h') (y : Wr W h' h'') : Wr W h h'' := ⟨fun b o e q => y.1 b o (x.1 b o e q) q, fun b e => y.2 b (x.2 b e)⟩
theorem Wr.keptS {W Z : List Addr} {h h' : Heap} (x : Wr W h h') : KeptS Z h h' := fun b o e q _ => x.1 b o e (.inr (.inl q))
theorem Kept.some {h h' : Heap} (k : Kept h h') (b : Addr) (e : (h.get? b).isSome = true) : (h'.get? b).isSome = true := by
  obtain ⟨o, ho⟩ := Option.isSome_iff_exists.mp e; rw [k b o ho]; rfl
theorem Kept.wr {W : List Addr} {h h' : Heap} (k : Kept h h') : Wr W h h' := ⟨fun b o e _ => k b o e, k.some⟩
theorem FrW.keeps {env : Env} {own : List Str} {W : List Addr} {h h' : Heap} (x : FrW env own W h) (k : Kept h h') : FrW env own W h' :=
  ⟨let ⟨m, e⟩ := x.ns; ⟨m, e.keeps k⟩, x.inW, fun y hy => let ⟨c, a, b, ⟨v, q⟩, e⟩ := x.cell y hy; ⟨c, a, b, ⟨v, q.keeps k⟩, e⟩⟩

theorem ns_not_seq {h : Heap} {L b : Addr} {m : Str → Option Value} {o : Obj} (n : h.Ns L m) (e : h.get? b = some o) (q : isSeq o ∨ isFlds o) : b ≠ L := by
  rintro rfl
  obtain ⟨o', es, ep, e', hd, _⟩ := n
  rw [e] at e'; cases e'
  rcases q with ⟨xs, k, q⟩ | ⟨xs, q⟩ <;> rw [hd] at q <;> cases q
theorem cell_not_seq {h : Heap} {L b : Addr} {v : Option Value} {o : Obj} (n : h.IsCell L v) (e : h.get? b = some o) (q : isSeq o ∨ isFlds o) : b ≠ L := by
  rintro rfl
  obtain ⟨o', e', hd⟩ := n
  rw [e] at e'; cases e'
  rcases q with ⟨xs, k, q⟩ | ⟨xs, q⟩ <;> rw [hd] at q <;> cases q
theorem ns_not_cell {h : Heap} {L c : Addr} {m : Str → Option Value} {v : Option Value} (n : h.Ns L m) (e : h.IsCell c v) : c ≠ L := by
  rintro rfl
  obtain ⟨o', es, ep, e', hd, _⟩ := n
  obtain ⟨o, e, hd'⟩ := e
  rw [e] at e'; cases e'; rw [hd] at hd'; cases hd'
theorem same_some {b a : Addr} {h h' : Heap} (hs : Heap.SameBut a h h') (ha : (h'.get? a).isSome = true) (e : (h.get? b).isSome = true) : (h'.get? b).isSome = true := by
  by_cases q : b = a
  · subst q; exact ha
  · rw [hs.2 b q]; exact e

theorem store {M : Model} {A : Around} {E : Value → Shared → Prop} {s : Shared} {env : Env} {own : List Str} {W : List Addr} {x : Str} {v : Value} {Q : Unit → Shared → Prop} (hk : env.scope.kind = .function)
    (fr : FrW env own W s.heap) (hx : env.kindOf x = some .local ∨ (env.kindOf x = some .cell ∧ x ∈ own))
    (h : ∀ h' tk, Wr W s.heap h' → FrW env own W h' → Holds env h' x v → (∀ y u, y ≠ x → Holds env s.heap y u → Holds env h' y u) → Q () { s with heap := h', toks := tk }) : wpAny M A (storeName env x v) Q E s := by
  obtain ⟨m, hn⟩ := fr.ns
  rcases hx with hx | ⟨hx, ho⟩
  · refine wpAny_storeName_local hx hn (fun h' hn' hs => h h' _ ⟨fun b o e q => ?_, fun b e => ?_⟩ ⟨⟨_, hn'⟩, fr.inW, fun y hy => ?_⟩ (.inl ⟨hx, _, hn', by simp⟩) fun y u hy hu => ?_) (by rw [hk]; rfl)
    · have hb : b ≠ env.locals := by
        rcases q with q | q
        · exact fun e => q (e ▸ fr.inW)
        · exact ns_not_seq hn e q
      rw [hs.2 b hb]; exact e
    · obtain ⟨o, _, _, e', _⟩ := hn'
      exact same_some hs (by rw [e']; rfl) e
    · obtain ⟨c, a, b, ⟨v, q⟩, e⟩ := fr.cell y hy
      exact ⟨c, a, b, ⟨v, q.sameBut hs (ns_not_cell hn q)⟩, e⟩
    · rcases hu with ⟨a, m', b, c⟩ | ⟨a, c, b, d⟩
      · refine .inl ⟨a, _, hn', ?_⟩
        rw [if_neg hy, ← c]
        exact Heap.Ns.agree hn b y
      · exact .inr ⟨a, c, b, d.sameBut hs (ns_not_cell hn d)⟩
  · obtain ⟨c, hc, hcW, ⟨v₀, hv₀⟩, hap⟩ := fr.cell x ho
    refine wpAny_storeName_cell hk hx hc hv₀ fun h' hc' hs => h h' s.toks ⟨fun b o e q => ?_, fun b e => ?_⟩ ⟨⟨m, hn.sameBut hs (Ne.symm (ns_not_cell hn hv₀))⟩, fr.inW, fun y hy => ?_⟩ (.inr ⟨.inl hx, c, hc, hc'⟩) fun y u hy hu => ?_
    · have hb : b ≠ c := by
        rcases q with q | q
        · exact fun e => q (e ▸ hcW)
        · exact cell_not_seq hv₀ e q
      rw [hs.2 b hb]; exact e
    · obtain ⟨o, e', _⟩ := hc'
      exact same_some hs (by rw [e']; rfl) e
    · obtain ⟨c', a, b, ⟨v', q⟩, e⟩ := fr.cell y hy
      refine ⟨c', a, b, ?_, e⟩
      by_cases hcc : c' = c
      · subst hcc; exact ⟨_, hc'⟩
      · exact ⟨v', q.sameBut hs hcc⟩
    · rcases hu with ⟨a, m', b, c'⟩ | ⟨a, c', b, d⟩
      · exact .inl ⟨a, m', b.sameBut hs (Ne.symm (ns_not_cell b hv₀)), c'⟩
      · refine .inr ⟨a, c', b, d.sameBut hs ?_⟩
        rintro rfl
        exact hy (hap y b)

/-! ### sources of a loop -/
def ownedTupleIters : List String := ["enumerate", "zip", "dict_itemiterator", "dict_reverseitemiterator", "odict_iterator", "itertools.zip_longest", "itertools.pairwise"]
def Src (prog : Program) (w : World) (A : Around) (Z : List Addr) (I : Addr) (ds : List PyData) (str : Bool) (h : Heap) : Prop :=
  ∃ fp P St, Walks prog w A I fp [I] ds.length P St ∧ St 0 h ∧ (∀ b ∈ fp, b = I ∨ ∃ o, h.get? b = some o ∧ isSeq o ∧ (str = true → b ∉ Z ∨ o.cls = .type "tuple")) ∧
    (∀ i h', St i h' → ∃ o T, h'.get? I = some o ∧ isFlds o ∧ o.cls = .type T ∧ ownedTupleIters.contains T = false) ∧ (∀ i v d, ds[i]? = some d → P i v → Has Z h v d)
section
variable (prog : Program) (w : World) (K : Frag)
def It (n : Nat) (c : Cx) (iter : Expr) (ds : List PyData) (str : Bool) : Prop :=
  (∀ env x, foldedSetIterable iter env x = pure x) ∧ ∀ A env Z (s : Shared), Rm n A → FrameOk env c.names → Sta K env c Z s.heap →
    wpAny (model prog w) A (eval iter env) (fun x s₁ => wpAny (model prog w) A (pyIter x) (fun it s₂ => ∃ I, it = .ref I ∧ Src prog w A Z I ds str s₂.heap ∧ s.heap.get? I = none ∧ Keeps s s₂) noE s₁) noE s
end
section
variable {prog : Program} {w : World} {K : Frag} {n : Nat} {c : Cx}

theorem letOwned_nice {M : Model} {A : Around} {E : Value → Shared → Prop} {s : Shared} {target : Expr} {I : Addr} {v : Value} {o : Obj} {T : String} {Q : Unit → Shared → Prop} (ho : s.heap.get? I = some o) (hf : isFlds o) (hc : o.cls = .type T)
    (hT : ownedTupleIters.contains T = false) (h : Q () s) : wpAny M A (letOwnedTupleGo target (.ref I) v) Q E s := by
  have hp : wpAny M A (pure () : Sem Unit) Q E s := wpAny_pure h
  unfold letOwnedTupleGo
  obtain ⟨vs, hf⟩ := hf
  have key : wpAny M A (do
      let (.ref r, .ref a) := (Value.ref I, v) | return
      let o ← load r
      match o.cls, o.data with
      | .type n, .fields vs =>
        if ["enumerate", "zip", "dict_itemiterator", "dict_reverseitemiterator", "odict_iterator", "itertools.zip_longest", "itertools.pairwise"].contains n && vs[0]? == some (rawInt a) then
          rule "for.unpacks-the-owned-tuple"
          updateField r 0 .none
      | _, _ => pure () : Sem Unit) Q E s := by
    cases v <;> try exact hp
    refine wpAny_bind (wpAny_load ho ?_)
    rw [hc, hf]
    dsimp only
    rw [show (["enumerate", "zip", "dict_itemiterator", "dict_reverseitemiterator", "odict_iterator", "itertools.zip_longest", "itertools.pairwise"] : List String).contains T = false from hT]
    exact hp
  cases target <;> first | exact hp | exact key

theorem fresh_none {h : Heap} {o : Obj} : h.get? h.objs.size = none := Heap.get?_none_of_le (Nat.le_refl _)

theorem src_list {A : Around} {Z : List Addr} {h : Heap} {I ax : Addr} {items : Array Value} {ds : List PyData} (str : Bool) (hh : A.handled = none) (hit : h.IsListIter I ax 0) (hl : h.IsList ax items) (hz : str = true → ax ∉ Z) (hall : HasAll Z h items.toList ds) : Src prog w A Z I ds str h := by
  have hne : ax ≠ I := by
    rintro rfl
    obtain ⟨o, e, _, hd⟩ := hit
    obtain ⟨o', e', _, _, hd'⟩ := hl
    rw [e] at e'; cases e'; rw [hd] at hd'; cases hd'
  have e : items.size = ds.length := by rw [← Array.length_toList, hall.length]
  refine ⟨[I, ax], fun i v => items[i]? = some v, fun i h => h.IsListIter I ax i ∧ h.IsList ax items, e ▸ Walks.list hh I ax hne items, ⟨hit, hl⟩, ?_, ?_, ?_⟩
  · intro b hb
    simp at hb
    rcases hb with rfl | rfl
    · exact .inl rfl
    · obtain ⟨o, ho, _, k, hd⟩ := hl
      exact .inr ⟨o, ho, ⟨_, _, hd⟩, fun q => .inl (hz q)⟩
  · rintro i h' ⟨⟨o, ho, hc, hd⟩, _⟩
    exact ⟨o, _, ho, ⟨_, hd⟩, hc, by decide⟩
  · intro i v d hd hv
    obtain ⟨d', e1, e2⟩ := hall.get' (i := i) (by simpa using hv)
    rw [hd] at e1; cases e1; exact e2

theorem it_weak {iter : Expr} {ds : List PyData} (h : EvW prog w K n c iter ds) (hs : ∀ env x, foldedSetIterable iter env x = pure x := by intro _ _; rfl) : It prog w K n c iter ds false :=
  ⟨hs, fun A env Z s rm f t => wpAny_mono (h A env Z s rm f t) (fun x s₁ ⟨hx, k⟩ => by
    obtain ⟨a, vs, rfl, hl, hall⟩ := hx
    refine wpAny_pyIter_list hl ⟨_, rfl, src_list false rm.handled ⟨_, Heap.get?_push_size _ rfl, rfl, rfl⟩ (hl.push _) (by simp) (HasAll.keeps (Kept.push _ _) hall), ?_, kp_trans k (kp_push _ _)⟩
    cases e : s.heap.get? s₁.heap.objs.size with
    | none => rfl
    | some o => have := kp_kept k _ _ e; rw [fresh_none (o := o)] at this; cases this) fun _ _ q => q⟩
theorem it_list {iter : Expr} {ds : List PyData} (h : Ev prog w K n c iter (.list ds)) (hs : ∀ env x, foldedSetIterable iter env x = pure x := by intro _ _; rfl) : It prog w K n c iter ds true :=
  ⟨hs, fun A env Z s rm f t => wpAny_mono (h A env Z s rm f t) (fun x s₁ ⟨hx, k⟩ => by
    obtain ⟨a, vs, rfl, hz, hl, hall⟩ := hx.list_inv
    refine wpAny_pyIter_list hl ⟨_, rfl, src_list true rm.handled ⟨_, Heap.get?_push_size _ rfl, rfl, rfl⟩ (hl.push _) (fun _ => hz) (HasAll.keeps (Kept.push _ _) hall), ?_, kp_trans k (kp_push _ _)⟩
    cases e : s.heap.get? s₁.heap.objs.size with
    | none => rfl
    | some o => have := kp_kept k _ _ e; rw [fresh_none (o := o)] at this; cases this) fun _ _ q => q⟩
theorem it_tuple {iter : Expr} {ds : List PyData} (h : Ev prog w K n c iter (.tuple ds)) (hs : ∀ env x, foldedSetIterable iter env x = pure x := by intro _ _; rfl) : It prog w K n c iter ds true :=
  ⟨hs, fun A env Z s rm f t => wpAny_mono (h A env Z s rm f t) (fun x s₁ ⟨hx, k⟩ => by
    obtain ⟨a, vs, rfl, hl, hall⟩ := hx.tuple_inv
    have e : vs.size = ds.length := by rw [← Array.length_toList, hall.length]
    have hne : a ≠ s₁.heap.objs.size := Nat.ne_of_lt hl.lt
    refine wpAny_pyIter_tuple hl ⟨_, rfl, ⟨[s₁.heap.objs.size, a], fun i v => vs[i]? = some v, fun i h => h.IsTupleIter s₁.heap.objs.size a i ∧ h.IsTuple a vs, e ▸ Walks.tuple rm.handled _ a hne vs, ⟨⟨_, Heap.get?_push_size _ rfl, rfl, rfl⟩, hl.push _⟩, ?_, ?_, ?_⟩, ?_, kp_trans k (kp_push _ _)⟩
    · intro b hb
      simp at hb
      rcases hb with rfl | rfl
      · exact .inl rfl
      · obtain ⟨o, ho, hc, k, hd⟩ := hl.push { cls := .type "tuple_iterator", data := .fields #[.ref b, .int 0 0] }
        exact .inr ⟨o, ho, ⟨_, _, hd⟩, fun _ => .inr hc⟩
    · rintro i h' ⟨⟨o, ho, hc, hd⟩, _⟩
      exact ⟨o, _, ho, ⟨_, hd⟩, hc, by decide⟩
    · intro i v d hd hv
      obtain ⟨d', e1, e2⟩ := (HasAll.keeps (Kept.push _ _) hall).get' (i := i) (by simpa using hv)
      rw [hd] at e1; cases e1; exact e2
    · cases e : s.heap.get? s₁.heap.objs.size with
      | none => rfl
      | some o => have := kp_kept k _ _ e; rw [fresh_none (o := o)] at this; cases this) fun _ _ q => q⟩
end
end
noncomputable section
open PySem PySem.W PySem.Calls PySem.Spec PyProof.Rows
set_option autoImplicit false
section
variable {prog : Program} {w : World} {K : Frag} {n : Nat} {c : Cx}

def upto (a : Int) (m : Nat) : List PyData := (List.range m).map fun (i : Nat) => PyData.int (a + (i : Int))
theorem src_range {A : Around} {Z : List Addr} {h : Heap} {I : Addr} {a : Int} {m : Nat} (str : Bool) (hh : A.handled = none) (hit : IsRangeIter h I a m 1) : Src prog w A Z I (upto a m) str h := by
  have e : (upto a m).length = m := by simp [upto]
  refine ⟨[I], _, _, by rw [e]; exact Walks.range hh I a 1 m, ?_, ?_, ?_, ?_⟩
  · simpa using hit
  · intro b hb; simp at hb; exact .inl hb
  · intro i h' st
    exact ⟨_, _, st, ⟨_, rfl⟩, rfl, by decide⟩
  · rintro i v d hd ⟨t, rfl⟩
    simp [upto, List.getElem?_map] at hd
    obtain ⟨a1, h1, rfl⟩ := hd
    have : i < m ∧ a1 = i := by
      have := List.getElem?_eq_some_iff.mp h1
      obtain ⟨q, r⟩ := this
      simp at q r
      exact ⟨q, r.symm⟩
    obtain ⟨_, rfl⟩ := this
    rw [Int.mul_one]
    exact .int
theorem it_range1 {p pos : Pos} {e : Expr} {m : Nat} (h : Ev prog w K n c e (.int m)) (hk : c.names.lookup ("range" : Str) = some .globalImplicit) (hg : nsIn K mainGlobals ("range" : Str) = some none) (hm : m < 2 ^ 62)
    (he : ∀ env, starEach [e] env = [(false, eval e env)] := by intro _; rfl) : It prog w K n c (.Call (.Name ("range" : Str) p) [e] [] pos) (upto 0 m) true :=
  ⟨fun _ _ => rfl, fun A env Z s rm f t => by
    refine wpAny_Call_NameR (name_blt (v := .type "range") f t.base hk hg (by decide +kernel) ?_ rfl rfl)
    rw [he env]
    refine PySem.callWith_type1 (wpAny_mono (h A env Z s rm f t) (fun v s₁ ⟨hv, k⟩ => ?_) fun _ _ q => q)
    obtain ⟨u, rfl⟩ := hv.int_inv
    refine call_range_1 (wpAny_pyIter_range (IsRange.new ..) (small_one (by decide) (by decide) (by omega) (by omega)) ⟨_, rfl, src_range true rm.handled ?_, ?_, kp_trans k (kp_trans (kp_trans (kp_push _ _) (kp_tok _ _)) (kp_push _ _))⟩)
    · have e2 : Builtin.Range.rangeSize 0 (m : Int) 1 = (m : Int) := by rw [rangeSize_one]; split <;> omega
      rw [e2]
      exact Heap.get?_push_size _ rfl
    · cases e : s.heap.get? (s₁.heap.push { cls := .type "range", data := .fields #[.int 0 s₁.toks, .int m u, .int 1 (s₁.toks + 1)] }).objs.size with
      | none => rfl
      | some o => have := ((kp_kept k).trans (Kept.push _ { cls := .type "range", data := .fields #[.int 0 s₁.toks, .int m u, .int 1 (s₁.toks + 1)] })) _ _ e; rw [fresh_none (o := o)] at this; cases this⟩
theorem it_range2 {p pos : Pos} {e e' : Expr} {a : Int} {m : Nat} (h : Ev prog w K n c e (.int a)) (h' : Ev prog w K n c e' (.int (a + m))) (hk : c.names.lookup ("range" : Str) = some .globalImplicit) (hg : nsIn K mainGlobals ("range" : Str) = some none) (hm : m < 2 ^ 61) (ha : 0 ≤ a) (ha' : a < 2 ^ 61)
    (he : ∀ env, starEach [e, e'] env = [(false, eval e env), (false, eval e' env)] := by intro _; rfl) : It prog w K n c (.Call (.Name ("range" : Str) p) [e, e'] [] pos) (upto a m) true :=
  ⟨fun _ _ => rfl, fun A env Z s rm f t => by
    refine wpAny_Call_NameR (name_blt (v := .type "range") f t.base hk hg (by decide +kernel) ?_ rfl rfl)
    rw [he env]
    refine PySem.callWith_type rfl (Calls.evalArgs_plain (Calls.spliced_cons (wpAny_mono (h A env Z s rm f t) (fun v s₁ ⟨hv, k⟩ => Calls.spliced_cons (wpAny_mono (h' A env Z s₁ rm f (t.step k)) (fun v' s₂ ⟨hv', k'⟩ => Calls.spliced_nil ?_) fun _ _ q => q)) fun _ _ q => q)))
    obtain ⟨u, rfl⟩ := hv.int_inv
    obtain ⟨u', rfl⟩ := hv'.int_inv
    refine call_range_2 (wpAny_pyIter_range (IsRange.new ..) (small_one (by omega) (by omega) (by omega) (by omega)) ⟨_, rfl, src_range true rm.handled ?_, ?_, kp_trans k (kp_trans k' (kp_trans (kp_trans (kp_push _ _) (kp_tok _ _)) (kp_push _ _)))⟩)
    · have e2 : Builtin.Range.rangeSize a (a + (m : Int)) 1 = (m : Int) := by rw [rangeSize_one]; split <;> omega
      rw [e2]
      exact Heap.get?_push_size _ rfl
    · cases e : s.heap.get? (s₂.heap.push { cls := .type "range", data := .fields #[.int a u, .int (a + m) u', .int 1 s₂.toks] }).objs.size with
      | none => rfl
      | some o => have := (((kp_kept k).trans (kp_kept k')).trans (Kept.push _ { cls := .type "range", data := .fields #[.int a u, .int (a + m) u', .int 1 s₂.toks] })) _ _ e; rw [fresh_none (o := o)] at this; cases this⟩

/-! ### comprehensions -/
theorem closure_ok {scope : Scope} {env : Env} (h : ∀ x, (x, NameKind.free) ∈ scope.names → (env.cells.lookup x).isSome = true) :
    ∃ cl, closureFor scope env = pure cl ∧ (∀ x, (x, NameKind.free) ∈ scope.names → cl.lookup x = env.cells.lookup x) ∧ ∀ x, (x, NameKind.free) ∉ scope.names → cl.lookup x = none := by
  have go : ∀ (names : List (Str × NameKind)) (acc : List (Str × Addr)), (∀ x, (x, NameKind.free) ∈ names → (env.cells.lookup x).isSome = true) →
      ∃ cl, (forIn names acc (fun (x : Str × NameKind) (cs : List (Str × Addr)) => (match x with | (name, kind) => if kind == .free then (do let a ← cellOf env name; pure (ForInStep.yield ((name, a) :: cs))) else pure (ForInStep.yield cs) : Sem (ForInStep (List (Str × Addr))))) = pure cl) ∧
        (∀ x, (x, NameKind.free) ∈ names → cl.lookup x = env.cells.lookup x) ∧ ∀ x, (x, NameKind.free) ∉ names → cl.lookup x = acc.lookup x := by
    intro names
    induction names with
    | nil => intro acc _; exact ⟨acc, rfl, (fun _ h => (nomatch h)), fun _ _ => rfl⟩
    | cons p r ih =>
      intro acc hx
      obtain ⟨y, k⟩ := p
      rw [List.forIn_cons]
      by_cases hk : k = .free
      · subst hk
        obtain ⟨a, ha⟩ := Option.isSome_iff_exists.mp (hx y (.head _))
        obtain ⟨cl, e, e1, e2⟩ := ih ((y, a) :: acc) fun x h => hx x (.tail _ h)
        refine ⟨cl, ?_, ?_, ?_⟩
        · have e9 : cellOf env y = pure a := by unfold cellOf; rw [ha]
          simp only [beq_self_eq_true, if_true, e9, pure_bind]
          exact e
        · intro x hm
          by_cases hr : (x, NameKind.free) ∈ r
          · exact e1 x hr
          · rcases List.mem_cons.mp hm with q | q
            · cases q
              rw [e2 y hr, List.lookup_cons, beq_self_eq_true, ha]
            · exact absurd q hr
        · intro x hm
          have hxy : x ≠ y := fun q => hm (q ▸ .head _)
          rw [e2 x fun q => hm (.tail _ q), List.lookup_cons]
          rw [beq_eq_false_iff_ne.mpr hxy]
      · obtain ⟨cl, e, e1, e2⟩ := ih acc fun x h => hx x (.tail _ h)
        refine ⟨cl, ?_, ?_, ?_⟩
        · have : (k == NameKind.free) = false := by simpa using hk
          simp only [this, Bool.false_eq_true, if_false, pure_bind]
          exact e
        · intro x hm
          rcases List.mem_cons.mp hm with q | q
          · cases q; exact absurd rfl hk
          · exact e1 x q
        · intro x hm
          exact e2 x fun q => hm (.tail _ q)
  obtain ⟨cl, e, e1, e2⟩ := go scope.names [] h
  refine ⟨cl, ?_, e1, fun x hx => e2 x hx⟩
  simp only [closureFor]
  rw [show (forIn scope.names [] fun (x : Str × NameKind) (__s : List (Str × Addr)) =>
            if (x.snd == NameKind.free) = true then do
              let __do_lift ← cellOf env x.fst
              pure (ForInStep.yield ((x.fst, __do_lift) :: __s))
            else pure (ForInStep.yield __s) : Sem (List (Str × Addr))) = pure cl from e, pure_bind]

theorem cells_spec : ∀ (names : List (Str × NameKind)) (h : Heap) (acc : List (Str × Addr)) (base : Nat), (∀ x c, acc.lookup x = some c → c < h.objs.size) → base ≤ h.objs.size →
    (∀ x y c, base ≤ c → acc.lookup x = some c → acc.lookup y = some c → x = y) →
    (∀ x, (x, NameKind.cell) ∈ names → ∃ c, (cellsFrom h.objs.size names acc).lookup x = some c ∧ h.objs.size ≤ c ∧ (pushCells h names).IsCell c none) ∧
    (∀ x, (x, NameKind.cell) ∉ names → (cellsFrom h.objs.size names acc).lookup x = acc.lookup x) ∧
    (∀ x y c, base ≤ c → (cellsFrom h.objs.size names acc).lookup x = some c → (cellsFrom h.objs.size names acc).lookup y = some c → x = y)
  | [], h, acc, base, _, _, hi => ⟨(fun _ q => (nomatch q)), fun _ _ => rfl, hi⟩
  | (y, k) :: r, h, acc, base, hlt, hb, hi => by
    unfold cellsFrom pushCells
    by_cases hk : (k == NameKind.cell) = true
    · have hk' : k = .cell := by simpa using hk
      subst hk'
      rw [if_pos hk, if_pos hk]
      have hsz : (h.push { cls := .type "cell", data := .cell none }).objs.size = h.objs.size + 1 := Heap.size_push ..
      obtain ⟨a1, a2, a3⟩ := cells_spec r (h.push { cls := .type "cell", data := .cell none }) ((y, h.objs.size) :: acc) base (fun x c e => by
          rw [List.lookup_cons] at e
          rw [hsz]
          split at e
          · cases e; exact Nat.lt_succ_self _
          · exact Nat.lt_succ_of_lt (hlt x c e)) (by rw [hsz]; exact Nat.le_succ_of_le hb) (fun x z c hc e1 e2 => by
          rw [List.lookup_cons] at e1 e2
          cases q1 : (x == y) <;> cases q2 : (z == y) <;> simp only [q1, q2] at e1 e2
          · exact hi x z c hc e1 e2
          · cases e2; exact absurd (hlt x _ e1) (Nat.lt_irrefl _)
          · cases e1; exact absurd (hlt z _ e2) (Nat.lt_irrefl _)
          · rw [beq_iff_eq.mp q1, beq_iff_eq.mp q2])
      rw [hsz] at a1 a2 a3
      refine ⟨fun x hx => ?_, fun x hx => ?_, a3⟩
      · by_cases hr : (x, NameKind.cell) ∈ r
        · obtain ⟨c, e1, e2, e3⟩ := a1 x hr
          exact ⟨c, e1, Nat.le_of_succ_le e2, e3⟩
        · rcases List.mem_cons.mp hx with q | q
          · cases q
            refine ⟨h.objs.size, ?_, Nat.le_refl _, ?_⟩
            · rw [a2 _ hr, List.lookup_cons, beq_self_eq_true]
            · exact ⟨_, pushCells_keeps _ _ _ _ (Heap.get?_push_size _ rfl), rfl⟩
          · exact absurd q hr
      · have hxy : x ≠ y := fun q => hx (q ▸ .head _)
        rw [a2 x fun q => hx (.tail _ q), List.lookup_cons, beq_eq_false_iff_ne.mpr hxy]
    · rw [if_neg hk, if_neg hk]
      obtain ⟨a1, a2, a3⟩ := cells_spec r h acc base hlt hb hi
      refine ⟨fun x hx => ?_, fun x hx => a2 x fun q => hx (.tail _ q), a3⟩
      rcases List.mem_cons.mp hx with q | q
      · cases q; exact absurd rfl hk
      · exact a1 x q

theorem newEnv_comp {M : Model} {A : Around} {E : Value → Shared → Prop} {s : Shared} {scope : Scope} {env : Env} {cl : List (Str × Addr)} {Q : Env → Shared → Prop} (hcl : ∀ x c, cl.lookup x = some c → (s.heap.get? c).isSome = true)
    (hQ : ∀ h' cells, Kept s.heap h' → h'.Ns s.heap.objs.size (fun _ => none) →
      (∀ x, (x, NameKind.cell) ∈ scope.names → ∃ c, cells.lookup x = some c ∧ s.heap.get? c = none ∧ h'.IsCell c none ∧ ∀ y, cells.lookup y = some c → y = x) →
      (∀ x, (x, NameKind.cell) ∉ scope.names → cells.lookup x = cl.lookup x) →
      Q (newEnv scope s.heap.objs.size env.globals cells env.qual none .none (some env) builtinsNs) { s with heap := h' }) :
    wpAny M A (newFunctionEnv scope env.globals cl [] env.qual none .none (some env)) Q E s := by
  simp only [newFunctionEnv, Option.isSome_some, if_true]
  refine wpAny_bind (wpAny_alloc ?_)
  refine wpAny_bind (wpAny_layCells _ (fun name kind cells => by cases hkc : kind == NameKind.cell <;> simp) _ _ _ _ ?_)
  have hsz : (s.heap.push { cls := .type "dict", data := .dict #[] }).objs.size = s.heap.objs.size + 1 := Heap.size_push ..
  have lt_of : ∀ c, (s.heap.get? c).isSome = true → c < s.heap.objs.size := fun c h => by
    obtain ⟨o, ho⟩ := Option.isSome_iff_exists.mp h; exact Heap.lt_size ho
  obtain ⟨a1, a2, a3⟩ := cells_spec scope.names (s.heap.push { cls := .type "dict", data := .dict #[] }) cl (s.heap.objs.size + 1) (fun x c e => by rw [hsz]; exact Nat.lt_succ_of_lt (lt_of c (hcl x c e))) (by rw [hsz]; exact Nat.le_refl _)
    (fun x y c hc e1 e2 => absurd (lt_of c (hcl x c e1)) (Nat.not_lt.mpr (Nat.le_of_succ_le hc)))
  rw [List.forIn_nil]
  refine wpAny_bind (wpAny_pure (wpAny_pure ?_))
  refine hQ _ _ (fun b o e => pushCells_keeps _ _ _ _ (Heap.get?_push_of_some _ e)) ((Heap.Ns.new s.heap (.type "dict")).keeps (pushCells_keeps _ _)) (fun x hx => ?_) a2
  obtain ⟨c, e1, e2, e3⟩ := a1 x hx
  rw [hsz] at e2
  exact ⟨c, e1, Heap.get?_none_of_le (Nat.le_of_succ_le e2), e3, fun y hy => a3 y x c e2 hy e1⟩
end
end
noncomputable section
open PySem PySem.W PySem.Calls PySem.Spec PyProof.Rows
set_option autoImplicit false
theorem no_mono {α : Type} {M : Model} {A : Around} {t : Sem α} {s : Shared} {Q : α → Shared → Prop} {E : Value → Shared → Prop} (h : wpAny M A t Q noE s) : wpAny M A t Q E s := wpAny_mono h (fun _ _ x => x) fun _ _ x => x.elim

section
variable (prog : Program) (w : World)
/-- what an assignment to the target lays -/
def Tgt (target : Expr) (names : List (Str × NameKind)) (own : List Str) (d : PyData) (ρd : List (Str × PyData)) : Prop :=
  ∀ A env W Z (s : Shared) v (Q : Unit → Shared → Prop), A.handled = none → FrameOk env names → FrW env own W s.heap → Has Z s.heap v d →
    (∀ h' tk, Wr W s.heap h' → FrW env own W h' → (∀ x d', ρd.lookup x = some d' → ∃ u, Holds env h' x u ∧ Has Z h' u d') → (∀ y u, ρd.lookup y = none → Holds env s.heap y u → Holds env h' y u) → Q () { s with heap := h', toks := tk }) →
    wpAny (model prog w) A (assign target env v) Q noE s
end
section
variable {prog : Program} {w : World} {K : Frag} {n : Nat} {c : Cx}

theorem local_kind {env : Env} {names : List (Str × NameKind)} {x : Str} (f : FrameOk env names) (h : names.lookup x = some .local) : env.kindOf x = some .local := by
  rcases f.kinds x _ h with e | ⟨e, _⟩
  · exact e
  · cases e
theorem cell_kind {env : Env} {names : List (Str × NameKind)} {x : Str} (f : FrameOk env names) (h : names.lookup x = some .cell) : env.kindOf x = some .cell := by
  rcases f.kinds x _ h with e | ⟨e, _⟩
  · exact e
  · cases e
/-- may be stored into -/
def Sto (names : List (Str × NameKind)) (own : List Str) (x : Str) : Prop := names.lookup x = some .local ∨ (names.lookup x = some .cell ∧ x ∈ own)
theorem Sto.kind {env : Env} {names : List (Str × NameKind)} {own : List Str} {x : Str} (q : Sto names own x) (f : FrameOk env names) : env.kindOf x = some .local ∨ (env.kindOf x = some .cell ∧ x ∈ own) :=
  q.imp (local_kind f) fun ⟨a, b⟩ => ⟨cell_kind f a, b⟩

theorem lookup_one {x y : Str} {d d' : PyData} (h : [(x, d)].lookup y = some d') : y = x ∧ d' = d := by
  rw [List.lookup_cons] at h
  cases q : (y == x) <;> simp [q] at h
  exact ⟨beq_iff_eq.mp q, h.symm⟩
theorem lookup_one_none {x y : Str} {d : PyData} (h : [(x, d)].lookup y = none) : y ≠ x := by
  rintro rfl
  simp [List.lookup_cons] at h
theorem tgt_name {x : Str} {pos : Pos} {names : List (Str × NameKind)} {own : List Str} {d : PyData} (hx : Sto names own x) : Tgt prog w (.Name x pos) names own d [(x, d)] :=
  fun A env W Z s v Q _ f fr hv h => wpAny_assign_Name (store f.kind fr (hx.kind f) fun h' tk wr fr' hh ho => h h' tk wr fr' (fun y d' e => by
    obtain ⟨rfl, rfl⟩ := lookup_one e
    exact ⟨v, hh, Has.keptS wr.keptS hv⟩) fun y u e hu => ho y u (lookup_one_none e) hu)
theorem tgt_pair {x y : Str} {px py pos : Pos} {k : Nat} {names : List (Str × NameKind)} {own : List Str} {d e : PyData} (hx : Sto names own x) (hy : Sto names own y) (hxy : (x == y) = false) :
    Tgt prog w (.Tuple [.Name x px, .Name y py] k pos) names own (.tuple [d, e]) [(x, d), (y, e)] :=
  fun A env W Z s v Q hh f fr hv h => by
    obtain ⟨a, vs, rfl, ht, hall⟩ := hv.tuple_inv
    obtain ⟨v1, r1, e1, h1, hr1⟩ := hall.cons_inv
    obtain ⟨v2, r2, e2, h2, hr2⟩ := hr1.cons_inv
    have e3 := hr2.nil_inv
    subst e3 e2
    have hsz : vs.size = 2 := by rw [← Array.length_toList, e1]; rfl
    refine assign_Tuple_tuple hh ht (by rw [hsz]; rfl) rfl fun h1' hext => ?_
    rw [e1]
    have k1 : Kept s.heap h1' := fun b o q => hext b o (Nat.ne_of_lt (Heap.lt_size q)) q
    show wpAny _ _ (do holding [v2] (assign (.Name x px) env v1); do holding [] (assign (.Name y py) env v2); pure ()) _ _ _
    refine wpAny_bind (wpAny_holding (wpAny_assign_Name (store f.kind (fr.keeps k1) (hx.kind f) fun h2' tk2 wr2 fr2 hh2 ho2 => ?_)))
    refine wpAny_bind (wpAny_holding (wpAny_assign_Name (store f.kind fr2 (hy.kind f) fun h3' tk3 wr3 fr3 hh3 ho3 => wpAny_pure ?_)))
    have hne : x ≠ y := by simpa using hxy
    refine h h3' tk3 ((Kept.wr k1).trans (wr2.trans wr3)) fr3 (fun z d' q => ?_) fun z u q hu => ?_
    · rw [List.lookup_cons] at q
      cases qx : (z == x)
      · simp only [qx] at q
        obtain ⟨rfl, rfl⟩ := lookup_one q
        exact ⟨v2, hh3, Has.keptS wr3.keptS (Has.keptS wr2.keptS (Has.keeps k1 h2))⟩
      · simp only [qx] at q
        cases q
        obtain rfl := beq_iff_eq.mp qx
        exact ⟨v1, ho3 _ _ hne hh2, Has.keptS wr3.keptS (Has.keptS wr2.keptS (Has.keeps k1 h1))⟩
    · rw [List.lookup_cons] at q
      cases qx : (z == x)
      · simp only [qx] at q
        exact ho3 _ _ (lookup_one_none q) (ho2 _ _ (by simpa using qx) (hu.keeps k1))
      · simp only [qx] at q; cases q

theorem compLoop_any {A : Around} {R : Result → Shared → Prop} {s : Shared} {elt target iter : Expr} {ifs : List Expr} {scope : Scope} {pos : Pos} {it acc : Value} {env : Env} (I : Nat → Shared → Prop)
    (turn : ∀ n s, I n s → wpAny (model prog w) A (pyNext it) (fun r s₁ => match r with
      | none => R (.ok .next) s₁
      | some v => wpAny (model prog w) A (letOwnedTupleGo target it v) (fun _ s₁' => wpAny (model prog w) A (assign target env v) (fun _ s₂ =>
          wpAny (model prog w) A (forIn ifs true fun c r => if r = true then do let ok ← isTrue c env (eval c env); pure (ForInStep.yield ok) else pure (ForInStep.yield r)) (fun ok s₃ =>
            if ok = true then wpAny (model prog w) A (eval elt env) (fun x s₄ =>
              wpAny (model prog w) A (call (.builtin "list.append") [acc, x]) (fun _ s₅ => ∃ m, m < n ∧ I m s₅) noE s₄) noE s₃
            else ∃ m, m < n ∧ I m s₃) noE s₂) noE s₁') noE s₁) noE s)
    (n : Nat) (h : I n s) :
    codeAny (model prog w) A (.compLoop (.ListComp elt [⟨target, iter, ifs, 0⟩] scope pos) 0 it acc env) R s := by
  refine codeAny_loop rfl I (fun n s hI => ?_) n h
  show wpAny _ A ((compTurn (.ListComp elt [⟨target, iter, ifs, 0⟩] scope pos) 0 it acc env).onRaise (fun x => do noteFrame x env; theTreesLotGoes x)) _ _ s
  refine wpAny_noted ?_
  rw [compTurn_list]
  refine wpAny_bind (wpAny_standAt (wpAny_bind (wpAny_mono (turn n s hI) (fun r s₁ h₁ => ?_) fun _ _ h' => h'.elim)))
  cases r with
  | none => exact wpAny_pure h₁
  | some v =>
    refine wpAny_bind (wpAny_mono h₁ (fun _ s₁' h₁' => ?_) fun _ _ h' => h'.elim)
    refine wpAny_bind (wpAny_mono h₁' (fun _ s₂ h₂ => wpAny_bind (wpAny_mono h₂ (fun ok s₃ h₃ => ?_) fun _ _ h' => h'.elim)) fun _ _ h' => h'.elim)
    cases ok with
    | false => exact wpAny_pure ⟨rfl, h₃⟩
    | true =>
      exact wpAny_bind (wpAny_bind (wpAny_mono h₃ (fun x s₄ h₄ => wpAny_bind (wpAny_mono h₄ (fun _ s₅ h₅ => wpAny_pure (wpAny_pure ⟨rfl, h₅⟩)) fun _ _ h' => h'.elim)) fun _ _ h' => h'.elim))

/-- the tests of a comprehension -/
def Tst (prog : Program) (w : World) (K : Frag) (n : Nat) (c : Cx) (ifs : List Expr) (b : Bool) : Prop :=
  ∀ A env Z (s : Shared), Rm n A → FrameOk env c.names → Sta K env c Z s.heap →
    wpAny (model prog w) A (forIn ifs true fun c r => if r = true then do let ok ← isTrue c env (eval c env); pure (ForInStep.yield ok) else pure (ForInStep.yield r)) (fun r s' => r = b ∧ Keeps s s') noE s
theorem tst_nil : Tst prog w K n c [] true := fun A env Z s _ _ _ => wpAny_tests_nil ⟨rfl, kp_refl s⟩
theorem tst_one {e : Expr} {b : Bool} (h : Tr prog w K n c e b) : Tst prog w K n c [e] b := fun A env Z s rm f t => wpAny_tests_one (h A env Z s rm f t)

/-- what a comprehension sees of the names around it -/
def capt (names : List (Str × NameKind)) (vars : List (Str × PyData)) : List (Str × PyData) := vars.filter fun p => names.lookup p.1 == some .free
theorem lookup_capt {names : List (Str × NameKind)} {x : Str} {d : PyData} : ∀ {vars : List (Str × PyData)}, (capt names vars).lookup x = some d → vars.lookup x = some d ∧ names.lookup x = some .free
  | [], h => by cases h
  | (y, e) :: r, h => by
    unfold capt at h
    rw [List.filter_cons] at h
    rw [List.lookup_cons]
    by_cases hy : (names.lookup y == some .free) = true
    · rw [if_pos hy, List.lookup_cons] at h
      cases q : (x == y) <;> simp only [q] at h ⊢
      · exact lookup_capt h
      · cases h
        obtain rfl := beq_iff_eq.mp q
        exact ⟨rfl, by simpa using hy⟩
    · rw [if_neg hy] at h
      have := lookup_capt (vars := r) h
      cases q : (x == y) <;> simp only [q]
      · exact this
      · obtain rfl := beq_iff_eq.mp q
        exact absurd (by rw [this.2]; rfl) hy
theorem mem_of_lookup_kind {x : Str} {k : NameKind} : ∀ {names : List (Str × NameKind)}, names.lookup x = some k → (x, k) ∈ names
  | (y, e) :: r, h => by
    rw [List.lookup_cons] at h
    cases q : (x == y) <;> simp only [q] at h
    · exact .tail _ (mem_of_lookup_kind h)
    · cases h; rw [beq_iff_eq.mp q]; exact .head _
theorem relabel_lookup {env : Env} {x : Str} {k : NameKind} : ∀ {names : List (Str × NameKind)}, names.lookup x = some k →
    (names.map fun (n, k) => if (k == NameKind.free && env.scope.kind == .function && env.kindOf n == some .cell) then (n, NameKind.cell) else (n, k)).lookup x = some k ∨
    (k = .free ∧ (names.map fun (n, k) => if (k == NameKind.free && env.scope.kind == .function && env.kindOf n == some .cell) then (n, NameKind.cell) else (n, k)).lookup x = some .cell)
  | (y, e) :: r, h => by
    rw [List.lookup_cons] at h
    show List.lookup x ((if (e == NameKind.free && env.scope.kind == .function && env.kindOf y == some .cell) = true then (y, NameKind.cell) else (y, e)) :: _) = _ ∨ _ ∧ List.lookup x ((if (e == NameKind.free && env.scope.kind == .function && env.kindOf y == some .cell) = true then (y, NameKind.cell) else (y, e)) :: _) = _
    cases q : (x == y) <;> simp only [q] at h
    · have ih := relabel_lookup (env := env) h
      by_cases hc : (e == NameKind.free && env.scope.kind == .function && env.kindOf y == some .cell) = true
      · rw [if_pos hc]; simp only [List.lookup_cons, q]; exact ih
      · rw [if_neg hc]; simp only [List.lookup_cons, q]; exact ih
    · cases h
      by_cases hc : (k == NameKind.free && env.scope.kind == .function && env.kindOf y == some .cell) = true
      · rw [if_pos hc]; simp only [List.lookup_cons, q]
        simp only [Bool.and_eq_true, beq_iff_eq] at hc
        exact .inr ⟨hc.1.1, trivial⟩
      · rw [if_neg hc]; simp only [List.lookup_cons, q]; exact .inl trivial

/-- the names of a comprehension's own cells -/
def ownCells (names : List (Str × NameKind)) : List Str := (names.filter fun p => p.2 == .cell).map (·.1)
theorem mem_ownCells {names : List (Str × NameKind)} {x : Str} (h : x ∈ ownCells names) : (x, NameKind.cell) ∈ names := by
  simp only [ownCells, List.mem_map, List.mem_filter] at h
  obtain ⟨⟨y, k⟩, ⟨h1, h2⟩, rfl⟩ := h
  have : k = .cell := by simpa using h2
  subst this; exact h1


theorem FrW.but {env : Env} {own : List Str} {W : List Addr} {h h' : Heap} {I : Addr} (x : FrW env own W h) (hI : I ∉ W) (k : ∀ b o, b ≠ I → h.get? b = some o → h'.get? b = some o) : FrW env own W h' := by
  refine ⟨?_, x.inW, fun y hy => ?_⟩
  · obtain ⟨m, e⟩ := x.ns
    exact ⟨m, e.at fun o q => k _ o (fun q => hI (q ▸ x.inW)) q⟩
  · obtain ⟨c, a, b, ⟨v, o, ho, hd⟩, e⟩ := x.cell y hy
    exact ⟨c, a, b, ⟨v, o, k _ _ (fun q => hI (q ▸ b)) ho, hd⟩, e⟩

def capOk (c : Cx) (names : List (Str × NameKind)) : Bool := names.all fun p => p.2 != .free || ((c.names.lookup p.1 == some .cell || c.names.lookup p.1 == some .free) && ((c.vars.lookup p.1).isSome && !(names.contains (p.1, NameKind.cell))))

theorem cap_of {env : Env} {Z : List Addr} {h : Heap} {names : List (Str × NameKind)} (fo : FrameOk env c.names) (st : Sta K env c Z h) (hc : capOk c names = true) {x : Str} (hx : (x, NameKind.free) ∈ names) :
    (x, NameKind.cell) ∉ names ∧ ∃ v d a, c.vars.lookup x = some d ∧ env.cells.lookup x = some a ∧ h.IsCell a (some v) ∧ Has Z h v d := by
  have := List.all_eq_true.mp hc _ hx
  simp only [bne_self_eq_false, Bool.false_or, Bool.and_eq_true, Bool.or_eq_true, beq_iff_eq, Bool.not_eq_true'] at this
  obtain ⟨h1, h2, h3⟩ := this
  refine ⟨(fun q => by rw [List.contains_iff_mem.mpr q] at h3; cases h3), ?_⟩
  obtain ⟨d, hd⟩ := Option.isSome_iff_exists.mp h2
  obtain ⟨v, hv, hh⟩ := st.vars x d hd
  rcases hv with ⟨a, _⟩ | ⟨_, a, b, e⟩
  · exfalso
    rcases h1 with h1 | h1
    · rw [cell_kind fo h1] at a; cases a
    · rcases fo.kinds x _ h1 with q | ⟨_, q⟩ <;> rw [q] at a <;> cases a
  · exact ⟨v, d, a, hd, b, e, hh⟩

theorem lookup_app {x : Str} {d : PyData} : ∀ {l r : List (Str × PyData)}, (l ++ r).lookup x = some d → l.lookup x = some d ∨ (l.lookup x = none ∧ r.lookup x = some d)
  | [], r, h => .inr ⟨rfl, h⟩
  | (y, e) :: l, r, h => by
    rw [List.cons_append, List.lookup_cons] at h
    rw [List.lookup_cons]
    cases q : (x == y) <;> simp only [q] at h ⊢
    · exact lookup_app h
    · exact .inl h
theorem take_succ_filter_map {ds : List PyData} {p : PyData → Bool} {f : PyData → PyData} {i : Nat} {d : PyData} (h : ds[i]? = some d) : ((ds.take (i + 1)).filter p).map f = ((ds.take i).filter p).map f ++ (if p d then [f d] else []) := by
  rw [List.take_add_one, h, List.filter_append, List.map_append]
  cases hp : p d <;> simp [hp]

theorem comp_block {A : Around} {Z : List Addr} {elt target iter : Expr} {ifs : List Expr} {scope : Scope} {pos : Pos} {env : Env} {s s₂ : Shared} {I : Addr} {ds : List PyData} {str : Bool} {cl : List (Str × Addr)} {p : PyData → Bool} {f : PyData → PyData} {td : PyData → List (Str × PyData)}
    {RR : Value → Addr → Result → Shared → Prop} (rm : Rm n A) (fo : FrameOk env c.names) (st : Sta K env c Z s.heap) (ks : Keeps s s₂) (hI : s.heap.get? I = none) (src : Src prog w A Z I ds str s₂.heap) (hsz : ds.length ≤ sizeLine) (hkind : scope.kind = .function)
    (hcap : capOk c scope.names = true) (hcl : ∀ x, (x, NameKind.free) ∈ scope.names → cl.lookup x = env.cells.lookup x) (hcl2 : ∀ x c, cl.lookup x = some c → (s₂.heap.get? c).isSome = true)
    (ht : ∀ d ∈ ds, Tgt prog w target scope.names (ownCells scope.names) d (td d))
    (htst : ∀ d ∈ ds, Tst prog w K n ⟨scope.names, td d ++ capt scope.names c.vars, none⟩ ifs (p d))
    (helt : ∀ d ∈ ds, p d = true → Ev prog w K n ⟨scope.names, td d ++ capt scope.names c.vars, none⟩ elt (f d))
    (hR : ∀ D C h' tk m' ys, s₂.heap.get? D = none → s₂.heap.get? C = none → D ≠ C → h'.Ns C m' → h'.IsList D ys → HasAll (D :: Z) h' ys.toList ((ds.filter p).map f) →
      (∀ b o, b ≠ I → s₂.heap.get? b = some o → h'.get? b = some o) → RR (.ref D) C (.ok .next) { s₂ with heap := h', toks := tk }) :
    wpAny (model prog w) A (newList []) (fun acc s₃ => wpAny (model prog w) A (newFunctionEnv scope env.globals cl [] env.qual none .none (some env)) (fun cenv s₄ =>
      codeAny (model prog w) A (.compStart (.ListComp elt [⟨target, iter, ifs, 0⟩] scope pos) 0 (.ref I) acc { cenv with scope := relabel scope env }) (RR acc cenv.locals) s₄) noE s₃) noE s₂ := by
  refine wpAny_newObj_type (newEnv_comp (fun x c e => Kept.some (Kept.push _ _) _ (hcl2 x c e)) fun h₁ cells k₁ hns hown hcl3 => ?_)
  dsimp only at hns hown ⊢
  have hD : s₂.heap.get? s₂.heap.objs.size = none := Heap.get?_none_of_le (Nat.le_refl _)
  have hC : s₂.heap.get? (s₂.heap.push { cls := .type "list", dict := none, data := .seq ([] : List Value).toArray }).objs.size = none := Heap.get?_none_of_le (by rw [Heap.size_push]; exact Nat.le_succ _)
  have hDC : s₂.heap.objs.size ≠ (s₂.heap.push { cls := .type "list", dict := none, data := .seq ([] : List Value).toArray }).objs.size := by rw [Heap.size_push]; exact Nat.ne_of_lt (Nat.lt_succ_self _)
  have hDl : h₁.IsList s₂.heap.objs.size #[] := ⟨_, k₁ _ _ (Heap.get?_push_size _ rfl), rfl, _, rfl⟩
  have hDp : (s₂.heap.push { cls := .type "list", dict := none, data := .seq ([] : List Value).toArray }).get? s₂.heap.objs.size ≠ none := by rw [Heap.get?_push_size _ rfl]; exact fun q => nomatch q
  have k2 : Kept s₂.heap h₁ := (Kept.push _ _).trans k₁
  have hown' : ∀ x, (x, NameKind.cell) ∈ scope.names → ∃ c, cells.lookup x = some c ∧ s₂.heap.get? c = none ∧ c ≠ s₂.heap.objs.size ∧ h₁.IsCell c none ∧ ∀ y, cells.lookup y = some c → y = x := fun x hx => by
    obtain ⟨c, a1, a2, a3, a4⟩ := hown x hx
    refine ⟨c, a1, ?_, fun q => hDp (q ▸ a2), a3, a4⟩
    cases q : s₂.heap.get? c with
    | none => rfl
    | some o => rw [Heap.get?_push_of_some _ q] at a2; cases a2
  clear hown hDp
  generalize hDe : s₂.heap.objs.size = D at *
  generalize hCe : (s₂.heap.push { cls := .type "list", dict := none, data := .seq ([] : List Value).toArray }).objs.size = C at *
  clear hDe hCe k₁
  obtain ⟨fp, P, St, Wk, st0, hfp, nice, hP⟩ := src
  have hI2 : ∃ o, s₂.heap.get? I = some o ∧ isFlds o := by obtain ⟨o, T, a, b, _⟩ := nice 0 _ st0; exact ⟨o, a, b⟩
  obtain ⟨oI, hoI, hfI⟩ := hI2
  -- the frame
  generalize hW : C :: (ownCells scope.names).filterMap (fun x => cells.lookup x) = W
  have hWn : ∀ b ∈ W, s₂.heap.get? b = none := by
    intro b hb
    rw [← hW] at hb
    rcases List.mem_cons.mp hb with rfl | hb
    · exact hC
    · obtain ⟨x, hx, hl⟩ := List.mem_filterMap.mp hb
      obtain ⟨c', a1, a2, _⟩ := hown' x (mem_ownCells hx)
      rw [a1] at hl; cases hl; exact a2
  have hDW : D ∉ W := by
    rw [← hW]
    intro hb
    rcases List.mem_cons.mp hb with q | hb
    · exact hDC q
    · obtain ⟨x, hx, hl⟩ := List.mem_filterMap.mp hb
      obtain ⟨c', a1, a2, a3, _⟩ := hown' x (mem_ownCells hx)
      rw [a1] at hl; cases hl; exact a3 rfl
  have hIW : I ∉ W := fun hb => by rw [hWn I hb] at hoI; cases hoI
  have hDI : D ≠ I := fun q => by rw [← q, hD] at hoI; cases hoI
  generalize hce : ({ newEnv scope C env.globals cells env.qual none Value.none (some env) builtinsNs with scope := relabel scope env } : Env) = cenv
  have hloc : cenv.locals = C := by rw [← hce]; rfl
  have hcells : cenv.cells = cells := by rw [← hce]; rfl
  have hscope : cenv.scope = relabel scope env := by rw [← hce]
  have hfo : FrameOk cenv scope.names := by
    refine ⟨by rw [hscope]; exact hkind, by rw [← hce]; exact fo.glob, by rw [← hce]; exact fo.blt, fun x k hx => ?_⟩
    show List.lookup x cenv.scope.names = _ ∨ _ ∧ List.lookup x cenv.scope.names = _
    rw [hscope]
    exact relabel_lookup hx
  have hfr : FrW cenv (ownCells scope.names) W h₁ := by
    refine ⟨⟨_, hloc ▸ hns⟩, by rw [hloc, ← hW]; exact .head _, fun x hx => ?_⟩
    obtain ⟨c', a1, a2, a3, a4, a5⟩ := hown' x (mem_ownCells hx)
    rw [hcells]
    exact ⟨c', a1, by rw [← hW]; exact .tail _ (List.mem_filterMap.mpr ⟨x, hx, a1⟩), ⟨_, a4⟩, a5⟩
  have loop : ∀ s₃ : Shared, s₃ = { s₂ with heap := h₁ } → codeAny (model prog w) A (.compLoop (.ListComp elt [⟨target, iter, ifs, 0⟩] scope pos) 0 (.ref I) (.ref D) cenv) (RR (.ref D) C) s₃ := by
    rintro s₃ rfl
    refine compLoop_any (fun k s' => ∃ H tk ys i, s' = { s₂ with heap := H, toks := tk } ∧ i ≤ ds.length ∧ k = ds.length + 1 - i ∧ St i H ∧ FrW cenv (ownCells scope.names) W H ∧ H.IsList D ys ∧
      HasAll (D :: Z) H ys.toList (((ds.take i).filter p).map f) ∧ ∀ b o, b ≠ I → s₂.heap.get? b = some o → H.get? b = some o) ?_ (ds.length + 1)
      ⟨h₁, s₂.toks, #[], 0, rfl, Nat.zero_le _, rfl, ?_, hfr, hDl, by simpa using HasAll.nil, fun b o _ e => k2 b o e⟩
    case refine_2 => exact Wk.frame 0 _ _ st0 fun b _ o e => k2 b o e
    rintro k s' ⟨H, tk, ys, i, rfl, hi, rfl, sti, fri, hDi, hall, hkp⟩
    obtain ⟨oi, Ti, hoi, hfi, hci, hTi⟩ := nice i H sti
    by_cases hlt : i < ds.length
    · -- a turn
      have hdi : ds[i]? = some ds[i] := by simp [hlt]
      generalize ds[i] = d at hdi
      have hdm : d ∈ ds := List.mem_of_getElem? hdi
      refine Wk.item i _ _ _ hlt sti fun v h₂ tk₂ hPv st₂ hk₂ => ?_
      have hk₂' : ∀ b o, b ≠ I → H.get? b = some o → h₂.get? b = some o := fun b o hb e => hk₂ b o (by simpa using hb) e
      have hkp₂ : ∀ b o, b ≠ I → s₂.heap.get? b = some o → h₂.get? b = some o := fun b o hb e => hk₂' b o hb (hkp b o hb e)
      obtain ⟨o₂, T₂, ho₂, hf₂, hc₂, hT₂⟩ := nice (i + 1) h₂ st₂
      refine letOwned_nice ho₂ hf₂ hc₂ hT₂ ?_
      have notI : ∀ b o, H.get? b = some o → isSeq o → b ≠ I := fun b o e q => by
        rintro rfl
        rw [hoi] at e; cases e
        obtain ⟨_, _, q⟩ := q; obtain ⟨_, q'⟩ := hfi; rw [q] at q'; cases q'
      have notI2 : ∀ b o, s₂.heap.get? b = some o → isSeq o → b ≠ I := fun b o e q => by
        rintro rfl
        rw [hoI] at e; cases e
        obtain ⟨_, _, q⟩ := q; obtain ⟨_, q'⟩ := hfI; rw [q] at q'; cases q'
      have hv₂ : Has (D :: Z) h₂ v d := by
        have q := hP i v d hdi hPv
        have q2 : Has (D :: Z) s₂.heap v d := Has.shun (fun z hz => (List.mem_cons.mp hz).elim (fun e => .inr (e ▸ hD)) .inl) q
        exact Has.keptS (fun b o e q _ => hkp₂ b o (notI2 b o e q) e) q2
      have hall₂ : HasAll (D :: Z) h₂ ys.toList (((ds.take i).filter p).map f) := HasAll.keptS (fun b o e q _ => hk₂' b o (notI b o e q) e) hall
      have hD₂ : h₂.IsList D ys := hDi.at fun o e => hk₂' _ _ hDI e
      have fr₂ : FrW cenv (ownCells scope.names) W h₂ := fri.but hIW hk₂'
      refine ht d hdm A cenv W (D :: Z) _ v _ rm.handled hfo fr₂ hv₂ fun h₃ tk₃ wr₃ fr₃ hvars hother => ?_
      have hD₃ : h₃.IsList D ys := by obtain ⟨o, e, a, b, q⟩ := hD₂; exact ⟨o, wr₃.1 _ _ e (.inr (.inl ⟨_, _, q⟩)), a, b, q⟩
      have hall₃ := HasAll.keptS wr₃.keptS hall₂
      have hkp₃ : ∀ b o, b ≠ I → s₂.heap.get? b = some o → h₃.get? b = some o := fun b o hb e => wr₃.1 b o (hkp₂ b o hb e) (.inl fun hm => by rw [hWn b hm] at e; cases e)
      have st₃ : St (i + 1) h₃ := Wk.frame _ _ _ st₂ fun b hb o e => by
        refine wr₃.1 b o e (.inr ?_)
        rcases hfp b hb with rfl | ⟨o', e', q, _⟩
        · rw [ho₂] at e; cases e; exact .inr hf₂
        · have := hkp₂ b o' (notI2 b o' e' q) e'
          rw [this] at e; cases e; exact .inl q
      have kst₃ : Kept s.heap h₃ := fun b o e => hkp₃ b o (fun q => by rw [q, hI] at e; cases e) (kp_kept ks b o e)
      have sta₃ : Sta K cenv ⟨scope.names, td d ++ capt scope.names c.vars, none⟩ (D :: Z) h₃ := by
        refine ⟨st.base.keeps kst₃, fun x d' hx => ?_, (fun _ _ q => (nomatch q)), fun z hz => ?_⟩
        · rcases lookup_app hx with hx | ⟨_, hx⟩
          · exact hvars x d' hx
          · obtain ⟨hx1, hx2⟩ := lookup_capt hx
            have hm := mem_of_lookup_kind hx2
            obtain ⟨hncell, v', d'', a, b1, b2, b3, b4⟩ := cap_of fo st hcap hm
            rw [hx1] at b1; cases b1
            refine ⟨v', .inr ⟨?_, a, ?_, b3.keeps kst₃⟩, ?_⟩
            · rcases hfo.kinds x _ hx2 with q | ⟨_, q⟩
              · exact .inr q
              · exact .inl q
            · rw [hcells, hcl3 x hncell, hcl x hm, b2]
            · have hsD : s.heap.get? D = none := by
                cases q : s.heap.get? D with
                | none => rfl
                | some o => rw [kp_kept ks _ _ q] at hD; cases hD
              exact Has.keeps kst₃ (Has.shun (fun z hz => (List.mem_cons.mp hz).elim (fun e => .inr (e ▸ hsD)) .inl) b4)
        · rcases List.mem_cons.mp hz with rfl | hz
          · obtain ⟨o, e, _⟩ := hD₃; rw [e]; rfl
          · exact kst₃.some _ (st.zs z hz)
      refine wpAny_mono (htst d hdm A cenv (D :: Z) _ rm hfo sta₃) (fun ok s₄ ⟨hok, k₄⟩ => ?_) fun _ _ q => q
      subst hok
      obtain ⟨h₄, tk₄, rfl, k₄⟩ := k₄
      have sta₄ : Sta K cenv ⟨scope.names, td d ++ capt scope.names c.vars, none⟩ (D :: Z) h₄ := sta₃.keeps k₄
      have st₄ : St (i + 1) h₄ := Wk.frame _ _ _ st₃ fun b _ o e => k₄ b o e
      have hkp₄ : ∀ b o, b ≠ I → s₂.heap.get? b = some o → h₄.get? b = some o := fun b o hb e => k₄ b o (hkp₃ b o hb e)
      have hD₄ : h₄.IsList D ys := hD₃.at fun o e => k₄ _ _ e
      cases hp : p d with
      | false =>
        simp only [Bool.false_eq_true, if_false]
        refine ⟨ds.length + 1 - (i + 1), by omega, h₄, tk₄, ys, i + 1, rfl, hlt, rfl, st₄, fr₃.keeps k₄, hD₄, ?_, hkp₄⟩
        rw [take_succ_filter_map hdi, hp]
        simpa using HasAll.keeps k₄ hall₃
      | true =>
        simp only [if_true]
        refine wpAny_mono (helt d hdm hp A cenv (D :: Z) _ rm hfo sta₄) (fun y s₅ ⟨hy, k₅⟩ => ?_) fun _ _ q => q
        obtain ⟨h₅, tk₅, rfl, k₅⟩ := k₅
        have hD₅ : h₅.IsList D ys := hD₄.at fun o e => k₅ _ _ e
        have hall₅ := HasAll.keeps k₅ (HasAll.keeps k₄ hall₃)
        have hys : ys.size ≤ sizeLine := by
          have e1 := hall₅.length
          have e2 : (((ds.take i).filter p).map f).length ≤ ds.length := by
            rw [List.length_map]
            exact Nat.le_trans (List.length_filter_le _ _) (by rw [List.length_take]; omega)
          rw [Array.length_toList] at e1
          omega
        refine wpAny_list_append hD₅ (fun h₆ hl₆ hs₆ => ?_) hys
        obtain ⟨oD, eD, cD, _, dD⟩ := id hD₅
        have kS : KeptS (D :: Z) h₅ h₆ := fun b o e q hb => by
          have hbD : b ≠ D := by
            rintro rfl
            rcases hb with hb | hb
            · exact hb (.head _)
            · rw [eD] at e; cases e; rw [cD] at hb; exact absurd hb (by decide)
          rw [hs₆.2 b hbD]; exact e
        refine ⟨ds.length + 1 - (i + 1), by omega, h₆, tk₅, ys.push y, i + 1, rfl, hlt, rfl, ?_, ?_, hl₆, ?_, ?_⟩
        · refine Wk.frame _ _ _ (Wk.frame _ _ _ st₄ fun b _ o e => k₅ b o e) fun b hb o e => ?_
          rw [hs₆.2 b ?_]
          · exact e
          · rintro rfl
            rcases hfp b hb with q | ⟨o', e', q, _⟩
            · exact hDI q
            · rw [hD] at e'; cases e'
        · exact ((fr₃.keeps k₄).keeps k₅).but hDW fun b o hb e => by rw [hs₆.2 b hb]; exact e
        · rw [take_succ_filter_map hdi, hp]
          simp only [if_true, Array.toList_push]
          exact (HasAll.keptS kS hall₅).append (HasAll.cons (Has.keptS kS hy) HasAll.nil)
        · intro b o hb e
          rw [hs₆.2 b ?_]
          · exact k₅ b o (hkp₄ b o hb e)
          · rintro rfl
            rw [hD] at e; cases e
    · -- the end
      have hie : i = ds.length := by omega
      subst hie
      refine Wk.done _ _ _ sti fun h₂ tk₂ hk₂ => ?_
      have hk₂' : ∀ b o, b ≠ I → H.get? b = some o → h₂.get? b = some o := fun b o hb e => hk₂ b o (by simpa using hb) e
      have fr₂ := fri.but hIW hk₂'
      obtain ⟨m', hm'⟩ := fr₂.ns
      rw [List.take_length] at hall
      refine hR D C h₂ tk₂ m' ys hD hC hDC (hloc ▸ hm') (hDi.at fun o e => hk₂' _ _ hDI e) ?_ fun b o hb e => hk₂' b o hb (hkp b o hb e)
      exact HasAll.keptS (fun b o e q _ => hk₂' b o (by
        rintro rfl
        rw [hoi] at e; cases e
        obtain ⟨_, _, q⟩ := q; obtain ⟨_, q'⟩ := hfi; rw [q] at q'; cases q') e) hall
  have := codeAny_compStart_list (loop _ rfl) (Wk.self 0 _ _ _ (Wk.frame 0 _ _ st0 fun b _ o e => k2 b o e) (loop _ rfl))
  exact this
end
end
noncomputable section
open PySem PySem.W PySem.Calls PySem.Spec PyProof.Rows
set_option autoImplicit false
section
variable {prog : Program} {w : World} {K : Frag} {n : Nat} {c : Cx}

theorem closure_of {env : Env} {Z : List Addr} {h : Heap} {scope : Scope} (fo : FrameOk env c.names) (st : Sta K env c Z h) (hc : capOk c scope.names = true) :
    ∃ cl, closureFor scope env = pure cl ∧ (∀ x, (x, NameKind.free) ∈ scope.names → cl.lookup x = env.cells.lookup x) ∧ ∀ x a, cl.lookup x = some a → (h.get? a).isSome = true := by
  obtain ⟨cl, e, e1, e2⟩ := closure_ok (scope := scope) (env := env) fun x hx => by
    obtain ⟨_, v, d, a, _, b, _⟩ := cap_of fo st hc hx
    rw [b]; rfl
  refine ⟨cl, e, e1, fun x a hx => ?_⟩
  by_cases hm : (x, NameKind.free) ∈ scope.names
  · obtain ⟨_, v, d, a', _, b, ⟨o, ho, _⟩, _⟩ := cap_of fo st hc hm
    rw [e1 x hm, b] at hx
    cases hx
    rw [ho]; rfl
  · rw [e2 x hm] at hx; cases hx

def namesOk (names : List (Str × NameKind)) : Bool := names.all fun p => p.2 != .local || names.lookup p.1 == some .local
theorem namesOk_of {names : List (Str × NameKind)} (h : namesOk names = true) : ∀ x ∈ names, x.2 = .local → names.lookup x.1 = some .local := fun x hx hl => by
  have := List.all_eq_true.mp h x hx
  rw [hl] at this
  simpa using this

theorem ev_comp {elt target iter : Expr} {ifs : List Expr} {scope : Scope} {pos : Pos} {ds : List PyData} {str : Bool} {p : PyData → Bool} {f : PyData → PyData} {td : PyData → List (Str × PyData)}
    (hit : It prog w K n c iter ds str) (hsz : ds.length ≤ sizeLine) (hkind : scope.kind = .function := by rfl) (hcap : capOk c scope.names = true := by rfl) (hnames : namesOk scope.names = true := by rfl)
    (ht : ∀ d ∈ ds, Tgt prog w target scope.names (ownCells scope.names) d (td d))
    (htst : ∀ d ∈ ds, Tst prog w K n ⟨scope.names, td d ++ capt scope.names c.vars, none⟩ ifs (p d))
    (helt : ∀ d ∈ ds, p d = true → Ev prog w K n ⟨scope.names, td d ++ capt scope.names c.vars, none⟩ elt (f d)) :
    Ev prog w K n c (.ListComp elt [⟨target, iter, ifs, 0⟩] scope pos) (.list ((ds.filter p).map f)) := fun A env Z s rm fo st => by
  obtain ⟨cl, hcl, hcl1, hcl2⟩ := closure_of fo st hcap
  rw [eval_ListComp]
  refine wpAny_comprehension_free (use := none) rfl (hit.1 env) hcl hkind (namesOk_of hnames) (wpAny_mono (hit.2 A env Z s rm fo st) (fun x s₁ h₁ => wpAny_mono h₁ (fun it s₂ h₂ => ?_) fun _ _ q => q) fun _ _ q => q)
  obtain ⟨I, rfl, src, hI, ks⟩ := h₂
  refine comp_block (RR := fun acc C => compPost (model prog w) A noE none (fun v s' => Has Z s'.heap v (.list ((ds.filter p).map f)) ∧ Keeps s s') acc C) rm fo st ks hI src hsz hkind hcap hcl1 (fun x a e => Kept.some (kp_kept ks) _ (hcl2 x a e)) ht htst helt ?_
  intro D C h' tk m' ys hD hC hDC hn hl hall hk
  refine ⟨m', hn, fun h'' hs'' => ⟨?_, ?_⟩⟩
  · have hDZ : D ∉ Z := fun hm => by
      have := Kept.some (kp_kept ks) _ (st.zs D hm)
      rw [hD] at this; cases this
    refine Has.list (hl.extBut hs''.extBut hDC) hDZ ?_
    refine HasAll.keptS (Z := Z) (fun b o e q _ => ?_) (HasAll.shun (fun z hz => .inl (.tail _ hz)) hall)
    show h''.get? b = some o
    rw [hs''.2 b (ns_not_seq hn e (.inl q))]; exact e
  · obtain ⟨h₂, tk₂, rfl, k₂⟩ := ks
    refine ⟨h'', tk, rfl, fun b o e => ?_⟩
    have e2 := k₂ b o e
    have hbI : b ≠ I := fun q => by rw [q, hI] at e; cases e
    have hbC : b ≠ C := fun q => by rw [q] at e2; rw [show h₂.get? C = none from hC] at e2; cases e2
    rw [hs''.2 b hbC]
    exact hk b o hbI e2
end
end
noncomputable section
open PySem PySem.W PySem.Calls PySem.Spec PyProof.Rows
set_option autoImplicit false
abbrev Vars := List (Str × PyData)
abbrev Ow := Option (Str × List PyData)
inductive Out where
  | next (v : Vars) (o : Ow)
  | brk (v : Vars) (o : Ow)
  | ret (d : PyData)

structure StaS (K : Frag) (env : Env) (hb : Heap) (c : Cx) (W Zc Zo : List Addr) (h : Heap) : Prop where
  base : Base K hb
  keep : Kept hb h
  vars : ∀ x d, c.vars.lookup x = some d → ∃ v, Holds env h x v ∧ Has (Zo ++ Zc) h v d
  own : ∀ x ds, c.own = some (x, ds) → ∃ a ∈ Zo, ∃ its, Holds env h x (.ref a) ∧ PlainL h a its ∧ HasAll (Zo ++ Zc) h its.toList ds
  zs : ∀ z ∈ Zo ++ Zc, (h.get? z).isSome = true
  fr : FrW env (ownCells c.names) W h
  newW : ∀ b ∈ W, hb.get? b = none
  newZ : ∀ z ∈ Zo, hb.get? z = none
  liveW : ∀ b ∈ W, (h.get? b).isSome = true

def Step (Zo Zo' : List Addr) (h h' : Heap) : Prop :=
  (∀ b o, h.get? b = some o → (isFlds o ∨ (isSeq o ∧ (b ∉ Zo ∨ o.cls = .type "tuple"))) → h'.get? b = some o) ∧ (∀ b, (h.get? b).isSome = true → (h'.get? b).isSome = true) ∧ (∀ z ∈ Zo, z ∈ Zo') ∧ ∀ z ∈ Zo', z ∈ Zo ∨ h.get? z = none
theorem Step.refl (Zo : List Addr) (h : Heap) : Step Zo Zo h h := ⟨fun _ _ e _ => e, fun _ e => e, fun _ e => e, fun _ e => .inl e⟩
theorem Step.trans {Z1 Z2 Z3 : List Addr} {h1 h2 h3 : Heap} (x : Step Z1 Z2 h1 h2) (y : Step Z2 Z3 h2 h3) : Step Z1 Z3 h1 h3 := by
  obtain ⟨a1, a2, a3, a4⟩ := x; obtain ⟨b1, b2, b3, b4⟩ := y
  refine ⟨fun b o e q => b1 b o (a1 b o e q) ?_, fun b e => b2 b (a2 b e), fun z hz => b3 z (a3 z hz), fun z hz => ?_⟩
  · rcases q with q | ⟨q, r⟩
    · exact .inl q
    · refine .inr ⟨q, ?_⟩
      rcases r with r | r
      · refine .inl fun hm => ?_
        rcases a4 b hm with h | h
        · exact r h
        · rw [h] at e; cases e
      · exact .inr r
  · rcases b4 z hz with q | q
    · exact a4 z q
    · refine .inr ?_
      cases e : h1.get? z with
      | none => rfl
      | some o => have := a2 z (by rw [e]; rfl); rw [q] at this; cases this
theorem Wr.step {W Zo : List Addr} {h h' : Heap} (x : Wr W h h') : Step Zo Zo h h' := ⟨fun b o e q => x.1 b o e (.inr (q.elim .inr fun q => .inl q.1)), x.2, fun _ e => e, fun _ e => .inl e⟩
theorem Kept.step {Zo : List Addr} {h h' : Heap} (x : Kept h h') : Step Zo Zo h h' := ⟨fun b o e _ => x b o e, x.some, fun _ e => e, fun _ e => .inl e⟩

section
variable {prog : Program} {w : World} {K : Frag} {n : Nat} {c : Cx} {env : Env} {hb h h' : Heap} {W Zc Zo : List Addr}

theorem StaS.sta (t : StaS K env hb c W Zc Zo h) : Sta K env c (Zo ++ Zc) h :=
  ⟨t.base.keeps t.keep, t.vars, fun x ds e => let ⟨a, _, its, b1, b2, b3⟩ := t.own x ds e; ⟨.ref a, b1, a, its, rfl, b2.isList, b3⟩, t.zs⟩
theorem StaS.keeps (t : StaS K env hb c W Zc Zo h) (k : Kept h h') : StaS K env hb c W Zc Zo h' where
  base := t.base
  keep := t.keep.trans k
  vars := fun x d e => let ⟨v, a, b⟩ := t.vars x d e; ⟨v, a.keeps k, Has.keeps k b⟩
  own := fun x ds e => let ⟨a, a1, its, b1, b2, b3⟩ := t.own x ds e; ⟨a, a1, its, b1.keeps k, b2.keeps k, HasAll.keeps k b3⟩
  zs := fun z hz => k.some _ (t.zs z hz)
  fr := t.fr.keeps k
  newW := t.newW
  newZ := t.newZ
  liveW := fun b hb => k.some _ (t.liveW b hb)
theorem StaS.tgt {td : Vars} (t : StaS K env hb c W Zc Zo h) (wr : Wr W h h') (fr' : FrW env (ownCells c.names) W h') (hv : ∀ x d', td.lookup x = some d' → ∃ u, Holds env h' x u ∧ Has (Zo ++ Zc) h' u d')
    (ho : ∀ y u, td.lookup y = none → Holds env h y u → Holds env h' y u) (hown : ∀ x ds, c.own = some (x, ds) → td.lookup x = none) : StaS K env hb ⟨c.names, td ++ c.vars, c.own⟩ W Zc Zo h' where
  base := t.base
  keep := fun b o e => wr.1 b o (t.keep b o e) (.inl fun hm => by rw [t.newW b hm] at e; cases e)
  vars := fun x d e => by
    rcases lookup_app e with e | ⟨e1, e2⟩
    · exact hv x d e
    · obtain ⟨v, a, b⟩ := t.vars x d e2
      exact ⟨v, ho x v e1 a, Has.keptS wr.keptS b⟩
  own := fun x ds e => by
    obtain ⟨a, a1, its, b1, ⟨o, k, q1, q2, q3, q4⟩, b3⟩ := t.own x ds e
    exact ⟨a, a1, its, ho x _ (hown x ds e) b1, ⟨o, k, wr.1 _ _ q1 (.inr (.inl ⟨_, _, q4⟩)), q2, q3, q4⟩, HasAll.keptS wr.keptS b3⟩
  zs := fun z hz => wr.2 _ (t.zs z hz)
  fr := fr'
  newW := t.newW
  newZ := t.newZ
  liveW := fun b hb => wr.2 _ (t.liveW b hb)

/-- fewer names known -/
def Sub (v' v : Vars) : Prop := ∀ p ∈ v', v.lookup p.1 = some p.2
theorem Sub.look {v' v : Vars} (s : Sub v' v) {x : Str} {d : PyData} (h : v'.lookup x = some d) : v.lookup x = some d := by
  have : (x, d) ∈ v' := by
    clear s
    induction v' with
    | nil => cases h
    | cons p r ih =>
      obtain ⟨y, e⟩ := p
      rw [List.lookup_cons] at h
      cases q : (x == y) <;> simp only [q] at h
      · exact .tail _ (ih h)
      · cases h; rw [beq_iff_eq.mp q]; exact .head _
  exact s _ this
theorem StaS.sub {v v' : Vars} {ow : Ow} {names : List (Str × NameKind)} (t : StaS K env hb ⟨names, v, ow⟩ W Zc Zo h) (s : Sub v' v) : StaS K env hb ⟨names, v', ow⟩ W Zc Zo h :=
  ⟨t.base, t.keep, fun x d e => t.vars x d (s.look e), t.own, t.zs, t.fr, t.newW, t.newZ, t.liveW⟩
theorem StaS.forget {v : Vars} {ow : Ow} {names : List (Str × NameKind)} (t : StaS K env hb ⟨names, v, ow⟩ W Zc Zo h) : StaS K env hb ⟨names, v, none⟩ W Zc Zo h :=
  ⟨t.base, t.keep, t.vars, (fun _ _ e => (nomatch e)), t.zs, t.fr, t.newW, t.newZ, t.liveW⟩

def OutOk (K : Frag) (env : Env) (hb : Heap) (names : List (Str × NameKind)) (W Zc Zo : List Addr) (h : Heap) : Out → Flow → Prop
  | .next v o, .next => StaS K env hb ⟨names, v, o⟩ W Zc Zo h
  | .brk v o, .brk => StaS K env hb ⟨names, v, o⟩ W Zc Zo h
  | .ret d, .ret r => Has Zc h r d ∧ Kept hb h
  | _, _ => False
def Post (K : Frag) (env : Env) (hb : Heap) (names : List (Str × NameKind)) (W Zc Zo : List Addr) (s : Shared) (o : Out) (fl : Flow) (s' : Shared) : Prop :=
  ∃ h' tk Zo', s' = { s with heap := h', toks := tk } ∧ Step Zo Zo' s.heap h' ∧ OutOk K env hb names W Zc Zo' h' o fl
end
section
variable (prog : Program) (w : World) (K : Frag)
def Ex1 (n : Nat) (c : Cx) (st : Stmt) (o : Out) : Prop :=
  ∀ A env hb W Zc Zo (s : Shared), Rm n A → FrameOk env c.names → StaS K env hb c W Zc Zo s.heap → wpAny (model prog w) A (exec st env) (Post K env hb c.names W Zc Zo s o) noE s
def Ex (n : Nat) (c : Cx) (ss : List Stmt) (o : Out) : Prop :=
  ∀ A env hb W Zc Zo (s : Shared), Rm n A → FrameOk env c.names → StaS K env hb c W Zc Zo s.heap → wpAny (model prog w) A (execs ss env) (Post K env hb c.names W Zc Zo s o) noE s
end
section
variable {prog : Program} {w : World} {K : Frag} {n : Nat} {c : Cx}

theorem post_trans {env : Env} {hb : Heap} {names : List (Str × NameKind)} {W Zc Zo Zo' : List Addr} {s : Shared} {h' : Heap} {tk : Nat} {o : Out} {fl : Flow} {s'' : Shared} (st : Step Zo Zo' s.heap h')
    (p : Post K env hb names W Zc Zo' { s with heap := h', toks := tk } o fl s'') : Post K env hb names W Zc Zo s o fl s'' := by
  obtain ⟨h2, tk2, Z2, rfl, st2, ok⟩ := p
  exact ⟨h2, tk2, Z2, rfl, st.trans st2, ok⟩

theorem ex_nil {vars : Vars} {own : Ow} {names : List (Str × NameKind)} : Ex prog w K n ⟨names, vars, own⟩ [] (.next vars own) := fun A env hb W Zc Zo s rm fo t =>
  wpAny_execs_nil ⟨s.heap, s.toks, Zo, rfl, Step.refl _ _, t⟩
theorem ex_cons {st : Stmt} {rest : List Stmt} {v : Vars} {ow : Ow} {o : Out} (h1 : Ex1 prog w K n c st (.next v ow)) (h2 : Ex prog w K n ⟨c.names, v, ow⟩ rest o) : Ex prog w K n c (st :: rest) o := fun A env hb W Zc Zo s rm fo t => by
  refine wpAny_execs_cons (wpAny_mono (h1 A env hb W Zc Zo s rm fo t) (fun fl s₁ p => ?_) fun _ _ q => q)
  obtain ⟨h', tk, Zo', rfl, st1, ok⟩ := p
  cases fl with
  | next => exact wpAny_mono (h2 A env hb W Zc Zo' _ rm fo ok) (fun fl s₂ p => post_trans st1 p) fun _ _ q => q
  | _ => exact ok.elim
theorem ex_cons_ret {st : Stmt} {rest : List Stmt} {d : PyData} (h1 : Ex1 prog w K n c st (.ret d)) : Ex prog w K n c (st :: rest) (.ret d) := fun A env hb W Zc Zo s rm fo t => by
  refine wpAny_execs_cons (wpAny_mono (h1 A env hb W Zc Zo s rm fo t) (fun fl s₁ p => ?_) fun _ _ q => q)
  cases fl with
  | ret v => exact p
  | _ => obtain ⟨h', tk, Zo', rfl, st1, ok⟩ := p; exact ok.elim
theorem ex_cons_brk {st : Stmt} {rest : List Stmt} {v : Vars} {ow : Ow} (h1 : Ex1 prog w K n c st (.brk v ow)) : Ex prog w K n c (st :: rest) (.brk v ow) := fun A env hb W Zc Zo s rm fo t => by
  refine wpAny_execs_cons (wpAny_mono (h1 A env hb W Zc Zo s rm fo t) (fun fl s₁ p => ?_) fun _ _ q => q)
  cases fl with
  | brk => exact p
  | _ => obtain ⟨h', tk, Zo', rfl, st1, ok⟩ := p; exact ok.elim
theorem ex_sub {ss : List Stmt} {v v' : Vars} {ow : Ow} (h : Ex prog w K n c ss (.next v ow)) (s : Sub v' v) : Ex prog w K n c ss (.next v' ow) := fun A env hb W Zc Zo s' rm fo t =>
  wpAny_mono (h A env hb W Zc Zo s' rm fo t) (fun fl s₁ p => by
    obtain ⟨h', tk, Zo', rfl, st1, ok⟩ := p
    cases fl with
    | next => exact ⟨h', tk, Zo', rfl, st1, StaS.sub ok s⟩
    | _ => exact ok.elim) fun _ _ q => q
theorem ex1_sub {ss : Stmt} {v v' : Vars} {ow : Ow} (h : Ex1 prog w K n c ss (.next v ow)) (s : Sub v' v) : Ex1 prog w K n c ss (.next v' ow) := fun A env hb W Zc Zo s' rm fo t =>
  wpAny_mono (h A env hb W Zc Zo s' rm fo t) (fun fl s₁ p => by
    obtain ⟨h', tk, Zo', rfl, st1, ok⟩ := p
    cases fl with
    | next => exact ⟨h', tk, Zo', rfl, st1, StaS.sub ok s⟩
    | _ => exact ok.elim) fun _ _ q => q

/-- x = e -/
theorem ex_assign {x : Str} {px pos : Pos} {e : Expr} {d : PyData} (he : Ev prog w K n c e d) (hx : Sto c.names (ownCells c.names) x) (hown : ∀ y ds, c.own = some (y, ds) → (y == x) = false)
    (hs : ∀ env, FrameOk env c.names → swapsWith e (some (.Name x px)) pos.line env = pure false := by intro _ _; rfl) : Ex1 prog w K n c (.Assign [.Name x px] e pos) (.next ((x, d) :: c.vars) c.own) := fun A env hb W Zc Zo s rm fo t => by
  refine wpAny_Assign_Name (wpAny_mono (he A env _ s rm fo t.sta) (fun v s₁ ⟨hv, k⟩ => ?_) fun _ _ q => q) (hs env fo)
  obtain ⟨h₁, tk₁, rfl, k₁⟩ := k
  have t1 := t.keeps k₁
  refine store fo.kind t1.fr (hx.kind fo) fun h₂ tk₂ wr fr' hh ho => ?_
  refine ⟨h₂, tk₂, Zo, rfl, (Kept.step k₁).trans wr.step, ?_⟩
  exact t1.tgt (td := [(x, d)]) wr fr' (fun y d' q => by obtain ⟨rfl, rfl⟩ := lookup_one q; exact ⟨v, hh, Has.keptS wr.keptS hv⟩) (fun y u q hu => ho y u (lookup_one_none q) hu) (fun y ds q => by
    have := hown y ds q
    rw [List.lookup_cons, this]; rfl)
theorem ex_return {e : Expr} {pos : Pos} {d : PyData} (he : Ev prog w K n c e d) : Ex1 prog w K n c (.Return (some e) pos) (.ret d) := fun A env hb W Zc Zo s rm fo t =>
  wpAny_Return_some (wpAny_mono (he A env _ s rm fo t.sta) (fun v s₁ ⟨hv, k⟩ => by
    obtain ⟨h₁, tk₁, rfl, k₁⟩ := k
    exact ⟨h₁, tk₁, Zo, rfl, Kept.step k₁, Has.shun (fun z hz => .inl (List.mem_append.mpr (.inr hz))) hv, t.keep.trans k₁⟩) fun _ _ q => q)
theorem ex_break {pos : Pos} {vars : Vars} {own : Ow} {names : List (Str × NameKind)} : Ex1 prog w K n ⟨names, vars, own⟩ (.Break pos) (.brk vars own) := fun A env hb W Zc Zo s rm fo t =>
  wpAny_Break ⟨s.heap, s.toks, Zo, rfl, Step.refl _ _, t⟩
theorem ex_if {test : Expr} {body orelse : List Stmt} {pos : Pos} {b : Bool} {o : Out} (ht : Tr prog w K n c test b) (hb : b = true → Ex prog w K n c body o) (ho : b = false → Ex prog w K n c orelse o) : Ex1 prog w K n c (.If test body orelse pos) o := fun A env hb' W Zc Zo s rm fo t =>
  wpAny_If (wpAny_mono (ht A env _ s rm fo t.sta) (fun r s₁ ⟨e, k⟩ => by
    subst e
    obtain ⟨h₁, tk₁, rfl, k₁⟩ := k
    cases r with
    | true => exact wpAny_mono (hb rfl A env hb' W Zc Zo _ rm fo (t.keeps k₁)) (fun fl s₂ p => post_trans (Kept.step k₁) p) fun _ _ q => q
    | false => exact wpAny_mono (ho rfl A env hb' W Zc Zo _ rm fo (t.keeps k₁)) (fun fl s₂ p => post_trans (Kept.step k₁) p) fun _ _ q => q) fun _ _ q => q)
theorem ex_try {body orelse : List Stmt} {h₀ : ExceptHandler} {hs : List ExceptHandler} {pos : Pos} {d : PyData} (h : Ex prog w K n c body (.ret d)) : Ex1 prog w K n c (.Try body (h₀ :: hs) orelse [] pos) (.ret d) := fun A env hb W Zc Zo s rm fo t =>
  wpAny_Try_except (wpAny_mono (h A env hb W Zc Zo s rm fo t) (fun fl s₁ p => by
    cases fl with
    | ret v => exact p
    | _ => obtain ⟨h', tk, Zo', rfl, st1, ok⟩ := p; exact ok.elim) fun _ _ q => q.elim)
theorem ex_try_next {body : List Stmt} {h₀ : ExceptHandler} {hs : List ExceptHandler} {pos : Pos} {v : Vars} {ow : Ow} (h : Ex prog w K n c body (.next v ow)) : Ex1 prog w K n c (.Try body (h₀ :: hs) [] [] pos) (.next v ow) := fun A env hb W Zc Zo s rm fo t =>
  wpAny_Try_except (wpAny_mono (h A env hb W Zc Zo s rm fo t) (fun fl s₁ p => by
    cases fl with
    | next => exact wpAny_execs_nil p
    | _ => obtain ⟨h', tk, Zo', rfl, st1, ok⟩ := p; exact ok.elim) fun _ _ q => q.elim)
end
end
noncomputable section
open PySem PySem.W PySem.Calls PySem.Spec PyProof.Rows
set_option autoImplicit false
section
variable {prog : Program} {w : World} {K : Frag} {n : Nat} {c : Cx}

theorem FrW.notflds {env : Env} {own : List Str} {W X : List Addr} {h h' : Heap} (x : FrW env own W h) (hX : ∀ b ∈ X, ∃ o, h.get? b = some o ∧ (isSeq o ∨ isFlds o)) (k : ∀ b o, b ∉ X → h.get? b = some o → h'.get? b = some o) : FrW env own W h' := by
  refine ⟨?_, x.inW, fun y hy => ?_⟩
  · obtain ⟨m, e⟩ := x.ns
    exact ⟨m, e.at fun o q => k _ o (fun hm => let ⟨o', e', f⟩ := hX _ hm; ns_not_seq e e' f rfl) q⟩
  · obtain ⟨c, a, b, ⟨v, e'⟩, e⟩ := x.cell y hy
    have hne : c ∉ X := fun hm => let ⟨o', e2, f⟩ := hX _ hm; cell_not_seq e' e2 f rfl
    obtain ⟨o', ho, hd⟩ := e'
    exact ⟨c, a, b, ⟨v, o', k _ _ hne ho, hd⟩, e⟩
theorem Holds.notflds {env : Env} {h h' : Heap} {X : List Addr} {x : Str} {v : Value} (q : Holds env h x v) (hX : ∀ b ∈ X, ∃ o, h.get? b = some o ∧ (isSeq o ∨ isFlds o)) (k : ∀ b o, b ∉ X → h.get? b = some o → h'.get? b = some o) : Holds env h' x v := by
  rcases q with ⟨a, m, b, e⟩ | ⟨a, c, b, d⟩
  · exact .inl ⟨a, m, b.at fun o q => k _ o (fun hm => let ⟨o', e', f⟩ := hX _ hm; ns_not_seq b e' f rfl) q, e⟩
  · have hne : c ∉ X := fun hm => let ⟨o', e2, f⟩ := hX _ hm; cell_not_seq d e2 f rfl
    obtain ⟨o', ho, hd⟩ := d
    exact .inr ⟨a, c, b, o', k _ _ hne ho, hd⟩
theorem seq_ne_flds {h : Heap} {X : List Addr} {b : Addr} {o' : Obj} (hX : ∀ b ∈ X, ∃ o, h.get? b = some o ∧ isFlds o) (e : h.get? b = some o') (q : isSeq o') : b ∉ X := fun hm => by
  obtain ⟨o, hI, hf⟩ := hX b hm
  rw [hI] at e; cases e
  obtain ⟨_, _, q⟩ := q; obtain ⟨_, q'⟩ := hf; rw [q] at q'; cases q'
theorem StaS.but {env : Env} {hb h h' : Heap} {W Zc Zo X : List Addr} (t : StaS K env hb c W Zc Zo h) (hX : ∀ b ∈ X, ∃ o, h.get? b = some o ∧ isFlds o) (hn : ∀ b ∈ X, hb.get? b = none) (hz : ∀ z ∈ Zo ++ Zc, z ∉ X) (hw : ∀ b ∈ W, b ∉ X) (k : ∀ b o, b ∉ X → h.get? b = some o → h'.get? b = some o) : StaS K env hb c W Zc Zo h' where
  base := t.base
  keep := fun b o e => k b o (fun q => by rw [hn b q] at e; cases e) (t.keep b o e)
  vars := fun x d e => by
    obtain ⟨v, a, b⟩ := t.vars x d e
    exact ⟨v, a.notflds (fun b hb => let ⟨o, e, f⟩ := hX b hb; ⟨o, e, .inr f⟩) k, Has.keptS (fun b o e q _ => k b o (seq_ne_flds hX e q) e) b⟩
  own := fun x ds e => by
    obtain ⟨a, a1, its, b1, ⟨o', k', q1, q2, q3, q4⟩, b3⟩ := t.own x ds e
    exact ⟨a, a1, its, b1.notflds (fun b hb => let ⟨o, e, f⟩ := hX b hb; ⟨o, e, .inr f⟩) k, ⟨o', k', k _ _ (seq_ne_flds hX q1 ⟨_, _, q4⟩) q1, q2, q3, q4⟩, HasAll.keptS (fun b o e q _ => k b o (seq_ne_flds hX e q) e) b3⟩
  zs := fun z hm => by
    obtain ⟨o', ho⟩ := Option.isSome_iff_exists.mp (t.zs z hm)
    rw [k z o' (hz z hm) ho]; rfl
  fr := t.fr.notflds (fun b hb => let ⟨o, e, f⟩ := hX b hb; ⟨o, e, .inr f⟩) k
  newW := t.newW
  newZ := t.newZ
  liveW := fun z hm => by
    obtain ⟨o', ho⟩ := Option.isSome_iff_exists.mp (t.liveW z hm)
    rw [k z o' (hw z hm) ho]; rfl

/-! ### what a for needs of its iterator -/
structure Iter (prog : Program) (w : World) (A : Around) (target : Expr) (it : Value) (X fp : List Addr) (ds : List PyData) (R : Nat → Value → Prop) (g : Nat → PyData → PyData) (St : Nat → Heap → Prop) : Prop where
  flds : ∀ i h, St i h → ∀ x ∈ X, ∃ o, h.get? x = some o ∧ isFlds o
  frame : ∀ i h h', St i h → (∀ b, b ∈ fp ∨ b ∈ X → ∀ o, h.get? b = some o → h'.get? b = some o) → St i h'
  item : ∀ i (s : Shared) (Q : Value → Shared → Prop), i < ds.length → St i s.heap →
    (∀ v h' tk, St (i + 1) h' → (∀ b o, b ∉ X → s.heap.get? b = some o → h'.get? b = some o) → (∀ Z' d, (∀ u, R i u → Has Z' s.heap u d) → Has Z' h' v (g i d)) → Q v { s with heap := h', toks := tk }) →
    wpAny (model prog w) A (pyNext it) (fun r s₁ => match r with | none => False | some v => wpAny (model prog w) A (letOwnedTupleGo target it v) (fun _ s₂ => Q v s₂) noE s₁) noE s
  done : ∀ (s : Shared) (Q : Option Value → Shared → Prop), St ds.length s.heap → (∀ h' tk, (∀ b o, b ∉ X → s.heap.get? b = some o → h'.get? b = some o) → Q none { s with heap := h', toks := tk }) → wpAny (model prog w) A (pyNext it) Q noE s

def ItF (prog : Program) (w : World) (K : Frag) (n : Nat) (c : Cx) (target iter : Expr) (es : List PyData) : Prop :=
  (∀ env x, foldedSetIterable iter env x = pure x) ∧ ∀ A env Z (s : Shared), Rm n A → FrameOk env c.names → Sta K env c Z s.heap →
    wpAny (model prog w) A (eval iter env) (fun x s₁ => wpAny (model prog w) A (pyIter x) (fun it s₂ => ∃ X fp ds R g St, Iter prog w A target it X fp ds R g St ∧ St 0 s₂.heap ∧ es.length = ds.length ∧ (∀ (i : Nat) (d : PyData), ds[i]? = some d → es[i]? = some (g i d)) ∧
      (∀ b ∈ fp, ∃ o, s₂.heap.get? b = some o ∧ isSeq o ∧ (b ∉ Z ∨ o.cls = .type "tuple")) ∧ (∀ x ∈ X, s.heap.get? x = none) ∧ (∀ i u d, ds[i]? = some d → R i u → Has Z s₂.heap u d) ∧ Keeps s s₂) noE s₁) noE s

theorem It.f {target iter : Expr} {ds : List PyData} (h : It prog w K n c iter ds true) : ItF prog w K n c target iter ds :=
  ⟨h.1, fun A env Z s rm fo t => wpAny_mono (h.2 A env Z s rm fo t) (fun x s₁ h₁ => wpAny_mono h₁ (fun it s₂ h₂ => by
    obtain ⟨I, rfl, ⟨fp, P, St, Wk, st0, hfp, nice, hP⟩, hI, ks⟩ := h₂
    refine ⟨[I], fp.filter (· != I), ds, P, fun _ d => d, St, ⟨?_, ?_, ?_, ?_⟩, st0, rfl, fun i d e => e, ?_, ?_, fun i u d hd hp => hP i u d hd hp, ks⟩
    · intro i h st x hx
      simp at hx; subst hx
      obtain ⟨o, T, a, b, _⟩ := nice i h st
      exact ⟨o, a, b⟩
    · intro i h h' st k
      refine Wk.frame i h h' st fun b hb o e => ?_
      by_cases q : b = I
      · exact k b (.inr (by simp [q])) o e
      · exact k b (.inl (List.mem_filter.mpr ⟨hb, by simpa using q⟩)) o e
    · intro i s Q hi st hQ
      refine Wk.item i s _ _ hi st fun v h' tk hv st' hk => ?_
      obtain ⟨o, T, a, b, c1, c2⟩ := nice (i + 1) h' st'
      refine letOwned_nice a b c1 c2 (hQ v h' tk st' (fun b o hb e => hk b o hb e) fun Z' d hd => ?_)
      obtain ⟨oi, Ti, ai, bi, _⟩ := nice i _ st
      exact Has.keptS (fun b o e q _ => hk b o (seq_ne_flds (X := [I]) (fun x hx => by simp at hx; subst hx; exact ⟨oi, ai, bi⟩) e q) e) (hd v hv)
    · intro s Q st hQ
      exact Wk.done s _ _ st fun h' tk hk => hQ h' tk hk
    · intro b hb
      obtain ⟨h1, h2⟩ := List.mem_filter.mp hb
      rcases hfp b h1 with q | ⟨o, a, b1, b2⟩
      · simp [q] at h2
      · exact ⟨o, a, b1, b2 rfl⟩
    · intro x hx
      simp at hx; subst hx; exact hI) fun _ _ q => q) fun _ _ q => q⟩

/-! ### for -/
inductive LoopO (prog : Program) (w : World) (K : Frag) (n : Nat) (names : List (Str × NameKind)) (target : Expr) (body orelse : List Stmt) : List PyData → Vars → Ow → Out → Prop
  | nil {v : Vars} {ow : Ow} {o : Out} : Ex prog w K n ⟨names, v, ow⟩ orelse o → LoopO prog w K n names target body orelse [] v ow o
  | next {d : PyData} {ds : List PyData} {v v' td : Vars} {ow ow' : Ow} {o : Out} : Tgt prog w target names (ownCells names) d td → (∀ x l, ow = some (x, l) → td.lookup x = none) → Ex prog w K n ⟨names, td ++ v, ow⟩ body (.next v' ow') →
      LoopO prog w K n names target body orelse ds v' ow' o → LoopO prog w K n names target body orelse (d :: ds) v ow o
  | brk {d : PyData} {ds : List PyData} {v v' td : Vars} {ow ow' : Ow} : Tgt prog w target names (ownCells names) d td → (∀ x l, ow = some (x, l) → td.lookup x = none) → Ex prog w K n ⟨names, td ++ v, ow⟩ body (.brk v' ow') →
      LoopO prog w K n names target body orelse (d :: ds) v ow (.next v' ow')
  | ret {d r : PyData} {ds : List PyData} {v td : Vars} {ow : Ow} : Tgt prog w target names (ownCells names) d td → (∀ x l, ow = some (x, l) → td.lookup x = none) → Ex prog w K n ⟨names, td ++ v, ow⟩ body (.ret r) →
      LoopO prog w K n names target body orelse (d :: ds) v ow (.ret r)

def Turn (prog : Program) (w : World) (A : Around) (target : Expr) (body : List Stmt) (env : Env) (I : Nat → Shared → Prop) (R : Result → Shared → Prop) (n : Nat) (v : Value) (s : Shared) : Prop :=
  wpAny (model prog w) A (assign target env v) (fun _ s₂ => wpAny (model prog w) A (execs body env) (fun f s₃ => match f with
            | .next | .cont => ∃ m, m < n ∧ I m s₃
            | .brk => R (.ok .next) s₃
            | .ret v => R (.ok (.ret v)) s₃) noE s₂) noE s
theorem forLoop_turn {A : Around} {R : Result → Shared → Prop} {s : Shared} {target : Expr} {it : Value} {body orelse : List Stmt} {env : Env} (I : Nat → Shared → Prop)
    (turn : ∀ n s, I n s → wpAny (model prog w) A (pyNext it) (fun r s₁ => match r with
      | none => wpAny (model prog w) A (execs orelse env) (fun f s₃ => R (.ok f) s₃) noE s₁
      | some v => wpAny (model prog w) A (letOwnedTupleGo target it v) (fun _ s₁' => Turn prog w A target body env I R n v s₁') noE s₁) noE s)
    (n : Nat) (h : I n s) : codeAny (model prog w) A (.forLoop target it body orelse env) R s :=
  codeAny_forLoop_any I (fun n s h => wpAny_mono (turn n s h) (fun r s₁ hr => by
    cases r with
    | none => exact no_mono hr
    | some v => exact no_mono (wpAny_mono hr (fun _ s' h' => no_mono (wpAny_mono h' (fun _ s2 h2 => no_mono h2) fun _ _ q => q)) fun _ _ q => q)) fun _ _ q => q.elim) n h

theorem ex_for {target iter : Expr} {body orelse : List Stmt} {pos : Pos} {ds : List PyData} {o : Out} (hit : ItF prog w K n c target iter ds) (hl : LoopO prog w K n c.names target body orelse ds c.vars c.own o) :
    Ex1 prog w K n c (.For target iter body orelse pos) o := fun A env hb W Zc Zo s rm fo t => by
  refine wpAny_For (wpAny_mono (hit.2 A env _ s rm fo t.sta) (fun x s₁ h₁ => wpAny_mono h₁ (fun it s₂ h₂ => ?_) fun _ _ q => q) fun _ _ q => q) (hit.1 env)
  obtain ⟨X, fp, bs, R, g, St, Wk, st0, hlen, hg, hfp, hI, hP, ks⟩ := h₂
  obtain ⟨h₂, tk₂, rfl, k₂⟩ := ks
  have hbI : ∀ x ∈ X, hb.get? x = none := fun x hx => by
    cases e : hb.get? x with
    | none => rfl
    | some o => have := hI x hx; rw [t.keep _ _ e] at this; cases this
  have hsX : ∀ b o, s.heap.get? b = some o → b ∉ X := fun b o e q => by rw [hI b q] at e; cases e
  have fX := Wk.flds 0 _ st0
  have hwI : ∀ b ∈ W, b ∉ X := fun b hm q => by
    have := t.liveW b hm; rw [hI b q] at this; cases this
  refine forLoop_turn (fun k s' => ∃ H tk Z' i v ow, s' = { s with heap := H, toks := tk } ∧ i ≤ ds.length ∧ k = ds.length + 1 - i ∧ St i H ∧ StaS K env hb ⟨c.names, v, ow⟩ W Zc Z' H ∧ LoopO prog w K n c.names target body orelse (ds.drop i) v ow o ∧
      Step Zo Z' s.heap H ∧ (∀ z ∈ Z', z ∈ Zo ∨ h₂.get? z = none) ∧ (∀ z ∈ Zo, z ∈ Z') ∧ (∀ b, (h₂.get? b).isSome = true → (H.get? b).isSome = true) ∧ ∀ b o, b ∉ X → h₂.get? b = some o → isSeq o → (b ∉ Zo ∨ o.cls = .type "tuple") → H.get? b = some o) ?_ (ds.length + 1)
      ⟨h₂, tk₂, Zo, 0, c.vars, c.own, rfl, Nat.zero_le _, rfl, st0, t.keeps k₂, by simpa using hl, Kept.step k₂, fun z hz => .inl hz, fun z hz => hz, fun b e => e, fun b o _ e _ _ => e⟩
  rintro k s' ⟨H, tk, Z', i, v, ow, rfl, hi, rfl, sti, ti, li, si, hz1, hz2, hlv, hkp⟩
  have fi := Wk.flds i H sti
  have stepI : ∀ {h' : Heap}, (∀ b o, b ∉ X → H.get? b = some o → h'.get? b = some o) → Step Zo Z' s.heap h' := fun {h'} kk => by
    obtain ⟨a1, a2, a3, a4⟩ := si
    refine ⟨fun b o e q => kk b o (hsX b o e) (a1 b o e q), fun b e => ?_, a3, a4⟩
    obtain ⟨o', ho⟩ := Option.isSome_iff_exists.mp (a2 b e)
    obtain ⟨o'', ho''⟩ := Option.isSome_iff_exists.mp e
    rw [kk b o' (hsX b o'' ho'') ho]; rfl
  have hzI : ∀ z ∈ Z' ++ Zc, z ∉ X := fun z hz q => by
    rcases List.mem_append.mp hz with hz | hz
    · rcases hz1 _ hz with q' | q'
      · have := t.zs _ (List.mem_append.mpr (.inl q')); rw [hI z q] at this; cases this
      · obtain ⟨o, e, _⟩ := fX z q; rw [e] at q'; cases q'
    · have := t.zs _ (List.mem_append.mpr (.inr hz)); rw [hI z q] at this; cases this
  by_cases hlt : i < ds.length
  · have hbi : bs[i]? = some (bs[i]'(by omega)) := by simp
    have hdi := hg i _ hbi
    generalize (bs[i]'(by omega)) = bd at hbi hdi
    have hdr : ds.drop i = g i bd :: ds.drop (i + 1) := by
      rw [List.drop_eq_getElem_cons hlt]
      congr 1
      have := List.getElem?_eq_some_iff.mp hdi
      exact this.2
    rw [hdr] at li
    refine wpAny_mono (Wk.item i { s with heap := H, toks := tk } (fun v s₂ => Turn prog w A target body env _ _ (ds.length + 1 - i) v s₂) (by omega) sti ?turn) (fun r s₁ hr => by
      cases r with
      | none => exact hr.elim
      | some v => exact hr) fun _ _ q => q.elim
    intro u h₃ tk₃ st₃ hk₃' hu
    have t₃ := ti.but fi hbI hzI hwI hk₃'
    have f3 := Wk.flds (i + 1) h₃ st₃
    have hu₃ : Has (Z' ++ Zc) h₃ u (g i bd) := by
      refine hu _ _ fun x hx => ?_
      have q := hP i x bd hbi hx
      have q2 : Has (Z' ++ Zc) h₂ x bd := Has.shun (fun z hz => (List.mem_append.mp hz).elim (fun e => (hz1 z e).imp (fun e => List.mem_append.mpr (.inl e)) id) fun e => .inl (List.mem_append.mpr (.inr e))) q
      refine Has.keptS (fun b o e q hb => ?_) q2
      exact hkp b o (seq_ne_flds fX e q) e q (hb.imp (fun hb hm => hb (List.mem_append.mpr (.inl (hz2 _ hm)))) id)
    have turn : ∀ {td : Vars}, Tgt prog w target c.names (ownCells c.names) (g i bd) td → (∀ x l, ow = some (x, l) → td.lookup x = none) → ∀ {o' : Out}, Ex prog w K n ⟨c.names, td ++ v, ow⟩ body o' →
        ∀ {R : Flow → Shared → Prop}, (∀ fl H' tk' Z'', Step Z' Z'' h₃ H' → St (i + 1) H' → OutOk K env hb c.names W Zc Z'' H' o' fl → R fl { s with heap := H', toks := tk' }) →
          wpAny (model prog w) A (assign target env u) (fun _ s₂ => wpAny (model prog w) A (execs body env) R noE s₂) noE { s with heap := h₃, toks := tk₃ } := by
      intro td htd hod o' hex R hR
      refine (htd A env W (Z' ++ Zc) _ u _ rm.handled fo t₃.fr hu₃ fun h₄ tk₄ wr₄ fr₄ hvars hother => ?_)
      have t₄ := t₃.tgt wr₄ fr₄ hvars hother hod
      refine (wpAny_mono (hex A env hb W Zc Z' _ rm fo t₄) (fun fl s₅ p => ?_) fun _ _ q => q)
      obtain ⟨h₅, tk₅, Z'', rfl, st₅, ok⟩ := p
      refine hR fl h₅ tk₅ Z'' (wr₄.step.trans st₅) ?_ ok
      refine Wk.frame _ _ _ st₃ fun b hb o e => ?_
      by_cases hbX : b ∈ X
      · obtain ⟨o3, ho₃, hf₃⟩ := f3 b hbX
        rw [ho₃] at e; cases e
        exact st₅.1 _ _ (wr₄.1 _ _ ho₃ (.inr (.inr hf₃))) (.inl hf₃)
      · obtain ⟨o', e', q, hq⟩ := hfp b (hb.resolve_right hbX)
        have hq' : b ∉ Zo ∨ o'.cls = .type "tuple" := hq.imp (fun h hm => h (List.mem_append.mpr (.inl hm))) id
        have e3 := hk₃' b o' hbX (hkp b o' hbX e' q hq')
        rw [e3] at e; cases e
        refine st₅.1 _ _ (wr₄.1 _ _ e3 (.inr (.inl q))) (.inr ⟨q, hq'.imp (fun h hm => ?_) id⟩)
        rcases hz1 b hm with h' | h'
        · exact h h'
        · rw [h'] at e'; cases e'
    cases li with
    | next htd hod hex hrest =>
      refine turn htd hod hex fun fl H' tk' Z'' st5 st6 ok => ?_
      cases fl with
      | next =>
        refine ⟨ds.length + 1 - (i + 1), by omega, H', tk', Z'', i + 1, _, _, rfl, hlt, rfl, st6, ok, hrest, (stepI hk₃').trans st5, ?_, fun z hz => st5.2.2.1 z (hz2 z hz), ?_, ?_⟩
        · intro z hz
          rcases st5.2.2.2 z hz with q | q
          · exact hz1 z q
          · refine .inr ?_
            cases e : h₂.get? z with
            | none => rfl
            | some oz =>
              exfalso
              by_cases hzI : z ∈ X
              · obtain ⟨o3, ho₃, _⟩ := f3 z hzI
                rw [ho₃] at q; cases q
              · obtain ⟨o', ho⟩ := Option.isSome_iff_exists.mp (hlv z (by rw [e]; rfl))
                rw [hk₃' z o' hzI ho] at q; cases q
        · intro b e
          by_cases hbI' : b ∈ X
          · obtain ⟨o', e', _⟩ := Wk.flds _ _ st6 b hbI'
            rw [e']; rfl
          · obtain ⟨o', ho⟩ := Option.isSome_iff_exists.mp (hlv b e)
            exact st5.2.1 b (by rw [hk₃' b o' hbI' ho]; rfl)
        · intro b o hbI' e q hb
          refine st5.1 b o (hk₃' b o hbI' (hkp b o hbI' e q hb)) (.inr ⟨q, hb.imp (fun h hm => ?_) id⟩)
          rcases hz1 b hm with h' | h'
          · exact h h'
          · rw [h'] at e; cases e
      | _ => exact ok.elim
    | brk htd hod hex =>
      refine turn htd hod hex fun fl H' tk' Z'' st5 st6 ok => ?_
      cases fl with
      | brk => exact ⟨H', tk', Z'', rfl, (stepI hk₃').trans st5, ok⟩
      | _ => exact ok.elim
    | ret htd hod hex =>
      refine turn htd hod hex fun fl H' tk' Z'' st5 st6 ok => ?_
      cases fl with
      | ret r => exact ⟨H', tk', Z'', rfl, (stepI hk₃').trans st5, ok⟩
      | _ => exact ok.elim
  · have hie : i = ds.length := by omega
    subst hie
    rw [List.drop_length] at li
    rw [hlen] at sti
    refine (Wk.done _ _ sti fun h₃ tk₃ hk₃' => ?_)
    have t₃ := ti.but fi hbI hzI hwI hk₃'
    cases li with
    | nil hex =>
      refine (wpAny_mono (hex A env hb W Zc Z' _ rm fo t₃) (fun fl s₅ p => ?_) fun _ _ q => q)
      exact post_trans (stepI hk₃') p
end
end
noncomputable section
open PySem PySem.W PySem.Calls PySem.Spec PyProof.Rows
set_option autoImplicit false
open AutoSeq1 (wpAny_loadPart')
section
variable {prog : Program} {w : World} {A : Around} {E : Value → Shared → Prop} {s : Shared}

/-- a tuple's iterator is asked for its next item -/
theorem nextOf_tuple {it t : Addr} {i : Nat} {items : Array Value} {Q : Value → Shared → Prop} (hh : A.handled = none) (hit : IsTupIter s.heap it t i) (ht : IsTup s.heap t items)
    (more : ∀ x h', items[i]? = some x → IsTupIter h' it t (i + 1) → Heap.SameBut it s.heap h' → Q x { s with heap := h' })
    (over : ∀ h' e, items[i]? = none → Heap.ExtBut it s.heap h' → (∃ o, h'.get? e = some o ∧ o.cls = .type "StopIteration") → E (.ref e) { s with heap := h' }) : wpAny (model prog w) A (Builtin.SmallTypes.nextOf (.ref it)) Q E s := by
  obtain ⟨o, ho, hc, hd⟩ := id hit
  obtain ⟨ot, hot, _, m, hdt⟩ := ht
  have there : ¬ ((Value.ref t == Value.none) = true) := Bool.false_ne_true
  unfold Builtin.SmallTypes.nextOf
  refine wpAny_bind (wpAny_callSpecial?_slot (name := Str.ofString "__next__") hit.typeIs slot_tupleiter_next (wpAny_call_entry slot_tupleiter_next hit.typeIs entry_tupleiter_next ?_ (args_tupleiter_next _)))
  refine wpAny_bind (m := field (.ref it) 0) (wpAny_field ho hd (x := .ref t) rfl ?_)
  show wpAny _ _ (if (Value.ref t == Value.none) = true then _ else _) _ _ s
  rw [if_neg there]
  refine wpAny_bind (m := field (.ref it) 1) (wpAny_field ho hd (x := .int i 0) rfl (wpAny_bind (m := seqItems? (.ref t)) (wpAny_seqItems hot hdt ?_)))
  simp only [Int.toNat_natCast]
  cases hx : items[i]? with
  | some x =>
    refine wpAny_bind (wpAny_setField ho hd (by simp) (wpAny_pure ⟨x, rfl, wpAny_pure (more x _ hx ⟨_, Heap.get?_update_self _ ho (Obj.isFreed_of_fields (Obj.data_mapFields hd _)), (Obj.cls_mapFields ..).trans hc, ?_⟩ (Heap.SameBut.update _ _ _))⟩))
    rw [Obj.data_mapFields hd]
    simp [rawInt]
  | none =>
    have q := fun h' e => over h' e hx
    refine wpAny_bind (wpAny_rule (wpAny_bind (wpAny_setField ho hd (by simp) (wpAny_bind (m := newExc (.type "StopIteration") []) ?_))))
    simp only [newExc, newTuple]
    refine wpAny_bind (wpAny_newObj_type (wpAny_bind (m := firstArgMember _ _) (wpAny_of_eq (a := Value.none) rfl (wpAny_newObj_type ?_ (by size_fits)))) (by size_fits))
    simp only [raiseNew]
    refine wpAny_bind (wpAny_handled ?_)
    rw [show A.in1.handled = none from hh]
    exact wpAny_bind (wpAny_pure (wpAny_throw (q _ _ (((Heap.SameBut.update _ _ _).extBut.push _).push _) ⟨_, Heap.get?_push_size _ rfl, rfl⟩)))
theorem draws_tuple (hh : A.handled = none) (it l : Addr) (hne : l ≠ it) (items : Array Value) :
    Draws prog w A it [it, l] items.size (fun i v => items[i]? = some v) (fun i h => IsTupIter h it l i ∧ IsTup h l items) where
  live := fun _ _ st => let ⟨o, ho, _⟩ := st.1; ⟨o, ho⟩
  frame := fun _ _ _ st hk => ⟨let ⟨o, ho, r⟩ := st.1; ⟨o, hk it (by simp) o ho, r⟩, let ⟨o, ho, r⟩ := st.2; ⟨o, hk l (by simp) o ho, r⟩⟩
  item := fun i s Q E hi st hQ => nextOf_tuple hh st.1 st.2 (fun x h' hx it' same => hQ x h' s.toks hx ⟨it', let ⟨o, ho, r⟩ := st.2; ⟨o, (same.2 l hne).trans ho, r⟩⟩ same) fun h' e hx _ _ => by
    rw [Array.getElem?_eq_getElem hi] at hx; cases hx
  done := fun s Q E st hE => nextOf_tuple hh st.1 st.2 (fun x h' hx _ _ => by rw [Array.getElem?_eq_none (Nat.le_refl _)] at hx; cases hx) fun h' e _ k q => hE h' e k q

theorem meets_enumerate_newT (l : Addr) (items : Array Value) (n : Nat) (dct : Option Addr) (sl : Array (Option Value)) :
    Meets (Builtin.«enumerate.__new__» ⟨[.type "enumerate", .ref l], []⟩) (fun _ R s => s.heap.get? l = some { cls := .type "tuple", dict := dct, data := .seq items n, slots := sl } ∧
      R (.ok (.ret (.ref (s.heap.push { cls := .type "tuple_iterator", data := .fields #[.ref l, .int 0 0] }).objs.size)))
        { s with heap := (s.heap.push { cls := .type "tuple_iterator", data := .fields #[.ref l, .int 0 0] }).push { cls := .type "enumerate", data := .fields #[.none, .bool false, .ref s.heap.objs.size, rawInt 0, .none, .none] } }) :=
  .of_wp fun prog w A R s h => by
    obtain ⟨hp, g, d, tk, os⟩ := s; obtain ⟨hl, h⟩ := h
    have hsub := sub_enumerate
    have hL : IsTup (Shared.heap ⟨hp, g, d, tk, os⟩) l items := ⟨_, hl, rfl, n, rfl⟩
    wp_walk using wpAny_loadPart' hl
    refine wpAny_stack_any fun st => wpAny_pure ?_
    split
    · rename_i c _ _ _ _ _
      cases (c == Value.type "enumerate")
      · wp_walk using wpAny_loadPart' hl, iter_tuple hL
        exact ⟨_, rfl, h⟩
      · wp_walk using wpAny_loadPart' hl, iter_tuple hL
        exact ⟨_, rfl, h⟩
    · wp_walk using wpAny_loadPart' hl, iter_tuple hL
      exact ⟨_, rfl, h⟩
theorem call_enumerate_tuple {l : Addr} {items : Array Value} {Q : Value → Shared → Prop} (hL : IsTup s.heap l items)
    (h : ∀ h', IsEnum h' (s.heap.objs.size + 1) s.heap.objs.size 0 .none → IsTupIter h' s.heap.objs.size l 0 → h'.objs.size = s.heap.objs.size + 2 →
      (∀ b o, s.heap.get? b = some o → h'.get? b = some o) → Q (.ref (s.heap.objs.size + 1)) { s with heap := h' }) :
    wpAny (model prog w) A (call (.type "enumerate") [.ref l]) Q E s := by
  obtain ⟨o, ho, hc, n, hd⟩ := hL
  have io : s.heap.get? l = some { cls := .type "tuple", dict := o.dict, data := .seq items n, slots := o.slots } := by
    rw [ho, ← hc, ← hd]
  have z := Heap.size_push s.heap { cls := .type "tuple_iterator", data := .fields #[.ref l, .int 0 0] }
  refine callType_new F.called_enumerate (by decide) (F.typeCall_enumerate_1 _) (F.newCall_enumerate_1 _) (fun obj => F.args_object_init_2 obj _) F.entry_enumerate_new (meets_enumerate_newT l items n _ _) ⟨io, ?_⟩
  rw [z]
  have here : ((s.heap.push { cls := .type "tuple_iterator", data := .fields #[.ref l, .int 0 0] }).push { cls := .type "enumerate", data := .fields #[.none, .bool false, .ref s.heap.objs.size, rawInt 0, .none, .none] }).get? (s.heap.objs.size + 1) = some { cls := .type "enumerate", data := .fields #[.none, .bool false, .ref s.heap.objs.size, rawInt 0, .none, .none] } :=
    z ▸ Heap.get?_push_size _ rfl
  exact ⟨⟨_, here, rfl⟩, h _ here ⟨_, Heap.get?_push_of_some _ (Heap.get?_push_size _ rfl), rfl, rfl⟩ ((Heap.size_push _ _).trans (congrArg (· + 1) z)) fun b o q => Heap.get?_push_of_some _ (Heap.get?_push_of_some _ q)⟩
end

def enums (ds : List PyData) : List PyData := ds.mapIdx fun i d => PyData.tuple [.int i, d]
section
variable {prog : Program} {w : World} {K : Frag} {n : Nat} {c : Cx}
theorem iter_enum {A : Around} {e it : Addr} {fp : List Addr} {ds : List PyData} {P : Nat → Value → Prop} {St : Nat → Heap → Prop} {elts : List Expr} {k : Nat} {pos : Pos}
    (D : Draws prog w A.in1 it (it :: fp) ds.length P St) (hei : e ≠ it) (hef : e ∉ fp) (hf : ∀ i h, St i h → ∃ o, h.get? it = some o ∧ isFlds o) :
    Iter prog w A (.Tuple elts k pos) (.ref e) [e, it] fp ds P (fun i d => PyData.tuple [.int i, d]) (fun i h => (∃ old, IsEnum h e it i old) ∧ St i h) := by
  have Wk := WalksT.enumerateD D e hei (by simp [hei, hef]) (by simp)
  refine ⟨?_, ?_, ?_, ?_⟩
  · rintro i h ⟨⟨old, he⟩, st⟩ x hx
    simp at hx
    rcases hx with rfl | rfl
    · exact ⟨_, he, ⟨_, rfl⟩⟩
    · exact hf i h st
  · rintro i h h' st kk
    refine Wk.frame i h h' st fun b hb o q => ?_
    rcases List.mem_cons.mp hb with rfl | hb
    · exact kk _ (.inr (by simp)) o q
    · rcases List.mem_cons.mp hb with rfl | hb
      · exact kk _ (.inr (by simp)) o q
      · exact kk _ (.inl hb) o q
  · intro i s Q hi st hQ
    refine Wk.item i s _ _ hi st fun T vals h' tk ⟨t, x, hPx, hvals⟩ hT hTup hMid hk => ?_
    refine Wk.go elts k pos i T _ _ _ hMid fun h'' st' hk' => ?_
    refine hQ (.ref T) h'' tk st' (fun b o hb q => hk' b o hb (hk b o hb q)) fun Z' d hd => ?_
    have hx := hd x hPx
    subst hvals
    have hTX : T ∉ [e, it] := Wk.apart i T _ hMid
    obtain ⟨⟨old, he⟩, sti⟩ := st
    have fX : ∀ b ∈ [e, it], ∃ o, s.heap.get? b = some o ∧ isFlds o := fun b hb => by
      simp at hb
      rcases hb with rfl | rfl
      · exact ⟨_, he, ⟨_, rfl⟩⟩
      · exact hf i _ sti
    have hx' : Has Z' h'' x d := Has.keptS (fun b o q r _ => hk' b o (seq_ne_flds fX q r) (hk b o (seq_ne_flds fX q r) q)) hx
    obtain ⟨o, ho, hc, hd'⟩ := hTup
    exact Has.tuple ⟨o, hk' T o hTX ho, hc, hd'⟩ (HasAll.cons .int (HasAll.cons hx' .nil))
  · intro s Q st hQ
    exact Wk.done s _ _ st fun h' tk hk => hQ h' tk hk

theorem itf_enum_list {p pos pos' : Pos} {e : Expr} {elts : List Expr} {k : Nat} {ds : List PyData} (h : Ev prog w K n c e (.list ds)) (hk : c.names.lookup ("enumerate" : Str) = some .globalImplicit) (hg : nsIn K mainGlobals ("enumerate" : Str) = some none)
    (he : ∀ env, starEach [e] env = [(false, eval e env)] := by intro _; rfl) : ItF prog w K n c (.Tuple elts k pos') (.Call (.Name ("enumerate" : Str) p) [e] [] pos) (enums ds) :=
  ⟨fun _ _ => rfl, fun A env Z s rm f t => by
    refine wpAny_Call_NameR (name_blt (v := .type "enumerate") f t.base hk hg (by decide +kernel) ?_ rfl rfl)
    rw [he env]
    refine PySem.callWith_type1 (wpAny_mono (h A env Z s rm f t) (fun v s₁ ⟨hv, k⟩ => ?_) fun _ _ q => q)
    obtain ⟨a, vs, rfl, hz, hl, hall⟩ := hv.list_inv
    have e1 : vs.size = ds.length := by rw [← Array.length_toList, hall.length]
    have hal : a < s₁.heap.objs.size := by obtain ⟨o, ho, _⟩ := hl; exact Heap.lt_size ho
    refine call_enumerate_list hl fun h' he' hit' hsz' hk' => wpAny_pyIter_enum he' ?_
    have hl' : h'.IsList a vs := hl.at fun o q => hk' _ _ q
    have D : Draws prog w A.in1 s₁.heap.objs.size [s₁.heap.objs.size, a] ds.length (fun i v => vs[i]? = some v) (fun i h => h.IsListIter s₁.heap.objs.size a i ∧ h.IsList a vs) := by
      rw [← e1]; exact Draws.list (A := A.in1) rm.handled _ a (Nat.ne_of_lt hal) vs
    refine ⟨_, [a], ds, _, _, _, iter_enum (fp := [a]) D (Nat.succ_ne_self _) ?_ ?_, ⟨⟨_, he'⟩, hit', hl'⟩, by simp [enums], ?_, ?_, ?_, ?_, kp_trans k ⟨h', s₁.toks, rfl, hk'⟩⟩
    · simp; exact Nat.ne_of_gt (Nat.lt_succ_of_lt hal)
    · rintro i h ⟨⟨o, ho, _, hd⟩, _⟩
      exact ⟨o, ho, _, hd⟩
    · intro i d hd
      simp [enums, hd]
    · intro b hb
      simp at hb; subst hb
      obtain ⟨o, ho, _, k, hd⟩ := hl'
      exact ⟨o, ho, ⟨_, _, hd⟩, .inl hz⟩
    · intro x hx
      simp at hx
      cases q : s.heap.get? x with
      | none => rfl
      | some o =>
        have := Heap.lt_size (kp_kept k _ _ q)
        rcases hx with rfl | rfl
        · exact absurd this (Nat.not_lt.mpr (Nat.le_succ _))
        · exact absurd this (Nat.lt_irrefl _)
    · intro i u d hd hu
      obtain ⟨d', e1, e2⟩ := (HasAll.keeps (show Kept s₁.heap h' from hk') hall).get' (i := i) (by simpa using hu)
      rw [hd] at e1; cases e1; exact e2⟩
theorem itf_enum_tuple {p pos pos' : Pos} {e : Expr} {elts : List Expr} {k : Nat} {ds : List PyData} (h : Ev prog w K n c e (.tuple ds)) (hk : c.names.lookup ("enumerate" : Str) = some .globalImplicit) (hg : nsIn K mainGlobals ("enumerate" : Str) = some none)
    (he : ∀ env, starEach [e] env = [(false, eval e env)] := by intro _; rfl) : ItF prog w K n c (.Tuple elts k pos') (.Call (.Name ("enumerate" : Str) p) [e] [] pos) (enums ds) :=
  ⟨fun _ _ => rfl, fun A env Z s rm f t => by
    refine wpAny_Call_NameR (name_blt (v := .type "enumerate") f t.base hk hg (by decide +kernel) ?_ rfl rfl)
    rw [he env]
    refine PySem.callWith_type1 (wpAny_mono (h A env Z s rm f t) (fun v s₁ ⟨hv, k⟩ => ?_) fun _ _ q => q)
    obtain ⟨a, vs, rfl, hl, hall⟩ := hv.tuple_inv
    have e1 : vs.size = ds.length := by rw [← Array.length_toList, hall.length]
    have hal : a < s₁.heap.objs.size := hl.lt
    refine call_enumerate_tuple hl fun h' he' hit' hsz' hk' => wpAny_pyIter_enum he' ?_
    have hl' : IsTup h' a vs := hl.keeps hk'
    have D : Draws prog w A.in1 s₁.heap.objs.size [s₁.heap.objs.size, a] ds.length (fun i v => vs[i]? = some v) (fun i h => IsTupIter h s₁.heap.objs.size a i ∧ IsTup h a vs) := by
      rw [← e1]; exact draws_tuple (A := A.in1) rm.handled _ a (Nat.ne_of_lt hal) vs
    refine ⟨_, [a], ds, _, _, _, iter_enum (fp := [a]) D (Nat.succ_ne_self _) ?_ ?_, ⟨⟨_, he'⟩, hit', hl'⟩, by simp [enums], ?_, ?_, ?_, ?_, kp_trans k ⟨h', s₁.toks, rfl, hk'⟩⟩
    · simp; exact Nat.ne_of_gt (Nat.lt_succ_of_lt hal)
    · rintro i h ⟨⟨o, ho, _, hd⟩, _⟩
      exact ⟨o, ho, _, hd⟩
    · intro i d hd
      simp [enums, hd]
    · intro b hb
      simp at hb; subst hb
      obtain ⟨o, ho, hc, k, hd⟩ := hl'
      exact ⟨o, ho, ⟨_, _, hd⟩, .inr hc⟩
    · intro x hx
      simp at hx
      cases q : s.heap.get? x with
      | none => rfl
      | some o =>
        have := Heap.lt_size (kp_kept k _ _ q)
        rcases hx with rfl | rfl
        · exact absurd this (Nat.not_lt.mpr (Nat.le_succ _))
        · exact absurd this (Nat.lt_irrefl _)
    · intro i u d hd hu
      obtain ⟨d', e1, e2⟩ := (HasAll.keeps (show Kept s₁.heap h' from hk') hall).get' (i := i) (by simpa using hu)
      rw [hd] at e1; cases e1; exact e2⟩
end
end
noncomputable section
open PySem PySem.W PySem.Calls PySem.Spec PyProof.Rows
set_option autoImplicit false
section
variable {prog : Program} {w : World} {K : Frag} {n : Nat} {c : Cx}

theorem StaS.butNs {env : Env} {hb h h' : Heap} {W Zc Zo : List Addr} {C : Addr} {m : Str → Option Value} (t : StaS K env hb c W Zc Zo h) (hC : h.Ns C m) (hW : C ∉ W) (hn : hb.get? C = none) (hz : ∀ z ∈ Zo ++ Zc, z ≠ C) (hs : Heap.SameBut C h h') : StaS K env hb c W Zc Zo h' := by
  have k : ∀ b o, b ≠ C → h.get? b = some o → h'.get? b = some o := fun b o hb e => by rw [hs.2 b hb]; exact e
  have kS : ∀ {Z : List Addr}, KeptS Z h h' := fun b o e q _ => k b o (ns_not_seq hC e (.inl q)) e
  have hH : ∀ {x v}, Holds env h x v → Holds env h' x v := fun {x v} q => by
    rcases q with ⟨a, m', b, e⟩ | ⟨a, c', b, d⟩
    · exact .inl ⟨a, m', b.sameBut hs (fun q => hW (q ▸ t.fr.inW)), e⟩
    · exact .inr ⟨a, c', b, d.sameBut hs (ns_not_cell hC d)⟩
  have live : ∀ b, b ≠ C → (h.get? b).isSome = true → (h'.get? b).isSome = true := fun b hb e => by rw [hs.2 b hb]; exact e
  exact {
    base := t.base
    keep := fun b o e => k b o (fun q => by rw [q, hn] at e; cases e) (t.keep b o e)
    vars := fun x d e => let ⟨v, a, b⟩ := t.vars x d e; ⟨v, hH a, Has.keptS kS b⟩
    own := fun x ds e => by
      obtain ⟨a, a1, its, b1, ⟨o', k', q1, q2, q3, q4⟩, b3⟩ := t.own x ds e
      exact ⟨a, a1, its, hH b1, ⟨o', k', k _ _ (ns_not_seq hC q1 (.inl ⟨_, _, q4⟩)) q1, q2, q3, q4⟩, HasAll.keptS kS b3⟩
    zs := fun z hm => live z (hz z hm) (t.zs z hm)
    fr := t.fr.but hW k
    newW := t.newW
    newZ := t.newZ
    liveW := fun b hm => live b (fun q => hW (q ▸ hm)) (t.liveW b hm) }

theorem swaps_cell {elt : Expr} {gens : List Comprehension} {scope : Scope} {pos px : Pos} {x : Str} {l : Nat} {env : Env} {names : List (Str × NameKind)} (h : names.lookup x = some .cell) (fo : FrameOk env names) : swapsWith (.ListComp elt gens scope pos) (some (.Name x px)) l env = pure false := by
  show (pure (env.blockKind == .function && env.kindOf x == some .local && px.line == (Expr.ListComp elt gens scope pos).pos.line && !(scope.names.any fun (n, k) => n == x && (k == .local || k == .cell))) : Sem Bool) = pure false
  rw [cell_kind fo h]
  have e : (some NameKind.cell == some NameKind.local) = false := rfl
  rw [e, Bool.and_false, Bool.false_and, Bool.false_and]
theorem swaps_local {elt : Expr} {gens : List Comprehension} {scope : Scope} {pos px : Pos} {x : Str} {l : Nat} {env : Env} {names : List (Str × NameKind)} (h : names.lookup x = some .local) (hl : (px.line == pos.line && !(scope.names.any fun (n, k) => n == x && (k == .local || k == .cell))) = true) (fo : FrameOk env names) : swapsWith (.ListComp elt gens scope pos) (some (.Name x px)) l env = pure true := by
  show (pure (env.blockKind == .function && env.kindOf x == some .local && px.line == (Expr.ListComp elt gens scope pos).pos.line && !(scope.names.any fun (n, k) => n == x && (k == .local || k == .cell))) : Sem Bool) = pure true
  rw [local_kind fo h]
  have hb : env.blockKind = .function := by unfold Env.blockKind; rw [fo.kind]; rfl
  rw [hb]
  simp only [beq_self_eq_true, Bool.true_and]
  show pure (px.line == pos.line && _) = _
  rw [hl]

/-- x = [.. for ..], x a local of the frame, on one line -/
theorem ex_assign_comp {elt target iter : Expr} {ifs : List Expr} {scope : Scope} {cpos px pos : Pos} {x : Str} {ds : List PyData} {str : Bool} {p : PyData → Bool} {f : PyData → PyData} {td : PyData → List (Str × PyData)}
    (hit : It prog w K n c iter ds str) (hsz : ds.length ≤ sizeLine) (hx : c.names.lookup x = some .local) (hown : ∀ y ds, c.own = some (y, ds) → (y == x) = false)
    (hl : (px.line == cpos.line && !(scope.names.any fun (n, k) => n == x && (k == .local || k == .cell))) = true)
    (ht : ∀ d ∈ ds, Tgt prog w target scope.names (ownCells scope.names) d (td d))
    (htst : ∀ d ∈ ds, Tst prog w K n ⟨scope.names, td d ++ capt scope.names c.vars, none⟩ ifs (p d))
    (helt : ∀ d ∈ ds, p d = true → Ev prog w K n ⟨scope.names, td d ++ capt scope.names c.vars, none⟩ elt (f d))
    (hkind : scope.kind = .function := by rfl) (hcap : capOk c scope.names = true := by rfl) (hnames : namesOk scope.names = true := by rfl) :
    Ex1 prog w K n c (.Assign [.Name x px] (.ListComp elt [⟨target, iter, ifs, 0⟩] scope cpos) pos) (.next ((x, .list ((ds.filter p).map f)) :: c.vars) c.own) := fun A env hb W Zc Zo s rm fo t => by
  obtain ⟨cl, hcl, hcl1, hcl2⟩ := closure_of fo t.sta hcap
  rw [exec_Assign_Name_used _ _ _ _ (swaps_local hx hl fo)]
  refine wpAny_bind (wpAny_standAt (wpAny_bind ?_))
  show wpAny _ A (do let _ ← comprehension (.ListComp elt [⟨target, iter, ifs, 0⟩] scope cpos) scope env _ (newList []) false (eval iter env) (some (assign (.Name x px) env))) _ _ s
  refine wpAny_bind (wpAny_mono (wpAny_comprehension_free (use := some (assign (.Name x px) env)) (Q := fun _ s' => Post K env hb c.names W Zc Zo s (.next ((x, .list ((ds.filter p).map f)) :: c.vars) c.own) .next s') rfl (hit.1 env) hcl hkind (namesOk_of hnames) (wpAny_mono (hit.2 A env _ s rm fo t.sta) (fun xv s₁ h₁ => wpAny_mono h₁ (fun it s₂ h₂ => ?_) fun _ _ q => q) fun _ _ q => q)) (fun _ s' q => wpAny_pure (wpAny_pure q)) fun _ _ q => q)
  obtain ⟨I, rfl, src, hI, ks⟩ := h₂
  refine comp_block (RR := fun acc C => compPost (model prog w) A noE (some (assign (.Name x px) env)) (fun _ s' => Post K env hb c.names W Zc Zo s (.next ((x, .list ((ds.filter p).map f)) :: c.vars) c.own) .next s') acc C) rm fo t.sta ks hI src hsz hkind hcap hcl1 (fun x a e => Kept.some (kp_kept ks) _ (hcl2 x a e)) ht htst helt ?_
  intro D C h' tk m' ys hD hC hDC hn hl hall hk
  obtain ⟨h₂, tk₂, rfl, k₂⟩ := ks
  have hsC : s.heap.get? C = none := by
    cases q : s.heap.get? C with
    | none => rfl
    | some o => have := k₂ _ _ q; rw [show h₂.get? C = none from hC] at this; cases this
  have hsD : s.heap.get? D = none := by
    cases q : s.heap.get? D with
    | none => rfl
    | some o => have := k₂ _ _ q; rw [show h₂.get? D = none from hD] at this; cases this
  have kk : Kept s.heap h' := fun b o e => hk b o (fun q => by rw [q, hI] at e; cases e) (k₂ b o e)
  have t1 := t.keeps kk
  have hDZ : D ∉ Zo ++ Zc := fun hm => by have := t.zs D hm; rw [hsD] at this; cases this
  have hv : Has (Zo ++ Zc) h' (.ref D) (.list ((ds.filter p).map f)) := Has.list hl hDZ (HasAll.shun (fun z hz => .inl (.tail _ hz)) hall)
  show wpAny _ A (assign (.Name x px) env (.ref D)) _ _ _
  have hCW : C ∉ W := fun hm => by have := t.liveW C hm; rw [hsC] at this; cases this
  refine wpAny_assign_Name (store fo.kind t1.fr (.inl (local_kind fo hx)) fun h₃ tk₃ wr fr' hh ho => ?_)
  have hn₃ : h₃.Ns C m' := hn.at fun o e => wr.1 _ _ e (.inl hCW)
  have t3 := t1.tgt (td := [(x, .list ((ds.filter p).map f))]) wr fr' (fun y d' q => by obtain ⟨rfl, rfl⟩ := lookup_one q; exact ⟨_, hh, Has.keptS wr.keptS hv⟩) (fun y u q hu => ho y u (lookup_one_none q) hu) (fun y ds q => by
    have := hown y ds q
    rw [List.lookup_cons, this]; rfl)
  have neC : ∀ b, (s.heap.get? b).isSome = true → b ≠ C := fun b e q => by rw [q, hsC] at e; cases e
  refine ⟨m', hn₃, fun h₄ hs₄ => ⟨h₄, tk₃, Zo, rfl, ⟨fun b o e q => ?_, fun b e => ?_, fun _ e => e, fun _ e => .inl e⟩, ?_⟩⟩
  · show h₄.get? b = some o
    rw [hs₄.2 b (neC b (by rw [e]; rfl))]
    exact wr.1 b o (kk b o e) (.inr (q.elim .inr fun q => .inl q.1))
  · show (h₄.get? b).isSome = true
    rw [hs₄.2 b (neC b e)]
    exact wr.2 b (kk.some b e)
  · have hbC : hb.get? C = none := by
      cases q : hb.get? C with
      | none => rfl
      | some o => rw [t.keep _ _ q] at hsC; cases hsC
    exact t3.butNs hn₃ hCW hbC (fun z hz q => by have := t.zs z hz; rw [q, hsC] at this; cases this) hs₄

/-- x = [..], a list that the frame will turn -/
theorem ex_assign_own {x : Str} {px pos lpos : Pos} {es : List Expr} {ds : List PyData} (he : EvAll prog w K n c es ds) (hx : Sto c.names (ownCells c.names) x) (hno : c.own = none) (hv : c.vars.lookup x = none) (hsz : ds.length ≤ sizeLine)
    (hs : ∀ env, FrameOk env c.names → swapsWith (.List es lpos) (some (.Name x px)) pos.line env = pure false := by intro _ _; rfl) : Ex1 prog w K n c (.Assign [.Name x px] (.List es lpos) pos) (.next c.vars (some (x, ds))) := fun A env hb W Zc Zo s rm fo t => by
  refine wpAny_Assign_Name (wpAny_List (wpAny_mono (he A env _ s lpos rm fo t.sta) (fun vs s₁ ⟨hvs, k⟩ => ⟨by rw [hvs.length]; exact hsz, ?_⟩) fun _ _ q => q)) (hs env fo)
  obtain ⟨h₁, tk₁, rfl, k₁⟩ := k
  have k2 : Kept s.heap (h₁.push { cls := .type "list", data := .seq vs.toArray }) := Kept.trans k₁ (Kept.push _ _)
  have t1 := t.keeps k2
  generalize hD : h₁.objs.size = D
  have hDn : h₁.get? D = none := Heap.get?_none_of_le (by rw [hD]; exact Nat.le_refl _)
  have hsD : s.heap.get? D = none := by
    cases q : s.heap.get? D with
    | none => rfl
    | some o => rw [k₁ _ _ q] at hDn; cases hDn
  have hbD : hb.get? D = none := by
    cases q : hb.get? D with
    | none => rfl
    | some o => rw [t.keep _ _ q] at hsD; cases hsD
  have hDp : PlainL (h₁.push { cls := .type "list", data := .seq vs.toArray }) D vs.toArray := ⟨_, _, by rw [← hD]; exact Heap.get?_push_size _ rfl, rfl, rfl, rfl⟩
  have hall : HasAll (D :: (Zo ++ Zc)) (h₁.push { cls := .type "list", data := .seq vs.toArray }) vs.toArray.toList ds := by
    have q : HasAll (D :: (Zo ++ Zc)) h₁ vs ds := HasAll.shun (fun z hz => (List.mem_cons.mp hz).elim (fun e => .inr (e ▸ hDn)) .inl) hvs
    simpa using HasAll.keeps (Kept.push _ _) q
  refine store fo.kind t1.fr (hx.kind fo) fun h₂ tk₂ wr fr' hh ho => ?_
  refine ⟨h₂, tk₂, D :: Zo, rfl, ?_, ?_⟩
  · have s1 := (Kept.step (Zo := Zo) k2).trans wr.step
    refine ⟨s1.1, s1.2.1, fun z hz => .tail _ hz, fun z hz => ?_⟩
    rcases List.mem_cons.mp hz with rfl | hz
    · exact .inr hsD
    · exact .inl hz
  · have sh : ∀ z ∈ (D :: Zo) ++ Zc, z ∈ Zo ++ Zc ∨ s.heap.get? z = none := fun z hz => by
      rcases List.mem_cons.mp hz with rfl | hz
      · exact .inr hsD
      · exact .inl hz
    obtain ⟨oD, nD, q1, q2, q3, q4⟩ := hDp
    have hD2 := wr.1 _ _ q1 (.inr (.inl ⟨_, _, q4⟩))
    exact {
      base := t.base
      keep := fun b o e => wr.1 b o (t1.keep b o e) (.inl fun hm => by rw [t.newW b hm] at e; cases e)
      vars := fun y d e => by
        obtain ⟨v, a, b⟩ := t.vars y d e
        have hne : y ≠ x := fun q => by rw [q, hv] at e; cases e
        exact ⟨v, ho y v hne (a.keeps k2), Has.keptS wr.keptS (Has.keeps k2 (Has.shun sh b))⟩
      own := fun y l e => by
        cases e
        exact ⟨D, .head _, vs.toArray, hh, ⟨oD, nD, hD2, q2, q3, q4⟩, HasAll.keptS wr.keptS hall⟩
      zs := fun z hz => by
        rcases List.mem_cons.mp hz with rfl | hz
        · rw [hD2]; rfl
        · exact wr.2 _ (k2.some _ (t.zs z hz))
      fr := fr'
      newW := t.newW
      newZ := fun z hz => by
        rcases List.mem_cons.mp hz with rfl | hz
        · exact hbD
        · exact t.newZ z hz
      liveW := fun b hm => wr.2 _ (k2.some _ (t.liveW b hm)) }

/-- x.append(e), x the list that the frame turns -/
theorem ex_append {x : Str} {px apos cpos pos : Pos} {e : Expr} {d : PyData} {ds : List PyData} (he : Ev prog w K n c e d) (hx : c.own = some (x, ds)) (hsz : ds.length ≤ sizeLine)
    (hbase : ∀ env, attributeBase (.Name x px) ("append" : Str) env (eval (.Name x px) env) = eval (.Name x px) env := by intro _; rfl) (hline : (apos.endLine == cpos.line) = true := by rfl) (hst : ∀ env, starEach [e] env = [(false, eval e env)] := by intro _; rfl)
    (hd : (x == ("__debug__" : Str)) = false := by rfl) (hn : (x == ("__classdict__" : Str)) = false := by rfl) :
    Ex1 prog w K n c (.Expr (.Call (.Attribute (.Name x px) ("append" : Str) apos) [e] [] cpos) pos) (.next c.vars (some (x, ds ++ [d]))) := fun A env hb W Zc Zo s rm fo t => by
  have hint : interactive env = false := by unfold interactive; rw [fo.kind]; rfl
  refine wpAny_Expr_any (wpAny_Call_append (hbase env) (by rw [hst env]; rfl) hline (by rw [hst env]; rfl) ?_) hint rfl
  obtain ⟨a, ha, its, hh, hp, hall⟩ := t.own x ds hx
  refine wpAny_Name (load_of_holds fo.kind hh ⟨a, its, rfl, hp, ?_⟩ hn) hd
  refine wpAny_mono (he A env _ s rm fo t.sta) (fun v s₁ ⟨hv, k⟩ => ?_) fun _ _ q => q
  obtain ⟨h₁, tk₁, rfl, k₁⟩ := k
  have t1 := t.keeps k₁
  have hp1 : PlainL h₁ a its := hp.keeps k₁
  have hall1 := HasAll.keeps k₁ hall
  have hitz : its.size ≤ sizeLine := by
    have := hall.length
    rw [Array.length_toList] at this
    omega
  refine list_append_plainL hp1 (fun h₂ hp₂ hs₂ => ?_) hitz
  obtain ⟨oa, na, ea, ca, da, qa⟩ := id hp1
  have hs₂ : Heap.SameBut a h₁ h₂ := hs₂
  have k : ∀ b o, b ≠ a → h₁.get? b = some o → h₂.get? b = some o := fun b o hb e => by rw [hs₂.2 b hb]; exact e
  have kS : KeptS (Zo ++ Zc) h₁ h₂ := fun b o e q hb => k b o (by
    rintro rfl
    rcases hb with hb | hb
    · exact hb (List.mem_append.mpr (.inl ha))
    · rw [ea] at e; cases e; rw [ca] at hb; exact absurd hb (by decide)) e
  have hX : ∀ b ∈ [a], ∃ o, h₁.get? b = some o ∧ (isSeq o ∨ isFlds o) := fun b hb => by
    simp at hb; subst hb; exact ⟨oa, ea, .inl ⟨_, _, qa⟩⟩
  have k' : ∀ b o, b ∉ [a] → h₁.get? b = some o → h₂.get? b = some o := fun b o hb e => k b o (by simpa using hb) e
  have live : ∀ b, (h₁.get? b).isSome = true → (h₂.get? b).isSome = true := fun b e => by
    by_cases q : b = a
    · obtain ⟨o, _, e', _⟩ := hp₂; rw [q, e']; rfl
    · rw [hs₂.2 b q]; exact e
  refine ⟨h₂, tk₁, Zo, rfl, (Kept.step k₁).trans ⟨fun b o e q => ?_, live, fun _ e => e, fun _ e => .inl e⟩, ?_⟩
  · refine k b o ?_ e
    rintro rfl
    rw [show h₁.get? b = some oa from ea] at e; cases e
    rcases q with ⟨vs, q⟩ | ⟨_, q⟩
    · rw [qa] at q; cases q
    · rcases q with q | q
      · exact q ha
      · rw [ca] at q; exact absurd q (by decide)
  · exact {
      base := t.base
      keep := fun b o e => k b o (fun q => by rw [q, t.newZ a ha] at e; cases e) (t1.keep b o e)
      vars := fun y d e => by
        obtain ⟨v, a', b⟩ := t1.vars y d e
        exact ⟨v, a'.notflds hX k', Has.keptS kS b⟩
      own := fun y l e => by
        cases e
        refine ⟨a, ha, its.push v, (hh.keeps k₁).notflds hX k', hp₂, ?_⟩
        rw [Array.toList_push]
        exact (HasAll.keptS kS hall1).append (HasAll.cons (Has.keptS kS hv) .nil)
      zs := fun z hz => live z (t1.zs z hz)
      fr := t1.fr.notflds hX k'
      newW := t.newW
      newZ := t.newZ
      liveW := fun b hm => live b (t1.liveW b hm) }

/-- x += e, texts -/
theorem ex_iadd_str {x : Str} {px pos : Pos} {e : Expr} {a b : Str} (hv : c.vars.lookup x = some (.str a)) (he : Ev prog w K n c e (.str b)) (hx : Sto c.names (ownCells c.names) x) (hown : ∀ y ds, c.own = some (y, ds) → (y == x) = false) (hsz : a.length + b.length ≤ sizeLine)
    (hn : (x == ("__classdict__" : Str)) = false := by rfl) : Ex1 prog w K n c (.AugAssign (.Name x px) .Add e pos) (.next ((x, .str (a ++ b)) :: c.vars) c.own) := fun A env hb W Zc Zo s rm fo t => by
  obtain ⟨v, hh, hva⟩ := t.vars x _ hv
  obtain ⟨u, rfl⟩ := hva.str_inv
  refine wpAny_AugAssign_Name (load_of_holds fo.kind hh (wpAny_mono (he A env _ s rm fo t.sta) (fun v' s₁ ⟨hv', k⟩ => ?_) fun _ _ q => q) hn)
  obtain ⟨u', rfl⟩ := hv'.str_inv
  obtain ⟨h₁, tk₁, rfl, k₁⟩ := k
  refine PyProof.Rows.iadd_str (fun t' tk => ?_) hsz
  have t1 := t.keeps k₁
  refine store fo.kind t1.fr (hx.kind fo) fun h₂ tk₂ wr fr' hh ho => ?_
  refine ⟨h₂, tk₂, Zo, rfl, (Kept.step k₁).trans wr.step, ?_⟩
  exact t1.tgt (td := [(x, .str (a ++ b))]) wr fr' (fun y d' q => by obtain ⟨rfl, rfl⟩ := lookup_one q; exact ⟨_, hh, .str⟩) (fun y u q hu => ho y u (lookup_one_none q) hu) (fun y ds q => by
    have := hown y ds q
    rw [List.lookup_cons, this]; rfl)

/-- x, y = (e1, e2), the stores exchanged -/
theorem ex_assign_pair {x y : Str} {px py tpos vpos pos : Pos} {k k' : Nat} {e1 e2 : Expr} {d1 d2 : PyData} (h1 : Ev prog w K n c e1 d1) (h2 : Ev prog w K n c e2 d2) (hx : c.names.lookup x = some .local) (hy : c.names.lookup y = some .local) (hxy : (x == y) = false) (hno : c.own = none)
    (hw : ∀ env, FrameOk env c.names → swappedStores [.Tuple [.Name x px, .Name y py] k tpos] (.Tuple [e1, e2] k' vpos) env = pure (some [x, y]))
    (he1 : ∀ env, starEach [e1, e2] env = (false, eval e1 env) :: starEach [e2] env := by intro _; rfl) (he2 : ∀ env, starEach [e2] env = (false, eval e2 env) :: starEach [] env := by intro _; rfl) :
    Ex1 prog w K n c (.Assign [.Tuple [.Name x px, .Name y py] k tpos] (.Tuple [e1, e2] k' vpos) pos) (.next ((x, d1) :: (y, d2) :: c.vars) c.own) := fun A env hb W Zc Zo s rm fo t => by
  have hv := ev_tuple (k := k') (pos := vpos) (evs_cons h1 (evs_cons h2 evs_nil he2) he1) (by show 2 ≤ sizeLine; decide)
  refine Assign_Tuple_swapped (wpAny_mono (hv A env _ s rm fo t.sta) (fun v s₁ ⟨hv, kk⟩ => ?_) fun _ _ q => q) rfl (hw env fo)
  obtain ⟨h₁, tk₁, rfl, k₁⟩ := kk
  obtain ⟨a, vs, rfl, ht, hall⟩ := hv.tuple_inv
  obtain ⟨v1, r1, q1, hv1, hr1⟩ := hall.cons_inv
  obtain ⟨v2, r2, q2, hv2, hr2⟩ := hr1.cons_inv
  have q3 := hr2.nil_inv
  subst q3 q2
  have hsz : vs.size = 2 := by rw [← Array.length_toList, q1]; rfl
  show wpAny _ _ (unpackItems (.ref a) 2 none) _ _ _
  rw [← hsz]
  refine unpackItems_tuple rm.handled ht fun h₂ hext => ?_
  rw [q1]
  have k2 : Kept h₁ h₂ := fun b o q => hext b o (Nat.ne_of_lt (Heap.lt_size q)) q
  have t2 := (t.keeps k₁).keeps k2
  show wpAny _ _ (do holding [v1] (bindName env y v2); do holding [] (bindName env x v1); pure ()) _ _ _
  refine wpAny_bind (wpAny_holding (wpAny_bindName (store fo.kind t2.fr (.inl (local_kind fo hy)) fun h₃ tk₃ wr₃ fr₃ hh₃ ho₃ => ?_)))
  have t3 := t2.tgt (td := [(y, d2)]) wr₃ fr₃ (fun z d' q => by obtain ⟨rfl, rfl⟩ := lookup_one q; exact ⟨_, hh₃, Has.keptS wr₃.keptS (Has.keeps k2 hv2)⟩) (fun z u q hu => ho₃ z u (lookup_one_none q) hu) (fun z ds q => by rw [hno] at q; cases q)
  refine wpAny_bind (wpAny_holding (wpAny_bindName (store fo.kind t3.fr (.inl (local_kind fo hx)) fun h₄ tk₄ wr₄ fr₄ hh₄ ho₄ => wpAny_pure ?_)))
  have t4 := t3.tgt (td := [(x, d1)]) wr₄ fr₄ (fun z d' q => by obtain ⟨rfl, rfl⟩ := lookup_one q; exact ⟨_, hh₄, Has.keptS wr₄.keptS (Has.keptS wr₃.keptS (Has.keeps k2 hv1))⟩) (fun z u q hu => ho₄ z u (lookup_one_none q) hu) (fun z ds q => by rw [hno] at q; cases q)
  exact ⟨h₄, tk₄, Zo, rfl, (Kept.step k₁).trans ((Kept.step k2).trans (wr₃.step.trans wr₄.step)), t4⟩

/-! ### while -/
inductive WhileO (prog : Program) (w : World) (K : Frag) (n : Nat) (names : List (Str × NameKind)) (test : Expr) (body : List Stmt) : Nat → Vars → Ow → Vars → Ow → Prop
  | stop {k : Nat} {v : Vars} {ow : Ow} : Tr prog w K n ⟨names, v, ow⟩ test false → WhileO prog w K n names test body k v ow v ow
  | step {k : Nat} {v v' v'' : Vars} {ow ow' ow'' : Ow} : Tr prog w K n ⟨names, v, ow⟩ test true → Ex prog w K n ⟨names, v, ow⟩ body (.next v' ow') → WhileO prog w K n names test body k v' ow' v'' ow'' → WhileO prog w K n names test body (k + 1) v ow v'' ow''
theorem ex_while {test : Expr} {body : List Stmt} {pos : Pos} {k : Nat} {v : Vars} {ow : Ow} (h : WhileO prog w K n c.names test body k c.vars c.own v ow) : Ex1 prog w K n c (.While test body [] pos) (.next v ow) := fun A env hb W Zc Zo s rm fo t => by
  refine wpAny_While (codeAny_whileLoop (fun m s' => ∃ H tk Z' v' ow' j, s' = { s with heap := H, toks := tk } ∧ Step Zo Z' s.heap H ∧ StaS K env hb ⟨c.names, v', ow'⟩ W Zc Z' H ∧ WhileO prog w K n c.names test body j v' ow' v ow ∧ m = j) ?_ k ⟨s.heap, s.toks, Zo, c.vars, c.own, k, rfl, Step.refl _ _, t, h, rfl⟩)
  rintro m s' ⟨H, tk, Z', v', ow', j, rfl, st, t', hw, rfl⟩
  cases hw with
  | stop ht =>
    refine no_mono (wpAny_mono (ht A env _ _ rm fo t'.sta) (fun r s₁ ⟨e, k⟩ => ?_) fun _ _ q => q)
    subst e
    obtain ⟨h₁, tk₁, rfl, k₁⟩ := k
    exact wpAny_execs_nil ⟨h₁, tk₁, Z', rfl, st.trans (Kept.step k₁), t'.keeps k₁⟩
  | step ht hb' hrest =>
    refine no_mono (wpAny_mono (ht A env _ _ rm fo t'.sta) (fun r s₁ ⟨e, k⟩ => ?_) fun _ _ q => q)
    subst e
    obtain ⟨h₁, tk₁, rfl, k₁⟩ := k
    refine no_mono (wpAny_mono (hb' A env hb W Zc Z' _ rm fo (t'.keeps k₁)) (fun fl s₂ p => ?_) fun _ _ q => q)
    obtain ⟨h₂, tk₂, Z'', rfl, st2, ok⟩ := p
    cases fl with
    | next => exact ⟨_, Nat.lt_succ_self _, h₂, tk₂, Z'', _, _, _, rfl, st.trans ((Kept.step k₁).trans st2), ok, hrest, rfl⟩
    | _ => exact ok.elim
end
end
noncomputable section
open PySem PySem.W PySem.Calls PySem.Spec PyProof.Rows
set_option autoImplicit false
section
variable {prog : Program} {w : World} {K : Frag} {n : Nat}

theorem bind_other {kindOf : Str → Option NameKind} {x : Str} : ∀ {binds : List (Str × Value)} {m : Str → Option Value}, x ∉ binds.map (·.1) → bindL kindOf binds m x = m x ∧ bindC kindOf binds m x = m x
  | [], m, _ => ⟨rfl, rfl⟩
  | (y, v) :: r, m, h => by
    simp only [List.map_cons, List.mem_cons, not_or] at h
    obtain ⟨a, b⟩ := bind_other (kindOf := kindOf) (m := if kindOf y = some .local then fun z => if z = y then some v else m z else m) h.2
    obtain ⟨a', b'⟩ := bind_other (kindOf := kindOf) (m := if kindOf y = some .local then m else fun z => if z = y then some v else m z) h.2
    unfold bindL bindC
    rw [a, b']
    constructor
    · split
      · simp [h.1]
      · rfl
    · split
      · rfl
      · simp [h.1]
theorem bind_at {kindOf : Str → Option NameKind} {x : Str} {v : Value} : ∀ {binds : List (Str × Value)} {m : Str → Option Value}, (binds.map (·.1)).Nodup → (x, v) ∈ binds →
    (kindOf x = some .local → bindL kindOf binds m x = some v) ∧ (kindOf x ≠ some .local → bindC kindOf binds m x = some v)
  | (y, u) :: r, m, hn, h => by
    simp only [List.map_cons, List.nodup_cons] at hn
    unfold bindL bindC
    rcases List.mem_cons.mp h with q | q
    · cases q
      constructor
      · intro hk
        rw [(bind_other hn.1).1, if_pos hk]; simp
      · intro hk
        rw [(bind_other hn.1).2, if_neg hk]; simp
    · exact ⟨(bind_at hn.2 q).1, (bind_at hn.2 q).2⟩
theorem zip_lookup {x : Str} {d : PyData} {Z : List Addr} {h : Heap} : ∀ {ps : List Str} {vs : List Value} {ds : List PyData}, HasAll Z h vs ds → (ps.zip ds).lookup x = some d → ∃ v, (x, v) ∈ ps.zip vs ∧ Has Z h v d
  | [], _, _, _, e => by cases e
  | p :: ps, _, [], hv, e => by cases e
  | p :: ps, vs, d' :: ds, hv, e => by
    obtain ⟨v, r, rfl, a, b⟩ := hv.cons_inv
    rw [List.zip_cons_cons, List.lookup_cons] at e
    cases q : (x == p) <;> simp only [q] at e
    · obtain ⟨u, h1, h2⟩ := zip_lookup b e
      exact ⟨u, .tail _ h1, h2⟩
    · cases e
      rw [beq_iff_eq.mp q]
      exact ⟨v, .head _, a⟩

theorem fn_spec {f : Addr} {o : Obj} {fd : FuncData} {body : List Stmt} {ps : List Str} {ds : List PyData} {d : PyData} (hK : K.lookup f = some o) (hd : o.data = .func fd) (hbody : fd.body = .stmts body) (hclo : fd.closure = []) (hcode : codeIn K fd.code fd.qualname = true)
    (hlen : ps.length = ds.length) (hbind : ∀ vals : List Value, vals.length = ds.length → bindArgs fd ⟨vals, []⟩ = pure (ps.zip vals)) (hps : ps.Nodup) (hkinds : (ps.all fun x => fd.scope.names.lookup x == some .local || fd.scope.names.lookup x == some .cell) = true)
    (hglob : fd.globals = mainGlobals) (hblt : fd.builtins = builtinsNs) (hco : fd.scope.isCoroutine = false) (hgen : fd.scope.isGenerator = false) (hk : fd.scope.kind = .function)
    (hcells : ((ownCells fd.scope.names).all fun x => fd.scope.names.lookup x == some .cell) = true)
    (h : Ex prog w K n ⟨fd.scope.names, ps.zip ds, none⟩ body (.ret d)) : FnSpec prog w K (n + 1) f ds d := fun A Z s vs rm b hz hv => by
  have hvl := hv.length
  have hkin : ∀ (L : Nat), ∀ x ∈ ps.zip vs, fd.scope.names.lookup x.1 = some .local ∨ (fd.scope.names.lookup x.1 = some .cell ∧ ((cellsFrom L fd.scope.names []).lookup x.1).isSome = true) := fun L x hx => by
    have hm : x.1 ∈ ps := (List.of_mem_zip hx).1
    have := List.all_eq_true.mp hkinds x.1 hm
    simp only [Bool.or_eq_true, beq_iff_eq] at this
    rcases this with q | q
    · exact .inl q
    · exact .inr ⟨q, cellsFrom_some _ _ _ (.inl q)⟩
  refine wpAny_call (codeAny_call_cells (fd := fd) (Nat.lt_of_le_of_lt (Nat.le_add_right _ _) rm.depth) (b.frag _ _ hK) hd b.nolimit (codeRec_of b.frag hcode) hbody (hbind vs hvl) hclo (hkin _) (fun s₁ X => ?_) hco hgen hk)
  obtain ⟨h₁, tk₁, rfl, k₁⟩ := X.done
  generalize henv : callEnvC fd s.heap.objs.size f = env at *
  have hL : env.locals = s.heap.objs.size := by rw [← henv]; rfl
  have hcs : env.cells = cellsFrom (s.heap.objs.size + 1) fd.scope.names [] := by rw [← henv]; rfl
  have hsc : env.scope = fd.scope := by rw [← henv]; rfl
  have hnod : ((ps.zip vs).map (·.1)).Nodup := by
    rw [List.map_fst_zip (by omega)]; exact hps
  have fo : FrameOk env fd.scope.names := ⟨by rw [hsc]; exact hk, by rw [← henv]; exact hglob, by rw [← henv]; exact hblt, fun x k hx => .inl (by show List.lookup x env.scope.names = _; rw [hsc]; exact hx)⟩
  have newAt : ∀ c, s.heap.objs.size ≤ c → s.heap.get? c = none := fun c hc => Heap.get?_none_of_le hc
  have hab : ∀ x c, env.cells.lookup x = some c → s.heap.objs.size < c := fun x c e => by have := X.above x c (mem_of_lookup e); rw [hL] at this; exact this
  have t : StaS K env s.heap ⟨fd.scope.names, ps.zip ds, none⟩ (env.locals :: (ownCells fd.scope.names).filterMap fun x => env.cells.lookup x) Z [] h₁ := {
    base := b
    keep := k₁
    vars := fun x d' e => by
      obtain ⟨v, hm, hh⟩ := zip_lookup hv e
      refine ⟨v, ?_, by simpa using Has.keeps (show Kept s.heap h₁ from k₁) hh⟩
      have hat := bind_at (kindOf := env.kindOf) (m := fun _ => none) hnod hm
      rcases hkin 0 _ hm with q | ⟨q, _⟩
      · have hkx : env.kindOf x = some .local := by show List.lookup x env.scope.names = _; rw [hsc]; exact q
        exact .inl ⟨hkx, _, X.toInCall.ns, hat.1 hkx⟩
      · have hkx : env.kindOf x = some .cell := by show List.lookup x env.scope.names = _; rw [hsc]; exact q
        obtain ⟨a, ha⟩ := Option.isSome_iff_exists.mp (cellsFrom_some (x := x) fd.scope.names (s.heap.objs.size + 1) [] (.inl q))
        rw [← hcs] at ha
        refine .inr ⟨.inl hkx, a, ha, ?_⟩
        have := X.cell x a ha
        rw [hat.2 (by rw [hkx]; exact fun q => nomatch q)] at this
        exact this
    own := fun _ _ e => (nomatch e)
    zs := fun z hz' => Kept.some (show Kept s.heap h₁ from k₁) _ (hz z (by simpa using hz'))
    fr := by
      refine ⟨⟨_, X.toInCall.ns⟩, .head _, fun x hx => ?_⟩
      have := List.all_eq_true.mp hcells x hx
      simp only [beq_iff_eq] at this
      obtain ⟨a, ha⟩ := Option.isSome_iff_exists.mp (cellsFrom_some (x := x) fd.scope.names (s.heap.objs.size + 1) [] (.inl this))
      rw [← hcs] at ha
      refine ⟨a, ha, .tail _ (List.mem_filterMap.mpr ⟨x, hx, ha⟩), ⟨_, X.cell x a ha⟩, fun y hy => ?_⟩
      exact (name_of_addr X.apart (mem_of_lookup ha) (mem_of_lookup hy)).symm
    newW := fun b hb => by
      rcases List.mem_cons.mp hb with rfl | hb
      · rw [hL]; exact newAt _ (Nat.le_refl _)
      · obtain ⟨x, hx, hl⟩ := List.mem_filterMap.mp hb
        exact newAt _ (Nat.le_of_lt (hab x _ hl))
    newZ := fun _ hz => (nomatch hz)
    liveW := fun b hb => by
      rcases List.mem_cons.mp hb with rfl | hb
      · obtain ⟨o, _, _, e, _⟩ := X.toInCall.ns
        rw [show h₁.get? env.locals = some o from e]; rfl
      · obtain ⟨x, hx, hl⟩ := List.mem_filterMap.mp hb
        obtain ⟨o, e, _⟩ := X.cell x b hl
        rw [show h₁.get? b = some o from e]; rfl }
  refine wpAny_mono (h (A.deeper env) env s.heap _ Z [] _ rm.deeper fo t) (fun fl s' p => ?_) fun _ _ q => q.elim
  obtain ⟨h₂, tk₂, Zo', rfl, _, ok⟩ := p
  cases fl with
  | ret v => exact ⟨ok.1, h₂, tk₂, rfl, ok.2⟩
  | _ => exact ok.elim

theorem ex_if_ret {c : Cx} {test : Expr} {body rest : List Stmt} {pos : Pos} {b : Bool} {d : PyData} (ht : Tr prog w K n c test b) (h1 : b = true → Ex prog w K n c body (.ret d)) (h2 : b = false → Ex prog w K n c rest (.ret d)) : Ex prog w K n c (.If test body [] pos :: rest) (.ret d) := by
  cases b with
  | true => exact ex_cons_ret (ex_if ht (fun _ => h1 rfl) fun h => nomatch h)
  | false => exact ex_cons (ex_if ht (fun h => nomatch h) fun _ => ex_nil) (h2 rfl)
theorem ex_if_brk {c : Cx} {test : Expr} {body rest : List Stmt} {pos : Pos} {b : Bool} {v : Vars} {ow : Ow} (ht : Tr prog w K n c test b) (h1 : b = true → Ex prog w K n c body (.brk v ow)) (h2 : b = false → Ex prog w K n c rest (.brk v ow)) : Ex prog w K n c (.If test body [] pos :: rest) (.brk v ow) := by
  cases b with
  | true => exact ex_cons_brk (ex_if ht (fun _ => h1 rfl) fun h => nomatch h)
  | false => exact ex_cons (ex_if ht (fun h => nomatch h) fun _ => ex_nil) (h2 rfl)
theorem ex_eq {c : Cx} {ss : List Stmt} {o o' : Out} (h : Ex prog w K n c ss o) (e : o = o') : Ex prog w K n c ss o' := e ▸ h
theorem ev_eq {c : Cx} {e : Expr} {d d' : PyData} (h : Ev prog w K n c e d) (q : d = d') : Ev prog w K n c e d' := q ▸ h
theorem tr_eq {c : Cx} {e : Expr} {d d' : Bool} (h : Tr prog w K n c e d) (q : d = d') : Tr prog w K n c e d' := q ▸ h
end
end
noncomputable section
open PySem PySem.W PySem.Calls PySem.Spec PyProof.Rows
set_option autoImplicit false
section
variable {prog : Program} {w : World} {K : Frag} {n : Nat} {c : Cx}

theorem bin_div {a b : Int} (hb : 0 < b) (hs : b < 1073741824) : BinSpec prog w n .FloorDiv (.int a) (.int b) (.int (a / b)) := by
  rw [← Int.fdiv_eq_ediv_of_nonneg a (Int.le_of_lt hb)]
  exact bin_div_int (by omega) (by omega)
theorem bin_mod {a b : Int} (hb : 0 < b) (hs : b < 1073741824) : BinSpec prog w n .Mod (.int a) (.int b) (.int (a % b)) := by
  rw [← Int.fmod_eq_emod_of_nonneg a (Int.le_of_lt hb)]
  exact bin_mod_int (by omega) (by omega)

/-- the sign at a place -/
def sign (x : Str) (k : Int) : Str := ⟨#[x.cps.getD k.toNat 0]⟩
theorem ev_sign {value idx : Expr} {pos : Pos} {x : Str} {k : Int} (hv : Ev prog w K n c value (.str x)) (hi : Ev prog w K n c idx (.int k)) (h0 : 0 ≤ k) (hk : k < x.cps.size) (hlt : k < 2 ^ 63)
    (hs : ∀ o i, subscripted idx false o i = operate [o, i] (getItem o i) := by intro _ _; rfl) : Ev prog w K n c (.Subscript value idx pos) (.str (sign x k)) := by
  have hk' : k.toNat < x.cps.size := by omega
  refine ev_item_str hv hi h0 (ch := x.cps.getD k.toNat 0) ?_ hlt hs
  simp [Array.getD, hk']
theorem sign_length (x : Str) (k : Int) : (sign x k).length = 1 := rfl

theorem itf_eq {target iter : Expr} {es es' : List PyData} (h : ItF prog w K n c target iter es) (e : es = es') : ItF prog w K n c target iter es' := e ▸ h
theorem it_eq {iter : Expr} {es es' : List PyData} {str : Bool} (h : It prog w K n c iter es str) (e : es = es') : It prog w K n c iter es' str := e ▸ h

/-- a name of the top that holds data -/
theorem ev_glob {x : Str} {p : Pos} {v : Value} {d : PyData} (hk : c.names.lookup x = some .globalImplicit) (hg : nsIn K mainGlobals x = some (some v)) (hv : ∀ Z h, K.In h → Has Z h v d) (hd : (x == ("__debug__" : Str)) = false := by rfl) : Ev prog w K n c (.Name x p) d :=
  fun A env Z s rm f t => name_glob f t.base hk hg ⟨hv Z s.heap t.base.frag, kp_refl s⟩ hd

/-- a for that folds the frame's own list, its names as they were -/
theorem loop_own {names : List (Str × NameKind)} {target : Expr} {body orelse : List Stmt} {v : Vars} {x : Str} (step : List PyData → PyData → List PyData) {o : Out} :
    ∀ (items : List PyData) (ps : List PyData), (∀ d ∈ items, ∀ ps, ∃ td, Tgt prog w target names (ownCells names) d td ∧ td.lookup x = none ∧ Ex prog w K n ⟨names, td ++ v, some (x, ps)⟩ body (.next v (some (x, step ps d)))) →
      Ex prog w K n ⟨names, v, some (x, items.foldl step ps)⟩ orelse o → LoopO prog w K n names target body orelse items v (some (x, ps)) o
  | [], ps, _, h => .nil h
  | d :: r, ps, hs, h => by
    obtain ⟨td, h1, h2, h3⟩ := hs d (.head _) ps
    exact .next h1 (fun y l e => by cases e; exact h2) h3 (loop_own step r _ (fun e he => hs e (.tail _ he)) h)
/-- a for that seeks: it leaves at the first item that f takes -/
theorem loop_find {names : List (Str × NameKind)} {target : Expr} {body orelse : List Stmt} {v : Vars} {ow : Ow} (f : PyData → Bool) (g : PyData → Out) {o : Out} : ∀ (items : List PyData),
      (∀ d ∈ items, ∃ td, Tgt prog w target names (ownCells names) d td ∧ (∀ x l, ow = some (x, l) → td.lookup x = none) ∧ (f d = false → Ex prog w K n ⟨names, td ++ v, ow⟩ body (.next v ow)) ∧ (f d = true → ∃ v' o', g d = .next v' o' ∧ Ex prog w K n ⟨names, td ++ v, ow⟩ body (.brk v' o'))) →
      Ex prog w K n ⟨names, v, ow⟩ orelse o → LoopO prog w K n names target body orelse items v ow (match items.find? f with | some d => g d | none => o)
  | [], _, h => .nil h
  | d :: r, hs, h => by
    obtain ⟨td, h1, h2, h3, h4⟩ := hs d (.head _)
    cases hf : f d with
    | false =>
      rw [List.find?_cons, hf]
      exact .next h1 h2 (h3 hf) (loop_find f g r (fun e he => hs e (.tail _ he)) h)
    | true =>
      rw [List.find?_cons, hf]
      obtain ⟨v', o', e1, e2⟩ := h4 hf
      show LoopO prog w K n names target body orelse (d :: r) v ow (g d)
      rw [e1]
      exact .brk h1 h2 e2
/-- a for that turns the frame's names -/
theorem loop_vars {names : List (Str × NameKind)} {target : Expr} {body orelse : List Stmt} {σ : Type} (V : σ → Vars) (ow : Ow) (step : σ → PyData → σ) {o : Out} :
    ∀ (items : List PyData) (a : σ), (∀ d ∈ items, ∀ a, ∃ td, Tgt prog w target names (ownCells names) d td ∧ (∀ x l, ow = some (x, l) → td.lookup x = none) ∧ Ex prog w K n ⟨names, td ++ V a, ow⟩ body (.next (V (step a d)) ow)) →
      Ex prog w K n ⟨names, V (items.foldl step a), ow⟩ orelse o → LoopO prog w K n names target body orelse items (V a) ow o
  | [], a, _, h => .nil h
  | d :: r, a, hs, h => by
    obtain ⟨td, h1, h2, h3⟩ := hs d (.head _) a
    exact .next h1 h2 h3 (loop_vars V ow step r _ (fun e he => hs e (.tail _ he)) h)
/-- a for, its state told turn by turn -/
theorem loop_idx {names : List (Str × NameKind)} {target : Expr} {body orelse : List Stmt} (V : Nat → Vars) (OW : Nat → Ow) {o : Out} (items : List PyData) (hs : ∀ i d, items[i]? = some d → ∃ td, Tgt prog w target names (ownCells names) d td ∧ (∀ x l, OW i = some (x, l) → td.lookup x = none) ∧ Ex prog w K n ⟨names, td ++ V i, OW i⟩ body (.next (V (i + 1)) (OW (i + 1))))
    (h : Ex prog w K n ⟨names, V items.length, OW items.length⟩ orelse o) : LoopO prog w K n names target body orelse items (V 0) (OW 0) o := by
  have go : ∀ (k : Nat), k ≤ items.length → LoopO prog w K n names target body orelse (items.drop (items.length - k)) (V (items.length - k)) (OW (items.length - k)) o := by
    intro k
    induction k with
    | zero => intro _; rw [Nat.sub_zero, List.drop_length]; exact .nil h
    | succ k ih =>
      intro hk
      have hlt : items.length - (k + 1) < items.length := by omega
      have e : items.length - k = items.length - (k + 1) + 1 := by omega
      have ih' := ih (by omega)
      rw [e] at ih'
      rw [List.drop_eq_getElem_cons hlt]
      obtain ⟨td, h1, h2, h3⟩ := hs (items.length - (k + 1)) _ (List.getElem?_eq_getElem hlt)
      exact .next h1 h2 h3 ih'
  have := go items.length (Nat.le_refl _)
  rw [Nat.sub_self] at this
  simpa using this
theorem noOwn {P : Str → List PyData → Prop} : ∀ (x : Str) (l : List PyData), (none : Ow) = some (x, l) → P x l := fun _ _ q => nomatch q

theorem any_no {α : Type} {f g : α → Bool} (h : ∀ a, g a = true → f a = true) : ∀ {l : List α}, l.any f = false → l.any g = true → False
  | [], _, q => nomatch q
  | a :: l, hf, q => by
    rw [List.any_cons, Bool.or_eq_false_iff] at hf
    rw [List.any_cons, Bool.or_eq_true] at q
    rcases q with q | q
    · rw [h a q] at hf; cases hf.1
    · exact any_no h hf.2 q
theorem swapped_pair {x y : Str} {px py tpos vpos : Pos} {k k' : Nat} {e1 e2 : Expr} {names : List (Str × NameKind)} (hx : names.lookup x = some .local) (hy : names.lookup y = some .local) (hxy : (y == x) = false) (hl : (py.line == px.line) = true := by rfl)
    (hst : ([e1, e2].any fun | .Starred .. => true | _ => false) = false := by rfl) (hf : [e1, e2].all (foldedForSure 8) = false := by rfl) (hc : [e1, e2].all (constantsAlone 8) = false := by rfl) :
    ∀ env, FrameOk env names → swappedStores [.Tuple [.Name x px, .Name y py] k tpos] (.Tuple [e1, e2] k' vpos) env = pure (some [x, y]) := fun env fo => by
  have hb : env.blockKind = .function := by unfold Env.blockKind; rw [fo.kind]; rfl
  have h1 := local_kind fo hx
  have h2 := local_kind fo hy
  have hn : ¬ y = x := fun q => by rw [q, beq_self_eq_true] at hxy; cases hxy
  have e1' : ([x, y] : List Str).eraseDups.length = 2 := by simp [List.eraseDups_cons, hxy, hn]
  unfold swappedStores
  simp only [bind_pure_comp, pure_bind]
  have hline : (([Expr.Name x px, Expr.Name y py] : List Expr).head?.map (·.pos.line)).getD 0 = px.line := rfl
  rw [hline]
  simp only [List.length_cons, List.length_nil, hb]
  rw [if_neg (by decide), if_neg (fun q => any_no (fun e (he : _ = true) => by cases e <;> first | exact he | cases he) hst q)]
  simp only [List.filterMap_cons, List.filterMap_nil, h1, h2, hl, beq_self_eq_true, Bool.and_self, if_true]
  rw [if_neg (by rw [e1']; exact Bool.false_ne_true), if_neg (by rw [hf]; decide), if_neg (by rw [hc]; decide)]
end
end
noncomputable section
open PySem PySem.W PySem.Calls PySem.Spec PyProof.Rows
set_option autoImplicit false
section
variable {prog : Program} {w : World} {K : Frag} {n : Nat} {c : Cx}

theorem ex_sub_brk {ss : List Stmt} {v v' : Vars} {ow : Ow} (h : Ex prog w K n c ss (.brk v ow)) (s : Sub v' v) : Ex prog w K n c ss (.brk v' ow) := fun A env hb W Zc Zo s' rm fo t =>
  wpAny_mono (h A env hb W Zc Zo s' rm fo t) (fun fl s₁ p => by
    obtain ⟨h', tk, Zo', rfl, st1, ok⟩ := p
    cases fl with
    | brk => exact ⟨h', tk, Zo', rfl, st1, StaS.sub ok s⟩
    | _ => exact ok.elim) fun _ _ q => q
theorem ex_one {st : Stmt} {o : Out} (h : Ex1 prog w K n c st o) : Ex prog w K n c [st] o := fun A env hb W Zc Zo s rm fo t => by
  refine wpAny_execs_cons (wpAny_mono (h A env hb W Zc Zo s rm fo t) (fun fl s₁ p => ?_) fun _ _ q => q)
  cases fl with
  | next => exact wpAny_execs_nil p
  | _ => exact p

/-- a for that takes one thing into the frame's own list: that of the first item that fits, or another -/
theorem loop_pick {names : List (Str × NameKind)} {target : Expr} {body orelse : List Stmt} {α : Type} (D : α → PyData) (f : α → Bool) (e : α → PyData) (e0 : PyData) {x : Str} {ps : List PyData} {v : Vars} : ∀ (row : List α),
      (∀ a ∈ row, ∃ td, Tgt prog w target names (ownCells names) (D a) td ∧ td.lookup x = none ∧ (f a = false → Ex prog w K n ⟨names, td ++ v, some (x, ps)⟩ body (.next v (some (x, ps)))) ∧ (f a = true → Ex prog w K n ⟨names, td ++ v, some (x, ps)⟩ body (.brk v (some (x, ps ++ [e a]))))) →
      Ex prog w K n ⟨names, v, some (x, ps)⟩ orelse (.next v (some (x, ps ++ [e0]))) →
      LoopO prog w K n names target body orelse (row.map D) v (some (x, ps)) (.next v (some (x, ps ++ [((row.find? f).map e).getD e0])))
  | [], _, h => .nil h
  | a :: r, hs, h => by
    obtain ⟨td, h1, h2, h3, h4⟩ := hs a (.head _)
    cases hf : f a with
    | false =>
      rw [List.find?_cons, hf]
      exact .next h1 (fun y l q => by cases q; exact h2) (h3 hf) (loop_pick D f e e0 r (fun b hb => hs b (.tail _ hb)) h)
    | true =>
      rw [List.find?_cons, hf]
      exact .brk h1 (fun y l q => by cases q; exact h2) (h4 hf)
end

/-! ### data that stand in the top -/
mutual
def readK (K : Frag) : Nat → Value → Option PyData
  | 0, _ => none
  | _ + 1, .int i _ => some (.int i)
  | _ + 1, .str x _ => some (.str x)
  | m + 1, .ref a => match K.lookup a with
    | some ⟨.type "tuple", _, .seq vs _, _⟩ => (readKs K m vs.toList).map .tuple
    | _ => none
  | _ + 1, _ => none
def readKs (K : Frag) : Nat → List Value → Option (List PyData)
  | 0, _ => none
  | _ + 1, [] => some []
  | m + 1, v :: r => match readK K m v, readKs K m r with
    | some d, some ds => some (d :: ds)
    | _, _ => none
end
theorem readK_both {K : Frag} {Z : List Addr} {h : Heap} (kin : K.In h) : ∀ m, (∀ v d, readK K m v = some d → Has Z h v d) ∧ ∀ vs ds, readKs K m vs = some ds → HasAll Z h vs ds
  | 0 => ⟨(fun v d e => by unfold readK at e; cases e), (fun v d e => by unfold readKs at e; cases e)⟩
  | m + 1 => by
    obtain ⟨a, b⟩ := readK_both kin m
    refine ⟨fun v d e => ?_, fun vs ds e => ?_⟩
    · cases v with
      | int i t => unfold readK at e; cases e; exact .int
      | str i t => unfold readK at e; cases e; exact .str
      | ref q =>
        unfold readK at e
        split at e
        · rename_i l vs l' l2 hq
          cases hr : readKs K m vs.toList with
          | none => rw [hr] at e; cases e
          | some ds =>
            rw [hr] at e; cases e
            exact .seqT (kin _ _ hq) rfl rfl (b _ _ hr)
        · cases e
      | _ => unfold readK at e; cases e
    · cases vs with
      | nil => unfold readKs at e; cases e; exact .nil
      | cons v r =>
        unfold readKs at e
        split at e
        · rename_i d1 d2 h1 h2
          cases e
          exact .cons (a _ _ h1) (b _ _ h2)
        · cases e
theorem readK_has {K : Frag} {m : Nat} {v : Value} {d : PyData} (e : readK K m v = some d) : ∀ Z h, K.In h → Has Z h v d := fun Z h k => (readK_both k m).1 v d e
end
noncomputable section
open PySem PySem.W PySem.Calls PySem.Spec PyProof.Rows
set_option autoImplicit false
section
variable {prog : Program} {w : World} {A : Around} {E : Value → Shared → Prop} {s : Shared}

theorem str_sub : isSubtype (.type "str") (.type "str") = pure true := by rw [isSubtype_type]; kernel_rfl
theorem kind_sub_nested : builtinKind "issubclass.nested" = none := by decide +kernel
theorem plain_sub_nested : plainId "issubclass.nested" = true := by decide +kernel
theorem args_sub_nested (a b c : Value) : argsOk "issubclass.nested" ⟨[a, b, c], []⟩ := by unfold argsOk; kernel_rfl
theorem sub_nested_str {k : Value} {dep : Int} {tk : Tok} {Q : Fin → Shared → Prop} (hk : k = .int dep tk) (hq : Q (.done (.ret (.bool true))) s) :
    wpAny (model prog w) A (Builtin.«issubclass.nested» ⟨[.type "str", .type "str", k], []⟩) Q E s := by
  subst hk
  have hself := str_sub
  repeat (any_goals (first | assumption | (rw [hself]) | wp_step))
theorem sub_nested_tuple {tp : Addr} {r : List Value} {tk : Tok} {Q : Fin → Shared → Prop} {n : Nat} {o : Obj} (htp : s.heap.get? tp = some o) (hc : o.cls = .type "tuple") {vs : Array Value} (hd : o.data = .seq vs n) (hv : vs.toList = Value.type "str" :: r)
    (hq : Q (.done (.ret (.bool true))) s) : wpAny (model prog w) A (Builtin.«issubclass.nested» ⟨[.type "str", .ref tp, .int 0 tk], []⟩) Q E s := by
  obtain ⟨h, g, d, t, os⟩ := s
  obtain ⟨cls, dd, data, sl⟩ := o
  simp only at hc hd
  subst hc hd
  have hT2 : (⟨h, g, d, t, os⟩ : Shared).TypeIs (.ref tp) "tuple" := ⟨_, htp, rfl⟩
  have f1 := F.isi_sub_tuple
  repeat (any_goals (first | assumption | wp_step))
  refine wpAny_arrayLoop ?_
  simp only [Option.getD_some]
  rw [hv]
  rw [List.forIn_cons]
  refine wpAny_bind (wpAny_bind (call_function_meets kind_sub_nested plain_sub_nested F.entry_issubclass_nested (args_sub_nested _ _ _) (S := fun _ R s => R (.ok (.ret (.bool true))) s) (fun _ _ _ _ _ hs => sub_nested_str rfl hs) ?_))
  show wpAny _ _ (truthy (.bool true) >>= _) _ _ _
  refine wpAny_bind (m := truthy (.bool true)) (wpAny_pure ?_)
  refine wpAny_bind (wpAny_pure (wpAny_pure (wpAny_pure ?_)))
  simp only
  repeat (any_goals (first | assumption | wp_step))
theorem call_sub_tuple {tp : Addr} {r : List Value} {Q : Value → Shared → Prop} {vs : Array Value} (ht : IsTup s.heap tp vs) (hv : vs.toList = Value.type "str" :: r) (hq : Q (.bool true) s) : wpAny (model prog w) A (call (.builtin "issubclass") [.type "str", .ref tp]) Q E s := by
  obtain ⟨o, ho, hc, n, hd⟩ := ht
  refine call_issubclass (S := fun _ R s' => s' = s ∧ R (.ok (.ret (.bool true))) s') (fun _ _ _ _ _ hs => ?_) ⟨rfl, hq⟩
  obtain ⟨rfl, hs⟩ := hs
  refine issubclass_outer (sub_nested_tuple (n := n) ho hc hd hv hs)
end
end
noncomputable section
open PySem PySem.W PySem.Calls PySem.Spec PyProof.Rows
set_option autoImplicit false
section
variable {prog : Program} {w : World} {K : Frag} {n : Nat} {c : Cx}

/-- isinstance(e, bytes), e a text -/
theorem ev_isbytes {p pb pos : Pos} {e : Expr} {x : Str} (h : Ev prog w K n c e (.str x)) (hk : c.names.lookup ("isinstance" : Str) = some .globalImplicit) (hg : nsIn K mainGlobals ("isinstance" : Str) = some none)
    (hkb : c.names.lookup ("bytes" : Str) = some .globalImplicit) (hgb : nsIn K mainGlobals ("bytes" : Str) = some none)
    (he : ∀ env, starEach [e, .Name ("bytes" : Str) pb] env = [(false, eval e env), (false, eval (.Name ("bytes" : Str) pb) env)] := by intro _; rfl) :
    Ev prog w K n c (.Call (.Name ("isinstance" : Str) p) [e, .Name ("bytes" : Str) pb] [] pos) (.bool false) := fun A env Z s rm f t => by
  refine wpAny_Call_NameR (name_blt (v := .builtin "isinstance") f t.base hk hg (by decide +kernel) ?_ rfl rfl)
  rw [he env]
  refine Calls.callWith_builtin rfl (Calls.evalArgs_plain (Calls.spliced_cons (wpAny_mono (h A env Z s rm f t) (fun v s₁ ⟨hv, k⟩ => Calls.spliced_cons ?_) fun _ _ q => q)))
  refine name_blt (v := .type "bytes") f (t.step k).base hkb hgb (by decide +kernel) (Calls.spliced_nil ?_) rfl rfl
  obtain ⟨u, rfl⟩ := hv.str_inv
  exact IsiPair.str_bytes ⟨Has.bool, kp_trans k (kp_tok _ _)⟩

theorem StaS.set {env : Env} {hb h h' : Heap} {W Zc Zo : List Addr} {x : Str} (t : StaS K env hb c W Zc Zo h) (hv : c.vars.lookup x = none) (hno : c.own = none) (wr : Wr W h h') (fr' : FrW env (ownCells c.names) W h')
    (ho : ∀ y u, y ≠ x → Holds env h y u → Holds env h' y u) : StaS K env hb c W Zc Zo h' where
  base := t.base
  keep := fun b o e => wr.1 b o (t.keep b o e) (.inl fun hm => by rw [t.newW b hm] at e; cases e)
  vars := fun y d e => by
    obtain ⟨v, a, b⟩ := t.vars y d e
    exact ⟨v, ho y v (fun q => by rw [q, hv] at e; cases e) a, Has.keptS wr.keptS b⟩
  own := fun y ds e => by rw [hno] at e; cases e
  zs := fun z hz => wr.2 _ (t.zs z hz)
  fr := fr'
  newW := t.newW
  newZ := t.newZ
  liveW := fun b hb => wr.2 _ (t.liveW b hb)

/-- kind = type(y); if issubclass(kind, (str, bytes)): return y -/
theorem ex_fspath {x y : Str} {d : Str} {px p1 p2 p3 p4 p5 p6 p7 p8 pos ipos cpos rpos tpos : Pos} {k : Nat} {rest : List Stmt} (hy : c.vars.lookup y = some (.str d)) (hv : c.vars.lookup x = none) (hno : c.own = none) (hx : c.names.lookup x = some .local)
    (h1 : c.names.lookup ("type" : Str) = some .globalImplicit) (g1 : nsIn K mainGlobals ("type" : Str) = some none) (h2 : c.names.lookup ("issubclass" : Str) = some .globalImplicit) (g2 : nsIn K mainGlobals ("issubclass" : Str) = some none)
    (h3 : c.names.lookup ("str" : Str) = some .globalImplicit) (g3 : nsIn K mainGlobals ("str" : Str) = some none) (h4 : c.names.lookup ("bytes" : Str) = some .globalImplicit) (g4 : nsIn K mainGlobals ("bytes" : Str) = some none)
    (hyd : (y == ("__debug__" : Str)) = false := by rfl) (hyn : (y == ("__classdict__" : Str)) = false := by rfl) (hxd : (x == ("__debug__" : Str)) = false := by rfl) (hxn : (x == ("__classdict__" : Str)) = false := by rfl) :
    Ex prog w K n c (.Assign [.Name x px] (.Call (.Name ("type" : Str) p1) [.Name y p2] [] p3) pos :: .If (.Call (.Name ("issubclass" : Str) p4) [.Name x p5, .Tuple [.Name ("str" : Str) p6, .Name ("bytes" : Str) p7] k tpos] [] cpos) [.Return (some (.Name y p8)) rpos] [] ipos :: rest) (.ret (.str d)) := fun A env hb W Zc Zo s rm fo t => by
  refine wpAny_execs_cons (wpAny_Assign_Name (wpAny_Call_NameR (name_blt (c := c) (v := .type "type") fo t.sta.base h1 g1 (by decide +kernel) ?_ rfl rfl)))
  show wpAny _ _ (callWith p3 (.type "type") [] [(false, eval (.Name y p2) env)] []) _ _ _
  refine PySem.callWith_type1 ?_
  obtain ⟨v, hh, hvd⟩ := t.vars y _ hy
  obtain ⟨u, rfl⟩ := hvd.str_inv
  refine wpAny_Name (load_of_holds fo.kind hh ?_ hyn) hyd
  refine call_type_of (Tx := "str") (typeIs_str _ _ _) (by decide +kernel) ?_
  refine store fo.kind t.fr (.inl (local_kind fo hx)) fun h₂ tk₂ wr fr' hhx ho => ?_
  have t2 := t.set hv hno wr fr' ho
  refine wpAny_execs_cons (wpAny_If (wpAny_isTrue_value ?_ rfl))
  refine wpAny_Call_NameR (name_blt (c := c) (v := .builtin "issubclass") fo t2.sta.base h2 g2 (by decide +kernel) ?_ rfl rfl)
  show wpAny _ _ (callWith cpos (.builtin "issubclass") [] [(false, eval (.Name x p5) env), (false, eval (.Tuple [.Name ("str" : Str) p6, .Name ("bytes" : Str) p7] k tpos) env)] []) _ _ _
  refine Calls.callWith_builtin rfl (Calls.evalArgs_plain (Calls.spliced_cons (wpAny_Name (load_of_holds fo.kind hhx ?_ hxn) hxd)))
  refine Calls.spliced_cons (wpAny_Tuple ?_)
  refine wpAny_items_cons (name_blt (c := c) (v := .type "str") fo t2.sta.base h3 g3 (by decide +kernel) ?_ rfl rfl) rfl
  refine wpAny_items_cons (name_blt (c := c) (v := .type "bytes") fo t2.sta.base h4 g4 (by decide +kernel) ?_ rfl rfl) rfl
  refine wpAny_items_nil ⟨by show 2 ≤ sizeLine; decide, Calls.spliced_nil ?_⟩
  refine call_sub_tuple (IsTup.new _ _) rfl (wpAny_truthy_bool ?_)
  have t3 := t2.keeps (Kept.push h₂ { cls := .type "tuple", data := .seq [Value.type "str", Value.type "bytes"].toArray })
  refine wpAny_execs_cons ?_
  have := ex_return (prog := prog) (w := w) (K := K) (n := n) (c := c) (pos := rpos) (ev_name (pos := p8) hy hyd hyn) A env hb W Zc Zo { s with heap := h₂.push { cls := .type "tuple", data := .seq [Value.type "str", Value.type "bytes"].toArray }, toks := tk₂ } rm fo t3
  refine wpAny_mono this (fun fl s₁ p => ?_) fun _ _ q => q
  obtain ⟨h', tk', Zo', rfl, st1, ok⟩ := p
  cases fl with
  | ret v => exact ⟨h', tk', Zo', rfl, (wr.step.trans (Kept.step (Kept.push _ _))).trans st1, ok⟩
  | _ => exact ok.elim
end
end
noncomputable section
open PySem PySem.W PySem.Calls PySem.Spec PyProof.Rows
set_option autoImplicit false
section
variable {prog : Program} {w : World} {K : Frag} {n : Nat}

theorem fn_star {f : Addr} {o : Obj} {fd : FuncData} {body : List Stmt} {p1 p2 : Str} {d1 d2 : PyData} {d : PyData} (hK : K.lookup f = some o) (hd : o.data = .func fd) (hbody : fd.body = .stmts body) (hclo : fd.closure = []) (hcode : codeIn K fd.code fd.qualname = true)
    (hbind : ∀ v1 v2 : Value, bindArgs fd ⟨[v1, v2], []⟩ = (newTuple [v2] >>= fun t => pure [(p1, v1), (p2, t)])) (hps : [p1, p2].Nodup) (hkinds : ([p1, p2].all fun x => fd.scope.names.lookup x == some .local || fd.scope.names.lookup x == some .cell) = true)
    (hglob : fd.globals = mainGlobals) (hblt : fd.builtins = builtinsNs) (hco : fd.scope.isCoroutine = false) (hgen : fd.scope.isGenerator = false) (hk : fd.scope.kind = .function)
    (hcells : ((ownCells fd.scope.names).all fun x => fd.scope.names.lookup x == some .cell) = true)
    (h : Ex prog w K n ⟨fd.scope.names, [p1, p2].zip [d1, .tuple [d2]], none⟩ body (.ret d)) : FnSpec prog w K (n + 1) f [d1, d2] d := fun A Z s' vs' rm b' hz' hv' => by
  obtain ⟨v1, r1, rfl, hv1, hr1⟩ := hv'.cons_inv
  obtain ⟨v2, r2, rfl, hv2, hr2⟩ := hr1.cons_inv
  obtain rfl := hr2.nil_inv
  refine wpAny_call (codeAny_call_function (fd := fd) (Nat.lt_of_le_of_lt (Nat.le_add_right _ _) rm.depth) (b'.frag _ _ hK) hd hco hgen hbody (codeRec_of b'.frag hcode) ?_)
  rw [hbind, hclo]
  refine wpAny_bind (wpAny_newObj_type (wpAny_pure ?_) (by show 1 ≤ sizeLine; decide))
  have kp0 : Kept s'.heap (s'.heap.push { cls := .type "tuple", data := .seq [v2].toArray }) := Kept.push _ _
  have hv : HasAll Z (s'.heap.push { cls := .type "tuple", data := .seq [v2].toArray }) [v1, .ref s'.heap.objs.size] [d1, .tuple [d2]] :=
    .cons (Has.keeps kp0 hv1) (.cons (Has.tuple (IsTup.new _ _) (.cons (Has.keeps kp0 hv2) .nil)) .nil)
  have b := b'.keeps kp0
  have hz : ∀ z ∈ Z, ((s'.heap.push { cls := .type "tuple", data := .seq [v2].toArray }).get? z).isSome = true := fun z hm => Kept.some kp0 _ (hz' z hm)
  show wpAny _ _ _ _ _ { s' with heap := s'.heap.push { cls := .type "tuple", data := .seq [v2].toArray } }
  generalize hs0 : ({ s' with heap := s'.heap.push { cls := .type "tuple", data := .seq [v2].toArray } } : Shared) = s at *
  rw [show s'.heap.push { cls := .type "tuple", data := .seq [v2].toArray } = s.heap by rw [← hs0]] at hv b hz kp0
  change wpAny _ _ (newFunctionEnv fd.scope fd.globals [] ([p1, p2].zip [v1, .ref s'.heap.objs.size]) _ _ _ _ _) _ _ _
  generalize hvs : ([v1, .ref s'.heap.objs.size] : List Value) = vs at *
  generalize hds : ([d1, PyData.tuple [d2]] : List PyData) = ds at *
  have hlen : [p1, p2].length = ds.length := by rw [← hds]; rfl
  generalize hpsq : ([p1, p2] : List Str) = ps at *
  have hvl := hv.length
  have hkin : ∀ (L : Nat), ∀ x ∈ ps.zip vs, fd.scope.names.lookup x.1 = some .local ∨ (fd.scope.names.lookup x.1 = some .cell ∧ ((cellsFrom L fd.scope.names []).lookup x.1).isSome = true) := fun L x hx => by
    have hm : x.1 ∈ ps := (List.of_mem_zip hx).1
    have := List.all_eq_true.mp hkinds x.1 hm
    simp only [Bool.or_eq_true, beq_iff_eq] at this
    rcases this with q | q
    · exact .inl q
    · exact .inr ⟨q, cellsFrom_some _ _ _ (.inl q)⟩
  refine wpAny_newFunctionEnv_cells hk (hkin _) fun env henv s₁ X => ⟨b.nolimit.keeps X.toInCall.keep, codeAny_func ?_⟩
  obtain ⟨h₁, tk₁, rfl, k₁⟩ := X.done
  have hL : env.locals = s.heap.objs.size := by rw [henv]; rfl
  have hcs : env.cells = cellsFrom (s.heap.objs.size + 1) fd.scope.names [] := by rw [henv]; rfl
  have hsc : env.scope = fd.scope := by rw [henv]; rfl
  have hnod : ((ps.zip vs).map (·.1)).Nodup := by
    rw [List.map_fst_zip (by omega)]; exact hps
  have fo : FrameOk env fd.scope.names := ⟨by rw [hsc]; exact hk, by rw [henv]; exact hglob, by rw [henv]; exact hblt, fun x k hx => .inl (by show List.lookup x env.scope.names = _; rw [hsc]; exact hx)⟩
  have newAt : ∀ c, s.heap.objs.size ≤ c → s.heap.get? c = none := fun c hc => Heap.get?_none_of_le hc
  have hab : ∀ x c, env.cells.lookup x = some c → s.heap.objs.size < c := fun x c e => by have := X.above x c (mem_of_lookup e); rw [hL] at this; exact this
  have t : StaS K env s.heap ⟨fd.scope.names, ps.zip ds, none⟩ (env.locals :: (ownCells fd.scope.names).filterMap fun x => env.cells.lookup x) Z [] h₁ := {
    base := b
    keep := k₁
    vars := fun x d' e => by
      obtain ⟨v, hm, hh⟩ := zip_lookup hv e
      refine ⟨v, ?_, by simpa using Has.keeps (show Kept s.heap h₁ from k₁) hh⟩
      have hat := bind_at (kindOf := env.kindOf) (m := fun _ => none) hnod hm
      rcases hkin 0 _ hm with q | ⟨q, _⟩
      · have hkx : env.kindOf x = some .local := by show List.lookup x env.scope.names = _; rw [hsc]; exact q
        exact .inl ⟨hkx, _, X.toInCall.ns, hat.1 hkx⟩
      · have hkx : env.kindOf x = some .cell := by show List.lookup x env.scope.names = _; rw [hsc]; exact q
        obtain ⟨a, ha⟩ := Option.isSome_iff_exists.mp (cellsFrom_some (x := x) fd.scope.names (s.heap.objs.size + 1) [] (.inl q))
        rw [← hcs] at ha
        refine .inr ⟨.inl hkx, a, ha, ?_⟩
        have := X.cell x a ha
        rw [hat.2 (by rw [hkx]; exact fun q => nomatch q)] at this
        exact this
    own := fun _ _ e => (nomatch e)
    zs := fun z hz' => Kept.some (show Kept s.heap h₁ from k₁) _ (hz z (by simpa using hz'))
    fr := by
      refine ⟨⟨_, X.toInCall.ns⟩, .head _, fun x hx => ?_⟩
      have := List.all_eq_true.mp hcells x hx
      simp only [beq_iff_eq] at this
      obtain ⟨a, ha⟩ := Option.isSome_iff_exists.mp (cellsFrom_some (x := x) fd.scope.names (s.heap.objs.size + 1) [] (.inl this))
      rw [← hcs] at ha
      refine ⟨a, ha, .tail _ (List.mem_filterMap.mpr ⟨x, hx, ha⟩), ⟨_, X.cell x a ha⟩, fun y hy => ?_⟩
      exact (name_of_addr X.apart (mem_of_lookup ha) (mem_of_lookup hy)).symm
    newW := fun b hb => by
      rcases List.mem_cons.mp hb with rfl | hb
      · rw [hL]; exact newAt _ (Nat.le_refl _)
      · obtain ⟨x, hx, hl⟩ := List.mem_filterMap.mp hb
        exact newAt _ (Nat.le_of_lt (hab x _ hl))
    newZ := fun _ hz => (nomatch hz)
    liveW := fun b hb => by
      rcases List.mem_cons.mp hb with rfl | hb
      · obtain ⟨o, _, _, e, _⟩ := X.toInCall.ns
        rw [show h₁.get? env.locals = some o from e]; rfl
      · obtain ⟨x, hx, hl⟩ := List.mem_filterMap.mp hb
        obtain ⟨o, e, _⟩ := X.cell x b hl
        rw [show h₁.get? b = some o from e]; rfl }
  refine wpAny_mono (h (A.deeper env) env s.heap _ Z [] _ rm.deeper fo t) (fun fl s' p => ?_) fun _ _ q => q.elim
  obtain ⟨h₂, tk₂, Zo', rfl, _, ok⟩ := p
  cases fl with
  | ret v => exact ⟨ok.1, h₂, tk₂, by rw [← hs0], kp0.trans ok.2⟩
  | _ => exact ok.elim

end
end
noncomputable section
open PySem PySem.W PySem.Calls PySem.Spec PyProof.Rows
set_option autoImplicit false
/-! ### data that can be compared -/
def OkD (k : Nat) (d : PyData) : Prop := d.canLay0 = true ∧ d.depth ≤ k
theorem canLayAll_of : ∀ (xs : List PyData), (∀ x ∈ xs, x.canLay0 = true) → PyData.canLayAll0 xs = true
  | [], _ => rfl
  | x :: xs, h => by
    unfold PyData.canLayAll0
    rw [h x (.head _), canLayAll_of xs fun y hy => h y (.tail _ hy)]; rfl
theorem depthAll_of {k : Nat} : ∀ (xs : List PyData), (∀ x ∈ xs, x.depth ≤ k) → PyData.depthAll xs ≤ k
  | [], _ => by unfold PyData.depthAll; omega
  | x :: xs, h => by
    unfold PyData.depthAll
    have := h x (.head _)
    have := depthAll_of xs fun y hy => h y (.tail _ hy)
    omega
theorem okD_int {i : Int} : OkD 0 (.int i) := ⟨by unfold PyData.canLay0; rfl, by unfold PyData.depth; omega⟩
theorem okD_str {x : Str} (h : PyData.strOk x = true) : OkD 0 (.str x) := ⟨by unfold PyData.canLay0; exact h, by unfold PyData.depth; omega⟩
theorem okD_list {k : Nat} {xs : List PyData} (h : ∀ x ∈ xs, OkD k x) : OkD (k + 1) (.list xs) :=
  ⟨by unfold PyData.canLay0; exact canLayAll_of xs fun x hx => (h x hx).1, by unfold PyData.depth; have := depthAll_of xs fun x hx => (h x hx).2; omega⟩
theorem okD_tuple {k : Nat} {xs : List PyData} (h : ∀ x ∈ xs, OkD k x) : OkD (k + 1) (.tuple xs) :=
  ⟨by unfold PyData.canLay0; exact canLayAll_of xs fun x hx => (h x hx).1, by unfold PyData.depth; have := depthAll_of xs fun x hx => (h x hx).2; omega⟩
theorem OkD.up {k k' : Nat} {d : PyData} (h : OkD k d) (hk : k ≤ k') : OkD k' d := ⟨h.1, Nat.le_trans h.2 hk⟩
theorem OkD.shaped {k : Nat} {d : PyData} (h : OkD k d) (hk : k ≤ 64 := by decide) : SeqAt.shaped d = true := by
  unfold SeqAt.shaped
  rw [h.1, decide_eq_true (Nat.le_trans h.2 hk)]; rfl
theorem eqvAll_map {α : Type} [DecidableEq α] {D : α → PyData} (h : ∀ a b, PyData.eqv (D a) (D b) = decide (a = b)) : ∀ l m : List α, PyData.eqvAll (l.map D) (m.map D) = decide (l = m)
  | [], [] => rfl
  | [], _ :: _ => rfl
  | _ :: _, [] => rfl
  | a :: l, b :: m => by
    show (PyData.eqv (D a) (D b) && PyData.eqvAll (l.map D) (m.map D)) = _
    rw [h, eqvAll_map h l m]
    simp [Bool.decide_and]
theorem eqv_int (a b : Int) : PyData.eqv (.int a) (.int b) = decide (a = b) := by
  unfold PyData.eqv; exact Bool.eq_iff_iff.mpr (by simp)
theorem eqv_str (a b : Str) : PyData.eqv (.str a) (.str b) = decide (a = b) := by
  unfold PyData.eqv; exact Bool.eq_iff_iff.mpr (by simp)
theorem eqv_list {α : Type} [DecidableEq α] {D : α → PyData} (h : ∀ a b, PyData.eqv (D a) (D b) = decide (a = b)) (l m : List α) : PyData.eqv (.list (l.map D)) (.list (m.map D)) = decide (l = m) := by
  unfold PyData.eqv; exact eqvAll_map h l m
theorem any_eqv {α : Type} [DecidableEq α] {D : α → PyData} (h : ∀ a b, PyData.eqv (D a) (D b) = decide (a = b)) (l : List α) (a : α) : ((l.map D).any fun y => PyData.eqv y (D a)) = decide (a ∈ l) := by
  induction l with
  | nil => simp
  | cons b l ih =>
    rw [List.map_cons, List.any_cons, ih, h]
    by_cases q : a = b
    · simp [q]
    · simp [q, Ne.symm q]

section
variable {prog : Program} {w : World} {K : Frag} {n : Nat} {c : Cx}

/-! ### comprehensions over told lists -/
theorem comp_fns {α : Type} {D : α → PyData} (hD : ∀ a b, D a = D b → a = b) (l : List α) {β : Type} (f : α → β) (b0 : β) : ∃ g : PyData → β, ∀ a, g (D a) = f a := by
  classical
  refine ⟨fun d => if h : ∃ a, D a = d then f (Classical.choose h) else b0, fun a => ?_⟩
  have h : ∃ a', D a' = D a := ⟨a, rfl⟩
  simp only [h, dif_pos]
  rw [hD _ _ (Classical.choose_spec h)]
theorem filter_map_D {α : Type} {D : α → PyData} {p : α → Bool} {p' : PyData → Bool} {f : α → PyData} {f' : PyData → PyData} (hp : ∀ a, p' (D a) = p a) (hf : ∀ a, f' (D a) = f a) : ∀ l : List α, ((l.map D).filter p').map f' = (l.filter p).map f
  | [] => rfl
  | a :: l => by
    rw [List.map_cons, List.filter_cons, List.filter_cons, hp]
    cases p a
    · exact filter_map_D hp hf l
    · simp only [if_true, List.map_cons, hf]; rw [filter_map_D hp hf l]
theorem ev_compL {α : Type} {elt target iter : Expr} {ifs : List Expr} {scope : Scope} {pos : Pos} {D : α → PyData} {l : List α} {str : Bool} {p : α → Bool} {f : α → PyData} {td : α → List (Str × PyData)} (hD : ∀ a b, D a = D b → a = b)
    (hit : It prog w K n c iter (l.map D) str) (hsz : l.length ≤ sizeLine) (ht : ∀ a ∈ l, Tgt prog w target scope.names (ownCells scope.names) (D a) (td a))
    (htst : ∀ a ∈ l, Tst prog w K n ⟨scope.names, td a ++ capt scope.names c.vars, none⟩ ifs (p a))
    (helt : ∀ a ∈ l, p a = true → Ev prog w K n ⟨scope.names, td a ++ capt scope.names c.vars, none⟩ elt (f a))
    (hkind : scope.kind = .function := by rfl) (hcap : capOk c scope.names = true := by rfl) (hnames : namesOk scope.names = true := by rfl) :
    Ev prog w K n c (.ListComp elt [⟨target, iter, ifs, 0⟩] scope pos) (.list ((l.filter p).map f)) := by
  obtain ⟨p', hp⟩ := comp_fns hD l p false
  obtain ⟨f', hf⟩ := comp_fns hD l f .none
  obtain ⟨td', htd⟩ := comp_fns hD l td []
  rw [← filter_map_D hp hf l]
  refine ev_comp hit (by rw [List.length_map]; exact hsz) hkind hcap hnames (td := td') ?_ ?_ ?_
  · intro d hd; obtain ⟨a, ha, rfl⟩ := List.mem_map.mp hd; rw [htd]; exact ht a ha
  · intro d hd; obtain ⟨a, ha, rfl⟩ := List.mem_map.mp hd; rw [htd, hp]; exact htst a ha
  · intro d hd hq; obtain ⟨a, ha, rfl⟩ := List.mem_map.mp hd; rw [htd, hf]; rw [hp] at hq; exact helt a ha hq
/-- x = [.. for ..], x a local, on one line -/
theorem ex_compL {α : Type} {elt target iter : Expr} {ifs : List Expr} {scope : Scope} {cpos px pos : Pos} {x : Str} {D : α → PyData} {l : List α} {str : Bool} {p : α → Bool} {f : α → PyData} {td : α → List (Str × PyData)} (hD : ∀ a b, D a = D b → a = b)
    (hit : It prog w K n c iter (l.map D) str) (hsz : l.length ≤ sizeLine) (hx : c.names.lookup x = some .local) (hown : ∀ y ds, c.own = some (y, ds) → (y == x) = false)
    (hl : (px.line == cpos.line && !(scope.names.any fun (n, k) => n == x && (k == .local || k == .cell))) = true)
    (ht : ∀ a ∈ l, Tgt prog w target scope.names (ownCells scope.names) (D a) (td a))
    (htst : ∀ a ∈ l, Tst prog w K n ⟨scope.names, td a ++ capt scope.names c.vars, none⟩ ifs (p a))
    (helt : ∀ a ∈ l, p a = true → Ev prog w K n ⟨scope.names, td a ++ capt scope.names c.vars, none⟩ elt (f a))
    (hkind : scope.kind = .function := by rfl) (hcap : capOk c scope.names = true := by rfl) (hnames : namesOk scope.names = true := by rfl) :
    Ex1 prog w K n c (.Assign [.Name x px] (.ListComp elt [⟨target, iter, ifs, 0⟩] scope cpos) pos) (.next ((x, .list ((l.filter p).map f)) :: c.vars) c.own) := by
  obtain ⟨p', hp⟩ := comp_fns hD l p false
  obtain ⟨f', hf⟩ := comp_fns hD l f .none
  obtain ⟨td', htd⟩ := comp_fns hD l td []
  rw [← filter_map_D hp hf l]
  refine ex_assign_comp hit (by rw [List.length_map]; exact hsz) hx hown hl (td := td') ?_ ?_ ?_ hkind hcap hnames
  · intro d hd; obtain ⟨a, ha, rfl⟩ := List.mem_map.mp hd; rw [htd]; exact ht a ha
  · intro d hd; obtain ⟨a, ha, rfl⟩ := List.mem_map.mp hd; rw [htd, hp]; exact htst a ha
  · intro d hd hq; obtain ⟨a, ha, rfl⟩ := List.mem_map.mp hd; rw [htd, hf]; rw [hp] at hq; exact helt a ha hq
theorem filter_true {α : Type} (l : List α) : (l.filter fun _ => true) = l := List.filter_eq_self.mpr fun _ _ => rfl

/-- a for as a fold, with what holds on the way -/
theorem loop_fold {names : List (Str × NameKind)} {target : Expr} {body orelse : List Stmt} {σ α : Type} (D : α → PyData) (V : σ → Vars) (OW : σ → Ow) (step : σ → α → σ) (P : List α → σ → Prop) {o : Out}
    (hs : ∀ x r a, P (x :: r) a → P r (step a x) ∧ ∃ td, Tgt prog w target names (ownCells names) (D x) td ∧ (∀ y l, OW a = some (y, l) → td.lookup y = none) ∧ Ex prog w K n ⟨names, td ++ V a, OW a⟩ body (.next (V (step a x)) (OW (step a x)))) :
    ∀ (items : List α) (a : σ), P items a → (P [] (items.foldl step a) → Ex prog w K n ⟨names, V (items.foldl step a), OW (items.foldl step a)⟩ orelse o) → LoopO prog w K n names target body orelse (items.map D) (V a) (OW a) o
  | [], a, hp, h => .nil (h hp)
  | x :: r, a, hp, h => by
    obtain ⟨hp', td, h1, h2, h3⟩ := hs x r a hp
    exact .next h1 h2 h3 (loop_fold D V OW step P hs r _ hp' h)
theorem int_inj : ∀ a b : Int, PyData.int a = PyData.int b → a = b := fun _ _ q => by cases q; rfl
theorem str_inj : ∀ a b : Str, PyData.str a = PyData.str b → a = b := fun _ _ q => by cases q; rfl
end
end
noncomputable section
open PySem PySem.W PySem.Calls PySem.Spec PyProof.Rows
set_option autoImplicit false
/-! ### map: what the tables say of it -/
theorem mp_slot_iter : Slot "map" "__iter__" "map.__iter__" :=
  .of (owner := "map") (n := "__iter__") (by rw [typeLookup_type, builtinLookup_eq_fast]; kernel_rfl) (by decide +kernel) (by decide +kernel) (by decide +kernel)
    (by first | exact .inl (by decide +kernel) | exact .inr (by decide +kernel)) (by rw [isSubtype_type]; kernel_rfl)
theorem mp_slot_next : Slot "map" "__next__" "map.__next__" :=
  .of (owner := "map") (n := "__next__") (by rw [typeLookup_type, builtinLookup_eq_fast]; kernel_rfl) (by decide +kernel) (by decide +kernel) (by decide +kernel)
    (by first | exact .inl (by decide +kernel) | exact .inr (by decide +kernel)) (by rw [isSubtype_type]; kernel_rfl)
theorem mp_slot_init : Slot "map" "__init__" "object.__init__" :=
  .of (owner := "object") (n := "__init__") (by rw [typeLookup_type, builtinLookup_eq_fast]; kernel_rfl) (by decide +kernel) (by decide +kernel) (by decide +kernel)
    (by first | exact .inl (by decide +kernel) | exact .inr (by decide +kernel)) (by rw [isSubtype_type]; kernel_rfl)
theorem mp_entry_next : entryFor table "map.__next__" = some Builtin.«map.__next__» := entryFor_of_tree (by kernel_rfl)
theorem mp_entry_new : entryFor table "map.__new__" = some Builtin.«map.__new__» := entryFor_of_tree (by kernel_rfl)
theorem mp_args_next (a : Value) : argsOk "map.__next__" ⟨[a], []⟩ := by unfold argsOk; kernel_rfl
theorem mp_args_iter (a : Value) : argsOk "map.__iter__" ⟨[a], []⟩ := by unfold argsOk; kernel_rfl
theorem mp_args_init (a b c : Value) : argsOk "object.__init__" ⟨[a, b, c], []⟩ := by unfold argsOk; kernel_rfl
theorem mp_mro : mroOf (.type "map") = pure [.type "map", .type "object"] := by rw [mroOf_type]; kernel_rfl
theorem mp_lookup_new : typeLookup (.type "map") "__new__" = pure (some (.builtin "map.__new__")) := by rw [typeLookup_type, builtinLookup_eq_fast]; kernel_rfl
theorem mp_called : TypeCalled "map" "map.__new__" "object.__init__" :=
  ⟨by decide +kernel, by decide +kernel, ⟨_, _, mp_mro⟩, madeBy_type mp_mro mp_lookup_new (by decide +kernel), by decide +kernel, by rw [isSubtype_type]; kernel_rfl, mp_slot_init⟩
theorem mp_typeCall (a b : Value) : checkTypeCall "map" ⟨[a, b], []⟩ = pure () := by kernel_rfl
theorem mp_newCall (a b : Value) : checkBuiltinCall "map.__new__" ⟨[.type "map", a, b], []⟩ = pure () := by kernel_rfl
theorem mp_no_len : typeLookup (.type "map") "__len__" = pure none := by rw [typeLookup_type, builtinLookup_eq_fast]; kernel_rfl
theorem mp_no_hint : typeLookup (.type "map") "__length_hint__" = pure none := by rw [typeLookup_type, builtinLookup_eq_fast]; kernel_rfl
theorem mp_sub : isSubtype (.type "map") (.type "map") = pure true := by rw [isSubtype_type]; kernel_rfl
theorem mp_entry_iter : ∃ B, entryFor table "map.__iter__" = some B ∧ ∀ e, B ⟨[.ref e], []⟩ = ret (.ref e) :=
  ⟨Builtin.«dict_keyiterator.__iter__», entryFor_alias (id' := "dict_keyiterator.__iter__") (by kernel_rfl) (by first | rfl | decide +kernel | (unfold String.splitOn; simp +decide [String.splitOnAux])) (by decide +kernel) (by kernel_rfl), fun e => rfl⟩
end
noncomputable section
open PySem PySem.W PySem.Calls PySem.Spec PyProof.Rows
set_option autoImplicit false
open AutoSeq1 (wpAny_loadPart')
section
variable {prog : Program} {w : World} {A : Around} {E : Value → Shared → Prop} {s : Shared}

def mapObj (T : Addr) (f : Value) : Obj := { cls := .type "map", data := .fields #[.ref T, f] }
def oneTup (I : Addr) : Obj := { cls := .type "tuple", data := .seq #[.ref I] }
def liObj (l : Addr) : Obj := { cls := .type "list_iterator", data := .fields #[.ref l, .int 0 0] }

theorem map_next_item {M T I l : Addr} {f : Value} {i : Nat} {items : Array Value} {x : Value} {Q : Value → Shared → Prop} (hM : s.heap.get? M = some (mapObj T f)) (hT : s.heap.get? T = some (oneTup I)) (hI : s.heap.IsListIter I l i) (hl : s.heap.IsList l items) (hx : items[i]? = some x) (hne : l ≠ I) (hMI : M ≠ I)
    (hh : A.handled = none)
    (h : ∀ h' tk, h'.IsListIter I l (i + 1) → Heap.SameBut I s.heap h' → wpAny (model prog w) A (call f [x]) Q E { s with heap := h', toks := tk }) :
    wpAny (model prog w) A (Builtin.«map.__next__» ⟨[.ref M], []⟩) (fun fin s' => ∃ v, fin = .done (.ret v) ∧ Q v s') E s := by
  have hD : Draws prog w A I [I, l] items.size (fun i v => items[i]? = some v) (fun i h => h.IsListIter I l i ∧ h.IsList l items) := Draws.list hh I l hne items
  have hi : i < items.size := by
    rcases Nat.lt_or_ge i items.size with q | q
    · exact q
    · rw [Array.getElem?_eq_none q] at hx; cases hx
  show wpAny _ _ (field (.ref M) 0 >>= _) _ _ _
  refine wpAny_bind (wpAny_field hM rfl (x := .ref T) rfl ?_)
  refine wpAny_bind (wpAny_seqItems hT rfl ?_)
  refine wpAny_bind (wpAny_arrayLoop ?_)
  rw [show (#[Value.ref I] : Array Value).toList = [Value.ref I] from rfl, List.forIn_cons]
  refine wpAny_bind (wpAny_bind (wpAny_holding (hD.item i _ _ _ hi ⟨hI, hl⟩ fun y h' tk hy st' hs => ?_)))
  rw [hx] at hy; cases hy
  refine wpAny_pure ?_
  simp only
  rw [List.forIn_nil]
  refine wpAny_pure ?_
  have hM' : h'.get? M = some (mapObj T f) := (hs.2 M hMI).trans hM
  refine wpAny_bind (wpAny_field hM' rfl (x := f) rfl ?_)
  refine wpAny_bind (wpAny_holding (wpAny_mono (h h' tk st'.1 hs) (fun v s' hq => ?_) fun _ _ q => q))
  exact wpAny_bind (wpAny_letGo (wpAny_pure ⟨v, rfl, hq⟩))
theorem map_next_end {M T I l : Addr} {f : Value} {items : Array Value} {R : PySem.Fin → Shared → Prop} (hM : s.heap.get? M = some (mapObj T f)) (hT : s.heap.get? T = some (oneTup I)) (hI : s.heap.IsListIter I l items.size) (hl : s.heap.IsList l items) (hne : l ≠ I)
    (hh : A.handled = none)
    (h : ∀ h' e, Heap.ExtBut I s.heap h' → (∃ o, h'.get? e = some o ∧ o.cls = .type "StopIteration") → E (.ref e) { s with heap := h' }) :
    wpAny (model prog w) A (Builtin.«map.__next__» ⟨[.ref M], []⟩) R E s := by
  have hD : Draws prog w A I [I, l] items.size (fun i v => items[i]? = some v) (fun i h => h.IsListIter I l i ∧ h.IsList l items) := Draws.list hh I l hne items
  show wpAny _ _ (field (.ref M) 0 >>= _) _ _ _
  refine wpAny_bind (wpAny_field hM rfl (x := .ref T) rfl ?_)
  refine wpAny_bind (wpAny_seqItems hT rfl ?_)
  refine wpAny_bind (wpAny_arrayLoop ?_)
  rw [show (#[Value.ref I] : Array Value).toList = [Value.ref I] from rfl, List.forIn_cons]
  exact wpAny_bind (wpAny_bind (wpAny_holding (hD.done _ _ _ ⟨hI, hl⟩ h)))

theorem meets_map_new (f : Value) (l : Addr) (items : Array Value) (n : Nat) (dct : Option Addr) (sl : Array (Option Value)) :
    Meets (Builtin.«map.__new__» ⟨[.type "map", f, .ref l], []⟩) (fun _ R s => s.heap.get? l = some { cls := .type "list", dict := dct, data := .seq items n, slots := sl } ∧
      R (.ok (.ret (.ref ((s.heap.push (liObj l)).push (oneTup s.heap.objs.size)).objs.size)))
        { s with heap := ((s.heap.push (liObj l)).push (oneTup s.heap.objs.size)).push (mapObj (s.heap.push (liObj l)).objs.size f) }) :=
  .of_wp fun prog w A R s h => by
    obtain ⟨hp, g, d, tk, os⟩ := s; obtain ⟨hl, h⟩ := h
    have hsub := mp_sub
    have hL : Heap.IsList (Shared.heap ⟨hp, g, d, tk, os⟩) l items := ⟨_, hl, rfl, n, rfl⟩
    wp_walk using wpAny_loadPart' hl, wpAny_pyIter_list hL
    exact ⟨_, rfl, h⟩
theorem call_map {f : Value} {l : Addr} {items : Array Value} {Q : Value → Shared → Prop} (hL : s.heap.IsList l items)
    (h : Q (.ref ((s.heap.push (liObj l)).push (oneTup s.heap.objs.size)).objs.size) { s with heap := ((s.heap.push (liObj l)).push (oneTup s.heap.objs.size)).push (mapObj (s.heap.push (liObj l)).objs.size f) }) :
    wpAny (model prog w) A (call (.type "map") [f, .ref l]) Q E s := by
  obtain ⟨⟨c, dct, dt, sl⟩, hl, hc, n, hd⟩ := hL
  replace hc : c = .type "list" := hc
  replace hd : dt = .seq items n := hd
  subst hc hd
  exact callType_new mp_called (by decide) (mp_typeCall _ _) (mp_newCall _ _) (fun obj => mp_args_init obj _ _) mp_entry_new (meets_map_new f l items n dct sl) ⟨hl, ⟨_, Heap.get?_push_size _ rfl, rfl⟩, h⟩

/-! ### a map's items laid into a new list -/
def newL (xs : Array Value) (c : Nat) : Obj := { cls := .type "list", dict := none, data := .seq xs c, slots := #[] }
/-- the list is touched: nothing in it is turned -/
theorem touch_same {S : Addr} {c : Nat} {Q : Unit → Shared → Prop} (hS : s.heap.get? S = some (newL #[] c)) (h : ∀ h' c', h'.get? S = some (newL #[] c') → Heap.SameBut S s.heap h' → Q () { s with heap := h' }) :
    wpAny (model prog w) A (Builtin.List.listTouch (.ref S)) Q E s :=
  wpAny_bind (m := updateSeq S fun xs => xs.push .none) (wpAny_updateSeq hS rfl (wpAny_updateSeq (Heap.get?_update_self _ hS rfl) rfl
    (h _ _ (Heap.get?_update_self _ (Heap.get?_update_self _ hS rfl) rfl) ((Heap.SameBut.update _ _ _).trans (Heap.SameBut.update _ _ _)))))
/-- a map tells nothing of its length: room is made -/
theorem hint_map {I : Addr} {Q : Bool → Shared → Prop} (hT : s.TypeIs (.ref I) "map") (h : Q true s) : wpAny (model prog w) A (Builtin.List.listLengthHint (.ref I)) Q E s := by
  unfold Builtin.List.listLengthHint
  exact wpAny_bind (wpAny_specialOf hT mp_no_len (wpAny_bind (m := specialOf (Value.ref I) (Str.ofString "__length_hint__")) (wpAny_specialOf hT mp_no_hint (wpAny_pure h))))
section
variable {I : Addr} {fp wr : List Addr} {G : Array GenState → Array GenState → Prop} {n : Nat} {P : Nat → Value → Prop} {St : Nat → Shared → Prop}
/-- list.extend of the empty list S by the map I -/
theorem extend_map {S : Addr} {c : Nat} {R : PySem.Fin → Shared → Prop} {E : Value → Shared → Prop} (W : WalksS prog w A I fp wr G n P St) (hT : s.TypeIs (.ref I) "map") (hst : St 0 s) (hne : S ≠ I) (hSf : S ∉ fp) (hS : s.heap.get? S = some (newL #[] c))
    (h : ∀ h' c', h'.get? S = some (newL #[] c') → Heap.SameBut S s.heap h' → St 0 { s with heap := h' } → R (.again (.builtin "list.extend.loop" ⟨[.ref S, .ref I, .ref S], []⟩)) { s with heap := h' }) :
    wpAny (model prog w) A (Builtin.List.listExtendWith (.ref S) (.ref I) (.ref S)) R E s := by
  have other : (Builtin.List.listSameRef (.ref S) (.ref I) || Value.type "map" == Value.type "list" || Value.type "map" == Value.type "tuple") = false := by
    have : Builtin.List.listSameRef (.ref S) (.ref I) = false := by simp [Builtin.List.listSameRef, hne]
    rw [this]; decide
  unfold Builtin.List.listExtendWith
  refine wpAny_bind (wpAny_typeOf hT ?_)
  rw [if_neg (by rw [other]; exact Bool.false_ne_true)]
  refine wpAny_bind (W.self 0 _ _ _ hst (wpAny_bind (wpAny_holding (hint_map hT ?_))))
  show wpAny _ _ (if (true || _) = true then _ else _) _ _ _
  rw [if_pos (Bool.true_or _)]
  refine wpAny_bind (m := rule "list.extend.makes-room") (wpAny_rule (wpAny_bind (touch_same hS fun h' c' e k => wpAny_pure (h h' c' e k ?_))))
  exact W.frame 0 s h' s.toks hst (Nat.le_refl _) fun b hb o q => (k.2 b fun e => hSf (e ▸ hb)).trans q
theorem collect_map {Q : List Value → Shared → Prop} (W : WalksS prog w A.in1 I fp wr G n P St) (hT : ∀ i s, St i s → s.TypeIs (.ref I) "map") (hst : St 0 s) (hfp : ∀ b ∈ fp, b < s.heap.objs.size) (hI : I ∈ fp)
    (hQ : ∀ s' acc, Moved wr G s s' → ItemsOf P acc n → Q acc.toList s') (hn : n ≤ sizeLine) : wpAny (model prog w) A (collect (.ref I)) Q E s := by
  have new : s.heap.objs.size ∉ fp := fun q => Nat.lt_irrefl _ (hfp _ q)
  have st : St 0 { s with heap := s.heap.push (newL #[] 0) } := W.frame 0 s _ s.toks hst (Nat.le_refl _) fun b _ o q => Heap.get?_push_of_some _ q
  refine wpAny_bind (m := runValue (.builtin "proto.collect" ⟨[.ref I], []⟩)) (wpAny_runValue (codeAny_builtin F.entry_proto_collect ?_))
  rw [Around.under_plainId F.plain_proto_collect]
  refine wpAny_bind (m := newList []) (wpAny_newObj_type (wpAny_pure ⟨plainId_quiet F.plain_list_iadd _, codeAny_builtin F.entry_list_iadd ?_⟩))
  rw [Around.under_plainId F.plain_list_iadd]
  refine extend_map W (hT 0 _ st) st (fun q => new (q ▸ hI)) new (Heap.get?_push_size _ rfl) fun h' c' e k st' => ⟨plainId_quiet F.plain_extend_loop _, ?_⟩
  refine codeAny_extend_loopS W hn _ new _ n 0 _ _ _ rfl (Nat.zero_le _) st' e (ItemsOf.nil P) fun s' acc' c'' mv hS' it => ?_
  refine wpAny_bind (m := load s.heap.objs.size) (wpAny_load hS' (wpAny_pure (hQ s' acc' ?_ it)))
  exact Moved.drop_new (o := newL #[] 0) (tk := s.toks) (Moved.trans W.gtrans ((Moved.refl W.grefl).then_heap (Nat.le_refl _) fun b o hb q => (k.2 b fun e => hb (e ▸ List.mem_cons_self)).trans q) mv) (Nat.le_refl _)
theorem code_tuple_map {Q₁ : Value → Shared → Prop} (W : WalksS prog w A.in1.in1 I fp wr G n P St) (hT : ∀ i s, St i s → s.TypeIs (.ref I) "map") (hst : St 0 s) (hfp : ∀ b ∈ fp, b < s.heap.objs.size) (hI : I ∈ fp)
    (h : ∀ s' acc, Moved wr G s s' → ItemsOf P acc n → Q₁ (.ref s'.heap.objs.size) { s' with heap := s'.heap.push { cls := .type "tuple", data := .seq acc } }) (hsz : n ≤ sizeLine) :
    codeAny (model prog w) A (.call (.builtin "tuple.__new__") ⟨[.type "tuple", .ref I], []⟩) (wants Q₁ E) s := by
  refine codeAny_of_tree (wpAny_bind (m := checkBuiltinCall "tuple.__new__" ⟨[.type "tuple", .ref I], []⟩) (wpAny_of_eq (F.newCall_tuple_1 _) (wpAny_pure ⟨plainId_quiet F.plain_tuple_new _, codeAny_builtin F.entry_tuple_new ?_⟩)))
  rw [Around.under_plainId F.plain_tuple_new]
  have k1 := hT 0 s hst
  have k2 := sub_tuple_self
  have k3 := init_tuple_lookup
  have k4 := madeHere_tuple
  wp_walk using wpAny_typeOf k1, collect_map (hn := hsz) W hT hst hfp hI
  intro s' acc mv it
  have fits : acc.toList.toArray.size ≤ sizeLine := by rw [Array.toArray_toList, it.1]; exact hsz
  refine wpAny_bind (m := Builtin.Tuple.tupleExact acc.toList.toArray) (wpAny_newObj_type (wpAny_pure ?_) fits)
  rw [Array.toArray_toList]
  exact h s' acc mv it
theorem call_tuple_map {Q : Value → Shared → Prop} (W : WalksS prog w A.in1.in1.in1 I fp wr G n P St) (hT : ∀ i s, St i s → s.TypeIs (.ref I) "map") (hst : St 0 s) (hfp : ∀ b ∈ fp, b < s.heap.objs.size) (hI : I ∈ fp)
    (hQ : ∀ s' acc, Moved wr G s s' → ItemsOf P acc n → Q (.ref s'.heap.objs.size) { s' with heap := s'.heap.push { cls := .type "tuple", data := .seq acc } }) (hsz : n ≤ sizeLine) :
    wpAny (model prog w) A (call (.type "tuple") [.ref I]) Q E s := by
  refine callType_codes (Q₁ := fun obj s₁ => s₁.TypeIs obj "tuple" ∧ Q obj s₁) F.called_tuple (F.typeCall_tuple_1 _) F.entry_object_init
    (code_tuple_map (hsz := hsz) W hT hst hfp hI fun s' acc hm hacc => ⟨⟨_, Heap.get?_push_size _ rfl, rfl⟩, hQ s' acc hm hacc⟩) fun obj s₁ h₁ => ?_
  exact ⟨h₁.1, F.args_object_init_2 obj _, object_init_meets F.called_tuple.init.lookup F.called_tuple.made (by decide) prog w A.in1 _ s₁ ⟨h₁.1, rfl, h₁.2⟩⟩
end
end
end
noncomputable section
open PySem PySem.W PySem.Calls PySem.Spec PyProof.Rows
set_option autoImplicit false
theorem Rm.ins1 {n : Nat} {A : Around} (r : Rm (n + 1) A) : Rm n A.in1 := r.in1
section
variable {prog : Program} {w : World} {K : Frag} {n : Nat} {c : Cx}

def MapSt (h₀ : Heap) (I a : Addr) (i : Nat) (h : Heap) : Prop := h.IsListIter I a i ∧ ∀ b o, b ≠ I → h₀.get? b = some o → h.get? b = some o
theorem walks_map {A : Around} {m : Nat} {h₀ h₁ : Heap} {f M T I a : Addr} {xs : List Str} {vs : Array Value} (rm : Rm (m + 2) A) (hf : ∀ x, FnSpec prog w K m f [.str x] (.str x)) (b : Base K h₁) (k : Kept h₁ h₀) (hI1 : h₁.get? I = none)
    (hM : h₀.get? M = some (mapObj T (.ref f))) (hT : h₀.get? T = some (oneTup I)) (hMI : M ≠ I) (hTI : T ≠ I) (ha : a ≠ I) (hl : h₀.IsList a vs) (hv : ∃ l : List (Str × Tok), vs.toList = strValues l ∧ l.map (·.1) = xs) (hIlt : I < h₀.objs.size) :
    Walks prog w A M (List.range h₀.objs.size) [I] xs.length (fun i v => ∃ x t, xs[i]? = some x ∧ v = .str x t) (MapSt h₀ I a) := by
  obtain ⟨l, hvs, hlx⟩ := hv
  have hlen : vs.size = xs.length := by rw [← Array.length_toList, hvs, strValues, List.length_map, ← hlx, List.length_map]
  have base : ∀ i h, MapSt h₀ I a i h → Base K h := fun i h st => b.keeps fun q o e => st.2 q o (fun z => by rw [z, hI1] at e; cases e) (k q o e)
  have hTy : ∀ i (s : Shared), MapSt h₀ I a i s.heap → s.TypeIs (.ref M) "map" := fun i s st => ⟨_, st.2 M _ hMI hM, rfl⟩
  refine ⟨?_, ?_, ?_, ?_, ?_⟩
  · intro z hz
    simp at hz; subst hz; exact List.mem_range.mpr hIlt
  · intro i h h' st hk
    refine ⟨?_, fun q o hq e => hk q (List.mem_range.mpr (Heap.lt_size e)) o (st.2 q o hq e)⟩
    obtain ⟨o, ho, r⟩ := st.1
    exact ⟨o, hk I (List.mem_range.mpr hIlt) o ho, r⟩
  · intro i s Q E hi st hQ
    have hT0 := hTy i s st
    obtain ⟨p, hp⟩ : ∃ p, l[i]? = some p := ⟨_, List.getElem?_eq_getElem (by rw [← hlx, List.length_map] at hi; exact hi)⟩
    have hx : vs[i]? = some (Value.str p.1 p.2) := by
      rw [← Array.getElem?_toList, hvs, strValues, List.getElem?_map, hp]; rfl
    have hxs : xs[i]? = some p.1 := by
      rw [← hlx, List.getElem?_map, hp]; rfl
    unfold pyNext
    refine wpAny_bind (wpAny_attempt (wpAny_callSpecial?_slot (name := Str.ofString "__next__") hT0 mp_slot_next (wpAny_call_entry mp_slot_next hT0 mp_entry_next ?_ (mp_args_next _))))
    refine map_next_item (st.2 M _ hMI hM) (st.2 T _ hTI hT) st.1 (hl.at fun o e => st.2 a o ha e) hx ha hMI rm.handled fun h' tk hit hs => ?_
    have st' : MapSt h₀ I a (i + 1) h' := ⟨hit, fun q o hq e => (hs.2 q hq).trans (st.2 q o hq e)⟩
    refine no_mono (wpAny_mono (hf _ _ [] _ _ (rm.in1.down) (base _ _ st') (fun _ hz => nomatch hz) (.cons .str .nil)) (fun v s' ⟨hv', ks⟩ => ?_) fun _ _ q => q)
    obtain ⟨u, rfl⟩ := hv'.str_inv
    obtain ⟨h₂, tk₂, rfl, k₂⟩ := ks
    refine wpAny_pure (hQ _ h₂ tk₂ ⟨_, u, hxs, rfl⟩ ⟨?_, fun q o hq e => k₂ q o (st'.2 q o hq e)⟩ fun q o hq e => k₂ q o ((hs.2 q (by simpa using hq)).trans e))
    obtain ⟨o, ho, r⟩ := hit
    exact ⟨o, k₂ I o ho, r⟩
  · intro s Q E st hQ
    have hT0 := hTy _ s st
    unfold pyNext
    refine wpAny_bind (wpAny_attempt (wpAny_callSpecial?_slot (name := Str.ofString "__next__") hT0 mp_slot_next (wpAny_call_entry mp_slot_next hT0 mp_entry_next ?_ (mp_args_next _))))
    refine map_next_end (items := vs) (st.2 M _ hMI hM) (st.2 T _ hTI hT) (by rw [hlen]; exact st.1) (hl.at fun o e => st.2 a o ha e) ha rm.handled fun h' e hext he => ?_
    obtain ⟨o, ho, hc⟩ := he
    refine wpAny_bind (wpAny_isInstance (T := "StopIteration") (b := true) ⟨o, ho, hc⟩ isSubtype_stop ?_)
    exact wpAny_pure (hQ h' s.toks fun q o hq e => hext q o (by simpa using hq) e)
  · intro i s Q E st hQ
    have hT0 := hTy i s st
    obtain ⟨B, hB, hBe⟩ := mp_entry_iter
    refine wpAny_pyIter_slot hT0 mp_slot_iter (wpAny_call_entry mp_slot_iter hT0 hB ?_ (mp_args_iter _))
    rw [hBe]
    exact wpAny_pure ⟨_, rfl, "map", _, hT0, mp_slot_next.lookup, hQ⟩

/-- tuple(map(f, e)), e a list of texts, f a function of the top that gives back what it is given -/
theorem ev_tuple_map {m : Nat} {e : Expr} {g : Str} {f : Addr} {pt pm pf ptc pmc : Pos} {xs : List Str} (h : Ev prog w K (m + 6) c e (.list (xs.map .str))) (hf : ∀ x, FnSpec prog w K m f [.str x] (.str x)) (hsz : xs.length ≤ sizeLine)
    (hkt : c.names.lookup ("tuple" : Str) = some .globalImplicit) (hgt : nsIn K mainGlobals ("tuple" : Str) = some none) (hkm : c.names.lookup ("map" : Str) = some .globalImplicit) (hgm : nsIn K mainGlobals ("map" : Str) = some none)
    (hkf : c.names.lookup g = some .globalImplicit) (hgf : nsIn K mainGlobals g = some (some (.ref f))) (hd : (g == ("__debug__" : Str)) = false := by rfl)
    (he : ∀ env, starEach [.Name g pf, e] env = [(false, eval (.Name g pf) env), (false, eval e env)] := by intro _; rfl) :
    Ev prog w K (m + 6) c (.Call (.Name ("tuple" : Str) pt) [.Call (.Name ("map" : Str) pm) [.Name g pf, e] [] pmc] [] ptc) (.tuple (xs.map .str)) := fun A env Z s rm fo t => by
  refine wpAny_Call_NameR (name_blt (v := .type "tuple") fo t.base hkt hgt (by decide +kernel) ?_ rfl rfl)
  show wpAny _ _ (callWith ptc (.type "tuple") [] [(false, eval (.Call (.Name ("map" : Str) pm) [.Name g pf, e] [] pmc) env)] []) _ _ _
  refine PySem.callWith_type1 ?_
  refine wpAny_Call_NameR (name_blt (v := .type "map") fo t.base hkm hgm (by decide +kernel) ?_ rfl rfl)
  rw [he env]
  refine PySem.callWith_type rfl (Calls.evalArgs_plain (Calls.spliced_cons (name_glob fo t.base hkf hgf (Calls.spliced_cons (wpAny_mono (h A env Z s rm fo t) (fun v s₁ ⟨hv, k⟩ => Calls.spliced_nil ?_) fun _ _ q => q)) hd)))
  obtain ⟨a, vs, rfl, hz, hl, hall⟩ := hv.list_inv
  have hal : a < s₁.heap.objs.size := by obtain ⟨o, ho, _⟩ := hl; exact Heap.lt_size ho
  refine call_map hl ?_
  have z1 : (s₁.heap.push (liObj a)).objs.size = s₁.heap.objs.size + 1 := Heap.size_push ..
  have z2 : ((s₁.heap.push (liObj a)).push (oneTup s₁.heap.objs.size)).objs.size = s₁.heap.objs.size + 2 := by rw [Heap.size_push, z1]
  generalize hh0 : ((s₁.heap.push (liObj a)).push (oneTup s₁.heap.objs.size)).push (mapObj (s₁.heap.push (liObj a)).objs.size (.ref f)) = h₀
  have z3 : h₀.objs.size = s₁.heap.objs.size + 3 := by rw [← hh0, Heap.size_push, z2]
  have gM : h₀.get? (s₁.heap.objs.size + 2) = some (mapObj (s₁.heap.objs.size + 1) (.ref f)) := by rw [← hh0, ← z2, ← z1]; exact Heap.get?_push_size _ rfl
  have gT : h₀.get? (s₁.heap.objs.size + 1) = some (oneTup s₁.heap.objs.size) := by rw [← hh0]; refine Heap.get?_push_of_some _ ?_; rw [← z1]; exact Heap.get?_push_size _ rfl
  have gI : h₀.get? s₁.heap.objs.size = some (liObj a) := by rw [← hh0]; exact Heap.get?_push_of_some _ (Heap.get?_push_of_some _ (Heap.get?_push_size _ rfl))
  have k0 : Kept s₁.heap h₀ := fun b o q => by rw [← hh0]; exact Heap.get?_push_of_some _ (Heap.get?_push_of_some _ (Heap.get?_push_of_some _ q))
  have nI : s₁.heap.get? s₁.heap.objs.size = none := Heap.get?_none_of_le (Nat.le_refl _)
  have hl0 : h₀.IsList a vs := hl.at fun o q => k0 _ _ q
  rw [z2]
  have n2 : (s₁.heap.objs.size + 2 : Nat) ≠ s₁.heap.objs.size := by omega
  have n1 : (s₁.heap.objs.size + 1 : Nat) ≠ s₁.heap.objs.size := by omega
  have l0 : (s₁.heap.objs.size : Nat) < h₀.objs.size := by omega
  have l2 : (s₁.heap.objs.size + 2 : Nat) < h₀.objs.size := by omega
  have W := walks_map (prog := prog) (w := w) (K := K) (A := A.in1.in1.in1) (m := m) (h₀ := h₀) (h₁ := s₁.heap) (f := f) (M := s₁.heap.objs.size + 2) (T := s₁.heap.objs.size + 1) (I := s₁.heap.objs.size) (a := a) (xs := xs) (vs := vs)
    rm.in1.in1.in1.down hf (t.step k).base k0 nI gM gT n2 n1 (Nat.ne_of_lt hal) hl0 (hasAll_strs_inv _ _ hall) l0
  refine call_tuple_map (s := { s₁ with heap := h₀ }) W.toS (fun i s' st => ⟨_, st.2 _ _ n2 gM, rfl⟩) ⟨⟨_, gI, rfl, rfl⟩, fun _ _ _ e => e⟩ (fun b hb => List.mem_range.mp hb) (List.mem_range.mpr l2) (fun s' acc hm hacc => ?_) hsz
  have ks : Keeps s s' := by
    refine kp_trans k ⟨s'.heap, s'.toks, ?_, fun b o e => hm.heap b o (fun q => ?_) (k0 b o e)⟩
    · obtain ⟨_, g1, g2, g3, _⟩ := hm
      obtain ⟨a1, a2, a3, a4, a5⟩ := s'
      simp only at g1 g2 g3
      subst g1 g2 g3
      rfl
    · simp at q; rw [q, nI] at e; cases e
  refine ⟨Has.tuple (IsTup.new _ _) (HasAll.keeps (Kept.push _ _) ?_), kp_trans ks (kp_push _ _)⟩
  have : ∀ (acc : List Value) (xs : List Str), acc.length = xs.length → (∀ (j : Nat) (v : Value), acc[j]? = some v → ∃ x t, xs[j]? = some x ∧ v = Value.str x t) → HasAll Z s'.heap acc (xs.map PyData.str) := by
    intro acc
    induction acc with
    | nil => intro xs hl _; cases xs with
      | nil => exact .nil
      | cons _ _ => simp at hl
    | cons v r ih =>
      intro xs hl hP
      cases xs with
      | nil => simp at hl
      | cons x xs =>
        obtain ⟨x', u, e1, rfl⟩ := hP 0 v rfl
        simp at e1; subst e1
        exact .cons .str (ih xs (by simpa using hl) fun j v hj => by simpa using hP (j + 1) v (by simpa using hj))
  exact this acc.toList xs (by rw [Array.length_toList]; exact hacc.1) fun j v hj => hacc.2 j v (by simpa using hj)
end
end
noncomputable section
open PySem PySem.W PySem.Calls PySem.Spec PyProof.Rows
set_option autoImplicit false
section
variable {prog : Program} {w : World} {A : Around} {E : Value → Shared → Prop} {s : Shared}

def isF : Value → Bool
  | .bool false => true
  | _ => false
theorem isF_eq {v : Value} (h : isF v = true) : v = .bool false := by
  unfold isF at h; split at h
  · rfl
  · cases h
theorem hash_false {Q : Int → Shared → Prop} (h : Q 0 { s with toks := s.toks + 1 }) : wpAny (model prog w) A (pyHash (.bool false)) Q E s := by
  unfold pyHash
  show wpAny _ _ (pyHashByItsType (.bool false)) _ _ _
  unfold pyHashByItsType
  have hv : [Value.bool false].any Value.onHeap = false := rfl
  have hT : s.TypeIs (.bool false) "bool" := by first | exact typeIs_bool _ _ | rfl
  refine wpAny_bind ?_
  rw [cRoomFor, if_neg (by rw [hv]; exact Bool.false_ne_true)]; refine wpAny_pure ?_
  refine wpAny_bind (wpAny_specialOf hT F.slot_bool_hash.lookup ?_)
  show wpAny _ _ (if (some (Value.builtin "int.__hash__") == some Value.none) = true then _ else _) Q E s
  rw [if_neg (by rw [beq_builtin_none]; exact Bool.false_ne_true)]
  refine wpAny_bind (wpAny_specialOf hT F.slot_bool_hash.lookup ?_)
  show wpAny _ _ (callSpecialIfBoundUnlessNone? (.bool false) "__hash__" _ >>= _) Q E s
  refine wpAny_bind (wpAny_callSpecialIfBoundUnlessNone?_slot hT F.slot_bool_hash
    (wpAny_call_entry F.slot_bool_hash hT F.entry_int_hash
      (show wpAny _ _ (do ret (← mkInt 0)) _ _ s from wpAny_ret_mkInt ?_) (F.args_int_hash_1 _)))
  exact wpAny_pure h
def fKind (prog : Program) (w : World) : KeyKind prog w Unit where
  is := fun _ v => isF v
  hash := fun _ => 0
  inj := fun _ _ _ _ _ => rfl
  byValue := fun _ v h => by rw [isF_eq h]; rfl
  pyHash := fun hv h => by rw [isF_eq hv]; exact hash_false h
  eqBool := fun hu hv h => by
    rw [isF_eq hu, isF_eq hv]
    unfold eqBool
    refine wpAny_holding ?_
    rw [if_pos (by decide)]
    exact wpAny_bind (wpAny_rule (wpAny_pure (by simpa using h)))
  «strs» := fun _ x t v h => by cases h

def tabF (led : Bool) : SetTable := { mask := 7, place := #[0], dummies := #[], finger := 0, led := led, moves := 0, plain := true }
def fObj (led : Bool) : Obj := { cls := .type "set", dict := none, data := .set #[] 0 (.fresh 0 0 led) }
def oObj (led : Bool) : Obj := Obj.putSet #[(0, .bool false)] (tabF led) (fObj led)
def ledOf (w : World) : Bool := !(w.params.followText "set-order")
theorem layNew_first (led : Bool) : layNew (.fresh 0 0 led) #[] 0 (.bool false) = (#[(0, .bool false)], tabF led, false, false) := by
  cases led <;> decide +kernel
theorem add_hashed_first {a : Addr} {led : Bool} {Q : Bool → Shared → Prop} (ho : s.heap.get? a = some (fObj led))
    (h : ∀ h', Heap.SameBut a s.heap h' → h'.get? a = some (oObj led) → Q true { s with heap := h' }) : wpAny (model prog w) A (setAddHashed a (.bool false) 0) Q E s := by
  unfold setAddHashed setAddHashedIn
  refine wpAny_holding (wpAny_bind (wpAny_setState_of ho rfl rfl ?_))
  dsimp only
  rw [show byScan (.bool false) #[] = true from by decide +kernel]
  simp only [↓reduceIte]
  unfold setAddByScan
  refine wpAny_bind ?_
  refine wpAny_bind (wpAny_rule ?_)
  refine wpAny_bind (m := setScan a (.bool false) 0 true #[]) (wpAny_pure ?_)
  dsimp only
  rw [layNew_first led]
  dsimp only
  refine wpAny_bind (m := (pure () : Sem Unit)) (wpAny_pure ?_)
  split
  · refine wpAny_bind (m := hashByValue 8 (.bool false)) (wpAny_pure ?_)
    simp only [↓reduceIte]
    refine wpAny_bind (wpAny_storeSet_of ho rfl ?_ (by show 1 ≤ sizeLine; decide))
    rw [show (!false && (tabF led).tooFull) = false by cases led <;> decide]
    simp only [Bool.false_eq_true, ↓reduceIte]
    refine wpAny_pure (wpAny_pure (h _ (Heap.SameBut.update ..) ?_))
    exact Heap.get?_update_self _ ho rfl
  · rename_i q
    exact absurd rfl q
theorem add_hashed_next {a : Addr} {led : Bool} {Q : Bool → Shared → Prop} (ho : s.heap.get? a = some (oObj led))
    (h : Q false s) : wpAny (model prog w) A (setAddHashed a (.bool false) 0) Q E s := by
  have hd : (oObj led).data = .set #[(0, .bool false)] 1 (tabF led) := rfl
  unfold setAddHashed setAddHashedIn
  refine wpAny_holding (wpAny_bind (wpAny_setState_of ho hd rfl ?_))
  dsimp only
  rw [show byScan (.bool false) #[(0, .bool false)] = true from by decide +kernel]
  simp only [↓reduceIte]
  unfold setAddByScan
  refine wpAny_bind ?_
  refine wpAny_bind (wpAny_rule ?_)
  refine wpAny_bind ?_
  show wpAny _ _ (setScanFrom a (.bool false) 0 true [(0, .bool false)] 0) _ _ _
  unfold setScanFrom
  simp only [beq_self_eq_true, ↓reduceIte]
  refine wpAny_bind (wpAny_setEpoch_of ho hd rfl ?_)
  refine wpAny_bind ((fKind prog w).eqBool (a := ()) (b := ()) rfl rfl ?_)
  simp only [decide_true, Bool.and_self, ↓reduceIte]
  exact wpAny_pure (wpAny_pure (wpAny_pure h))
theorem call_add_of {a : Addr} {led : Bool} {o : Obj} {Q : Value → Shared → Prop} (ho : s.heap.get? a = some o) (hc : o.cls = .type "set")
    (h : wpAny (model prog w) A.in1 (setAddHashed a (.bool false) 0) (fun _ s' => Q .none s') E { s with toks := s.toks + 1 }) : wpAny (model prog w) A (call (.builtin "set.add") [.ref a, .bool false]) Q E s := by
  have hT : s.TypeIs (.ref a) "set" := ⟨_, ho, hc⟩
  refine wpAny_call_entry F.slot_set_add hT F.entry_set_add ?_ (F.args_set_add_2 _ _)
  unfold Builtin.«set.add» Builtin.Frozenset.oneOther
  simp only [List.isEmpty_nil, bind_assoc]
  unfold Builtin.Frozenset.addrOf setAdd
  refine wpAny_bind (wpAny_pure ?_)
  try dsimp only
  refine wpAny_bind (wpAny_pure ?_)
  try dsimp only
  refine wpAny_bind ?_
  refine wpAny_holding ?_
  refine wpAny_bind (hash_false ?_)
  refine wpAny_mono h (fun b s' hq => ?_) fun _ _ q => q
  show wpAny _ _ (ret Value.none) _ _ _
  exact wpAny_pure ⟨_, rfl, hq⟩
/-- a set that holds just False, or nothing -/
def SetD (w : World) (h : Heap) (D : Addr) (i : Nat) : Prop := h.get? D = some (if i = 0 then fObj (ledOf w) else oObj (ledOf w))
theorem SetD.at {w : World} {h h' : Heap} {D : Addr} {i : Nat} (x : SetD w h D i) (k : ∀ o, h.get? D = some o → h'.get? D = some o) : SetD w h' D i := k _ x
theorem SetD.cls {w : World} {h : Heap} {D : Addr} {i : Nat} (x : SetD w h D i) : ∃ o, h.get? D = some o ∧ o.cls = .type "set" := ⟨_, x, by split <;> rfl⟩
theorem call_add {a : Addr} {i : Nat} {Q : Value → Shared → Prop} (ho : SetD w s.heap a i) (h : ∀ h', Heap.SameBut a s.heap h' → SetD w h' a (i + 1) → Q .none { s with heap := h', toks := s.toks + 1 }) :
    wpAny (model prog w) A (call (.builtin "set.add") [.ref a, .bool false]) Q E s := by
  obtain ⟨o, e, c⟩ := ho.cls
  refine call_add_of (led := ledOf w) e c ?_
  by_cases q : i = 0
  · subst q
    exact add_hashed_first (led := ledOf w) (s := { s with toks := s.toks + 1 }) ho fun h' hs hd => h h' hs hd
  · have ho' : s.heap.get? a = some (oObj (ledOf w)) := by unfold SetD at ho; rw [if_neg q] at ho; exact ho
    exact add_hashed_next (led := ledOf w) (s := { s with toks := s.toks + 1 }) ho' (h s.heap (Heap.SameBut.refl _ _) ho')
theorem new_set {Q : Value → Shared → Prop} (h : Q (.ref s.heap.objs.size) { s with heap := s.heap.push (fObj (ledOf w)) }) : wpAny (model prog w) A (newSet (.type "set")) Q E s := by
  unfold newSet setsByText
  refine wpAny_bind (wpAny_bind (wpAny_askSetting (wpAny_pure ?_)))
  dsimp only
  simp only [newObj]
  exact wpAny_bind (wpAny_alloc (wpAny_pure h))
end
end
noncomputable section
open PySem PySem.W PySem.Calls PySem.Spec PyProof.Rows
set_option autoImplicit false
theorem compTurn_set (elt target iter : Expr) (ifs : List Expr) (scope : Scope) (pos : Pos) (it acc : Value) (env : Env) :
    compTurn (.SetComp elt [⟨target, iter, ifs, 0⟩] scope pos) 0 it acc env = (do
      standAt iter.pos
      match ← pyNext it with
      | none => pure (.done .next)
      | some v =>
        letOwnedTupleGo target it v
        assign target env v
        let mut ok := true
        for c in ifs do
          if ok then ok ← isTrue c env (eval c env)
        if ok then
          (do let v ← eval elt env; standAt elt.pos; let _ ← call (.builtin "set.add") [acc, v])
        again (.compLoop (.SetComp elt [⟨target, iter, ifs, 0⟩] scope pos) 0 it acc env)) := by rfl
section
variable {prog : Program} {w : World} {A : Around} {R : Result → Shared → Prop} {s : Shared}
theorem compStart_set {elt target : Expr} {iter : Expr} {ifs : List Expr} {rest : List Comprehension} {scope : Scope} {pos : Pos} {it acc : Value} {env : Env}
    (h0 : codeAny (model prog w) A (.compLoop (.SetComp elt (⟨target, iter, ifs, 0⟩ :: rest) scope pos) 0 it acc env) R s)
    (h : wpAny (model prog w) A (pyIter it) (fun it' s' => codeAny (model prog w) A (.compLoop (.SetComp elt (⟨target, iter, ifs, 0⟩ :: rest) scope pos) 0 it' acc env) R s')
      (notedBy (model prog w) A env fun x s' => R (.error x) s') s) :
    codeAny (model prog w) A (.compStart (.SetComp elt (⟨target, iter, ifs, 0⟩ :: rest) scope pos) 0 it acc env) R s := by
  refine codeAny_of_tree ?_
  show wpAny _ _ ((compStart (.SetComp elt (⟨target, iter, ifs, 0⟩ :: rest) scope pos) 0 it acc env).onRaise (fun x => do noteFrame x env; standAt theWindowsPlace)) _ _ s
  refine wpAny_notedAt ?_
  unfold compStart
  show wpAny _ _ (ask >>= _) _ _ s
  refine wpAny_bind (wpAny_askSetting (wpAny_ite ?_))
  split
  · first
      | exact wpAny_bind (wpAny_pure (wpAny_pure (And.intro rfl h0)))
      | exact wpAny_pure (And.intro rfl h0)
  · first
      | exact wpAny_bind (wpAny_rule (wpAny_bind (wpAny_standAt (wpAny_bind (wpAny_mono h (fun it' s' h' => wpAny_pure (And.intro rfl h')) fun _ _ x => x)))))
      | (refine wpAny_bind (wpAny_rule ?_); show wpAny _ _ (standAt iter.pos >>= _) _ _ s; exact wpAny_bind (wpAny_standAt (wpAny_bind (wpAny_mono h (fun it' s' h' => wpAny_pure (And.intro rfl h')) fun _ _ x => x))))
end
section
variable {prog : Program} {w : World} {K : Frag} {n : Nat} {c : Cx}
theorem compLoop_set {A : Around} {R : Result → Shared → Prop} {s : Shared} {elt target iter : Expr} {ifs : List Expr} {scope : Scope} {pos : Pos} {it acc : Value} {env : Env} (I : Nat → Shared → Prop)
    (turn : ∀ n s, I n s → wpAny (model prog w) A (pyNext it) (fun r s₁ => match r with
      | none => R (.ok .next) s₁
      | some v => wpAny (model prog w) A (letOwnedTupleGo target it v) (fun _ s₁' => wpAny (model prog w) A (assign target env v) (fun _ s₂ =>
          wpAny (model prog w) A (forIn ifs true fun c r => if r = true then do let ok ← isTrue c env (eval c env); pure (ForInStep.yield ok) else pure (ForInStep.yield r)) (fun ok s₃ =>
            if ok = true then wpAny (model prog w) A (eval elt env) (fun x s₄ =>
              wpAny (model prog w) A (call (.builtin "set.add") [acc, x]) (fun _ s₅ => ∃ m, m < n ∧ I m s₅) noE s₄) noE s₃
            else ∃ m, m < n ∧ I m s₃) noE s₂) noE s₁') noE s₁) noE s)
    (n : Nat) (h : I n s) :
    codeAny (model prog w) A (.compLoop (.SetComp elt [⟨target, iter, ifs, 0⟩] scope pos) 0 it acc env) R s := by
  refine codeAny_loop rfl I (fun n s hI => ?_) n h
  show wpAny _ A ((compTurn (.SetComp elt [⟨target, iter, ifs, 0⟩] scope pos) 0 it acc env).onRaise (fun x => do noteFrame x env; theTreesLotGoes x)) _ _ s
  refine wpAny_noted ?_
  rw [compTurn_set]
  refine wpAny_bind (wpAny_standAt (wpAny_bind (wpAny_mono (turn n s hI) (fun r s₁ h₁ => ?_) fun _ _ h' => h'.elim)))
  cases r with
  | none => exact wpAny_pure h₁
  | some v =>
    refine wpAny_bind (wpAny_mono h₁ (fun _ s₁' h₁' => ?_) fun _ _ h' => h'.elim)
    refine wpAny_bind (wpAny_mono h₁' (fun _ s₂ h₂ => wpAny_bind (wpAny_mono h₂ (fun ok s₃ h₃ => ?_) fun _ _ h' => h'.elim)) fun _ _ h' => h'.elim)
    cases ok with
    | false => exact wpAny_pure ⟨rfl, h₃⟩
    | true =>
      exact wpAny_bind (wpAny_bind (wpAny_mono h₃ (fun x s₄ h₄ => wpAny_bind (wpAny_standAt (wpAny_bind (wpAny_mono h₄ (fun _ s₅ h₅ => wpAny_pure (wpAny_pure ⟨rfl, h₅⟩)) fun _ _ h' => h'.elim)))) fun _ _ h' => h'.elim))

theorem set_block {A : Around} {Z : List Addr} {elt target iter : Expr} {ifs : List Expr} {scope : Scope} {pos : Pos} {env : Env} {s s₂ : Shared} {I : Addr} {ds : List PyData} {str : Bool} {cl : List (Str × Addr)} {td : PyData → List (Str × PyData)}
    {RR : Value → Addr → Result → Shared → Prop} (rm : Rm n A) (fo : FrameOk env c.names) (st : Sta K env c Z s.heap) (ks : Keeps s s₂) (hI : s.heap.get? I = none) (src : Src prog w A Z I ds str s₂.heap) (hsz : ds.length ≤ sizeLine) (hkind : scope.kind = .function)
    (hcap : capOk c scope.names = true) (hcl : ∀ x, (x, NameKind.free) ∈ scope.names → cl.lookup x = env.cells.lookup x) (hcl2 : ∀ x c, cl.lookup x = some c → (s₂.heap.get? c).isSome = true)
    (ht : ∀ d ∈ ds, Tgt prog w target scope.names (ownCells scope.names) d (td d))
    (htst : ∀ d ∈ ds, Tst prog w K n ⟨scope.names, td d ++ capt scope.names c.vars, none⟩ ifs true)
    (helt : ∀ d ∈ ds, Ev prog w K n ⟨scope.names, td d ++ capt scope.names c.vars, none⟩ elt (.bool false))
    (hR : ∀ D C h' tk m', s₂.heap.get? D = none → s₂.heap.get? C = none → D ≠ C → h'.Ns C m' → SetD w h' D ds.length →
      (∀ b o, b ≠ I → s₂.heap.get? b = some o → h'.get? b = some o) → RR (.ref D) C (.ok .next) { s₂ with heap := h', toks := tk }) :
    wpAny (model prog w) A (newSet (.type "set")) (fun acc s₃ => wpAny (model prog w) A (newFunctionEnv scope env.globals cl [] env.qual none .none (some env)) (fun cenv s₄ =>
      codeAny (model prog w) A (.compStart (.SetComp elt [⟨target, iter, ifs, 0⟩] scope pos) 0 (.ref I) acc { cenv with scope := relabel scope env }) (RR acc cenv.locals) s₄) noE s₃) noE s₂ := by
  refine new_set (newEnv_comp (fun x c e => Kept.some (Kept.push _ _) _ (hcl2 x c e)) fun h₁ cells k₁ hns hown hcl3 => ?_)
  dsimp only at hns hown ⊢
  have hD : s₂.heap.get? s₂.heap.objs.size = none := Heap.get?_none_of_le (Nat.le_refl _)
  have hC : s₂.heap.get? (s₂.heap.push (fObj (ledOf w))).objs.size = none := Heap.get?_none_of_le (by rw [Heap.size_push]; exact Nat.le_succ _)
  have hDC : s₂.heap.objs.size ≠ (s₂.heap.push (fObj (ledOf w))).objs.size := by rw [Heap.size_push]; exact Nat.ne_of_lt (Nat.lt_succ_self _)
  have hDl : SetD w h₁ s₂.heap.objs.size 0 := SetD.at (show SetD w _ _ 0 from Heap.get?_push_size _ rfl) fun o q => k₁ _ _ q
  have hDp : (s₂.heap.push (fObj (ledOf w))).get? s₂.heap.objs.size ≠ none := by rw [Heap.get?_push_size _ rfl]; exact fun q => nomatch q
  have k2 : Kept s₂.heap h₁ := (Kept.push _ _).trans k₁
  have hown' : ∀ x, (x, NameKind.cell) ∈ scope.names → ∃ c, cells.lookup x = some c ∧ s₂.heap.get? c = none ∧ c ≠ s₂.heap.objs.size ∧ h₁.IsCell c none ∧ ∀ y, cells.lookup y = some c → y = x := fun x hx => by
    obtain ⟨c, a1, a2, a3, a4⟩ := hown x hx
    refine ⟨c, a1, ?_, fun q => hDp (q ▸ a2), a3, a4⟩
    cases q : s₂.heap.get? c with
    | none => rfl
    | some o => rw [Heap.get?_push_of_some _ q] at a2; cases a2
  clear hown hDp
  generalize hDe : s₂.heap.objs.size = D at *
  generalize hCe : (s₂.heap.push (fObj (ledOf w))).objs.size = C at *
  clear hDe hCe k₁
  obtain ⟨fp, P, St, Wk, st0, hfp, nice, hP⟩ := src
  have hI2 : ∃ o, s₂.heap.get? I = some o ∧ isFlds o := by obtain ⟨o, T, a, b, _⟩ := nice 0 _ st0; exact ⟨o, a, b⟩
  obtain ⟨oI, hoI, hfI⟩ := hI2
  -- the frame
  generalize hW : C :: (ownCells scope.names).filterMap (fun x => cells.lookup x) = W
  have hWn : ∀ b ∈ W, s₂.heap.get? b = none := by
    intro b hb
    rw [← hW] at hb
    rcases List.mem_cons.mp hb with rfl | hb
    · exact hC
    · obtain ⟨x, hx, hl⟩ := List.mem_filterMap.mp hb
      obtain ⟨c', a1, a2, _⟩ := hown' x (mem_ownCells hx)
      rw [a1] at hl; cases hl; exact a2
  have hDW : D ∉ W := by
    rw [← hW]
    intro hb
    rcases List.mem_cons.mp hb with q | hb
    · exact hDC q
    · obtain ⟨x, hx, hl⟩ := List.mem_filterMap.mp hb
      obtain ⟨c', a1, a2, a3, _⟩ := hown' x (mem_ownCells hx)
      rw [a1] at hl; cases hl; exact a3 rfl
  have hIW : I ∉ W := fun hb => by rw [hWn I hb] at hoI; cases hoI
  have hDI : D ≠ I := fun q => by rw [← q, hD] at hoI; cases hoI
  generalize hce : ({ newEnv scope C env.globals cells env.qual none Value.none (some env) builtinsNs with scope := relabel scope env } : Env) = cenv
  have hloc : cenv.locals = C := by rw [← hce]; rfl
  have hcells : cenv.cells = cells := by rw [← hce]; rfl
  have hscope : cenv.scope = relabel scope env := by rw [← hce]
  have hfo : FrameOk cenv scope.names := by
    refine ⟨by rw [hscope]; exact hkind, by rw [← hce]; exact fo.glob, by rw [← hce]; exact fo.blt, fun x k hx => ?_⟩
    show List.lookup x cenv.scope.names = _ ∨ _ ∧ List.lookup x cenv.scope.names = _
    rw [hscope]
    exact relabel_lookup hx
  have hfr : FrW cenv (ownCells scope.names) W h₁ := by
    refine ⟨⟨_, hloc ▸ hns⟩, by rw [hloc, ← hW]; exact .head _, fun x hx => ?_⟩
    obtain ⟨c', a1, a2, a3, a4, a5⟩ := hown' x (mem_ownCells hx)
    rw [hcells]
    exact ⟨c', a1, by rw [← hW]; exact .tail _ (List.mem_filterMap.mpr ⟨x, hx, a1⟩), ⟨_, a4⟩, a5⟩
  have loop : ∀ s₃ : Shared, s₃ = { s₂ with heap := h₁ } → codeAny (model prog w) A (.compLoop (.SetComp elt [⟨target, iter, ifs, 0⟩] scope pos) 0 (.ref I) (.ref D) cenv) (RR (.ref D) C) s₃ := by
    rintro s₃ rfl
    refine compLoop_set (fun k s' => ∃ H tk i, s' = { s₂ with heap := H, toks := tk } ∧ i ≤ ds.length ∧ k = ds.length + 1 - i ∧ St i H ∧ FrW cenv (ownCells scope.names) W H ∧ SetD w H D i ∧ ∀ b o, b ≠ I → s₂.heap.get? b = some o → H.get? b = some o) ?_ (ds.length + 1)
      ⟨h₁, s₂.toks, 0, rfl, Nat.zero_le _, rfl, ?_, hfr, hDl, fun b o _ e => k2 b o e⟩
    case refine_2 => exact Wk.frame 0 _ _ st0 fun b _ o e => k2 b o e
    rintro k s' ⟨H, tk, i, rfl, hi, rfl, sti, fri, hDi, hkp⟩
    obtain ⟨oi, Ti, hoi, hfi, hci, hTi⟩ := nice i H sti
    by_cases hlt : i < ds.length
    · -- a turn
      have hdi : ds[i]? = some ds[i] := by simp [hlt]
      generalize ds[i] = d at hdi
      have hdm : d ∈ ds := List.mem_of_getElem? hdi
      refine Wk.item i _ _ _ hlt sti fun v h₂ tk₂ hPv st₂ hk₂ => ?_
      have hk₂' : ∀ b o, b ≠ I → H.get? b = some o → h₂.get? b = some o := fun b o hb e => hk₂ b o (by simpa using hb) e
      have hkp₂ : ∀ b o, b ≠ I → s₂.heap.get? b = some o → h₂.get? b = some o := fun b o hb e => hk₂' b o hb (hkp b o hb e)
      obtain ⟨o₂, T₂, ho₂, hf₂, hc₂, hT₂⟩ := nice (i + 1) h₂ st₂
      refine letOwned_nice ho₂ hf₂ hc₂ hT₂ ?_
      have notI : ∀ b o, H.get? b = some o → isSeq o → b ≠ I := fun b o e q => by
        rintro rfl
        rw [hoi] at e; cases e
        obtain ⟨_, _, q⟩ := q; obtain ⟨_, q'⟩ := hfi; rw [q] at q'; cases q'
      have notI2 : ∀ b o, s₂.heap.get? b = some o → isSeq o → b ≠ I := fun b o e q => by
        rintro rfl
        rw [hoI] at e; cases e
        obtain ⟨_, _, q⟩ := q; obtain ⟨_, q'⟩ := hfI; rw [q] at q'; cases q'
      have hv₂ : Has (D :: Z) h₂ v d := by
        have q := hP i v d hdi hPv
        have q2 : Has (D :: Z) s₂.heap v d := Has.shun (fun z hz => (List.mem_cons.mp hz).elim (fun e => .inr (e ▸ hD)) .inl) q
        exact Has.keptS (fun b o e q _ => hkp₂ b o (notI2 b o e q) e) q2
      have hD₂ : SetD w h₂ D i := hDi.at fun o e => hk₂' _ _ hDI e
      have fr₂ : FrW cenv (ownCells scope.names) W h₂ := fri.but hIW hk₂'
      refine ht d hdm A cenv W (D :: Z) _ v _ rm.handled hfo fr₂ hv₂ fun h₃ tk₃ wr₃ fr₃ hvars hother => ?_
      have hD₃ : SetD w h₃ D i := hD₂.at fun o e => wr₃.1 _ _ e (.inl hDW)
      have hkp₃ : ∀ b o, b ≠ I → s₂.heap.get? b = some o → h₃.get? b = some o := fun b o hb e => wr₃.1 b o (hkp₂ b o hb e) (.inl fun hm => by rw [hWn b hm] at e; cases e)
      have st₃ : St (i + 1) h₃ := Wk.frame _ _ _ st₂ fun b hb o e => by
        refine wr₃.1 b o e (.inr ?_)
        rcases hfp b hb with rfl | ⟨o', e', q, _⟩
        · rw [ho₂] at e; cases e; exact .inr hf₂
        · have := hkp₂ b o' (notI2 b o' e' q) e'
          rw [this] at e; cases e; exact .inl q
      have kst₃ : Kept s.heap h₃ := fun b o e => hkp₃ b o (fun q => by rw [q, hI] at e; cases e) (kp_kept ks b o e)
      have sta₃ : Sta K cenv ⟨scope.names, td d ++ capt scope.names c.vars, none⟩ (D :: Z) h₃ := by
        refine ⟨st.base.keeps kst₃, fun x d' hx => ?_, (fun _ _ q => (nomatch q)), fun z hz => ?_⟩
        · rcases lookup_app hx with hx | ⟨_, hx⟩
          · exact hvars x d' hx
          · obtain ⟨hx1, hx2⟩ := lookup_capt hx
            have hm := mem_of_lookup_kind hx2
            obtain ⟨hncell, v', d'', a, b1, b2, b3, b4⟩ := cap_of fo st hcap hm
            rw [hx1] at b1; cases b1
            refine ⟨v', .inr ⟨?_, a, ?_, b3.keeps kst₃⟩, ?_⟩
            · rcases hfo.kinds x _ hx2 with q | ⟨_, q⟩
              · exact .inr q
              · exact .inl q
            · rw [hcells, hcl3 x hncell, hcl x hm, b2]
            · have hsD : s.heap.get? D = none := by
                cases q : s.heap.get? D with
                | none => rfl
                | some o => rw [kp_kept ks _ _ q] at hD; cases hD
              exact Has.keeps kst₃ (Has.shun (fun z hz => (List.mem_cons.mp hz).elim (fun e => .inr (e ▸ hsD)) .inl) b4)
        · rcases List.mem_cons.mp hz with rfl | hz
          · obtain ⟨o, e, _⟩ := hD₃.cls; rw [e]; rfl
          · exact kst₃.some _ (st.zs z hz)
      refine wpAny_mono (htst d hdm A cenv (D :: Z) _ rm hfo sta₃) (fun ok s₄ ⟨hok, k₄⟩ => ?_) fun _ _ q => q
      subst hok
      obtain ⟨h₄, tk₄, rfl, k₄⟩ := k₄
      have sta₄ : Sta K cenv ⟨scope.names, td d ++ capt scope.names c.vars, none⟩ (D :: Z) h₄ := sta₃.keeps k₄
      have st₄ : St (i + 1) h₄ := Wk.frame _ _ _ st₃ fun b _ o e => k₄ b o e
      have hkp₄ : ∀ b o, b ≠ I → s₂.heap.get? b = some o → h₄.get? b = some o := fun b o hb e => k₄ b o (hkp₃ b o hb e)
      have hD₄ : SetD w h₄ D i := hD₃.at fun o e => k₄ _ _ e
      · simp only [if_true]
        refine wpAny_mono (helt d hdm A cenv (D :: Z) _ rm hfo sta₄) (fun y s₅ ⟨hy, k₅⟩ => ?_) fun _ _ q => q
        obtain ⟨h₅, tk₅, rfl, k₅⟩ := k₅
        have hD₅ : SetD w h₅ D i := hD₄.at fun o e => k₅ _ _ e
        rw [hy.bool_inv]
        refine call_add hD₅ fun h₆ hs₆ hl₆ => ?_
        refine ⟨ds.length + 1 - (i + 1), by omega, h₆, tk₅ + 1, i + 1, rfl, hlt, rfl, ?_, ?_, hl₆, ?_⟩
        · refine Wk.frame _ _ _ (Wk.frame _ _ _ st₄ fun b _ o e => k₅ b o e) fun b hb o e => ?_
          rw [hs₆.2 b ?_]
          · exact e
          · rintro rfl
            rcases hfp b hb with q | ⟨o', e', q, _⟩
            · exact hDI q
            · rw [hD] at e'; cases e'
        · exact ((fr₃.keeps k₄).keeps k₅).but hDW fun b o hb e => by rw [hs₆.2 b hb]; exact e
        · intro b o hb e
          rw [hs₆.2 b ?_]
          · exact k₅ b o (hkp₄ b o hb e)
          · rintro rfl
            rw [hD] at e; cases e
    · -- the end
      have hie : i = ds.length := by omega
      subst hie
      refine Wk.done _ _ _ sti fun h₂ tk₂ hk₂ => ?_
      have hk₂' : ∀ b o, b ≠ I → H.get? b = some o → h₂.get? b = some o := fun b o hb e => hk₂ b o (by simpa using hb) e
      have fr₂ := fri.but hIW hk₂'
      obtain ⟨m', hm'⟩ := fr₂.ns
      exact hR D C h₂ tk₂ m' hD hC hDC (hloc ▸ hm') (hDi.at fun o e => hk₂' _ _ hDI e) fun b o hb e => hk₂' b o hb (hkp b o hb e)
  have := compStart_set (loop _ rfl) (Wk.self 0 _ _ _ (Wk.frame 0 _ _ st0 fun b _ o e => k2 b o e) (loop _ rfl))
  exact this
end
end
noncomputable section
open PySem PySem.W PySem.Calls PySem.Spec PyProof.Rows
set_option autoImplicit false
theorem si_slot_next : Slot "set_iterator" "__next__" "set_iterator.__next__" :=
  .of (owner := "set_iterator") (n := "__next__") (by rw [typeLookup_type, builtinLookup_eq_fast]; kernel_rfl) (by decide +kernel) (by decide +kernel) (by decide +kernel)
    (by first | exact .inl (by decide +kernel) | exact .inr (by decide +kernel)) (by rw [isSubtype_type]; kernel_rfl)
theorem si_entry_next : entryFor table "set_iterator.__next__" = some Builtin.«set_iterator.__next__» := entryFor_of_tree (by kernel_rfl)
theorem si_args_next (a : Value) : argsOk "set_iterator.__next__" ⟨[a], []⟩ := by unfold argsOk; kernel_rfl
theorem set_entry_iter : entryFor table "set.__iter__" = some Builtin.«frozenset.__iter__» :=
  entryFor_alias (id' := "frozenset.__iter__") (by kernel_rfl) (by first | rfl | decide +kernel | (unfold String.splitOn; simp +decide [String.splitOnAux])) (by decide +kernel) (by kernel_rfl)
section
variable {prog : Program} {w : World} {A : Around} {E : Value → Shared → Prop} {s : Shared}
def siObj (slot i : Int) (v : Value) : Obj := { cls := .type "set_iterator", data := .fields #[rawInt slot, rawInt i, v, rawInt 1, rawInt 1] }
theorem set_drawn {D : Addr} {led : Bool} {Q : Bool → Shared → Prop} (ho : s.heap.get? D = some (oObj led)) (h : Q false s) : wpAny (model prog w) A (setDrawn D) Q E s := by
  unfold setDrawn
  refine wpAny_bind (wpAny_setState_of ho (show (oObj led).data = .set #[(0, .bool false)] 1 (tabF led) from rfl) rfl ?_)
  dsimp only
  unfold setsByText
  refine wpAny_bind (wpAny_bind (wpAny_askSetting (wpAny_pure (wpAny_pure ?_))))
  have : ∀ b : Bool, (!b && (false : Bool)) = false := by decide
  exact (this _).symm ▸ h
theorem iter_set {D : Addr} {led : Bool} {Q : Value → Shared → Prop} (ho : s.heap.get? D = some (oObj led)) (h : Q (.ref s.heap.objs.size) { s with heap := s.heap.push (siObj 0 0 (.ref D)) }) : wpAny (model prog w) A (pyIter (.ref D)) Q E s := by
  have hT : s.TypeIs (.ref D) "set" := ⟨_, ho, rfl⟩
  have hd : (oObj led).data = .set #[(0, .bool false)] 1 (tabF led) := rfl
  refine wpAny_pyIter_slot hT F.slot_set_iter (wpAny_call_entry F.slot_set_iter hT set_entry_iter ?_ (F.args_set_iter_1 _))
  unfold Builtin.«frozenset.__iter__»
  refine wpAny_bind (m := Builtin.Frozenset.slot0 "__iter__" ⟨[.ref D], []⟩) (wpAny_pure ?_)
  unfold Builtin.Frozenset.sizeOf
  refine wpAny_bind (wpAny_bind (wpAny_setEntries_of ho hd rfl (wpAny_pure ?_)))
  refine wpAny_bind (set_drawn ho ?_)
  simp only [Bool.false_eq_true, if_false]
  refine wpAny_bind (wpAny_pure ?_)
  refine wpAny_bind (wpAny_setEpoch_of ho hd rfl ?_)
  refine wpAny_bind (wpAny_newObj_type ?_)
  exact wpAny_pure ⟨_, rfl, "set_iterator", _, ⟨_, Heap.get?_push_size _ rfl, rfl⟩, si_slot_next.lookup, h⟩
def jF (w : World) : Nat := if ledOf w then 1 else 0
theorem pick_one (f : Nat → Nat) (x : Int × Value) : pickOrder f #[x] = #[x] := by
  show pickOrder.go f 1 0 [x] #[] = #[x]
  unfold pickOrder.go
  simp only [List.length_singleton, Nat.mod_one, List.getElem?_cons_zero]
  rfl
theorem set_walk {D : Addr} {Q : Array (Int × Value) → Shared → Prop} (hb : (model prog w).w.params.followText "set-order" = true) (ho : s.heap.get? D = some (oObj (ledOf w))) (h : Q #[(0, .bool false)] s) : wpAny (model prog w) A (setWalk D) Q E s := by
  have hd : (oObj (ledOf w)).data = .set #[(0, .bool false)] 1 (tabF (ledOf w)) := rfl
  unfold setWalk
  refine wpAny_bind (wpAny_setState_of ho hd rfl ?_)
  dsimp only
  unfold setsByText
  refine wpAny_bind (wpAny_bind (wpAny_askSetting (wpAny_pure ?_)))
  dsimp only
  rw [hb, if_pos rfl]
  refine wpAny_bind (wpAny_askSetting (wpAny_pure ?_))
  rw [pick_one]; exact h
theorem set_next_go {D : Addr} {slot g : Nat} {Q : Option (Value × Nat) → Shared → Prop} (ho : s.heap.get? D = some (oObj (ledOf w)))
    (h1 : ledOf w = false → Q ((#[((0 : Int), Value.bool false)][g]?).map fun e => (e.2, slot)) s)
    (h2 : ledOf w = true → Q (match #[((0 : Int), Value.bool false)][SetTable.below #[0] slot]?, (#[0] : Array Nat)[SetTable.below #[0] slot]? with | some (_, x), some j => some (x, j + 1) | _, _ => none) s) : wpAny (model prog w) A (setNext D slot g 1) Q E s := by
  have hd : (oObj (ledOf w)).data = .set #[(0, .bool false)] 1 (tabF (ledOf w)) := rfl
  unfold setNext
  refine wpAny_bind (wpAny_setState_of ho hd rfl ?_)
  dsimp only
  unfold setsByText
  refine wpAny_bind (wpAny_bind (wpAny_askSetting (wpAny_pure ?_)))
  dsimp only
  cases hb : (model prog w).w.params.followText "set-order" with
  | true =>
    rw [if_pos rfl, if_neg (by decide)]
    exact wpAny_bind (set_walk hb ho (wpAny_pure (h1 (by unfold ledOf; rw [show w.params.followText "set-order" = true from hb]; rfl))))
  | false =>
    have hl : ledOf w = true := by unfold ledOf; rw [show w.params.followText "set-order" = false from hb]; rfl
    rw [if_neg (by decide), hl]
    exact wpAny_bind (m := (pure () : Sem Unit)) (wpAny_pure (wpAny_pure (h2 hl)))
theorem set_next_first {D : Addr} {Q : Option (Value × Nat) → Shared → Prop} (ho : s.heap.get? D = some (oObj (ledOf w))) (h : Q (some (.bool false, jF w)) s) : wpAny (model prog w) A (setNext D 0 0 1) Q E s := by
  refine set_next_go ho (fun hl => ?_) fun hl => ?_
  · unfold jF at h; rw [hl] at h; exact h
  · unfold jF at h; rw [hl] at h; exact h
theorem set_next_last {D : Addr} {Q : Option (Value × Nat) → Shared → Prop} (ho : s.heap.get? D = some (oObj (ledOf w))) (h : Q none s) : wpAny (model prog w) A (setNext D (jF w) 1 1) Q E s := by
  refine set_next_go ho (fun hl => ?_) fun hl => ?_
  · exact h
  · unfold jF; rw [hl]; exact h
theorem next_set_item {I D : Addr} {Q : Option Value → Shared → Prop} (hI : s.heap.get? I = some (siObj 0 0 (.ref D))) (ho : s.heap.get? D = some (oObj (ledOf w))) (hne : D ≠ I)
    (h : ∀ h', Heap.SameBut I s.heap h' → h'.get? I = some (siObj (jF w) 1 (.ref D)) → Q (some (.bool false)) { s with heap := h' }) : wpAny (model prog w) A (pyNext (.ref I)) Q E s := by
  have hT : s.TypeIs (.ref I) "set_iterator" := ⟨_, hI, rfl⟩
  have hd : (oObj (ledOf w)).data = .set #[(0, .bool false)] 1 (tabF (ledOf w)) := rfl
  unfold pyNext
  refine wpAny_bind (wpAny_attempt (wpAny_callSpecial?_slot (name := Str.ofString "__next__") hT si_slot_next (wpAny_call_entry si_slot_next hT si_entry_next ?_ (si_args_next _))))
  unfold Builtin.«set_iterator.__next__»
  refine wpAny_bind (wpAny_pure ?_)
  refine wpAny_bind (wpAny_fieldsOf hI rfl ?_)
  show wpAny _ _ (setEntries D >>= _) _ _ _
  refine wpAny_bind (wpAny_setEntries_of ho hd rfl ?_)
  rw [if_neg (by decide)]
  show wpAny _ _ (setNext D 0 0 1 >>= _) _ _ _
  refine wpAny_bind (set_next_first ho ?_)
  dsimp only
  refine wpAny_bind (wpAny_setField_rec hI (by simp) fun h₁ h1 hs1 => ?_)
  refine wpAny_bind (wpAny_setField_rec h1 (by simp) fun h₂ h2 hs2 => ?_)
  refine wpAny_pure ⟨_, rfl, wpAny_pure (h h₂ ?_ h2)⟩
  exact Heap.SameBut.trans (show Heap.SameBut I s.heap h₁ from hs1) (show Heap.SameBut I h₁ h₂ from hs2)
theorem next_set_end {I D : Addr} {Q : Option Value → Shared → Prop} (hh : A.handled = none) (hI : s.heap.get? I = some (siObj (jF w) 1 (.ref D))) (ho : s.heap.get? D = some (oObj (ledOf w))) (hne : D ≠ I)
    (h : ∀ h', Heap.ExtBut I s.heap h' → Q none { s with heap := h' }) : wpAny (model prog w) A (pyNext (.ref I)) Q E s := by
  have hT : s.TypeIs (.ref I) "set_iterator" := ⟨_, hI, rfl⟩
  have hd : (oObj (ledOf w)).data = .set #[(0, .bool false)] 1 (tabF (ledOf w)) := rfl
  unfold pyNext
  refine wpAny_bind (wpAny_attempt (wpAny_callSpecial?_slot (name := Str.ofString "__next__") hT si_slot_next (wpAny_call_entry si_slot_next hT si_entry_next ?_ (si_args_next _))))
  unfold Builtin.«set_iterator.__next__»
  refine wpAny_bind (wpAny_pure ?_)
  refine wpAny_bind (wpAny_fieldsOf hI rfl ?_)
  show wpAny _ _ (setEntries D >>= _) _ _ _
  refine wpAny_bind (wpAny_setEntries_of ho hd rfl ?_)
  rw [if_neg (by decide)]
  show wpAny _ _ (setNext D ((jF w : Nat) : Int).toNat 1 1 >>= _) _ _ _
  rw [Int.toNat_natCast]
  refine wpAny_bind (set_next_last ho ?_)
  dsimp only
  refine wpAny_bind (wpAny_setField_rec hI (by simp) fun h₁ h1 hs1 => ?_)
  replace hs1 : Heap.SameBut I s.heap h₁ := hs1
  show wpAny _ _ (newExc (.type "StopIteration") [] >>= _) _ _ _
  refine wpAny_bind ?_
  simp only [newExc, newTuple]
  refine wpAny_bind (wpAny_newObj_type ?_ (by size_fits))
  refine wpAny_bind (m := firstArgMember _ _) (wpAny_of_eq (a := Value.none) (by first | rfl | (simp only [firstArgMember]; rfl)) ?_)
  refine wpAny_newObj_type ?_ (by size_fits)
  simp only [raiseNew]
  refine wpAny_bind (wpAny_handled ?_)
  first | rw [show A.in1.handled = none from hh] | rw [hh]
  refine wpAny_bind (wpAny_pure (wpAny_throw ?_))
  refine wpAny_bind (wpAny_isInstance (T := "StopIteration") (b := true) ⟨_, Heap.get?_push_size _ rfl, rfl⟩ isSubtype_stop ?_)
  exact wpAny_pure (h _ ((hs1.extBut.push _).push _))
/-- unpacking the set that holds False alone -/
theorem unpack_set {D : Addr} {Q : List Value → Shared → Prop} (hh : A.handled = none) (ho : s.heap.get? D = some (oObj (ledOf w)))
    (hQ : ∀ h', Heap.ExtBut s.heap.objs.size s.heap h' → Q [.bool false] { s with heap := h' }) : wpAny (model prog w) A (unpackItems (.ref D) 1 none) Q E s := by
  have hlt : D ≠ s.heap.objs.size := Nat.ne_of_lt (Heap.lt_size ho)
  have hT : s.TypeIs (.ref D) "set" := ⟨_, ho, rfl⟩
  unfold unpackItems
  refine wpAny_bind ?_
  · unfold notIterableAtAll
    refine wpAny_bind (wpAny_specialOf hT F.slot_set_iter.lookup ?_)
    refine wpAny_pure ?_
    simp only [Bool.false_eq_true, if_false]
    refine wpAny_bind (wpAny_holding (iter_set ho ?_))
    refine wpAny_bind (wpAny_holding ?_)
    show wpAny _ _ (pyNext (.ref s.heap.objs.size) >>= _) _ _ _
    refine wpAny_bind (next_set_item (Heap.get?_push_size _ rfl) (Heap.get?_push_of_some _ ho) hlt fun h₁ hs1 hI1 => ?_)
    refine wpAny_bind (wpAny_holding (wpAny_pure (wpAny_pure ?_)))
    rw [if_neg (by decide)]
    replace hs1 : Heap.SameBut s.heap.objs.size (s.heap.push (siObj 0 0 (.ref D))) h₁ := hs1
    have ho1 : h₁.get? D = some (oObj (ledOf w)) := (hs1.2 D hlt).trans (Heap.get?_push_of_some _ ho)
    refine wpAny_bind (wpAny_holding (next_set_end hh hI1 ho1 hlt fun h₂ he₂ => ?_))
    simp only [Option.isSome_none, Bool.false_eq_true, if_false]
    exact wpAny_pure (hQ h₂ fun b o hb e => he₂ b o hb (hs1.extBut b o hb (Heap.get?_push_of_some _ e)))
end
end
noncomputable section
open PySem PySem.W PySem.Calls PySem.Spec PyProof.Rows
set_option autoImplicit false
section
variable {prog : Program} {w : World} {K : Frag} {n : Nat} {c : Cx}

/-- x, = {False for ..} -/
theorem ex_set_false {elt target iter : Expr} {ifs : List Expr} {scope : Scope} {cpos px tpos pos : Pos} {k : Nat} {x : Str} {ds : List PyData} {str : Bool} {td : PyData → List (Str × PyData)}
    (hit : It prog w K n c iter ds str) (hsz : ds.length ≤ sizeLine) (hne : ds ≠ []) (hx : c.names.lookup x = some .local) (hown : ∀ y ds, c.own = some (y, ds) → (y == x) = false)
    (ht : ∀ d ∈ ds, Tgt prog w target scope.names (ownCells scope.names) d (td d))
    (htst : ∀ d ∈ ds, Tst prog w K n ⟨scope.names, td d ++ capt scope.names c.vars, none⟩ ifs true)
    (helt : ∀ d ∈ ds, Ev prog w K n ⟨scope.names, td d ++ capt scope.names c.vars, none⟩ elt (.bool false))
    (hkind : scope.kind = .function := by rfl) (hcap : capOk c scope.names = true := by rfl) (hnames : namesOk scope.names = true := by rfl) :
    Ex1 prog w K n c (.Assign [.Tuple [.Name x px] k tpos] (.SetComp elt [⟨target, iter, ifs, 0⟩] scope cpos) pos) (.next ((x, .bool false) :: c.vars) c.own) := fun A env hb W Zc Zo s rm fo t => by
  obtain ⟨cl, hcl, hcl1, hcl2⟩ := closure_of fo t.sta hcap
  have hev : wpAny (model prog w) A (eval (.SetComp elt [⟨target, iter, ifs, 0⟩] scope cpos) env) (fun v s' => ∃ D, v = .ref D ∧ s'.heap.get? D = some (oObj (ledOf w)) ∧ Keeps s s') noE s := by
    rw [arm_eval_SetComp]
    refine wpAny_comprehension_free (use := none) rfl (hit.1 env) hcl hkind (namesOk_of hnames) (wpAny_mono (hit.2 A env _ s rm fo t.sta) (fun x s₁ h₁ => wpAny_mono h₁ (fun it s₂ h₂ => ?_) fun _ _ q => q) fun _ _ q => q)
    obtain ⟨I, rfl, src, hI, ks⟩ := h₂
    refine set_block (RR := fun acc C => compPost (model prog w) A noE none (fun v s' => ∃ D, v = .ref D ∧ s'.heap.get? D = some (oObj (ledOf w)) ∧ Keeps s s') acc C) rm fo t.sta ks hI src hsz hkind hcap hcl1 (fun x a e => Kept.some (kp_kept ks) _ (hcl2 x a e)) ht htst helt ?_
    intro D C h' tk m' hD hC hDC hn hl hk
    refine ⟨m', hn, fun h'' hs'' => ⟨D, rfl, ?_, ?_⟩⟩
    · show h''.get? D = _
      rw [hs''.2 D hDC]
      unfold SetD at hl
      rw [if_neg (by intro q; exact hne (List.length_eq_zero_iff.mp q))] at hl
      exact hl
    · obtain ⟨h₂, tk₂, rfl, k₂⟩ := ks
      refine ⟨h'', tk, rfl, fun b o e => ?_⟩
      have e2 := k₂ b o e
      have hbI : b ≠ I := fun q => by rw [q, hI] at e; cases e
      have hbC : b ≠ C := fun q => by rw [q] at e2; rw [show h₂.get? C = none from hC] at e2; cases e2
      rw [hs''.2 b hbC]
      exact hk b o hbI e2
  refine Assign_Tuple (wpAny_mono hev (fun v s₁ hv => ?_) fun _ _ q => q) rfl rfl
  obtain ⟨D, rfl, hD, ks⟩ := hv
  obtain ⟨h₁, tk₁, rfl, k₁⟩ := ks
  have t1 := t.keeps k₁
  rw [assign_Tuple]
  unfold unpack
  refine wpAny_bind (wpAny_standAt (wpAny_bind (wpAny_holding ?_)))
  show wpAny _ _ (unpackItems (.ref D) 1 none) _ _ _
  refine unpack_set rm.handled hD fun h₂ hext => ?_
  have k2 : Kept h₁ h₂ := fun b o q => hext b o (Nat.ne_of_lt (Heap.lt_size q)) q
  have t2 := t1.keeps k2
  show wpAny _ _ (do holding [] (assign (.Name x px) env (.bool false)); pure ()) _ _ _
  refine wpAny_bind (wpAny_holding (wpAny_assign_Name (store fo.kind t2.fr (.inl (local_kind fo hx)) fun h₃ tk₃ wr fr' hh ho => wpAny_pure ?_)))
  refine ⟨h₃, tk₃, Zo, rfl, (Kept.step k₁).trans ((Kept.step k2).trans wr.step), ?_⟩
  exact t2.tgt (td := [(x, .bool false)]) wr fr' (fun y d' q => by obtain ⟨rfl, rfl⟩ := lookup_one q; exact ⟨_, hh, .bool⟩) (fun y u q hu => ho y u (lookup_one_none q) hu) (fun y ds q => by
    have := hown y ds q
    rw [List.lookup_cons, this]; rfl)
end
end
noncomputable section
open PySem PySem.W PySem.Calls PySem.Spec PyProof.Rows
set_option autoImplicit false
/-- lists compared item by item, then by their lengths -/
def lexC {α : Type} [DecidableEq α] (cmp : α → α → Bool) (sz : Nat → Nat → Bool) : List α → List α → Bool
  | a :: as, b :: bs => if a = b then lexC cmp sz as bs else cmp a b
  | as, bs => sz as.length bs.length
/-- what the items' values are, told without the heap -/
structure ItemRel (prog : Program) (w : World) (α : Type) [DecidableEq α] (op : CmpOp) where
  is : α → Value → Prop
  cmp : α → α → Bool
  eq : ∀ {A : Around} {E : Value → Shared → Prop} {s : Shared} {a b : α} {u v : Value} {Q : Bool → Shared → Prop}, is a u → is b v → Q (decide (a = b)) s → wpAny (model prog w) A (eqBool u v) Q E s
  lt : ∀ {A : Around} {E : Value → Shared → Prop} {s : Shared} {a b : α} {u v : Value} {Q : Value → Shared → Prop}, is a u → is b v → Q (.bool (cmp a b)) s → wpAny (model prog w) A (richCompare op u v) Q E s
def IsAll {α : Type} (is : α → Value → Prop) : List α → List Value → Prop
  | [], [] => True
  | a :: as, v :: vs => is a v ∧ IsAll is as vs
  | _, _ => False
theorem IsAll.length {α : Type} {is : α → Value → Prop} : ∀ {xs : List α} {vs : List Value}, IsAll is xs vs → xs.length = vs.length
  | [], [], _ => rfl
  | a :: as, v :: vs, h => by rw [List.length_cons, List.length_cons, IsAll.length h.2]
  | [], _ :: _, h => h.elim
  | _ :: _, [], h => h.elim
theorem IsAll.get {α : Type} {is : α → Value → Prop} : ∀ {xs : List α} {vs : List Value} {i : Nat} {x : α}, IsAll is xs vs → xs[i]? = some x → ∃ v, vs[i]? = some v ∧ is x v
  | [], [], _, _, _, e => by simp at e
  | a :: as, v :: vs, 0, x, h, e => by simp at e; subst e; exact ⟨v, rfl, h.1⟩
  | a :: as, v :: vs, i + 1, x, h, e => by simpa using IsAll.get h.2 (by simpa using e)
  | [], _ :: _, _, _, h, _ => h.elim
  | _ :: _, [], _, _, h, _ => h.elim
def szOf : CmpOp → Nat → Nat → Bool
  | .Lt => fun m n => decide (m < n)
  | _ => fun m n => decide (m > n)
theorem lexC_nil {α : Type} [DecidableEq α] {cmp : α → α → Bool} {sz : Nat → Nat → Bool} {xs ys : List α} (h : xs = [] ∨ ys = []) : lexC cmp sz xs ys = sz xs.length ys.length := by
  rcases h with rfl | rfl
  · unfold lexC; rfl
  · cases xs <;> (unfold lexC; rfl)
section
variable {prog : Program} {w : World} {α : Type} [DecidableEq α]

theorem sub_list_list : isSubtype (.type "list") (.type "list") = pure true := by rw [isSubtype_type]; kernel_rfl

theorem cmp_loop_lt {A : Around} {R : Result → Shared → Prop} {s : Shared} {la lb : Addr} {vs us : Array Value} {xs ys : List α} (T : ItemRel prog w α .Lt) (hl : s.heap.IsList la vs) (hl' : s.heap.IsList lb us) (hx : IsAll T.is xs vs.toList) (hy : IsAll T.is ys us.toList) :
    ∀ (k i : Nat), xs.length - i = k → i ≤ xs.length → i ≤ ys.length → R (.ok (.ret (.bool (lexC T.cmp (szOf .Lt) (xs.drop i) (ys.drop i))))) s → codeAny (model prog w) A (.builtin "list.__eq__.loop" ⟨[.ref la, .ref lb, rawInt i, rawInt 0], []⟩) R s := by
  obtain ⟨o, ho, hc, n, hd⟩ := id hl
  obtain ⟨o', ho', hc', n', hd'⟩ := id hl'
  have e1 : vs.size = xs.length := by rw [← Array.length_toList, ← hx.length]
  have e2 : us.size = ys.length := by rw [← Array.length_toList, ← hy.length]
  intro k
  induction k with
  | zero =>
    intro i hk hi hj hR
    have hie : i = xs.length := by omega
    subst hie
    refine codeAny_builtin PySem.MeetsSeq3.entry_eq_loop ?_
    rw [Around.under_plainId PySem.MeetsSeq3.plain_eq_loop _]
    unfold Builtin.«list.__eq__.loop»
    have hn : vs[xs.length]? = none := Array.getElem?_eq_none (by omega)
    have q : lexC T.cmp (szOf .Lt) (xs.drop xs.length) (ys.drop xs.length) = szOf .Lt xs.length ys.length := by
      rw [lexC_nil (.inl (List.drop_length))]
      rw [List.drop_length, List.length_drop]
      simp [szOf]; omega
    rw [q] at hR
    show wpAny _ _ (Builtin.List.listItems (.ref la) >>= _) _ _ _
    refine wpAny_bind (listItems_at ho hd ?_)
    refine wpAny_bind (listItems_at ho' hd' ?_)
    simp only [Int.toNat_natCast, hn]
    refine wpAny_bind (listItems_at ho hd ?_)
    refine wpAny_bind (listItems_at ho' hd' ?_)
    refine wpAny_pure ?_
    rw [← e1, ← e2] at hR
    exact hR
  | succ k ih =>
    intro i hk hi hj hR
    have hlt : i < xs.length := by omega
    obtain ⟨x, hxi⟩ : ∃ x, xs[i]? = some x := ⟨_, List.getElem?_eq_getElem hlt⟩
    obtain ⟨v, hv, hxv⟩ := hx.get hxi
    have hv' : vs[i]? = some v := by rw [← Array.getElem?_toList]; exact hv
    refine codeAny_builtin PySem.MeetsSeq3.entry_eq_loop ?_
    rw [Around.under_plainId PySem.MeetsSeq3.plain_eq_loop _]
    unfold Builtin.«list.__eq__.loop»
    show wpAny _ _ (Builtin.List.listItems (.ref la) >>= _) _ _ _
    refine wpAny_bind (listItems_at ho hd ?_)
    refine wpAny_bind (listItems_at ho' hd' ?_)
    have hdx : xs.drop i = x :: xs.drop (i + 1) := by
      rw [List.drop_eq_getElem_cons hlt]
      rw [List.getElem?_eq_getElem hlt] at hxi
      cases hxi; rfl
    by_cases hjy : i < ys.length
    · obtain ⟨y, hyi⟩ : ∃ y, ys[i]? = some y := ⟨_, List.getElem?_eq_getElem hjy⟩
      obtain ⟨u, hu, hyu⟩ := hy.get hyi
      have hu' : us[i]? = some u := by rw [← Array.getElem?_toList]; exact hu
      have hdy : ys.drop i = y :: ys.drop (i + 1) := by
        rw [List.drop_eq_getElem_cons hjy]
        rw [List.getElem?_eq_getElem hjy] at hyi
        cases hyi; rfl
      rw [hdx, hdy] at hR
      unfold lexC at hR
      simp only [Int.toNat_natCast, hv', hu']
      refine wpAny_bind (T.eq hxv hyu ?_)
      by_cases hxy : x = y
      · rw [if_pos hxy] at hR
        rw [decide_eq_true hxy, if_pos rfl]
        refine wpAny_pure ⟨plainId_quiet PySem.MeetsSeq3.plain_eq_loop _, ?_⟩
        have := ih (i + 1) (by omega) (by omega) (by omega) hR
        rw [show rawInt ((i : Int) + 1) = rawInt ((i + 1 : Nat) : Int) by rw [Int.natCast_add]; rfl]
        exact this
      · rw [if_neg hxy] at hR
        rw [decide_eq_false hxy, if_neg (by decide)]
        refine wpAny_bind (listItems_at ho hd ?_)
        refine wpAny_bind (listItems_at ho' hd' ?_)
        simp only [hv', hu']
        exact wpAny_bind (T.lt hxv hyu (wpAny_pure hR))
    · have hn : us[i]? = none := Array.getElem?_eq_none (by omega)
      have q : lexC T.cmp (szOf .Lt) (xs.drop i) (ys.drop i) = szOf .Lt xs.length ys.length := by
        rw [lexC_nil (.inr (List.drop_eq_nil_of_le (by omega)))]
        rw [List.length_drop, List.length_drop]
        simp [szOf]; omega
      rw [q] at hR
      simp only [Int.toNat_natCast, hv', hn]
      refine wpAny_bind (listItems_at ho hd ?_)
      refine wpAny_bind (listItems_at ho' hd' ?_)
      refine wpAny_pure ?_
      rw [← e1, ← e2] at hR
      exact hR
theorem list_lt {A : Around} {E : Value → Shared → Prop} {Q : Value → Shared → Prop} {s : Shared} {la lb : Addr} {vs us : Array Value} {xs ys : List α} (T : ItemRel prog w α .Lt) (hu : A.units < cLine) (hl : s.heap.IsList la vs) (hl' : s.heap.IsList lb us) (hx : IsAll T.is xs vs.toList) (hy : IsAll T.is ys us.toList)
    (hQ : Q (.bool (lexC T.cmp (szOf .Lt) xs ys)) s) : wpAny (model prog w) A (richCompare .Lt (.ref la) (.ref lb)) Q E s := by
  have hsub := sub_list_list
  refine wpAny_richCompare_same_room hl.typeIs hl'.typeIs PySem.F.slot_list_lt (call_meetsIn (S := fun A R s' => s' = s ∧ R (.ok (.ret (.bool (lexC T.cmp (szOf .Lt) xs ys)))) s') PySem.F.slot_list_lt hl.typeIs PySem.F.entry_list_lt (PySem.F.args_list_lt_2 _ _) ?_ ⟨rfl, (show _ ∧ _ from ⟨(fun q => nomatch q), hQ⟩)⟩) hu
  intro A' R s' hs
  obtain ⟨rfl, hR⟩ := hs
  show wpAny _ _ (isInstance (.ref lb) (.type "list") >>= _) _ _ _
  refine wpAny_bind (wpAny_isInstance (b := true) hl'.typeIs hsub ?_)
  exact wpAny_pure ⟨plainId_quiet PySem.MeetsSeq3.plain_eq_loop _, cmp_loop_lt T hl hl' hx hy _ 0 rfl (Nat.zero_le _) (Nat.zero_le _) (by simpa using hR)⟩

theorem cmp_loop_gt {A : Around} {R : Result → Shared → Prop} {s : Shared} {la lb : Addr} {vs us : Array Value} {xs ys : List α} (T : ItemRel prog w α .Gt) (hl : s.heap.IsList la vs) (hl' : s.heap.IsList lb us) (hx : IsAll T.is xs vs.toList) (hy : IsAll T.is ys us.toList) :
    ∀ (k i : Nat), xs.length - i = k → i ≤ xs.length → i ≤ ys.length → R (.ok (.ret (.bool (lexC T.cmp (szOf .Gt) (xs.drop i) (ys.drop i))))) s → codeAny (model prog w) A (.builtin "list.__eq__.loop" ⟨[.ref la, .ref lb, rawInt i, rawInt 4], []⟩) R s := by
  obtain ⟨o, ho, hc, n, hd⟩ := id hl
  obtain ⟨o', ho', hc', n', hd'⟩ := id hl'
  have e1 : vs.size = xs.length := by rw [← Array.length_toList, ← hx.length]
  have e2 : us.size = ys.length := by rw [← Array.length_toList, ← hy.length]
  intro k
  induction k with
  | zero =>
    intro i hk hi hj hR
    have hie : i = xs.length := by omega
    subst hie
    refine codeAny_builtin PySem.MeetsSeq3.entry_eq_loop ?_
    rw [Around.under_plainId PySem.MeetsSeq3.plain_eq_loop _]
    unfold Builtin.«list.__eq__.loop»
    have hn : vs[xs.length]? = none := Array.getElem?_eq_none (by omega)
    have q : lexC T.cmp (szOf .Gt) (xs.drop xs.length) (ys.drop xs.length) = szOf .Gt xs.length ys.length := by
      rw [lexC_nil (.inl (List.drop_length))]
      rw [List.drop_length, List.length_drop]
      simp [szOf]; omega
    rw [q] at hR
    show wpAny _ _ (Builtin.List.listItems (.ref la) >>= _) _ _ _
    refine wpAny_bind (listItems_at ho hd ?_)
    refine wpAny_bind (listItems_at ho' hd' ?_)
    simp only [Int.toNat_natCast, hn]
    refine wpAny_bind (listItems_at ho hd ?_)
    refine wpAny_bind (listItems_at ho' hd' ?_)
    refine wpAny_pure ?_
    rw [← e1, ← e2] at hR
    exact hR
  | succ k ih =>
    intro i hk hi hj hR
    have hlt : i < xs.length := by omega
    obtain ⟨x, hxi⟩ : ∃ x, xs[i]? = some x := ⟨_, List.getElem?_eq_getElem hlt⟩
    obtain ⟨v, hv, hxv⟩ := hx.get hxi
    have hv' : vs[i]? = some v := by rw [← Array.getElem?_toList]; exact hv
    refine codeAny_builtin PySem.MeetsSeq3.entry_eq_loop ?_
    rw [Around.under_plainId PySem.MeetsSeq3.plain_eq_loop _]
    unfold Builtin.«list.__eq__.loop»
    show wpAny _ _ (Builtin.List.listItems (.ref la) >>= _) _ _ _
    refine wpAny_bind (listItems_at ho hd ?_)
    refine wpAny_bind (listItems_at ho' hd' ?_)
    have hdx : xs.drop i = x :: xs.drop (i + 1) := by
      rw [List.drop_eq_getElem_cons hlt]
      rw [List.getElem?_eq_getElem hlt] at hxi
      cases hxi; rfl
    by_cases hjy : i < ys.length
    · obtain ⟨y, hyi⟩ : ∃ y, ys[i]? = some y := ⟨_, List.getElem?_eq_getElem hjy⟩
      obtain ⟨u, hu, hyu⟩ := hy.get hyi
      have hu' : us[i]? = some u := by rw [← Array.getElem?_toList]; exact hu
      have hdy : ys.drop i = y :: ys.drop (i + 1) := by
        rw [List.drop_eq_getElem_cons hjy]
        rw [List.getElem?_eq_getElem hjy] at hyi
        cases hyi; rfl
      rw [hdx, hdy] at hR
      unfold lexC at hR
      simp only [Int.toNat_natCast, hv', hu']
      refine wpAny_bind (T.eq hxv hyu ?_)
      by_cases hxy : x = y
      · rw [if_pos hxy] at hR
        rw [decide_eq_true hxy, if_pos rfl]
        refine wpAny_pure ⟨plainId_quiet PySem.MeetsSeq3.plain_eq_loop _, ?_⟩
        have := ih (i + 1) (by omega) (by omega) (by omega) hR
        rw [show rawInt ((i : Int) + 1) = rawInt ((i + 1 : Nat) : Int) by rw [Int.natCast_add]; rfl]
        exact this
      · rw [if_neg hxy] at hR
        rw [decide_eq_false hxy, if_neg (by decide)]
        refine wpAny_bind (listItems_at ho hd ?_)
        refine wpAny_bind (listItems_at ho' hd' ?_)
        simp only [hv', hu']
        exact wpAny_bind (T.lt hxv hyu (wpAny_pure hR))
    · have hn : us[i]? = none := Array.getElem?_eq_none (by omega)
      have q : lexC T.cmp (szOf .Gt) (xs.drop i) (ys.drop i) = szOf .Gt xs.length ys.length := by
        rw [lexC_nil (.inr (List.drop_eq_nil_of_le (by omega)))]
        rw [List.length_drop, List.length_drop]
        simp [szOf]; omega
      rw [q] at hR
      simp only [Int.toNat_natCast, hv', hn]
      refine wpAny_bind (listItems_at ho hd ?_)
      refine wpAny_bind (listItems_at ho' hd' ?_)
      refine wpAny_pure ?_
      rw [← e1, ← e2] at hR
      exact hR
theorem list_gt {A : Around} {E : Value → Shared → Prop} {Q : Value → Shared → Prop} {s : Shared} {la lb : Addr} {vs us : Array Value} {xs ys : List α} (T : ItemRel prog w α .Gt) (hu : A.units < cLine) (hl : s.heap.IsList la vs) (hl' : s.heap.IsList lb us) (hx : IsAll T.is xs vs.toList) (hy : IsAll T.is ys us.toList)
    (hQ : Q (.bool (lexC T.cmp (szOf .Gt) xs ys)) s) : wpAny (model prog w) A (richCompare .Gt (.ref la) (.ref lb)) Q E s := by
  have hsub := sub_list_list
  refine wpAny_richCompare_same_room hl.typeIs hl'.typeIs PySem.F.slot_list_gt (call_meetsIn (S := fun A R s' => s' = s ∧ R (.ok (.ret (.bool (lexC T.cmp (szOf .Gt) xs ys)))) s') PySem.F.slot_list_gt hl.typeIs PySem.F.entry_list_gt (PySem.F.args_list_gt_2 _ _) ?_ ⟨rfl, (show _ ∧ _ from ⟨(fun q => nomatch q), hQ⟩)⟩) hu
  intro A' R s' hs
  obtain ⟨rfl, hR⟩ := hs
  show wpAny _ _ (isInstance (.ref lb) (.type "list") >>= _) _ _ _
  refine wpAny_bind (wpAny_isInstance (b := true) hl'.typeIs hsub ?_)
  exact wpAny_pure ⟨plainId_quiet PySem.MeetsSeq3.plain_eq_loop _, cmp_loop_gt T hl hl' hx hy _ 0 rfl (Nat.zero_le _) (Nat.zero_le _) (by simpa using hR)⟩
end
end
noncomputable section
open PySem PySem.W PySem.Calls PySem.Spec PyProof.Rows
set_option autoImplicit false
/-! ### min and max of a list whose items are compared by what the heap holds -/
def boxOf (b : Option Value) (c : Nat) : Obj := { cls := .type "list", dict := none, data := .seq (match b with | none => #[] | some v => #[v, v]) c, slots := #[] }
/-- the box of the best one so far is written anew -/
def boxed (S : Addr) (xs : Array Value) (s : Shared) : Shared := { s with heap := s.heap.update S (Obj.mapSeq fun _ => xs) }
/-- one turn of the loop `id`: what is left to show of it -/
def TurnOf (prog : Program) (w : World) (A : Around) (id : String) (op : CmpOp) : Prop :=
  ∀ (I S : Addr) (R : Result → Shared → Prop) (s : Shared) (b : Option Value) (c : Nat), s.heap.get? S = some (boxOf b c) →
    wpAny (model prog w) A.in1 (pyNext (.ref I)) (fun r s' => s'.heap.get? S = s.heap.get? S ∧ match r, b with
      | none, none => False
      | none, some v => R (.ok (.ret v)) (boxed S #[] s')
      | some x, none => codeAny (model prog w) A (.builtin id ⟨[.ref I, .none, .ref S], []⟩) R (boxed S #[x, x] s')
      | some x, some v => ∃ t : Bool, (∀ Q E, Q (Value.bool t) s' → wpAny (model prog w) A.in1 (richCompare op x v) Q E s') ∧
          codeAny (model prog w) A (.builtin id ⟨[.ref I, .none, .ref S], []⟩) R (if t = true then boxed S #[x, x] s' else s')) (fun _ _ => False) s →
    codeAny (model prog w) A (.builtin id ⟨[.ref I, .none, .ref S], []⟩) R s
section
variable {prog : Program} {w : World} {A : Around}
theorem turn_min : TurnOf prog w A "min.loop" .Lt := fun I S R s b c hS h => by
  have nm : (toString "min" ++ toString ".loop" : String) = "min.loop" := by decide
  have tail : ∀ {P : PySem.Fin → Shared → Prop} {E : Value → Shared → Prop} {s' : Shared}, P (.again (.builtin "min.loop" ⟨[.ref I, .none, .ref S], []⟩)) s' → wpAny (model prog w) A.in1 (again (.builtin (toString "min" ++ toString ".loop") ⟨[.ref I, .none, .ref S], []⟩)) P E s' := fun q => by rw [nm]; exact wpAny_pure q
  refine codeAny_builtin F.entry_min_loop ?_
  rw [Around.under_plainId F.plain_min_loop]
  refine wpAny_bind (m := seqItems? (.ref S)) (wpAny_seqItems hS rfl ?_)
  refine wpAny_bind (m := tryCatch (pyNext (.ref I)) _) (wpAny_tryCatch (wpAny_mono h (fun r s' q => ?_) fun _ _ q => q.elim))
  have hS' := q.1.trans hS
  match r, b, q.2 with
  | none, some v, q => exact wpAny_bind (m := updateSeq S fun _ => #[]) (wpAny_updateSeq hS' rfl (wpAny_bind (wpAny_letGo (wpAny_pure q))))
  | some x, none, q => exact wpAny_bind (m := updateSeq S fun _ => #[x, x]) (wpAny_updateSeq hS' rfl (tail ⟨plainId_quiet F.plain_min_loop _, q⟩))
  | some x, some v, ⟨t, hc, q⟩ =>
    refine wpAny_bind (m := tryCatch _ _) (wpAny_tryCatch (wpAny_holding (wpAny_bind (hc _ _ (wpAny_bind (wpAny_holding (wpAny_truthy_bool (wpAny_bind (wpAny_letGo (wpAny_pure ?_))))))))))
    match t, q with
    | true, q => exact wpAny_bind (m := updateSeq S fun _ => #[x, x]) (wpAny_updateSeq hS' rfl (wpAny_bind (wpAny_letGo (tail ⟨plainId_quiet F.plain_min_loop _, q⟩))))
    | false, q => exact wpAny_bind (m := letGo [x, x]) (wpAny_letGo (tail ⟨plainId_quiet F.plain_min_loop _, q⟩))
theorem turn_max : TurnOf prog w A "max.loop" .Gt := fun I S R s b c hS h => by
  have nm : (toString "max" ++ toString ".loop" : String) = "max.loop" := by decide
  have tail : ∀ {P : PySem.Fin → Shared → Prop} {E : Value → Shared → Prop} {s' : Shared}, P (.again (.builtin "max.loop" ⟨[.ref I, .none, .ref S], []⟩)) s' → wpAny (model prog w) A.in1 (again (.builtin (toString "max" ++ toString ".loop") ⟨[.ref I, .none, .ref S], []⟩)) P E s' := fun q => by rw [nm]; exact wpAny_pure q
  refine codeAny_builtin F.entry_max_loop ?_
  rw [Around.under_plainId F.plain_max_loop]
  refine wpAny_bind (m := seqItems? (.ref S)) (wpAny_seqItems hS rfl ?_)
  refine wpAny_bind (m := tryCatch (pyNext (.ref I)) _) (wpAny_tryCatch (wpAny_mono h (fun r s' q => ?_) fun _ _ q => q.elim))
  have hS' := q.1.trans hS
  match r, b, q.2 with
  | none, some v, q => exact wpAny_bind (m := updateSeq S fun _ => #[]) (wpAny_updateSeq hS' rfl (wpAny_bind (wpAny_letGo (wpAny_pure q))))
  | some x, none, q => exact wpAny_bind (m := updateSeq S fun _ => #[x, x]) (wpAny_updateSeq hS' rfl (tail ⟨plainId_quiet F.plain_max_loop _, q⟩))
  | some x, some v, ⟨t, hc, q⟩ =>
    refine wpAny_bind (m := tryCatch _ _) (wpAny_tryCatch (wpAny_holding (wpAny_bind (hc _ _ (wpAny_bind (wpAny_holding (wpAny_truthy_bool (wpAny_bind (wpAny_letGo (wpAny_pure ?_))))))))))
    match t, q with
    | true, q => exact wpAny_bind (m := updateSeq S fun _ => #[x, x]) (wpAny_updateSeq hS' rfl (wpAny_bind (wpAny_letGo (tail ⟨plainId_quiet F.plain_max_loop _, q⟩))))
    | false, q => exact wpAny_bind (m := letGo [x, x]) (wpAny_letGo (tail ⟨plainId_quiet F.plain_max_loop _, q⟩))
/-- the best of the first j items lies in the box -/
def BestIn (vs : Array Value) (bt : Nat → Nat → Bool) : Nat → Option Value → Prop
  | 0, none => True
  | j + 1, some v => vs[argBest bt j]? = some v
  | _, _ => False
def KeptCmp (prog : Program) (w : World) (A : Around) (op : CmpOp) (h₀ : Heap) (vs : Array Value) (bt : Nat → Nat → Bool) : Prop :=
  ∀ i j vi vj (s : Shared) (Q : Value → Shared → Prop) (E : Value → Shared → Prop), Kept h₀ s.heap → vs[i]? = some vi → vs[j]? = some vj → Q (.bool (bt i j)) s → wpAny (model prog w) A (richCompare op vi vj) Q E s
theorem boxed_kept {h₀ : Heap} {S : Addr} {xs : Array Value} {s : Shared} (k : Kept h₀ s.heap) (h0 : h₀.get? S = none) : Kept h₀ (boxed S xs s).heap := fun b o e =>
  (Heap.get?_update_other _ _ fun q => by rw [q, e] at h0; cases h0).trans (k b o e)
theorem best_run {id : String} {op : CmpOp} (T : TurnOf prog w A id op) (hh : A.handled = none) {l I S : Addr} {vs : Array Value} {bt : Nat → Nat → Bool} {s₀ : Shared} {R : Result → Shared → Prop} (hcmp : KeptCmp prog w A.in1 op s₀.heap vs bt)
    (hl : l ≠ I) (hSl : S ≠ l) (hSI : S ≠ I) (h0I : s₀.heap.get? I = none) (h0S : s₀.heap.get? S = none) (hpos : 0 < vs.size)
    (hR : ∀ v h' tk, vs[argBest bt (vs.size - 1)]? = some v → Kept s₀.heap h' → R (.ok (.ret v)) { s₀ with heap := h', toks := tk }) :
    ∀ (k j : Nat) (b : Option Value) (c : Nat) (h : Heap) (tk : Nat), j + k = vs.size → BestIn vs bt j b → h.get? S = some (boxOf b c) → h.IsListIter I l j ∧ h.IsList l vs → Kept s₀.heap h →
      codeAny (model prog w) A (.builtin id ⟨[.ref I, .none, .ref S], []⟩) R { s₀ with heap := h, toks := tk }
  | 0, j, b, c, h, tk, hj, hb, hS, st, kp => by
    have W := Walks.list (prog := prog) (w := w) (A := A.in1) hh I l hl vs
    obtain rfl : j = vs.size := hj
    refine T I S R _ b c hS (W.done _ _ _ st fun h' tk' keep => ⟨?_, ?_⟩)
    · exact (keep S _ (fun q => hSI (List.mem_singleton.mp q)) hS).trans hS.symm
    · match e : vs.size, b, hb with
      | 0, _, _ => omega
      | n + 1, some v, hb => exact hR v _ tk' (by rw [e]; exact hb) (boxed_kept (s := { s₀ with heap := h', toks := tk' }) (fun b o q => keep b o (fun q' => by rw [List.mem_singleton.mp q', h0I] at q; cases q) (kp b o q)) h0S)
  | k + 1, j, b, c, h, tk, hj, hb, hS, st, kp => by
    have W := Walks.list (prog := prog) (w := w) (A := A.in1) hh I l hl vs
    refine T I S R _ b c hS (W.item j _ _ _ (by omega) st fun x h' tk' hx st' keep => ?_)
    have hS' : h'.get? S = some (boxOf b c) := keep S _ (fun q => hSI (List.mem_singleton.mp q)) hS
    have kp' : Kept s₀.heap h' := fun b o q => keep b o (fun q' => by rw [List.mem_singleton.mp q', h0I] at q; cases q) (kp b o q)
    have again' : ∀ v, BestIn vs bt (j + 1) (some v) → codeAny (model prog w) A (.builtin id ⟨[.ref I, .none, .ref S], []⟩) R (boxed S #[v, v] { s₀ with heap := h', toks := tk' }) := fun v hv =>
      best_run T hh hcmp hl hSl hSI h0I h0S hpos hR k (j + 1) (some v) _ _ tk' (by omega) hv (Heap.get?_update_self _ hS' rfl) (W.frame _ _ _ st' fun b hm o e => (Heap.get?_update_other _ _ fun q => by
        subst q
        rcases List.mem_cons.mp hm with q | q
        · exact hSI q
        · exact hSl (List.mem_singleton.mp q)).trans e) (boxed_kept kp' h0S)
    refine ⟨hS'.trans hS.symm, ?_⟩
    match j, b, hb with
    | 0, none, _ => exact again' x hx
    | j + 1, some v, hb =>
      refine ⟨bt (j + 1) (argBest bt j), fun Q E q => hcmp _ _ _ _ _ Q E kp' hx hb q, ?_⟩
      cases e : bt (j + 1) (argBest bt j) with
      | true => exact again' x (by show vs[argBest bt (j + 1)]? = _; unfold argBest; rw [e]; exact hx)
      | false => exact best_run T hh hcmp hl hSl hSI h0I h0S hpos hR k (j + 1 + 1) (some v) c h' tk' (by omega) (by show vs[argBest bt (j + 1)]? = _; unfold argBest; rw [e]; exact hb) hS' st' kp'
/-- from the list's iterator on -/
theorem best_start {id : String} {op : CmpOp} {E : Value → Shared → Prop} {Q : Value → Shared → Prop} {s : Shared} {l : Addr} {vs : Array Value} {bt : Nat → Nat → Bool} (T : TurnOf prog w A id op) (hh : A.handled = none) (hl : s.heap.IsList l vs) (hn : 0 < vs.size) (hcmp : KeptCmp prog w A.in1 op s.heap vs bt)
    (hQ : ∀ v h' tk, vs[argBest bt (vs.size - 1)]? = some v → Kept s.heap h' → Q v { s with heap := h', toks := tk }) {S : Addr} (hS : S = s.heap.objs.size + 1) :
    codeAny (model prog w) A (.builtin id ⟨[.ref s.heap.objs.size, .none, .ref S], []⟩) (fun r s' => match r with | .ok (.ret v) => Q v s' | .ok _ => False | .error e => E e s')
      { s with heap := (s.heap.push { cls := .type "list_iterator", data := .fields #[.ref l, .int 0 0] }).push { cls := .type "list", dict := none, data := .seq #[] 0, slots := #[] } } := by
  subst hS
  have hll : l < s.heap.objs.size := by obtain ⟨o, ho, _⟩ := hl; exact Heap.lt_size ho
  exact best_run (s₀ := s) T hh hcmp (Nat.ne_of_lt hll) (Nat.ne_of_gt (Nat.lt_succ_of_lt hll)) (Nat.succ_ne_self _) (Heap.get?_none_of_le (Nat.le_refl _)) (Heap.get?_none_of_le (Nat.le_succ _)) hn hQ vs.size 0 none 0 _ s.toks (Nat.zero_add _) trivial
    (by exact (congrArg (Heap.get? _) (Heap.size_push _ _).symm).trans (Heap.get?_push_size _ rfl)) ⟨⟨_, Heap.get?_push_of_some _ (Heap.get?_push_size _ rfl), rfl, rfl⟩, (hl.push _).push _⟩ ((Kept.push _ _).trans (Kept.push _ _))
theorem call_min_list {E : Value → Shared → Prop} {Q : Value → Shared → Prop} {s : Shared} {l : Addr} {vs : Array Value} {bt : Nat → Nat → Bool} (hh : A.handled = none) (hl : s.heap.IsList l vs) (hn : 0 < vs.size) (hcmp : KeptCmp prog w A.in1 .Lt s.heap vs bt)
    (hQ : ∀ v h' tk, vs[argBest bt (vs.size - 1)]? = some v → Kept s.heap h' → Q v { s with heap := h', toks := tk }) : wpAny (model prog w) A (call (.builtin "min") [.ref l]) Q E s := by
  have nm : (toString "min" ++ toString ".loop" : String) = "min.loop" := by decide
  refine call_function_tree F.kind_min F.plain_min F.entry_min (F.args_min1 _) ?_
  refine wpAny_bind (m := Builtin.Builtins.bindParams "min" ["key", "default"] 0 ⟨[], []⟩) (wpAny_of_eq (a := [none, none]) rfl ?_)
  refine wpAny_bind (m := pure (Value.ref l)) (wpAny_pure (wpAny_bind (wpAny_pyIter_list hl (wpAny_bind (m := newList []) (wpAny_newObj_type ?_)))))
  rw [nm]
  exact wpAny_pure ⟨plainId_quiet F.plain_min_loop _, best_start turn_min hh hl hn hcmp hQ (Heap.size_push _ _)⟩
theorem call_max_list {E : Value → Shared → Prop} {Q : Value → Shared → Prop} {s : Shared} {l : Addr} {vs : Array Value} {bt : Nat → Nat → Bool} (hh : A.handled = none) (hl : s.heap.IsList l vs) (hn : 0 < vs.size) (hcmp : KeptCmp prog w A.in1 .Gt s.heap vs bt)
    (hQ : ∀ v h' tk, vs[argBest bt (vs.size - 1)]? = some v → Kept s.heap h' → Q v { s with heap := h', toks := tk }) : wpAny (model prog w) A (call (.builtin "max") [.ref l]) Q E s := by
  have nm : (toString "max" ++ toString ".loop" : String) = "max.loop" := by decide
  refine call_function_tree F.kind_max F.plain_max F.entry_max (F.args_max1 _) ?_
  refine wpAny_bind (m := Builtin.Builtins.bindParams "max" ["key", "default"] 0 ⟨[], []⟩) (wpAny_of_eq (a := [none, none]) rfl ?_)
  refine wpAny_bind (m := pure (Value.ref l)) (wpAny_pure (wpAny_bind (wpAny_pyIter_list hl (wpAny_bind (m := newList []) (wpAny_newObj_type ?_)))))
  rw [nm]
  exact wpAny_pure ⟨plainId_quiet F.plain_max_loop _, best_start turn_max hh hl hn hcmp hQ (Heap.size_push _ _)⟩
end
end
noncomputable section
open PySem PySem.W PySem.Calls PySem.Spec PyProof.Rows
set_option autoImplicit false
def ltS (a b : Str) : Bool := decide (a.cps.toList < b.cps.toList)
def strLt (prog : Program) (w : World) : ItemRel prog w Str .Lt where
  is := fun a v => ∃ t, v = .str a t
  cmp := ltS
  eq := fun ⟨t, e⟩ ⟨u, e'⟩ h => by
    subst e e'; exact wpAny_eqBool_str h
  lt := fun ⟨t, e⟩ ⟨u, e'⟩ h => by
    subst e e'
    exact (show wpAny _ _ (compareOp .Lt _ _) _ _ _ from PyProof.Rows.lt_str h)
def strGt (prog : Program) (w : World) : ItemRel prog w Str .Gt where
  is := fun a v => ∃ t, v = .str a t
  cmp := fun a b => ltS b a
  eq := fun ⟨t, e⟩ ⟨u, e'⟩ h => by
    subst e e'; exact wpAny_eqBool_str h
  lt := fun ⟨t, e⟩ ⟨u, e'⟩ h => by
    subst e e'
    exact (show wpAny _ _ (compareOp .Gt _ _) _ _ _ from PySem.P.gt_str h)
theorem isAll_strs {Z : List Addr} {h : Heap} : ∀ {xs : List Str} {vs : List Value}, HasAll Z h vs (xs.map PyData.str) → IsAll (fun a v => ∃ t, v = Value.str a t) xs vs
  | [], vs, x => by rw [x.nil_inv]; exact trivial
  | y :: xs, vs, x => by
    obtain ⟨v, r, rfl, a, b⟩ := x.cons_inv
    exact ⟨a.str_inv, isAll_strs b⟩
def rowL (r : List Str) : PyData := .list (r.map .str)
def minRow (rows : List (List Str)) : List Str := rows.getD (argBest (fun i j => lexC ltS (szOf .Lt) (rows.getD i []) (rows.getD j [])) (rows.length - 1)) []
def maxRow (rows : List (List Str)) : List Str := rows.getD (argBest (fun i j => lexC (fun a b => ltS b a) (szOf .Gt) (rows.getD i []) (rows.getD j [])) (rows.length - 1)) []
theorem argBest_le (bt : Nat → Nat → Bool) : ∀ k, argBest bt k ≤ k
  | 0 => Nat.le_refl _
  | k + 1 => by
    unfold argBest
    split
    · exact Nat.le_refl _
    · exact Nat.le_succ_of_le (argBest_le bt k)
section
variable {prog : Program} {w : World} {K : Frag} {n : Nat} {c : Cx}
theorem rows_get {Z : List Addr} {h : Heap} {rows : List (List Str)} {vs : Array Value} {i : Nat} {v : Value} (hall : HasAll Z h vs.toList (rows.map rowL)) (hv : vs[i]? = some v) : Has Z h v (rowL (rows.getD i [])) := by
  obtain ⟨d, e, hd⟩ := hall.get' (i := i) (v := v) (by simpa using hv)
  rw [List.getElem?_map] at e
  cases q : rows[i]? with
  | none => rw [q] at e; cases e
  | some r =>
    rw [q] at e; cases e
    rw [List.getD_eq_getElem?_getD, q]; exact hd
theorem ev_min {p pos : Pos} {e : Expr} {rows : List (List Str)} (h : Ev prog w K (n + 1) c e (.list (rows.map rowL))) (hne : rows ≠ []) (hk : c.names.lookup ("min" : Str) = some .globalImplicit) (hg : nsIn K mainGlobals ("min" : Str) = some none)
    (he : ∀ env, starEach [e] env = [(false, eval e env)] := by intro _; rfl) : Ev prog w K (n + 1) c (.Call (.Name ("min" : Str) p) [e] [] pos) (rowL (minRow rows)) := fun A env Z s rm f t => by
  refine wpAny_Call_NameR (name_blt (v := .builtin "min") f t.base hk hg (by decide +kernel) ?_ rfl rfl)
  rw [he env]
  refine callWith_builtin1 (wpAny_mono (h A env Z s rm f t) (fun v s₁ ⟨hv, k⟩ => ?_) fun _ _ q => q)
  obtain ⟨a, vs, rfl, hz, hl, hall⟩ := hv.list_inv
  have e : vs.size = rows.length := by rw [← Array.length_toList, hall.length, List.length_map]
  have hpos : 0 < rows.length := List.length_pos_iff.mpr hne
  refine call_min_list (bt := fun i j => lexC ltS (szOf .Lt) (rows.getD i []) (rows.getD j [])) rm.handled hl (by omega) ?_ fun v h' tk hv hk => ?_
  · intro i j vi vj s' Q E hOk hi hj hQ
    obtain ⟨la, va, rfl, _, hla, ha⟩ := (Has.keeps hOk (rows_get hall hi)).list_inv
    obtain ⟨lb, vb, rfl, _, hlb, hb⟩ := (Has.keeps hOk (rows_get hall hj)).list_inv
    exact list_lt (strLt prog w) (by have := rm.in1.units; omega) hla hlb (isAll_strs ha) (isAll_strs hb) hQ
  · rw [e] at hv
    exact ⟨Has.keeps (show Kept s₁.heap h' from hk) (rows_get hall hv), kp_trans k ⟨h', tk, rfl, hk⟩⟩
theorem ev_max {p pos : Pos} {e : Expr} {rows : List (List Str)} (h : Ev prog w K (n + 1) c e (.list (rows.map rowL))) (hne : rows ≠ []) (hk : c.names.lookup ("max" : Str) = some .globalImplicit) (hg : nsIn K mainGlobals ("max" : Str) = some none)
    (he : ∀ env, starEach [e] env = [(false, eval e env)] := by intro _; rfl) : Ev prog w K (n + 1) c (.Call (.Name ("max" : Str) p) [e] [] pos) (rowL (maxRow rows)) := fun A env Z s rm f t => by
  refine wpAny_Call_NameR (name_blt (v := .builtin "max") f t.base hk hg (by decide +kernel) ?_ rfl rfl)
  rw [he env]
  refine callWith_builtin1 (wpAny_mono (h A env Z s rm f t) (fun v s₁ ⟨hv, k⟩ => ?_) fun _ _ q => q)
  obtain ⟨a, vs, rfl, hz, hl, hall⟩ := hv.list_inv
  have e : vs.size = rows.length := by rw [← Array.length_toList, hall.length, List.length_map]
  have hpos : 0 < rows.length := List.length_pos_iff.mpr hne
  refine call_max_list (bt := fun i j => lexC (fun a b => ltS b a) (szOf .Gt) (rows.getD i []) (rows.getD j [])) rm.handled hl (by omega) ?_ fun v h' tk hv hk => ?_
  · intro i j vi vj s' Q E hOk hi hj hQ
    obtain ⟨la, va, rfl, _, hla, ha⟩ := (Has.keeps hOk (rows_get hall hi)).list_inv
    obtain ⟨lb, vb, rfl, _, hlb, hb⟩ := (Has.keeps hOk (rows_get hall hj)).list_inv
    exact list_gt (strGt prog w) (by have := rm.in1.units; omega) hla hlb (isAll_strs ha) (isAll_strs hb) hQ
  · rw [e] at hv
    exact ⟨Has.keeps (show Kept s₁.heap h' from hk) (rows_get hall hv), kp_trans k ⟨h', tk, rfl, hk⟩⟩
end
end
noncomputable section
open PySem PySem.W PySem.Calls PySem.Spec PyProof.Rows
set_option autoImplicit false
section
variable {prog : Program} {w : World} {K : Frag} {n : Nat} {c : Cx}
theorem sep0 (t u : Tok) : sliceMade "/" t none (some (0, u)) none = .str "" := by
  have e : slicePicked "/" none (some (0, u)) none = [] := by
    show Builtin.Str.strSliceIndices none (some 0) 1 1 = []
    decide +kernel
  unfold sliceMade
  rw [e]
  rfl
theorem ev_sep0 {value : Expr} {p pos cp : Pos} {k : Nat} (hv : Ev prog w K n c value (.str "/")) (ht : ∀ o r, letTemporaryGo value o r = pure () := by intro _ _; rfl) : Ev prog w K n c (.Subscript value (.Slice none (some (.Constant (.int 0) k cp)) none p) pos) (.str "") := fun A env Z s rm f t => by
  refine wpAny_Subscript_str_slice (wpAny_mono (hv A env Z s rm f t) (fun v s₁ ⟨hv, k₁⟩ => ?_) fun _ _ q => q) ht
  rw [evalPart_none]
  refine wpAny_pure ?_
  rw [evalPart_some]
  refine wpAny_Constant_int ?_
  obtain ⟨t', rfl⟩ := hv.str_inv
  refine ⟨"/", t', none, some (0, s₁.toks), rfl, rfl, rfl, ?_⟩
  rw [sep0]
  refine ⟨by decide, ?_⟩
  exact ⟨.str, kp_trans k₁ (kp_trans (kp_tok s₁ (s₁.toks + 1)) (kp_trans (kp_push _ _) (kp_tok _ _)))⟩

theorem ex1_eq {st : Stmt} {o o' : Out} (h : Ex1 prog w K n c st o) (e : o = o') : Ex1 prog w K n c st o' := e ▸ h
/-- a list comprehension without a test -/
theorem ev_compM {α : Type} {elt target iter : Expr} {scope : Scope} {pos : Pos} {D : α → PyData} {l : List α} {str : Bool} {f : α → PyData} {td : α → List (Str × PyData)} (hD : ∀ a b, D a = D b → a = b)
    (hit : It prog w K n c iter (l.map D) str) (hsz : l.length ≤ sizeLine) (ht : ∀ a ∈ l, Tgt prog w target scope.names (ownCells scope.names) (D a) (td a))
    (helt : ∀ a ∈ l, Ev prog w K n ⟨scope.names, td a ++ capt scope.names c.vars, none⟩ elt (f a))
    (hkind : scope.kind = .function := by rfl) (hcap : capOk c scope.names = true := by rfl) (hnames : namesOk scope.names = true := by rfl) :
    Ev prog w K n c (.ListComp elt [⟨target, iter, [], 0⟩] scope pos) (.list (l.map f)) :=
  ev_eq (ev_compL (p := fun _ => true) hD hit hsz ht (fun _ _ => tst_nil) (fun a ha _ => helt a ha) hkind hcap hnames) (by rw [filter_true])
theorem ex_compM {α : Type} {elt target iter : Expr} {scope : Scope} {cpos px pos : Pos} {x : Str} {D : α → PyData} {l : List α} {str : Bool} {f : α → PyData} {td : α → List (Str × PyData)} (hD : ∀ a b, D a = D b → a = b)
    (hit : It prog w K n c iter (l.map D) str) (hsz : l.length ≤ sizeLine) (hx : c.names.lookup x = some .local) (hown : ∀ y ds, c.own = some (y, ds) → (y == x) = false)
    (hl : (px.line == cpos.line && !(scope.names.any fun (n, k) => n == x && (k == .local || k == .cell))) = true)
    (ht : ∀ a ∈ l, Tgt prog w target scope.names (ownCells scope.names) (D a) (td a))
    (helt : ∀ a ∈ l, Ev prog w K n ⟨scope.names, td a ++ capt scope.names c.vars, none⟩ elt (f a))
    (hkind : scope.kind = .function := by rfl) (hcap : capOk c scope.names = true := by rfl) (hnames : namesOk scope.names = true := by rfl) :
    Ex1 prog w K n c (.Assign [.Name x px] (.ListComp elt [⟨target, iter, [], 0⟩] scope cpos) pos) (.next ((x, .list (l.map f)) :: c.vars) c.own) :=
  ex1_eq (ex_compL (p := fun _ => true) hD hit hsz hx hown hl ht (fun _ _ => tst_nil) (fun a ha _ => helt a ha) hkind hcap hnames) (by rw [filter_true])
theorem map_inj_of {α β : Type} {f : α → β} (hf : ∀ a b, f a = f b → a = b) : ∀ l m : List α, l.map f = m.map f → l = m
  | [], [], _ => rfl
  | [], _ :: _, q => nomatch q
  | _ :: _, [], q => nomatch q
  | a :: l, b :: m, q => by
    rw [List.map_cons, List.map_cons] at q
    injection q with q1 q2
    rw [hf a b q1, map_inj_of hf l m q2]
theorem rowL_inj : ∀ a b : List Str, rowL a = rowL b → a = b := fun a b q => by
  unfold rowL at q
  injection q with q
  exact map_inj_of str_inj a b q
theorem ex_pre {names : List (Str × NameKind)} {v v' : Vars} {ow : Ow} {ss : List Stmt} {o : Out} (h : Ex prog w K n ⟨names, v', ow⟩ ss o) (s : Sub v' v) : Ex prog w K n ⟨names, v, ow⟩ ss o := fun A env hb W Zc Zo s' rm fo t =>
  h A env hb W Zc Zo s' rm fo (StaS.sub t s)
/-- a for whose state stays as it is till it leaves -/
theorem loop_till {names : List (Str × NameKind)} {target : Expr} {body orelse : List Stmt} {v : Vars} {ow : Ow} {o : Out} (items : List PyData) (I : Nat → Prop) (h0 : I 0)
    (step : ∀ (k : Nat) (d : PyData), items[k]? = some d → I k → ∃ td, Tgt prog w target names (ownCells names) d td ∧ (∀ x l, ow = some (x, l) → td.lookup x = none) ∧ ((I (k + 1) ∧ Ex prog w K n ⟨names, td ++ v, ow⟩ body (.next v ow)) ∨ ∃ v' ow', o = .next v' ow' ∧ Ex prog w K n ⟨names, td ++ v, ow⟩ body (.brk v' ow')))
    (hend : I items.length → Ex prog w K n ⟨names, v, ow⟩ orelse o) : LoopO prog w K n names target body orelse items v ow o := by
  have go : ∀ (m k : Nat), k + m = items.length → I k → LoopO prog w K n names target body orelse (items.drop k) v ow o := by
    intro m
    induction m with
    | zero =>
      intro k hk hI
      have e : k = items.length := by omega
      subst e
      rw [List.drop_length]; exact .nil (hend hI)
    | succ m ih =>
      intro k hk hI
      have hlt : k < items.length := by omega
      rw [List.drop_eq_getElem_cons hlt]
      obtain ⟨td, h1, h2, h3⟩ := step k _ (List.getElem?_eq_getElem hlt) hI
      rcases h3 with ⟨h3, h4⟩ | ⟨v', ow', rfl, h4⟩
      · exact .next h1 h2 h4 (ih (k + 1) (by omega) h3)
      · exact .brk h1 h2 h4
  have := go items.length 0 (by omega) h0
  simpa using this
theorem enums_str {l : List Str} {i : Nat} {d : PyData} (h : (enums (l.map .str))[i]? = some d) : ∃ x, l[i]? = some x ∧ d = .tuple [.int i, .str x] := by
  unfold enums at h
  rw [List.getElem?_mapIdx, List.getElem?_map] at h
  cases hl : l[i]? with
  | none => rw [hl] at h; cases h
  | some x => rw [hl] at h; cases h; exact ⟨x, rfl, rfl⟩
theorem loop_till_enum {names : List (Str × NameKind)} {target : Expr} {body orelse : List Stmt} {v : Vars} {ow : Ow} {o : Out} (l : List Str) (I : Nat → Prop) (h0 : I 0)
    (step : ∀ (k : Nat) (x : Str), l[k]? = some x → I k → ∃ td, Tgt prog w target names (ownCells names) (.tuple [.int k, .str x]) td ∧ (∀ x l, ow = some (x, l) → td.lookup x = none) ∧ ((I (k + 1) ∧ Ex prog w K n ⟨names, td ++ v, ow⟩ body (.next v ow)) ∨ ∃ v' ow', o = .next v' ow' ∧ Ex prog w K n ⟨names, td ++ v, ow⟩ body (.brk v' ow')))
    (hend : I l.length → Ex prog w K n ⟨names, v, ow⟩ orelse o) : LoopO prog w K n names target body orelse (enums (l.map .str)) v ow o :=
  loop_till _ I h0 (fun k d hd hI => by
    obtain ⟨x, hx, rfl⟩ := enums_str hd
    exact step k x hx hI) fun h => hend (by simpa [enums] using h)
end
end
noncomputable section
open PySem PySem.W PySem.Calls PySem.Spec PyProof.Rows
set_option autoImplicit false
/-! ### the rules for statements, with the state written out (so that it does not grow) -/
section
variable {prog : Program} {w : World} {K : Frag} {n : Nat} {names : List (Str × NameKind)} {vars : Vars} {own : Ow}
theorem sx_cons {st : Stmt} {rest : List Stmt} {v : Vars} {ow : Ow} {o : Out} (h1 : Ex1 prog w K n ⟨names, vars, own⟩ st (.next v ow)) (h2 : Ex prog w K n ⟨names, v, ow⟩ rest o) : Ex prog w K n ⟨names, vars, own⟩ (st :: rest) o := ex_cons h1 h2
theorem sx_assign {x : Str} {px pos : Pos} {e : Expr} {d : PyData} (he : Ev prog w K n ⟨names, vars, own⟩ e d) (hx : Sto names (ownCells names) x) (hown : ∀ y ds, own = some (y, ds) → (y == x) = false)
    (hs : ∀ env, FrameOk env names → swapsWith e (some (.Name x px)) pos.line env = pure false := by intro _ _; rfl) : Ex1 prog w K n ⟨names, vars, own⟩ (.Assign [.Name x px] e pos) (.next ((x, d) :: vars) own) := ex_assign he hx hown hs
theorem sx_compM {α : Type} {elt target iter : Expr} {scope : Scope} {cpos px pos : Pos} {x : Str} {D : α → PyData} {l : List α} {str : Bool} {f : α → PyData} {td : α → List (Str × PyData)} (hD : ∀ a b, D a = D b → a = b)
    (hit : It prog w K n ⟨names, vars, own⟩ iter (l.map D) str) (hsz : l.length ≤ sizeLine) (hx : names.lookup x = some .local) (hown : ∀ y ds, own = some (y, ds) → (y == x) = false)
    (hl : (px.line == cpos.line && !(scope.names.any fun (n, k) => n == x && (k == .local || k == .cell))) = true)
    (ht : ∀ a ∈ l, Tgt prog w target scope.names (ownCells scope.names) (D a) (td a))
    (helt : ∀ a ∈ l, Ev prog w K n ⟨scope.names, td a ++ capt scope.names vars, none⟩ elt (f a))
    (hkind : scope.kind = .function := by rfl) (hcap : capOk ⟨names, vars, own⟩ scope.names = true := by rfl) (hnames : namesOk scope.names = true := by rfl) :
    Ex1 prog w K n ⟨names, vars, own⟩ (.Assign [.Name x px] (.ListComp elt [⟨target, iter, [], 0⟩] scope cpos) pos) (.next ((x, .list (l.map f)) :: vars) own) :=
  ex_compM hD hit hsz hx hown hl ht helt hkind hcap hnames
theorem sx_compL {α : Type} {elt target iter : Expr} {ifs : List Expr} {scope : Scope} {cpos px pos : Pos} {x : Str} {D : α → PyData} {l : List α} {str : Bool} {p : α → Bool} {f : α → PyData} {td : α → List (Str × PyData)} (hD : ∀ a b, D a = D b → a = b)
    (hit : It prog w K n ⟨names, vars, own⟩ iter (l.map D) str) (hsz : l.length ≤ sizeLine) (hx : names.lookup x = some .local) (hown : ∀ y ds, own = some (y, ds) → (y == x) = false)
    (hl : (px.line == cpos.line && !(scope.names.any fun (n, k) => n == x && (k == .local || k == .cell))) = true)
    (ht : ∀ a ∈ l, Tgt prog w target scope.names (ownCells scope.names) (D a) (td a))
    (htst : ∀ a ∈ l, Tst prog w K n ⟨scope.names, td a ++ capt scope.names vars, none⟩ ifs (p a))
    (helt : ∀ a ∈ l, p a = true → Ev prog w K n ⟨scope.names, td a ++ capt scope.names vars, none⟩ elt (f a))
    (hkind : scope.kind = .function := by rfl) (hcap : capOk ⟨names, vars, own⟩ scope.names = true := by rfl) (hnames : namesOk scope.names = true := by rfl) :
    Ex1 prog w K n ⟨names, vars, own⟩ (.Assign [.Name x px] (.ListComp elt [⟨target, iter, ifs, 0⟩] scope cpos) pos) (.next ((x, .list ((l.filter p).map f)) :: vars) own) :=
  ex_compL hD hit hsz hx hown hl ht htst helt hkind hcap hnames
theorem sx_set_false {elt target iter : Expr} {ifs : List Expr} {scope : Scope} {cpos px tpos pos : Pos} {k : Nat} {x : Str} {ds : List PyData} {str : Bool} {td : PyData → List (Str × PyData)}
    (hit : It prog w K n ⟨names, vars, own⟩ iter ds str) (hsz : ds.length ≤ sizeLine) (hne : ds ≠ []) (hx : names.lookup x = some .local) (hown : ∀ y ds, own = some (y, ds) → (y == x) = false)
    (ht : ∀ d ∈ ds, Tgt prog w target scope.names (ownCells scope.names) d (td d))
    (htst : ∀ d ∈ ds, Tst prog w K n ⟨scope.names, td d ++ capt scope.names vars, none⟩ ifs true)
    (helt : ∀ d ∈ ds, Ev prog w K n ⟨scope.names, td d ++ capt scope.names vars, none⟩ elt (.bool false))
    (hkind : scope.kind = .function := by rfl) (hcap : capOk ⟨names, vars, own⟩ scope.names = true := by rfl) (hnames : namesOk scope.names = true := by rfl) :
    Ex1 prog w K n ⟨names, vars, own⟩ (.Assign [.Tuple [.Name x px] k tpos] (.SetComp elt [⟨target, iter, ifs, 0⟩] scope cpos) pos) (.next ((x, .bool false) :: vars) own) :=
  ex_set_false hit hsz hne hx hown ht htst helt hkind hcap hnames
theorem sx_assign_own {x : Str} {px pos lpos : Pos} {es : List Expr} {ds : List PyData} (he : EvAll prog w K n ⟨names, vars, none⟩ es ds) (hx : Sto names (ownCells names) x) (hv : vars.lookup x = none) (hsz : ds.length ≤ sizeLine)
    (hs : ∀ env, FrameOk env names → swapsWith (.List es lpos) (some (.Name x px)) pos.line env = pure false := by intro _ _; rfl) : Ex1 prog w K n ⟨names, vars, none⟩ (.Assign [.Name x px] (.List es lpos) pos) (.next vars (some (x, ds))) := ex_assign_own he hx rfl hv hsz hs
theorem sx_append {x : Str} {px apos cpos pos : Pos} {e : Expr} {d : PyData} {ds : List PyData} (he : Ev prog w K n ⟨names, vars, some (x, ds)⟩ e d) (hsz : ds.length ≤ sizeLine)
    (hbase : ∀ env, attributeBase (.Name x px) ("append" : Str) env (eval (.Name x px) env) = eval (.Name x px) env := by intro _; rfl) (hline : (apos.endLine == cpos.line) = true := by rfl) (hst : ∀ env, starEach [e] env = [(false, eval e env)] := by intro _; rfl)
    (hd : (x == ("__debug__" : Str)) = false := by rfl) (hn : (x == ("__classdict__" : Str)) = false := by rfl) :
    Ex1 prog w K n ⟨names, vars, some (x, ds)⟩ (.Expr (.Call (.Attribute (.Name x px) ("append" : Str) apos) [e] [] cpos) pos) (.next vars (some (x, ds ++ [d]))) := ex_append he rfl hsz hbase hline hst hd hn
end
end
noncomputable section
open PySem PySem.W PySem.Calls PySem.Spec PyProof.Rows
set_option autoImplicit false
section
variable {prog : Program} {w : World} {K : Frag} {n : Nat} {c : Cx}
theorem ev_neg {x : Expr} {pos : Pos} {i : Int} (h : Ev prog w K n c x (.int i)) : Ev prog w K n c (.UnaryOp .USub x pos) (.int (-i)) := fun A env Z s rm f t =>
  wpAny_UnaryOp (wpAny_mono (h A env Z s rm f t) (fun v s₁ ⟨hv, k⟩ => by
    obtain ⟨u, rfl⟩ := hv.int_inv
    exact PyProof.Rows.neg_int ⟨.int, kp_trans k (kp_tok _ _)⟩) fun _ _ q => q)
theorem sx_while {names : List (Str × NameKind)} {vars : Vars} {own : Ow} {test : Expr} {body : List Stmt} {pos : Pos} {k : Nat} {v : Vars} {ow : Ow} (h : WhileO prog w K n names test body k vars own v ow) : Ex1 prog w K n ⟨names, vars, own⟩ (.While test body [] pos) (.next v ow) := ex_while h
theorem sx_for {names : List (Str × NameKind)} {vars : Vars} {own : Ow} {target iter : Expr} {body orelse : List Stmt} {pos : Pos} {es : List PyData} {o : Out} (hit : ItF prog w K n ⟨names, vars, own⟩ target iter es) (h : LoopO prog w K n names target body orelse es vars own o) : Ex1 prog w K n ⟨names, vars, own⟩ (.For target iter body orelse pos) o := ex_for hit h
/-- whether a list is empty, asked by == [] -/
theorem cmp_eq_nil {α : Type} [DecidableEq α] {D : α → PyData} {l : List α} (he : ∀ a b, PyData.eqv (D a) (D b) = decide (a = b)) (ho : ∀ a ∈ l, OkD 40 (D a)) : CmpSpec prog w n .Eq (.list (l.map D)) (.list []) l.isEmpty := by
  have e : PyData.eqv (.list (l.map D)) (.list []) = l.isEmpty := by
    rw [show (PyData.list []) = .list (([] : List α).map D) from rfl, eqv_list he]
    cases l <;> simp
  rw [← e]
  refine cmp_eq_data (OkD.shaped (okD_list (k := 40) fun x hx => ?_)) (OkD.shaped (okD_list (k := 0) fun x hx => nomatch hx))
  obtain ⟨a, ha, rfl⟩ := List.mem_map.mp hx; exact ho a ha
theorem cmp_ne_nil {α : Type} [DecidableEq α] {D : α → PyData} {l : List α} (he : ∀ a b, PyData.eqv (D a) (D b) = decide (a = b)) (ho : ∀ a ∈ l, OkD 40 (D a)) : CmpSpec prog w n .NotEq (.list (l.map D)) (.list []) (!l.isEmpty) := by
  have e : PyData.eqv (.list (l.map D)) (.list []) = l.isEmpty := by
    rw [show (PyData.list []) = .list (([] : List α).map D) from rfl, eqv_list he]
    cases l <;> simp
  rw [← e]
  refine cmp_ne_data (OkD.shaped (okD_list (k := 40) fun x hx => ?_)) (OkD.shaped (okD_list (k := 0) fun x hx => nomatch hx))
  obtain ⟨a, ha, rfl⟩ := List.mem_map.mp hx; exact ho a ha
/-- two rows of texts -/
theorem cmp_ne_rows {a b : List Str} (ha : ∀ x ∈ a, PyData.strOk x = true) (hb : ∀ x ∈ b, PyData.strOk x = true) : CmpSpec prog w n .NotEq (rowL a) (rowL b) (!decide (a = b)) := by
  rw [← eqv_list eqv_str]
  refine cmp_ne_data (OkD.shaped (okD_list (k := 0) fun x hx => ?_)) (OkD.shaped (okD_list (k := 0) fun x hx => ?_))
  · obtain ⟨a, ha', rfl⟩ := List.mem_map.mp hx; exact okD_str (ha a ha')
  · obtain ⟨a, ha', rfl⟩ := List.mem_map.mp hx; exact okD_str (hb a ha')
theorem cmp_eq_rows {a b : List Str} (ha : ∀ x ∈ a, PyData.strOk x = true) (hb : ∀ x ∈ b, PyData.strOk x = true) : CmpSpec prog w n .Eq (rowL a) (rowL b) (decide (a = b)) := by
  rw [← eqv_list eqv_str]
  refine cmp_eq_data (OkD.shaped (okD_list (k := 0) fun x hx => ?_)) (OkD.shaped (okD_list (k := 0) fun x hx => ?_))
  · obtain ⟨a, ha', rfl⟩ := List.mem_map.mp hx; exact okD_str (ha a ha')
  · obtain ⟨a, ha', rfl⟩ := List.mem_map.mp hx; exact okD_str (hb a ha')
theorem eqv_row (a b : List Str) : PyData.eqv (rowL a) (rowL b) = decide (a = b) := eqv_list eqv_str a b
theorem okD_row {a : List Str} (ha : ∀ x ∈ a, PyData.strOk x = true) : OkD 1 (rowL a) := okD_list (k := 0) fun x hx => by
  obtain ⟨y, hy, rfl⟩ := List.mem_map.mp hx; exact okD_str (ha y hy)
def natD (k : Nat) : PyData := .int (k : Int)
theorem natD_inj : ∀ a b : Nat, natD a = natD b → a = b := fun a b q => by unfold natD at q; injection q with q; omega
theorem eqv_nat (a b : Nat) : PyData.eqv (natD a) (natD b) = decide (a = b) := by unfold natD; rw [eqv_int]; exact decide_eq_decide.mpr (by omega)
theorem okD_nat {a : Nat} : OkD 0 (natD a) := okD_int
theorem upto_nat (m : Nat) : upto 0 m = (List.range m).map natD := by
  unfold upto natD
  exact List.map_congr_left fun i _ => by rw [Int.zero_add]
theorem upto_from (a m : Nat) : upto (a : Int) m = ((List.range m).map (a + ·)).map natD := by
  unfold upto natD
  rw [List.map_map]
  exact List.map_congr_left fun i _ => by show PyData.int _ = PyData.int _; rw [Int.natCast_add]
/-- the first number, counting down, at which to stop -/
def downTo (stop : Nat → Bool) : Nat → Nat
  | 0 => 0
  | k + 1 => if stop (k + 1) then k + 1 else downTo stop k
theorem while_down {names : List (Str × NameKind)} {test : Expr} {body : List Stmt} {ow : Ow} (V : Nat → Vars) (stop : Nat → Bool) (N : Nat) (h0 : stop 0 = true) (ht : ∀ k, k ≤ N → Tr prog w K n ⟨names, V k, ow⟩ test (!stop k))
    (hb : ∀ k, k + 1 ≤ N → Ex prog w K n ⟨names, V (k + 1), ow⟩ body (.next (V k) ow)) : ∀ k, k ≤ N → WhileO prog w K n names test body k (V k) ow (V (downTo stop k)) ow
  | 0, h => .stop (tr_eq (ht 0 h) (by rw [h0]; rfl))
  | k + 1, h => by
    unfold downTo
    cases hs : stop (k + 1) with
    | true => exact .stop (tr_eq (ht _ h) (by rw [hs]; rfl))
    | false => exact .step (tr_eq (ht _ h) (by rw [hs]; rfl)) (hb k h) (while_down V stop N h0 ht hb k (Nat.le_of_succ_le h))
end
end
noncomputable section
open PySem PySem.W PySem.Calls PySem.Spec PyProof.Rows
set_option autoImplicit false
/-! ### the sort, run on a told order -/
def kasRun {α : Type} (lt : Nat → Nat → Bool) : KasT α → α
  | .ret a => a
  | .ask i j k => kasRun lt (k (lt i j))
theorem kasRun_bind {α β : Type} {lt : Nat → Nat → Bool} {f : α → KasT β} : ∀ t : KasT α, kasRun lt (t.bind f) = kasRun lt (f (kasRun lt t))
  | .ret _ => rfl
  | .ask i j k => kasRun_bind (k (lt i j))
def at' (p : Array Nat) (i : Nat) : Nat := p.getD i 0
theorem at_congr {p q : Array Nat} {i j : Nat} (h : p[i]? = q[j]?) : at' p i = at' q j := by
  unfold at'
  rw [Array.getD_eq_getD_getElem?, Array.getD_eq_getD_getElem?, h]
section
variable {lt : Nat → Nat → Bool} {N : Nat}
/-- the order of the items, all of them apart -/
structure Tot (lt : Nat → Nat → Bool) (N : Nat) : Prop where
  tri : ∀ i j, i < N → j < N → i ≠ j → lt i j = true ∨ lt j i = true
  asym : ∀ i j, lt i j = true → lt j i = false
  trans : ∀ i j k, lt i j = true → lt j k = true → lt i k = true
structure Pm (p : Array Nat) (N : Nat) : Prop where
  perm : p.toList.Perm (List.range N)
theorem Pm.size {p : Array Nat} (h : Pm p N) : p.size = N := by
  have := h.perm.length_eq
  simpa using this
theorem Pm.bound {p : Array Nat} (h : Pm p N) {i : Nat} (hi : i < N) : at' p i < N := by
  have hs := h.size
  have : at' p i ∈ p.toList := by
    unfold at'
    rw [Array.getD_eq_getD_getElem?, Array.getElem?_eq_getElem (by omega)]
    simp
  exact List.mem_range.mp (h.perm.mem_iff.mp this)
theorem Pm.ne {p : Array Nat} (h : Pm p N) {i j : Nat} (hi : i < N) (hj : j < N) (hij : i ≠ j) : at' p i ≠ at' p j := by
  have hs := h.size
  have hnd : p.toList.Nodup := h.perm.nodup_iff.mpr List.nodup_range
  intro q
  unfold at' at q
  rw [Array.getD_eq_getD_getElem?, Array.getD_eq_getD_getElem?, Array.getElem?_eq_getElem (by omega), Array.getElem?_eq_getElem (by omega)] at q
  simp only [Option.getD_some] at q
  have := (List.getElem_inj hnd (i := i) (j := j) (h₀ := by simp; omega) (h₁ := by simp; omega)).mp (by simpa using q)
  exact hij this
/-- sorted up to k -/
def Up (lt : Nat → Nat → Bool) (p : Array Nat) (k : Nat) : Prop := ∀ i j, i < j → j < k → lt (at' p i) (at' p j) = true
def Down (lt : Nat → Nat → Bool) (p : Array Nat) (k : Nat) : Prop := ∀ i j, i < j → j < k → lt (at' p j) (at' p i) = true
theorem Up.snoc (T : Tot lt N) {p : Array Nat} {k : Nat} (h : Up lt p k) (h1 : 1 ≤ k) (hk : lt (at' p (k - 1)) (at' p k) = true) : Up lt p (k + 1) := by
  intro i j hij hj
  by_cases q : j = k
  · subst q
    by_cases q' : i = j - 1
    · rw [q']; exact hk
    · exact T.trans _ _ _ (h i (j - 1) (by omega) (by omega)) hk
  · exact h i j hij (by omega)
theorem Down.snoc (T : Tot lt N) {p : Array Nat} {k : Nat} (h : Down lt p k) (h1 : 1 ≤ k) (hk : lt (at' p k) (at' p (k - 1)) = true) : Down lt p (k + 1) := by
  intro i j hij hj
  by_cases q : j = k
  · subst q
    by_cases q' : i = j - 1
    · rw [q']; exact hk
    · exact T.trans _ _ _ hk (h i (j - 1) (by omega) (by omega))
  · exact h i j hij (by omega)
theorem run_asc (T : Tot lt N) {p : Array Nat} (hp : Pm p N) : ∀ (f n : Nat), 1 ≤ n → n + f ≤ N → Up lt p n → n ≤ kasRun lt (kas_asc p f n) ∧ kasRun lt (kas_asc p f n) ≤ n + f ∧ Up lt p (kasRun lt (kas_asc p f n)) ∧ (kasRun lt (kas_asc p f n) < n + f → lt (at' p (kasRun lt (kas_asc p f n))) (at' p (kasRun lt (kas_asc p f n) - 1)) = true)
  | 0, n, _, _, h => ⟨Nat.le_refl _, Nat.le_refl _, h, fun q => absurd q (Nat.lt_irrefl _)⟩
  | f + 1, n, h1, hN, h => by
    unfold kas_asc kasRun
    show n ≤ kasRun lt (if lt (at' p n) (at' p (n - 1)) = true then _ else _) ∧ _
    cases hc : lt (at' p n) (at' p (n - 1)) with
    | true =>
      have hc' : lt (p.getD n 0) (p.getD (n - 1) 0) = true := hc
      simp only [hc', if_true]
      exact ⟨Nat.le_refl _, by show n ≤ _; omega, h, fun _ => hc⟩
    | false =>
      have hc' : lt (p.getD n 0) (p.getD (n - 1) 0) = false := hc
      simp only [hc', Bool.false_eq_true, if_false]
      have hu : Up lt p (n + 1) := h.snoc T h1 (by
        rcases T.tri _ _ (hp.bound (i := n - 1) (by omega)) (hp.bound (i := n) (by omega)) (hp.ne (i := n - 1) (j := n) (by omega) (by omega) (by omega)) with q | q
        · exact q
        · rw [hc] at q; cases q)
      obtain ⟨a, b, c, d⟩ := run_asc T hp f (n + 1) (by omega) (by omega) hu
      exact ⟨by omega, by omega, c, fun q => d (by omega)⟩
/-- a run that goes down -/
theorem run_desc (T : Tot lt N) {p : Array Nat} (hp : Pm p N) : ∀ (f n : Nat), 1 ≤ n → n + f ≤ N → Down lt p n → ∃ m, kasRun lt (kas_desc f p n 0) = (p, m, 0) ∧ n ≤ m ∧ m ≤ n + f ∧ Down lt p m
  | 0, n, _, _, h => ⟨n, rfl, Nat.le_refl _, Nat.le_refl _, h⟩
  | f + 1, n, h1, hN, h => by
    unfold kas_desc kasRun
    cases hc : lt (p.getD n 0) (p.getD (n - 1) 0) with
    | true =>
      simp only [if_true]
      rw [if_neg (by omega)]
      obtain ⟨m, a, b, c, d⟩ := run_desc T hp f (n + 1) (by omega) (by omega) (h.snoc T h1 hc)
      exact ⟨m, a, by omega, by omega, d⟩
    | false =>
      simp only [Bool.false_eq_true, if_false]
      have hd : lt (p.getD (n - 1) 0) (p.getD n 0) = true := by
        rcases T.tri _ _ (hp.bound (i := n - 1) (by omega)) (hp.bound (i := n) (by omega)) (hp.ne (i := n - 1) (j := n) (by omega) (by omega) (by omega)) with q | q
        · exact q
        · have : lt (p.getD n 0) (p.getD (n - 1) 0) = true := q
          rw [hc] at this; cases this
      unfold kasRun
      rw [hd]
      exact ⟨n, rfl, Nat.le_refl _, by omega, h⟩
theorem Pm.rev {p : Array Nat} (h : Pm p N) (i j : Nat) : Pm (kas_rev p i j) N := ⟨(Array.perm_iff_toList_perm.mp (mirror_perm p i j _)).trans h.perm⟩
theorem Pm.bub {p : Array Nat} (h : Pm p N) (s d : Nat) : Pm (bubble p s d) N := ⟨(Array.perm_iff_toList_perm.mp (bubble_perm p s d)).trans h.perm⟩
theorem at_rev {p : Array Nat} (hp : Pm p N) {m k : Nat} (hm : m ≤ N) (hk : k < m) : at' (kas_rev p 0 m) k = at' p (m - 1 - k) := by
  refine at_congr ?_
  unfold kas_rev
  rw [getElem?_mirror_all (by rw [hp.size]; exact hm), if_pos ⟨Nat.zero_le _, hk⟩, Nat.zero_add]
theorem Down.up {p : Array Nat} (hp : Pm p N) {m : Nat} (hm : m ≤ N) (h : Down lt p m) : Up lt (kas_rev p 0 m) m := by
  intro i j hij hj
  rw [at_rev hp hm (by omega), at_rev hp hm hj]
  exact h _ _ (by omega) (by omega)
theorem run_count (T : Tot lt N) {p : Array Nat} (hp : Pm p N) (hN : 2 ≤ N) : ∃ m q, kasRun lt (kas_count N p) = (m, q) ∧ Pm q N ∧ 1 ≤ m ∧ m ≤ N ∧ Up lt q m := by
  have u1 : Up lt p 1 := fun i j hij hj => by omega
  obtain ⟨a, b, c, d⟩ := run_asc T hp (N - 1) 1 (Nat.le_refl _) (by omega) u1
  unfold kas_count
  rw [kasRun_bind]
  generalize kasRun lt (kas_asc p (N - 1) 1) = m at a b c d
  by_cases hm : m = N
  · rw [if_pos (by simpa using hm)]
    exact ⟨m, p, rfl, hp, a, by omega, c⟩
  · rw [if_neg (by simpa using hm)]
    by_cases h1 : m > 1
    · rw [if_pos h1]
      have hc : lt (p.getD 0 0) (p.getD (m - 1) 0) = true := c 0 (m - 1) (by omega) (by omega)
      unfold kasRun
      rw [hc]
      exact ⟨m, p, rfl, hp, a, by omega, c⟩
    · rw [if_neg h1]
      have hm1 : m = 1 := by omega
      subst hm1
      have hd0 := d (by omega)
      have d1 : Down lt p 1 := fun i j hij hj => by omega
      have d2 : Down lt p 2 := d1.snoc T (Nat.le_refl _) hd0
      unfold kas_descPart
      rw [kasRun_bind]
      obtain ⟨k, e1, e2, e3, e4⟩ := run_desc T hp (N - 2) 2 (by omega) (by omega) d2
      rw [show N - (1 + 1) = N - 2 from rfl, show 1 + 1 = 2 from rfl, e1]
      rw [if_neg (by simp)]
      unfold kas_tail3
      rw [kasRun_bind]
      have hpr := hp.rev 0 k
      obtain ⟨a', b', c', _⟩ := run_asc T hpr (N - k) k (by omega) (by omega) (e4.up hp (by omega))
      refine ⟨kasRun lt (kas_asc (kas_rev p 0 k) (N - k) k), kas_rev p 0 k, rfl, hpr, ?_, ?_, c'⟩
      · omega
      · omega
/-- the place of an item among those that are sorted -/
theorem run_place (T : Tot lt N) {p : Array Nat} (hp : Pm p N) {k : Nat} (hk : k < N) (hu : Up lt p k) : ∀ (f l r : Nat), l ≤ r → r ≤ k → r - l ≤ f → (∀ i, i < l → lt (at' p i) (at' p k) = true) → (∀ i, r ≤ i → i < k → lt (at' p k) (at' p i) = true) →
    ∃ m, kasRun lt (kas_place p k f l r) = m ∧ m ≤ k ∧ (∀ i, i < m → lt (at' p i) (at' p k) = true) ∧ ∀ i, m ≤ i → i < k → lt (at' p k) (at' p i) = true
  | 0, l, r, hlr, hrk, hf, h1, h2 => ⟨l, rfl, by omega, h1, fun i a b => h2 i (by omega) b⟩
  | f + 1, l, r, hlr, hrk, hf, h1, h2 => by
    unfold kas_place
    by_cases q : l ≥ r
    · rw [if_pos q]
      exact ⟨l, rfl, by omega, h1, fun i a b => h2 i (by omega) b⟩
    · rw [if_neg q]
      unfold kasRun
      have hmid : (l + r) / 2 < k := by omega
      cases hc : lt (p.getD k 0) (p.getD ((l + r) / 2) 0) with
      | true =>
        simp only [if_true]
        refine run_place T hp hk hu f l ((l + r) / 2) (by omega) (by omega) (by omega) h1 fun i a b => ?_
        by_cases e : i = (l + r) / 2
        · rw [e]; exact hc
        · exact T.trans _ _ _ hc (hu _ _ (by omega) b)
      | false =>
        simp only [Bool.false_eq_true, if_false]
        have hc2 : lt (at' p ((l + r) / 2)) (at' p k) = true := by
          rcases T.tri _ _ (hp.bound (i := (l + r) / 2) (by omega)) (hp.bound (i := k) hk) (hp.ne (i := (l + r) / 2) (j := k) (by omega) hk (by omega)) with z | z
          · exact z
          · have : lt (p.getD k 0) (p.getD ((l + r) / 2) 0) = true := z
            rw [hc] at this; cases this
        refine run_place T hp hk hu f ((l + r) / 2 + 1) r (by omega) hrk (by omega) (fun i a => ?_) h2
        by_cases e : i = (l + r) / 2
        · rw [e]; exact hc2
        · exact T.trans _ _ _ (hu i ((l + r) / 2) (by omega) (by omega)) hc2
theorem at_bub {p : Array Nat} (hp : Pm p N) {k m i : Nat} (hk : k < N) (hm : m ≤ k) : at' (bubble p k (k - m)) i = if i = m then at' p k else if m < i ∧ i ≤ k then at' p (i - 1) else at' p i := by
  have e := getElem?_bubble (xs := p) (src := k) (by rw [hp.size]; exact hk) (k - m) (by omega) i
  rw [show k - (k - m) = m by omega] at e
  by_cases h1 : i = m
  · rw [if_pos h1] at e ⊢; exact at_congr e
  · rw [if_neg h1] at e ⊢
    by_cases h2 : m < i ∧ i ≤ k
    · rw [if_pos h2] at e ⊢; exact at_congr e
    · rw [if_neg h2] at e ⊢; exact at_congr e
theorem insert_up (T : Tot lt N) {p : Array Nat} (hp : Pm p N) {k m : Nat} (hk : k < N) (hm : m ≤ k) (hu : Up lt p k) (h1 : ∀ i, i < m → lt (at' p i) (at' p k) = true) (h2 : ∀ i, m ≤ i → i < k → lt (at' p k) (at' p i) = true) : Up lt (bubble p k (k - m)) (k + 1) := by
  intro i j hij hj
  rw [at_bub hp hk hm, at_bub hp hk hm]
  by_cases a : i = m
  · rw [if_pos a, if_neg (by omega), if_pos (by omega)]
    exact h2 _ (by omega) (by omega)
  · rw [if_neg a]
    by_cases b : j = m
    · rw [if_pos b, if_neg (by omega)]
      exact h1 _ (by omega)
    · rw [if_neg b]
      by_cases c : m < i ∧ i ≤ k
      · rw [if_pos c, if_pos (by omega)]
        exact hu _ _ (by omega) (by omega)
      · rw [if_neg c]
        by_cases d : m < j ∧ j ≤ k
        · rw [if_pos d]
          exact hu _ _ (by omega) (by omega)
        · rw [if_neg d]
          exact hu _ _ hij (by omega)
theorem run_bin (T : Tot lt N) : ∀ (f : Nat) (p : Array Nat) (k : Nat), Pm p N → k + f = N → Up lt p k → ∃ q, kasRun lt (kas_bin f p k) = q ∧ Pm q N ∧ Up lt q N
  | 0, p, k, hp, hk, hu => ⟨p, rfl, hp, by have : k = N := by omega
                                           rw [← this]; exact hu⟩
  | f + 1, p, k, hp, hk, hu => by
    unfold kas_bin
    rw [kasRun_bind]
    obtain ⟨m, e, hm, h1, h2⟩ := run_place T hp (k := k) (by omega) hu k 0 k (Nat.zero_le _) (Nat.le_refl _) (by omega) (fun i a => by omega) (fun i a b => by omega)
    rw [e]
    exact run_bin T f _ (k + 1) (hp.bub _ _) (by omega) (insert_up T hp (by omega) hm hu h1 h2)
theorem run_sort (T : Tot lt N) (hN : 2 ≤ N) : ∃ q, kasRun lt (kas_sort N) = q ∧ Pm q N ∧ Up lt q N := by
  have hp : Pm (List.toArray (List.range N)) N := ⟨List.Perm.refl _⟩
  obtain ⟨m, q, e, hq, h1, hm, hu⟩ := run_count T hp hN
  unfold kas_sort
  rw [kasRun_bind, e]
  by_cases h : m < N
  · rw [if_pos h]
    have : max m 1 = m := by omega
    show ∃ q', kasRun lt (kas_bin (N - max m 1) q (max m 1)) = q' ∧ _
    rw [this]
    exact run_bin T (N - m) q m hq (by omega) hu
  · rw [if_neg h]
    exact ⟨q, rfl, hq, by have : m = N := by omega
                          rw [← this]; exact hu⟩
end
end
noncomputable section
open PySem PySem.W PySem.Calls PySem.Spec PyProof.Rows
set_option autoImplicit false
/-! ### which items the sort asks about -/
def asksIn {α : Type} (N : Nat) : KasT α → (α → Prop) → Prop
  | .ret a, R => R a
  | .ask i j k, R => i < N ∧ j < N ∧ ∀ b, asksIn N (k b) R
theorem asksIn_bind {α β : Type} {N : Nat} {f : α → KasT β} {R : β → Prop} : ∀ t : KasT α, asksIn N t (fun a => asksIn N (f a) R) → asksIn N (t.bind f) R
  | .ret _, h => h
  | .ask _ _ k, ⟨a, b, h⟩ => ⟨a, b, fun c => asksIn_bind (k c) (h c)⟩
theorem asksIn_mono {α : Type} {N : Nat} {R R' : α → Prop} (hr : ∀ a, R a → R' a) : ∀ t : KasT α, asksIn N t R → asksIn N t R'
  | .ret a, h => hr a h
  | .ask _ _ k, ⟨a, b, h⟩ => ⟨a, b, fun c => asksIn_mono hr (k c) (h c)⟩
section
variable {N : Nat}
theorem Pm.any {p : Array Nat} (h : Pm p N) (hN : 0 < N) (i : Nat) : p.getD i 0 < N := by
  by_cases q : i < N
  · exact h.bound q
  · rw [Array.getD_eq_getD_getElem?, Array.getElem?_eq_none (by rw [h.size]; omega)]; exact hN
theorem asks_asc (hN : 0 < N) {p : Array Nat} (hp : Pm p N) : ∀ f n, asksIn N (kas_asc p f n) fun _ => True
  | 0, n => trivial
  | f + 1, n => ⟨hp.any hN _, hp.any hN _, fun b => by
    cases b with
    | true => exact trivial
    | false => exact asks_asc hN hp f (n + 1)⟩
theorem asks_desc (hN : 0 < N) : ∀ f (p : Array Nat) n q, Pm p N → asksIn N (kas_desc f p n q) fun r => Pm r.1 N
  | 0, p, n, q, hp => hp
  | f + 1, p, n, q, hp => ⟨hp.any hN _, hp.any hN _, fun b => by
    cases b with
    | true =>
      simp only [if_true]
      split
      · exact asks_desc hN f _ _ _ (hp.rev _ _)
      · exact asks_desc hN f _ _ _ hp
    | false =>
      simp only [Bool.false_eq_true, if_false]
      exact ⟨hp.any hN _, hp.any hN _, fun c => by
        cases c with
        | true => exact hp
        | false => exact asks_desc hN f _ _ _ hp⟩⟩
theorem asks_tail (hN : 0 < N) {p : Array Nat} (hp : Pm p N) (n m : Nat) : asksIn N (kas_tail3 n m p) fun r => Pm r.2 N :=
  asksIn_bind _ (asksIn_mono (fun _ _ => hp.rev _ _) _ (asks_asc hN (hp.rev 0 n) _ _))
theorem asks_dpart (hN : 0 < N) {p : Array Nat} (hp : Pm p N) (n m : Nat) : asksIn N (kas_descPart n m p) fun r => Pm r.2 N :=
  asksIn_bind _ (asksIn_mono (fun r hr => by
    split
    · exact asks_tail hN (hr.rev _ _) _ _
    · exact asks_tail hN hr _ _) _ (asks_desc hN _ p _ _ hp))
theorem asks_count (hN : 0 < N) {p : Array Nat} (hp : Pm p N) (m : Nat) : asksIn N (kas_count m p) fun r => Pm r.2 N :=
  asksIn_bind _ (asksIn_mono (fun n _ => by
    split
    · exact hp
    · split
      · exact ⟨hp.any hN _, hp.any hN _, fun c => by
          cases c with
          | true => exact hp
          | false => exact asks_dpart hN (hp.rev _ _) _ _⟩
      · exact asks_dpart hN hp _ _) _ (asks_asc hN hp _ _))
theorem asks_place (hN : 0 < N) {p : Array Nat} (hp : Pm p N) (k : Nat) : ∀ f l r, asksIn N (kas_place p k f l r) fun _ => True
  | 0, l, r => trivial
  | f + 1, l, r => by
    unfold kas_place
    split
    · exact trivial
    · exact ⟨hp.any hN _, hp.any hN _, fun b => by
        cases b with
        | true => exact asks_place hN hp k f _ _
        | false => exact asks_place hN hp k f _ _⟩
theorem asks_bin (hN : 0 < N) : ∀ f (p : Array Nat) k, Pm p N → asksIn N (kas_bin f p k) fun q => Pm q N
  | 0, p, k, hp => hp
  | f + 1, p, k, hp => asksIn_bind _ (asksIn_mono (fun l _ => asks_bin hN f _ _ (hp.bub _ _)) _ (asks_place hN hp k _ _ _))
theorem asks_sort (hN : 0 < N) : asksIn N (kas_sort N) fun q => Pm q N :=
  asksIn_bind _ (asksIn_mono (fun r hr => by
    split
    · exact asks_bin hN _ _ _ hr
    · exact hr) _ (asks_count hN ⟨List.Perm.refl _⟩ N))
theorem asksIn_run {α : Type} {lt : Nat → Nat → Bool} {R : α → Prop} : ∀ t : KasT α, asksIn N t R → R (kasRun lt t)
  | .ret a, h => h
  | .ask i j k, ⟨_, _, h⟩ => asksIn_run (k (lt i j)) (h _)
theorem kasWp_run {α : Type} {lt : Nat → Nat → Bool} {cmp : Nat → Nat → (Bool → Shared → Prop) → Shared → Prop} {s : Shared} (hc : ∀ i j (C : Bool → Shared → Prop), i < N → j < N → C (lt i j) s → cmp i j C s) {R : α → Prop} {Q : α → Shared → Prop} :
    ∀ t : KasT α, asksIn N t R → Q (kasRun lt t) s → t.kasWp cmp Q s
  | .ret a, _, h => h
  | .ask i j k, ⟨a, b, h⟩, hq => hc i j _ a b (kasWp_run hc (k (lt i j)) (h _) hq)
end

section
variable {prog : Program} {w : World} {A : Around} {E : Value → Shared → Prop} {s : Shared}
theorem list_sort_own {a : Addr} {vs out : List Value} {n : Nat} {P : PySem.Fin → Shared → Prop} (ho : s.heap.get? a = some (seqObj "list" vs.toArray n)) (h64 : vs.length < 64) (hout : out.length = vs.length)
    (hrun : 2 ≤ vs.length → ∀ h', (∀ b o, b ≠ a → s.heap.get? b = some o → h'.get? b = some o) → wpAny (model prog w) A (keyKind' vs.toArray) (fun κ s' => s' = { s with heap := h' } ∧ (kas_sort vs.length).kasWp (kas_ask prog w A κ vs) (fun p s'' => s'' = { s with heap := h' } ∧ (p.toList.map fun i => vs.getD i Value.none) = out) s') (fun _ _ => False) { s with heap := h' })
    (h1 : vs.length < 2 → out = vs)
    (h : ∀ h', (∀ b o, b ≠ a → s.heap.get? b = some o → h'.get? b = some o) → (∃ e, h'.get? a = some (seqObj "list" out.toArray e)) → P (.done (.ret .none)) { s with heap := h' }) :
    wpAny (model prog w) A (Builtin.«list.sort» ⟨[.ref a], []⟩) P E s := by
  have ha : a < s.heap.objs.size := Heap.lt_size ho
  have s1 := Heap.SameBut.update s.heap a (Obj.mapSeq fun _ => (#[] : Array Value))
  obtain ⟨e1, ho1⟩ : ∃ e1, (s.heap.update a (Obj.mapSeq fun _ => (#[] : Array Value))).get? a = some (seqObj "list" #[] e1) := ⟨_, get?_update_seq ho fun _ => #[]⟩
  generalize hh : ((s.heap.update a (Obj.mapSeq fun _ => (#[] : Array Value))).push (seqObj "tuple" vs.toArray 0)).push (seqObj "list" #[] 0) = h3
  have ho3 : h3.get? a = some (seqObj "list" #[] e1) := by rw [← hh]; exact Heap.get?_push_of_some _ (Heap.get?_push_of_some _ ho1)
  have k3 : ∀ b o, b ≠ a → s.heap.get? b = some o → h3.get? b = some o := fun b o hb e => by
    rw [← hh]; exact Heap.get?_push_of_some _ (Heap.get?_push_of_some _ ((s1.2 b hb).trans e))
  rw [list_sort_plain]
  refine wpAny_bind (listItems_at ho rfl ?_)
  refine wpAny_bind (listUpdate_at ho rfl ?_ (by rw [List.size_toArray, sizeLine_eq]; omega) (Nat.zero_le _))
  refine wpAny_bind (seqEpoch_at ho1 rfl ?_)
  refine wpAny_bind (wpAny_newTuple ?_ (by show vs.length ≤ _; rw [sizeLine_eq]; omega))
  refine wpAny_bind (wpAny_newList ?_ (Nat.zero_le _))
  refine wpAny_holding ?_
  show wpAny (model prog w) A _ P E { s with heap := ((s.heap.update a (Obj.mapSeq fun _ => (#[] : Array Value))).push (seqObj "tuple" vs.toArray 0)).push (seqObj "list" #[] 0) }
  rw [hh]
  dsimp only
  have fin : ∀ (st' : SortSt), (arrOf st').map (·.2) = out.toArray → failedOf st' = none → wpAny (model prog w) A (do
      let touched := (← seqEpoch a) != e1
      Builtin.List.listUpdate (.ref a) fun _ => (arrOf st').map (·.2)
      if let some e := failedOf st' then rule "list.sort.comparison-raised"; throw e
      if touched then rule "list.sort.modified"; raiseError "ValueError" "list modified during sort"
      ret .none) P E { s with heap := h3 } := fun st' hst hf => by
    rw [hst]
    have s2 := Heap.SameBut.update h3 a (Obj.mapSeq fun _ => out.toArray)
    obtain ⟨c2, hc2⟩ : ∃ c2, (h3.update a (Obj.mapSeq fun _ => out.toArray)).get? a = some (seqObj "list" out.toArray c2) := ⟨_, get?_update_seq ho3 fun _ => out.toArray⟩
    refine wpAny_bind (seqEpoch_at ho3 rfl ?_)
    refine wpAny_bind (listUpdate_at ho3 rfl ?_ (Nat.zero_le _) (by rw [List.size_toArray, sizeLine_eq]; omega))
    rw [hf]
    simp only [bne_self_eq_false, Bool.false_eq_true, if_false]
    exact wpAny_pure (h _ (fun b o hb e => (s2.2 b hb).trans (k3 b o hb e)) ⟨c2, hc2⟩)
  by_cases h2 : vs.toArray.size < 2
  · rw [if_pos h2, if_pos h2]
    refine wpAny_bind (wpAny_pure ?_)
    refine wpAny_bind (m := StateT.run (pure () : StateT SortSt Sem Unit) _) (wpAny_pure ?_)
    refine fin _ ?_ rfl
    show ((vs.toArray.zip vs.toArray).map (·.2)) = out.toArray
    rw [h1 (by simpa using h2)]
    apply Array.toList_inj.mp
    simp [List.map_snd_zip]
  · rw [if_neg h2, if_neg h2]
    have h2' : 2 ≤ vs.length := by rw [List.size_toArray] at h2; omega
    refine wpAny_bind (wpAny_mono (hrun h2' h3 k3) (fun κ s' hk => ?_) fun _ _ x => x.elim)
    obtain ⟨rfl, hk⟩ := hk
    refine wpAny_bind (wpAny_mono (kat_run (Q := fun st' s' => ∃ p : Array Nat, arrOf st' = p.map (kas_item (vs.toArray.zip vs.toArray)) ∧ failedOf st' = none ∧ s' = { s with heap := h3 } ∧ (p.toList.map fun i => vs.getD i Value.none) = out)
      rfl h2' h64 (fun p st' s' a1 a2 a3 a4 => ⟨p, a2, a3, a4.1, a4.2⟩) hk) ?_ fun _ _ e => e)
    rintro ⟨⟨⟩, st'⟩ s' ⟨p, har, hf, rfl, hp⟩
    refine fin st' ?_ hf
    rw [kat_snds rfl har, hp]
end
end
noncomputable section
open PySem PySem.W PySem.Calls PySem.Spec PyProof.Rows
set_option autoImplicit false
def natLt (prog : Program) (w : World) : ItemRel prog w Nat .Lt where
  is := fun a v => ∃ t, v = .int (a : Int) t
  cmp := fun a b => decide (a < b)
  eq := fun {A E s a b u v Q} ⟨t, e⟩ ⟨u', e'⟩ h => by
    subst e e'; refine wpAny_eqBool_int ?_
    rw [show (((a : Nat) : Int) == (b : Int)) = decide (a = b) from Bool.eq_iff_iff.mpr (by rw [beq_iff_eq, decide_eq_true_iff]; omega)]; exact h
  lt := fun {A E s a b u v Q} ⟨t, e⟩ ⟨u', e'⟩ h => by
    subst e e'
    refine (show wpAny _ _ (compareOp .Lt _ _) _ _ _ from PyProof.Rows.lt_int ?_)
    rw [show decide (((a : Nat) : Int) < (b : Int)) = decide (a < b) from decide_eq_decide.mpr (by omega)]; exact h
theorem isAll_nats {Z : List Addr} {h : Heap} : ∀ {xs : List Nat} {vs : List Value}, HasAll Z h vs (xs.map natD) → IsAll (fun (a : Nat) v => ∃ t, v = Value.int (a : Int) t) xs vs
  | [], vs, x => by rw [x.nil_inv]; exact trivial
  | y :: xs, vs, x => by
    obtain ⟨v, r, rfl, a, b⟩ := x.cons_inv
    exact ⟨a.int_inv, isAll_nats b⟩
abbrev Item := List Nat × Str
def itemD (p : Item) : PyData := .tuple [.list (p.1.map natD), .str p.2]
def ltN : List Nat → List Nat → Bool := lexC (fun a b => decide (a < b)) (szOf .Lt)
def ltI (p q : Item) : Bool := if p.1 = q.1 then (if p.2 = q.2 then false else ltS p.2 q.2) else ltN p.1 q.1
section
variable {prog : Program} {w : World} {α : Type} [DecidableEq α]
theorem call_list_lt {A : Around} {E : Value → Shared → Prop} {Q : Value → Shared → Prop} {s : Shared} {la lb : Addr} {vs us : Array Value} {xs ys : List α} (T : ItemRel prog w α .Lt) (hl : s.heap.IsList la vs) (hl' : s.heap.IsList lb us) (hx : IsAll T.is xs vs.toList) (hy : IsAll T.is ys us.toList)
    (hQ : Q (.bool (lexC T.cmp (szOf .Lt) xs ys)) s) : wpAny (model prog w) A (call (.builtin "list.__lt__") [.ref la, .ref lb]) Q E s := by
  have hsub := sub_list_list
  refine call_meetsIn (S := fun A R s' => s' = s ∧ R (.ok (.ret (.bool (lexC T.cmp (szOf .Lt) xs ys)))) s') PySem.F.slot_list_lt hl.typeIs PySem.F.entry_list_lt (PySem.F.args_list_lt_2 _ _) ?_ ⟨rfl, hQ⟩
  intro A' R s' hs
  obtain ⟨rfl, hR⟩ := hs
  show wpAny _ _ (isInstance (.ref lb) (.type "list") >>= _) _ _ _
  refine wpAny_bind (wpAny_isInstance (b := true) hl'.typeIs hsub ?_)
  exact wpAny_pure ⟨plainId_quiet PySem.MeetsSeq3.plain_eq_loop _, cmp_loop_lt T hl hl' hx hy _ 0 rfl (Nat.zero_le _) (Nat.zero_le _) (by simpa using hR)⟩
theorem oneLt_list {A : Around} {E : Value → Shared → Prop} {Q : Bool → Shared → Prop} {s : Shared} {la lb : Addr} {vs us : Array Value} {xs ys : List α} (T : ItemRel prog w α .Lt) (hu : A.units < cLine) (hl : s.heap.IsList la vs) (hl' : s.heap.IsList lb us) (hx : IsAll T.is xs vs.toList) (hy : IsAll T.is ys us.toList)
    (hQ : Q (lexC T.cmp (szOf .Lt) xs ys) s) : wpAny (model prog w) A (oneLt' true (.ref la) (.ref lb)) Q E s := by
  rw [oneLt'_eq]
  simp only [if_true]
  refine wpAny_bind (wpAny_cRoomFor hu ?_)
  refine wpAny_bind (wpAny_callSpecialIfBound?_slot hl.typeIs PySem.F.slot_list_lt (call_list_lt T hl hl' hx hy ?_))
  exact wpAny_truthy_bool hQ
end
section
variable {prog : Program} {w : World} {A : Around} {E : Value → Shared → Prop} {s : Shared}
theorem item_inv {Z : List Addr} {h : Heap} {v : Value} {p : Item} (x : Has Z h v (itemD p)) : ∃ a o n la vs t, v = .ref a ∧ h.get? a = some o ∧ o.cls = .type "tuple" ∧ o.data = .seq #[.ref la, .str p.2 t] n ∧ h.IsList la vs ∧ HasAll Z h vs.toList (p.1.map natD) ∧ Has Z h (.ref la) (.list (p.1.map natD)) := by
  obtain ⟨a, vs, rfl, ⟨o, ho, hc, n, hd⟩, hall⟩ := x.tuple_inv
  obtain ⟨v1, r1, e1, h1, hr1⟩ := hall.cons_inv
  obtain ⟨v2, r2, e2, h2, hr2⟩ := hr1.cons_inv
  have e3 := hr2.nil_inv
  subst e3 e2
  obtain ⟨la, us, rfl, hz, hl, ha⟩ := id h1.list_inv
  obtain ⟨t, rfl⟩ := h2.str_inv
  refine ⟨a, o, n, la, us, t, rfl, ho, hc, ?_, hl, ha, h1⟩
  rw [hd]
  congr 1
  apply Array.toList_inj.mp
  rw [e1]
theorem lt_item {Z : List Addr} {v u : Value} {p q : Item} {Q : Bool → Shared → Prop} (hu : A.units + 64 < cLine) (hv : Has Z s.heap v (itemD p)) (hw : Has Z s.heap u (itemD q)) (h : Q (ltI p q) s) : wpAny (model prog w) A (keyLt' (tuples' true) v u) Q E s := by
  obtain ⟨a, o, n, la, vs, t, rfl, ho, hc, hd, hl, ha, h1⟩ := item_inv hv
  obtain ⟨a', o', n', la', vs', t', rfl, ho', hc', hd', hl', ha', h1'⟩ := item_inv hw
  refine kat_lt ho hd ho' hd' ?_
  show KatLex prog w A true (decide (2 < 2)) Q [(.ref la, .ref la'), (.str p.2 t, .str q.2 t')] 0 s
  refine kat_cons ?_
  obtain ⟨as, ra⟩ := h1.reads
  obtain ⟨bs, rb⟩ := h1'.reads
  have ok : ∀ l : List Nat, OkD 1 (.list (l.map natD)) := fun l => okD_list (k := 0) fun x hx => by obtain ⟨y, _, rfl⟩ := List.mem_map.mp hx; exact okD_nat
  refine PySem.SeqAt.eqBoolOverData prog w A _ s _ _ _ _ as bs _ ra rb (ok _).1 (ok _).1 (by have := (ok p.1).2; omega) ?_
  rw [eqv_list eqv_nat]
  unfold ltI at h
  by_cases e1 : p.1 = q.1
  · rw [if_pos e1] at h
    rw [decide_eq_true e1]
    refine kat_yes (kat_cons (wpAny_eqBool_str ?_))
    by_cases e2 : p.2 = q.2
    · rw [if_pos e2] at h
      rw [decide_eq_true e2]
      exact kat_yes (kat_nil h)
    · rw [if_neg e2] at h
      rw [decide_eq_false e2]
      refine kat_no (kat_one _ _ ?_)
      exact PyProof.Rows.lt_str h
  · rw [if_neg e1] at h
    rw [decide_eq_false e1]
    exact kat_no (oneLt_list (natLt prog w) (by omega) hl hl' (isAll_nats ha) (isAll_nats ha') h)
end
end
noncomputable section
open PySem PySem.W PySem.Calls PySem.Spec PyProof.Rows
set_option autoImplicit false
def noItem : Item := ([], "")
def ordOf (l : List Item) (i j : Nat) : Bool := ltI (l.getD i noItem) (l.getD j noItem)
def sortD (l : List Item) : List Item := if l.length < 2 then l else (kasRun (ordOf l) (kas_sort l.length)).toList.map fun i => l.getD i noItem
section
variable {prog : Program} {w : World} {A : Around} {E : Value → Shared → Prop} {s : Shared}
theorem items_get {Z : List Addr} {h : Heap} {l : List Item} {vs : List Value} {i : Nat} (hall : HasAll Z h vs (l.map itemD)) (hi : i < l.length) : Has Z h (vs.getD i Value.none) (itemD (l.getD i noItem)) := by
  obtain ⟨v, e, hv⟩ := hall.get (i := i) (d := itemD (l.getD i noItem)) (by rw [List.getElem?_map, List.getElem?_eq_getElem hi, List.getD_eq_getElem?_getD, List.getElem?_eq_getElem hi]; rfl)
  rw [List.getD_eq_getElem?_getD, e]; exact hv
theorem tups_of {Z : List Addr} {h : Heap} : ∀ {l : List Item} {vs : List Value}, HasAll Z h vs (l.map itemD) → ∃ fs : List Value, KatTups h vs fs ∧ fs.length = l.length ∧ ∀ f ∈ fs, ∃ la us, f = .ref la ∧ h.IsList la us
  | [], vs, x => ⟨[], by rw [x.nil_inv]; exact KatTups.nil, rfl, fun _ hf => nomatch hf⟩
  | p :: l, vs, x => by
    obtain ⟨v, r, rfl, a, b⟩ := x.cons_inv
    obtain ⟨fs, h1, h2, h3⟩ := tups_of b
    obtain ⟨aa, o, n, la, us, t, rfl, ho, hc, hd, hl, _, _⟩ := item_inv a
    refine ⟨.ref la :: fs, KatTups.cons ho hc hd rfl h1, by simp [h2], fun f hf => ?_⟩
    rcases List.mem_cons.mp hf with rfl | hf
    · exact ⟨la, us, rfl, hl⟩
    · exact h3 f hf
theorem kind_items {Z : List Addr} {l : List Item} {vs : List Value} {Q : SortKind → Shared → Prop} (hall : HasAll Z s.heap vs (l.map itemD)) (hne : 0 < l.length) (h : Q (tuples' true) s) : wpAny (model prog w) A (keyKind' vs.toArray) Q E s := by
  obtain ⟨fs, h1, h2, h3⟩ := tups_of hall
  refine kat_kind (T := .type "list") h1 (by omega) (fun v hv => ?_) (by decide) h
  obtain ⟨la, us, rfl, o, ho, hc, _⟩ := h3 v hv
  have := (show Looks (model prog w) s.heap (typeOf (.ref la)) o.cls from (Looks.ld ho).andThen .now)
  rw [hc] at this; exact this
theorem call_sorted {Z : List Addr} {a : Addr} {vs : Array Value} {l : List Item} {Q : Value → Shared → Prop} (hu : A.units + 100 < cLine) (hl : s.heap.IsList a vs) (hall : HasAll Z s.heap vs.toList (l.map itemD)) (h64 : l.length < 64) (hz : ∀ z ∈ Z, (s.heap.get? z).isSome = true)
    (hQ : ∀ D h', Kept s.heap h' → Has Z h' (.ref D) (.list ((sortD l).map itemD)) → Q (.ref D) { s with heap := h' }) : wpAny (model prog w) A (call (.builtin "sorted") [.ref a]) Q E s := by
  have hvl : vs.toList.length = l.length := by rw [hall.length, List.length_map]
  obtain ⟨vl, hvle⟩ : ∃ vl, vs.toList = vl := ⟨_, rfl⟩
  have hvs : vs = vl.toArray := by rw [← hvle]
  rw [hvle] at hall hvl
  subst hvs
  have hout : ∃ out : List Value, out.length = vl.length ∧ (vl.length < 2 → out = vl) ∧ (2 ≤ vl.length → ((kasRun (ordOf l) (kas_sort vl.length)).toList.map fun i => vl.getD i Value.none) = out) ∧ HasAll Z s.heap out ((sortD l).map itemD) := by
    by_cases h2 : l.length < 2
    · refine ⟨vl, rfl, fun _ => rfl, fun q => by omega, ?_⟩
      unfold sortD; rw [if_pos h2]; exact hall
    · have hpm : Pm (kasRun (ordOf l) (kas_sort vl.length)) vl.length := asksIn_run _ (asks_sort (by omega))
      refine ⟨_, ?_, fun q => by omega, fun _ => rfl, ?_⟩
      · rw [List.length_map, Array.length_toList]; exact hpm.size
      · unfold sortD
        rw [if_neg h2, hvl, List.map_map]
        rw [hvl] at hpm
        have : ∀ ps : List Nat, (∀ i ∈ ps, i < l.length) → HasAll Z s.heap (ps.map fun i => vl.getD i Value.none) (ps.map (itemD ∘ fun i => l.getD i noItem)) := by
          intro ps
          induction ps with
          | nil => intro _; exact .nil
          | cons i ps ih => intro hi; exact .cons (items_get hall (hi i (.head _))) (ih fun j hj => hi j (.tail _ hj))
        exact this _ fun i hi => List.mem_range.mp (hpm.perm.mem_iff.mp hi)
  obtain ⟨out, ho1, ho2, ho3, ho4⟩ := hout
  refine Calls.call_function_entry kind_sorted plain_sorted entry_sorted (args_sorted1 _) ?_
  unfold Builtin.«sorted»
  refine wpAny_bind (m := checkCount "sorted" 1 1 _) (wpAny_pure ?_)
  refine wpAny_bind (collect_list hl ?_ (by rw [sizeLine_eq]; omega))
  refine wpAny_bind (wpAny_newList ?_ (by rw [sizeLine_eq]; omega))
  have hsz : ((s.heap.push (seqObj "list" #[] 0)).update s.heap.objs.size (Obj.mapSeq (· ++ vl.toArray))).objs.size = s.heap.objs.size + 1 := by
    rw [Heap.size_update, size_push']
  have hoL : (((s.heap.push (seqObj "list" #[] 0)).update s.heap.objs.size (Obj.mapSeq (· ++ vl.toArray))).push (seqObj "list" vl.toArray 0)).get? (s.heap.objs.size + 1) = some (seqObj "list" vl.toArray 0) := by
    rw [← hsz]; exact Heap.get?_push_size _ rfl
  have keep : ∀ b o, s.heap.get? b = some o → (((s.heap.push (seqObj "list" #[] 0)).update s.heap.objs.size (Obj.mapSeq (· ++ vl.toArray))).push (seqObj "list" vl.toArray 0)).get? b = some o := fun b o q => by
    have hlt : b < s.heap.objs.size := Heap.lt_size q
    rw [Heap.get?_push_ne _ _ _ (by rw [hsz]; exact Nat.ne_of_lt (Nat.lt_succ_of_lt hlt)), Heap.get?_update_ne _ _ _ _ (Nat.ne_of_lt hlt), Heap.get?_push_ne _ _ _ (Nat.ne_of_lt hlt)]
    exact q
  show wpAny _ _ _ _ _ { s with heap := ((s.heap.push (seqObj "list" #[] 0)).update s.heap.objs.size (Obj.mapSeq (· ++ vl.toArray))).push (seqObj "list" vl.toArray 0) }
  rw [hsz]
  have nD : s.heap.get? (s.heap.objs.size + 1) = none := Heap.get?_none_of_le (Nat.le_succ _)
  refine wpAny_bind (wpAny_holding (wpAny_call_entry slot_list_sort ⟨_, hoL, rfl⟩ entry_list_sort ?body (args_list_sort _)))
  case body =>
    refine list_sort_own (out := out) hoL (by omega) ho1 (fun h2 h' k' => ?_) ho2 fun h' k' hd => ?_
    · have kk : Kept s.heap h' := fun b o e => k' b o (fun q => by rw [q, nD] at e; cases e) (keep b o e)
      have hall' := HasAll.keeps kk hall
      refine kind_items hall' (by omega) ⟨rfl, ?_⟩
      refine kasWp_run (N := vl.length) (lt := ordOf l) (fun i j C hi hj hC => ?_) _ (asks_sort (by omega)) ⟨rfl, ho3 h2⟩
      exact lt_item (by show A.units + 1 + 1 + _ < _; omega) (items_get hall' (by omega)) (items_get hall' (by omega)) hC
    · obtain ⟨e, hd⟩ := hd
      have kk : Kept s.heap h' := fun b o e => k' b o (fun q => by rw [q, nD] at e; cases e) (keep b o e)
      refine ⟨_, rfl, wpAny_pure ⟨_, rfl, hQ _ h' kk (Has.list ⟨_, hd, rfl, _, rfl⟩ (fun hm => by have := hz _ hm; rw [nD] at this; cases this) ?_)⟩⟩
      simpa using HasAll.keeps kk ho4
end
section
variable {prog : Program} {w : World} {K : Frag} {n : Nat} {c : Cx}
theorem ev_sorted {p pos : Pos} {e : Expr} {l : List Item} (h : EvW prog w K n c e (l.map itemD)) (h64 : l.length < 64) (hk : c.names.lookup ("sorted" : Str) = some .globalImplicit) (hg : nsIn K mainGlobals ("sorted" : Str) = some none)
    (he : ∀ env, starEach [e] env = [(false, eval e env)] := by intro _; rfl) : Ev prog w K n c (.Call (.Name ("sorted" : Str) p) [e] [] pos) (.list ((sortD l).map itemD)) := fun A env Z s rm f t => by
  refine wpAny_Call_NameR (name_blt (v := .builtin "sorted") f t.base hk hg (by decide +kernel) ?_ rfl rfl)
  rw [he env]
  refine callWith_builtin1 (wpAny_mono (h A env Z s rm f t) (fun v s₁ ⟨hv, k⟩ => ?_) fun _ _ q => q)
  obtain ⟨a, vs, rfl, hl, hall⟩ := hv
  refine call_sorted (by have := rm.units; omega) hl hall h64 (t.step k).zs fun D h' hk' hh => ⟨hh, kp_trans k ⟨h', s₁.toks, rfl, hk'⟩⟩
end
end
noncomputable section
open PySem PySem.W PySem.Calls PySem.Spec PyProof.Rows
set_option autoImplicit false
section
variable {prog : Program} {w : World} {n : Nat}

theorem spec_S_IFMT {m : Int} : FnSpec prog w (hd.heap_39 w.params) (n + 1) 28 [.int m] (.int (Builtin.bitAnd m 61440)) := by
  refine fn_spec (ps := [("mode" : Str)]) rfl rfl rfl rfl rfl rfl ?_ (by decide) rfl rfl rfl rfl rfl rfl rfl ?_
  · intro vals hv
    match vals, hv with
    | [v], _ => rfl
  · refine ex_cons_ret (ex_return (ev_bin (ev_name rfl) ev_int bin_and_int))
end
end
noncomputable section
open PySem PySem.W PySem.Calls PySem.Spec PyProof.Rows
set_option autoImplicit false
section
variable {prog : Program} {w : World} {n : Nat}

def coll (a b : Str) : Int := b2i (decide (b.cps.toList < a.cps.toList)) - b2i (decide (a.cps.toList < b.cps.toList))
theorem spec_strcoll {a b : Str} : FnSpec prog w (hd.heap_39 w.params) (n + 1) 75 [.str a, .str b] (.int (coll a b)) := by
  refine fn_spec (ps := [("a" : Str), ("b" : Str)]) rfl rfl rfl rfl rfl rfl ?_ (by decide) rfl rfl rfl rfl rfl rfl rfl ?_
  · intro vals hv
    match vals, hv with
    | [_, _], _ => rfl
  · exact ex_cons_ret (ex_return (ev_bin (ev_cmp (ev_name rfl) (ev_name rfl) cmp_gt_str) (ev_cmp (ev_name rfl) (ev_name rfl) cmp_lt_str) bin_sub_bool))

def below (folder path : Str) : Bool := (folder == ("" : Str) || coll path folder == 0) || (decide (coll (folder ++ ("/" : Str)) path < 0) && decide (coll path (folder ++ ("0" : Str)) < 0))
theorem spec_below {folder path : Str} (hsz : folder.length + 1 ≤ sizeLine) : FnSpec prog w (hd.heap_39 w.params) (n + 2) 193 [.str folder, .str path] (.bool (below folder path)) := by
  refine fn_spec (ps := [("folder" : Str), ("path" : Str)]) rfl rfl rfl rfl rfl rfl ?_ (by decide) rfl rfl rfl rfl rfl rfl rfl ?_
  · intro vals hv
    match vals, hv with
    | [_, _], _ => rfl
  · refine ex_if_ret (tr_or (tr_cmp (ev_name rfl) ev_str cmp_eq_str) (fun _ => tr_cmp (ev_call (evs_cons (ev_name rfl) (evs_cons (ev_name rfl) evs_nil)) spec_strcoll rfl rfl rfl) ev_int cmp_eq_int)) (fun hb => ?_) fun hb => ?_
    · have e : below folder path = true := by unfold below; rw [hb]; rfl
      rw [e]
      exact ex_cons_ret (ex_return ev_bool)
    · have e : below folder path = (decide (coll (folder ++ ("/" : Str)) path < 0) && decide (coll path (folder ++ ("0" : Str)) < 0)) := by unfold below; rw [hb]; rfl
      rw [e]
      refine ex_cons_ret (ex_return (ev_and (ev_cmp (ev_call (evs_cons (ev_bin (ev_name rfl) ev_str (bin_add_str ?_)) (evs_cons (ev_name rfl) evs_nil)) spec_strcoll rfl rfl rfl) ev_int cmp_lt_int) fun _ => ev_cmp (ev_call (evs_cons (ev_name rfl) (evs_cons (ev_bin (ev_name rfl) ev_str (bin_add_str ?_)) evs_nil)) spec_strcoll rfl rfl rfl) ev_int cmp_lt_int))
      · exact hsz
      · exact hsz
end
end
noncomputable section
open PySem PySem.W PySem.Calls PySem.Spec PyProof.Rows
set_option autoImplicit false
section
variable {prog : Program} {w : World} {n : Nat}

def fig (m : Int) (k : Nat) : Int := m / 8 ^ (2 - (k : Int)).toNat % 8
def spc (m : Int) (k : Nat) : Int := m / 2 ^ (11 - (k : Int)).toNat % 2
def execSigns (k : Nat) : Str := if k = 2 then "-xTt" else "-xSs"
def three (m : Int) (k : Nat) : Str := sign "-r" (fig m k / 4) ++ sign "-w" (fig m k / 2 % 2) ++ sign (execSigns k) (fig m k % 2 + 2 * spc m k)
def signs (m : Int) : Str := sign "?pc?d?b?-?l?s???" (m / 4096 % 16) ++ three m 0 ++ three m 1 ++ three m 2

def signsV (m : Int) : Nat → Vars
  | 0 => [(("text" : Str), .str (sign "?pc?d?b?-?l?s???" (m / 4096 % 16))), (("mode" : Str), .int m)]
  | 1 => [(("text" : Str), .str (sign "?pc?d?b?-?l?s???" (m / 4096 % 16) ++ three m 0)), (("mode" : Str), .int m)]
  | 2 => [(("text" : Str), .str (sign "?pc?d?b?-?l?s???" (m / 4096 % 16) ++ three m 0 ++ three m 1)), (("mode" : Str), .int m)]
  | _ => [(("text" : Str), .str (signs m)), (("mode" : Str), .int m)]
theorem sg1 (x : Int) : 0 ≤ x % 8 / 4 := by omega
theorem sg2 (x : Int) : x % 8 / 4 < ((2 : Nat) : Int) := by omega
theorem sg3 (x : Int) : x % 8 / 4 < 2 ^ 63 := by omega
theorem sg4 (x : Int) : 0 ≤ x / 2 % 2 := by omega
theorem sg5 (x : Int) : x / 2 % 2 < ((2 : Nat) : Int) := by omega
theorem sg6 (x : Int) : x / 2 % 2 < 2 ^ 63 := by omega
theorem sg7 (x y : Int) : 0 ≤ x % 2 + 2 * (y % 2) := by omega
theorem sg8 (x y : Int) : x % 2 + 2 * (y % 2) < ((4 : Nat) : Int) := by omega
theorem sg9 (x y : Int) : x % 2 + 2 * (y % 2) < 2 ^ 63 := by omega
set_option maxHeartbeats 1000000 in
theorem spec_signs {m : Int} : FnSpec prog w (hd.heap_39 w.params) (n + 1) 186 [.int m] (.str (signs m)) := by
  refine fn_spec (ps := [("mode" : Str)]) rfl rfl rfl rfl rfl rfl ?_ (by decide) rfl rfl rfl rfl rfl rfl rfl ?_
  · intro vals hv
    match vals, hv with
    | [_], _ => rfl
  · refine ex_cons (ex_assign (ev_sign ev_str (ev_bin (ev_bin (ev_name rfl) ev_int (bin_div (by decide) (by decide))) ev_int (bin_mod (by decide) (by decide))) (by omega) (by show _ < ((16 : Nat) : Int); omega) (by omega)) (.inl rfl) noOwn) ?_
    refine ex_cons (ex_for (itf_eq (It.f (it_range1 (m := 3) ev_int rfl rfl (by decide))) (show _ = [PyData.int 0, PyData.int 1, PyData.int 2] from rfl)) (loop_idx (signsV m) (fun _ => none) _ ?turn ex_nil)) (ex_cons_ret (ex_return (ev_name rfl)))
    intro i d hi
    have hi' : (i = 0 ∧ d = .int 0) ∨ (i = 1 ∧ d = .int 1) ∨ (i = 2 ∧ d = .int 2) := by
      match i, hi with
      | 0, hi => cases hi; exact .inl ⟨rfl, rfl⟩
      | 1, hi => cases hi; exact .inr (.inl ⟨rfl, rfl⟩)
      | 2, hi => cases hi; exact .inr (.inr ⟨rfl, rfl⟩)
    rcases hi' with ⟨rfl, rfl⟩ | ⟨rfl, rfl⟩ | ⟨rfl, rfl⟩
    all_goals
      refine ⟨_, tgt_name (.inl rfl), noOwn, ?_⟩
      refine ex_sub (ex_cons (ex_assign_pair (ev_bin (ev_bin (ev_name rfl) (ev_bin ev_int (ev_bin ev_int (ev_name rfl) bin_sub_int) (bin_pow_int (by decide) (by decide))) (bin_div (by decide) (by decide))) ev_int (bin_mod (by decide) (by decide))) (ev_bin (ev_bin (ev_name rfl) (ev_bin ev_int (ev_bin ev_int (ev_name rfl) bin_sub_int) (bin_pow_int (by decide) (by decide))) (bin_div (by decide) (by decide))) ev_int (bin_mod (by decide) (by decide))) rfl rfl rfl rfl (swapped_pair rfl rfl rfl)) (ex_cons (ex_iadd_str rfl (ev_bin (ev_bin (ev_sign ev_str (ev_bin (ev_name rfl) ev_int (bin_div (by decide) (by decide))) ?_ ?_ ?_) (ev_sign ev_str (ev_bin (ev_bin (ev_name rfl) ev_int (bin_div (by decide) (by decide))) ev_int (bin_mod (by decide) (by decide))) ?_ ?_ ?_) (bin_add_str ?_)) (ev_sign (ev_item_tuple (ev_tuple (evs_cons ev_str (evs_cons ev_str (evs_cons ev_str evs_nil))) (by decide)) (ev_name rfl) (by decide) rfl (by decide)) (ev_bin (ev_bin (ev_name rfl) ev_int (bin_mod (by decide) (by decide))) (ev_bin ev_int (ev_name rfl) (bin_mul_int ?_)) bin_add_int) ?_ ?_ ?_) (bin_add_str ?_)) (.inl rfl) noOwn ?_) ex_nil)) ?_
    all_goals first
      | exact sg1 _ | exact sg2 _ | exact sg3 _ | exact sg4 _ | exact sg5 _ | exact sg6 _ | exact sg7 _ _ | exact sg8 _ _ | exact sg9 _ _
      | exact .of_left (by decide)
      | exact List.forall_mem_cons.mpr ⟨rfl, List.forall_mem_cons.mpr ⟨rfl, List.forall_mem_nil _⟩⟩
      | (simp only [Str.length_append, sign_length, three, sizeLine_eq]; omega)
end
end
noncomputable section
open PySem PySem.W PySem.Calls PySem.Spec PyProof.Rows
set_option autoImplicit false
def kinds : List (Int × Str) := [(40960, "l"), (49152, "s"), (32768, "-"), (24576, "b"), (16384, "d"), (8192, "c"), (4096, "p")]
def rwx (k : Int) (sp : Int) (s S : Str) : List (List (Int × Str)) := [[(4 * k, "r")], [(2 * k, "w")], [(k + sp, s), (sp, S), (k, "x")]]
def rows : List (List (Int × Str)) := kinds :: (rwx 64 2048 "s" "S" ++ rwx 8 1024 "s" "S" ++ rwx 1 512 "t" "T")
def cellD (p : Int × Str) : PyData := .tuple [.int p.1, .str p.2]
def rowD (r : List (Int × Str)) : PyData := .tuple (r.map cellD)
def hit (m : Int) (i : Nat) (bit : Int) : Bool := if (i : Int) == 0 then Builtin.bitAnd m 61440 == bit else Builtin.bitAnd m bit == bit
def charOf (m : Int) (i : Nat) (row : List (Int × Str)) : Str := match row.find? (fun p => hit m i p.1) with | some p => p.2 | none => if (i : Int) == 0 then "?" else "-"
def chars (m : Int) : List Str := rows.mapIdx (charOf m)

theorem nat_and_pow : ∀ (k x : Nat), x &&& 2 ^ k = x / 2 ^ k % 2 * 2 ^ k
  | 0, x => by simp
  | k + 1, x => by
    have ih := nat_and_pow k (x / 2)
    have h1 := @Nat.and_div_two x (2 ^ (k + 1))
    have h2 := @Nat.and_mod_two_eq_one x (2 ^ (k + 1))
    have h3 : 2 ^ (k + 1) / 2 = 2 ^ k := by rw [Nat.pow_succ]; omega
    have h4 : 2 ^ (k + 1) % 2 = 0 := by rw [Nat.pow_succ]; omega
    rw [h3, ih, Nat.div_div_eq_div_mul, show 2 * 2 ^ k = 2 ^ (k + 1) by rw [Nat.pow_succ]; omega] at h1
    have h5 : (x &&& 2 ^ (k + 1)) % 2 = 0 := by
      rcases Nat.mod_two_eq_zero_or_one (x &&& 2 ^ (k + 1)) with q | q
      · exact q
      · have := (h2.mp q).2; omega
    have h6 : 2 ^ (k + 1) = 2 ^ k * 2 := Nat.pow_succ 2 k
    generalize x / 2 ^ (k + 1) % 2 = q at *
    generalize x &&& 2 ^ (k + 1) = z at *
    rw [h6, ← Nat.mul_assoc]
    omega
/-- a mask of one bit -/
theorem and_bit {m : Int} {k : Nat} {b : Int} (hb : b = ((2 ^ k : Nat) : Int)) : Builtin.bitAnd m b = m / b % 2 * b := by
  subst hb
  by_cases hx : 0 ≤ m
  · rw [bitAnd_pp hx (Int.natCast_nonneg _), Int.toNat_natCast, nat_and_pow]
    rw [Int.natCast_mul, Int.natCast_emod, Int.natCast_ediv, Int.toNat_of_nonneg hx]; rfl
  · rw [bitAnd_np hx (Int.natCast_nonneg _), Int.toNat_natCast, Nat.and_comm, nat_and_pow]
    have hy : 0 ≤ Builtin.bitNot m := bitNot_nonneg.mpr hx
    rw [Int.natCast_mul, Int.natCast_emod, Int.natCast_ediv, Int.toNat_of_nonneg hy]
    have e : m = -(Builtin.bitNot m) - 1 := by unfold Builtin.bitNot; omega
    generalize Builtin.bitNot m = y at *
    subst e
    have hp : (0 : Int) < ((2 ^ k : Nat) : Int) := by have := Nat.two_pow_pos k; omega
    generalize ((2 ^ k : Nat) : Int) = p at *
    have q1 := Int.mul_ediv_add_emod y p
    have q2 := Int.emod_nonneg y (Int.ne_of_gt hp)
    have q3 := Int.emod_lt_of_pos y hp
    have e2 : (-y - 1) / p = -(y / p) - 1 := by
      rw [show -y - 1 = (p - 1 - y % p) + p * (-(y / p) - 1) by rw [Int.mul_sub, Int.mul_neg]; omega, Int.add_mul_ediv_left _ _ (Int.ne_of_gt hp), Int.ediv_eq_zero_of_lt (by omega) (by omega)]
      omega
    rw [e2]
    generalize y / p = z
    rcases (by omega : z % 2 = 0 ∨ z % 2 = 1) with q | q
    · rw [show (-z - 1) % 2 = 1 by omega, show z % ((2 : Nat) : Int) = 0 by omega]; omega
    · rw [show (-z - 1) % 2 = 0 by omega, show z % ((2 : Nat) : Int) = 1 by omega]; omega
/-- a mask of two bits -/
theorem and_or {m : Int} {a b : Nat} (hab : a &&& b = 0) : Builtin.bitAnd m ((a + b : Nat) : Int) = Builtin.bitAnd m (a : Int) + Builtin.bitAnd m (b : Int) := by
  have dis : ∀ z : Nat, (z &&& a) ||| (z &&& b) = (z &&& a) + (z &&& b) := fun z => by
    have h := nat_or_add_and (z &&& a) (z &&& b)
    have : (z &&& a) &&& (z &&& b) = 0 := by
      apply Nat.eq_of_testBit_eq
      intro i
      have h1 : (a &&& b).testBit i = false := by rw [hab]; simp
      simp only [Nat.testBit_and, Nat.zero_testBit] at h1 ⊢
      cases z.testBit i <;> simp_all
    omega
  have hor : a + b = a ||| b := by have := nat_or_add_and a b; omega
  by_cases hx : 0 ≤ m
  · rw [bitAnd_pp hx (Int.natCast_nonneg _), bitAnd_pp hx (Int.natCast_nonneg _), bitAnd_pp hx (Int.natCast_nonneg _), Int.toNat_natCast, Int.toNat_natCast, Int.toNat_natCast, hor, Nat.and_or_distrib_left, dis, Int.natCast_add]
  · rw [bitAnd_np hx (Int.natCast_nonneg _), bitAnd_np hx (Int.natCast_nonneg _), bitAnd_np hx (Int.natCast_nonneg _), Int.toNat_natCast, Int.toNat_natCast, Int.toNat_natCast, hor, Nat.and_comm, Nat.and_or_distrib_left, dis, Int.natCast_add, Nat.and_comm _ a, Nat.and_comm _ b, ← hor, Int.natCast_add]
    omega

theorem and_kind (m : Int) : Builtin.bitAnd m 61440 = 4096 * (m / 4096 % 16) := by
  have e1 : Builtin.bitAnd m 12288 = Builtin.bitAnd m 4096 + Builtin.bitAnd m 8192 := and_or (m := m) (a := 4096) (b := 8192) (by decide)
  have e2 : Builtin.bitAnd m 28672 = Builtin.bitAnd m 12288 + Builtin.bitAnd m 16384 := and_or (m := m) (a := 12288) (b := 16384) (by decide)
  have e3 : Builtin.bitAnd m 61440 = Builtin.bitAnd m 28672 + Builtin.bitAnd m 32768 := and_or (m := m) (a := 28672) (b := 32768) (by decide)
  have b1 := and_bit (m := m) (k := 12) (b := 4096) rfl
  have b2 := and_bit (m := m) (k := 13) (b := 8192) rfl
  have b3 := and_bit (m := m) (k := 14) (b := 16384) rfl
  have b4 := and_bit (m := m) (k := 15) (b := 32768) rfl
  have : Builtin.bitAnd m 61440 = m / 4096 % 2 * 4096 + m / 8192 % 2 * 8192 + m / 16384 % 2 * 16384 + m / 32768 % 2 * 32768 := by
    rw [← b1, ← b2, ← b3, ← b4, ← e1, ← e2]; exact e3
  rw [this]
  omega

def c1 (b : Int) (x y : Str) : Str := if b = 1 then x else y
theorem one_row {m : Int} {i k : Nat} {b : Int} {c : Str} (hi : ((i : Int) == 0) = false) (hb : b = ((2 ^ k : Nat) : Int)) : charOf m i [(b, c)] = if m / b % 2 = 1 then c else "-" := by
  unfold charOf hit
  have hb0 : (0 : Int) < b := by have := Nat.two_pow_pos k; omega
  simp only [hi, List.find?_cons, List.find?_nil, and_bit hb]
  rcases (by omega : m / b % 2 = 0 ∨ m / b % 2 = 1) with q | q
  · rw [q, show ((0 : Int) * b == b) = false by rw [beq_eq_false_iff_ne]; omega]; rfl
  · rw [q, show ((1 : Int) * b == b) = true by rw [beq_iff_eq]; omega]; rfl
theorem three_row {m : Int} {i k j : Nat} {b d : Int} {x y z : Str} (hi : ((i : Int) == 0) = false) (hb : b = ((2 ^ k : Nat) : Int)) (hd : d = ((2 ^ j : Nat) : Int)) (hne : 2 ^ k &&& 2 ^ j = 0) (hkj : k < j) :
    charOf m i [(b + d, x), (d, y), (b, z)] = if m / d % 2 = 1 then (if m / b % 2 = 1 then x else y) else if m / b % 2 = 1 then z else "-" := by
  have e := and_or (m := m) hne
  rw [Int.natCast_add, ← hb, ← hd, and_bit hb, and_bit hd] at e
  have hlt : b < d := by have := Nat.pow_lt_pow_right (a := 2) (by omega) hkj; omega
  have hb0 : (0 : Int) < b := by have := Nat.two_pow_pos k; omega
  unfold charOf hit
  simp only [hi, List.find?_cons, List.find?_nil, e, and_bit hb, and_bit hd]
  rcases (by omega : m / b % 2 = 0 ∨ m / b % 2 = 1) with q | q <;> rcases (by omega : m / d % 2 = 0 ∨ m / d % 2 = 1) with q' | q' <;> rw [q, q']
  · rw [show ((0 : Int) * b + 0 * d == b + d) = false by rw [beq_eq_false_iff_ne]; omega, show ((0 : Int) * d == d) = false by rw [beq_eq_false_iff_ne]; omega, show ((0 : Int) * b == b) = false by rw [beq_eq_false_iff_ne]; omega]; rfl
  · rw [show ((0 : Int) * b + 1 * d == b + d) = false by rw [beq_eq_false_iff_ne]; omega, show ((1 : Int) * d == d) = true by rw [beq_iff_eq]; omega]; rfl
  · rw [show ((1 : Int) * b + 0 * d == b + d) = false by rw [beq_eq_false_iff_ne]; omega, show ((0 : Int) * d == d) = false by rw [beq_eq_false_iff_ne]; omega, show ((1 : Int) * b == b) = true by rw [beq_iff_eq]; omega]; rfl
  · rw [show ((1 : Int) * b + 1 * d == b + d) = true by rw [beq_iff_eq]; omega]; rfl
theorem kind_row {m : Int} : charOf m 0 kinds = sign "?pc?d?b?-?l?s???" (m / 4096 % 16) := by
  unfold charOf hit
  simp only [Int.natCast_zero, beq_self_eq_true, and_kind, if_true]
  have h1 : 0 ≤ m / 4096 % 16 := by omega
  have h2 : m / 4096 % 16 < 16 := by omega
  generalize m / 4096 % 16 = q at *
  obtain ⟨n, rfl⟩ := Int.eq_ofNat_of_zero_le h1
  have h3 : n < 16 := Int.ofNat_lt.mp h2
  clear h1 h2
  revert n
  decide +kernel

theorem sign_two {x : Str} {k : Int} {a b : Str} (hk : k = 0 ∨ k = 1) (h0 : sign x 0 = a) (h1 : sign x 1 = b) : sign x k = if k = 1 then b else a := by
  rcases hk with rfl | rfl
  · rw [h0]; rfl
  · rw [h1]; rfl
theorem sign_four {x : Str} {k s : Int} {a b c d : Str} (hk : k = 0 ∨ k = 1) (hs : s = 0 ∨ s = 1) (h0 : sign x 0 = a) (h1 : sign x 1 = b) (h2 : sign x 2 = c) (h3 : sign x 3 = d) : sign x (k + 2 * s) = if s = 1 then (if k = 1 then d else c) else if k = 1 then b else a := by
  rcases hk with rfl | rfl <;> rcases hs with rfl | rfl
  · exact h0
  · exact h2
  · exact h1
  · exact h3
theorem chars_eq (m : Int) : chars m = [sign "?pc?d?b?-?l?s???" (m / 4096 % 16),
    sign "-r" (fig m 0 / 4), sign "-w" (fig m 0 / 2 % 2), sign (execSigns 0) (fig m 0 % 2 + 2 * spc m 0),
    sign "-r" (fig m 1 / 4), sign "-w" (fig m 1 / 2 % 2), sign (execSigns 1) (fig m 1 % 2 + 2 * spc m 1),
    sign "-r" (fig m 2 / 4), sign "-w" (fig m 2 / 2 % 2), sign (execSigns 2) (fig m 2 % 2 + 2 * spc m 2)] := by
  show [charOf m 0 kinds, charOf m 1 [(256, "r")], charOf m 2 [(128, "w")], charOf m 3 [(64 + 2048, "s"), (2048, "S"), (64, "x")],
    charOf m 4 [(32, "r")], charOf m 5 [(16, "w")], charOf m 6 [(8 + 1024, "s"), (1024, "S"), (8, "x")],
    charOf m 7 [(4, "r")], charOf m 8 [(2, "w")], charOf m 9 [(1 + 512, "t"), (512, "T"), (1, "x")]] = _
  have f0 : fig m 0 = m / 64 % 8 := rfl
  have f1 : fig m 1 = m / 8 % 8 := rfl
  have f2 : fig m 2 = m / 1 % 8 := rfl
  have s0 : spc m 0 = m / 2048 % 2 := rfl
  have s1 : spc m 1 = m / 1024 % 2 := rfl
  have s2 : spc m 2 = m / 512 % 2 := rfl
  rw [kind_row, one_row (k := 8) (b := 256) rfl rfl, one_row (k := 7) (b := 128) rfl rfl, three_row (k := 6) (j := 11) (b := 64) (d := 2048) rfl rfl rfl (by decide) (by decide), one_row (k := 5) (b := 32) rfl rfl, one_row (k := 4) (b := 16) rfl rfl, three_row (k := 3) (j := 10) (b := 8) (d := 1024) rfl rfl rfl (by decide) (by decide), one_row (k := 2) (b := 4) rfl rfl, one_row (k := 1) (b := 2) rfl rfl, three_row (k := 0) (j := 9) (b := 1) (d := 512) rfl rfl rfl (by decide) (by decide)]
  have r2 : ∀ x : Int, x % 8 / 4 = 0 ∨ x % 8 / 4 = 1 := fun x => by omega
  have w2 : ∀ x : Int, x / 2 % 2 = 0 ∨ x / 2 % 2 = 1 := fun x => by omega
  have x2 : ∀ x : Int, x % 2 = 0 ∨ x % 2 = 1 := fun x => by omega
  rw [f0, f1, f2, s0, s1, s2]
  rw [sign_two (a := "-") (b := "r") (r2 (m / 64)) rfl rfl, sign_two (a := "-") (b := "r") (r2 (m / 8)) rfl rfl, sign_two (a := "-") (b := "r") (r2 (m / 1)) rfl rfl,
    sign_two (a := "-") (b := "w") (w2 (m / 64 % 8)) rfl rfl, sign_two (a := "-") (b := "w") (w2 (m / 8 % 8)) rfl rfl, sign_two (a := "-") (b := "w") (w2 (m / 1 % 8)) rfl rfl,
    sign_four (a := "-") (b := "x") (c := "S") (d := "s") (x2 (m / 64 % 8)) (x2 _) rfl rfl rfl rfl, sign_four (a := "-") (b := "x") (c := "S") (d := "s") (x2 (m / 8 % 8)) (x2 _) rfl rfl rfl rfl, sign_four (a := "-") (b := "x") (c := "T") (d := "t") (x2 (m / 1 % 8)) (x2 _) rfl rfl rfl rfl]
  have q4 : ∀ y : Int, y % 8 / 4 = y / 4 % 2 := fun y => by omega
  have q2 : ∀ y : Int, y % 8 / 2 % 2 = y / 2 % 2 := fun y => by omega
  have q1 : ∀ y : Int, y % 8 % 2 = y % 2 := fun y => by omega
  have d : ∀ a b : Int, 0 ≤ a → m / a / b = m / (a * b) := fun a b h => Int.ediv_ediv_of_nonneg h
  rw [q4, q2, q1, q4, q2, q1, q4, q2, q1, d 64 4 (by decide), d 64 2 (by decide), d 8 4 (by decide), d 8 2 (by decide), d 1 4 (by decide), d 1 2 (by decide)]
  rfl
theorem chars_join (m : Int) : Txt.join "" (chars m) = signs m := by
  rw [chars_eq]
  unfold signs three
  generalize sign "?pc?d?b?-?l?s???" (m / 4096 % 16) = a
  generalize sign "-r" (fig m 0 / 4) = a0
  generalize sign "-w" (fig m 0 / 2 % 2) = a1
  generalize sign (execSigns 0) (fig m 0 % 2 + 2 * spc m 0) = a2
  generalize sign "-r" (fig m 1 / 4) = a3
  generalize sign "-w" (fig m 1 / 2 % 2) = a4
  generalize sign (execSigns 1) (fig m 1 % 2 + 2 * spc m 1) = a5
  generalize sign "-r" (fig m 2 / 4) = a6
  generalize sign "-w" (fig m 2 / 2 % 2) = a7
  generalize sign (execSigns 2) (fig m 2 % 2 + 2 * spc m 2) = a8
  show Str.mk (((((((((a.cps ++ #[] ++ a0.cps) ++ #[] ++ a1.cps) ++ #[] ++ a2.cps) ++ #[] ++ a3.cps) ++ #[] ++ a4.cps) ++ #[] ++ a5.cps) ++ #[] ++ a6.cps) ++ #[] ++ a7.cps) ++ #[] ++ a8.cps) = Str.mk (((a.cps ++ ((a0.cps ++ a1.cps) ++ a2.cps)) ++ ((a3.cps ++ a4.cps) ++ a5.cps)) ++ ((a6.cps ++ a7.cps) ++ a8.cps))
  simp only [Array.append_empty, Array.append_assoc]
theorem chars_ok (m : Int) : JoinOk "" (chars m) = true := by
  rw [chars_eq]
  rfl
end
noncomputable section
open PySem PySem.W PySem.Calls PySem.Spec PyProof.Rows
set_option autoImplicit false
section
variable {prog : Program} {w : World} {n : Nat}

theorem enums_get {l : List (List (Int × Str))} {i : Nat} {d : PyData} (h : (enums (l.map rowD))[i]? = some d) : ∃ row, l[i]? = some row ∧ d = .tuple [.int i, rowD row] := by
  unfold enums at h
  rw [List.getElem?_mapIdx, List.getElem?_map] at h
  cases hl : l[i]? with
  | none => rw [hl] at h; cases h
  | some row => rw [hl] at h; cases h; exact ⟨row, rfl, rfl⟩
theorem table_data : readK (hd.heap_39 w.params) 40 (.ref 61) = some (.tuple (rows.map rowD)) := by rfl

def permV (m : Int) : Vars := [(("mode" : Str), .int m)]
def permO (m : Int) (i : Nat) : Ow := some (("perm" : Str), ((chars m).take i).map .str)
theorem chars_take {m : Int} {i : Nat} {row : List (Int × Str)} (h : rows[i]? = some row) : ((chars m).take (i + 1)).map PyData.str = ((chars m).take i).map PyData.str ++ [PyData.str (charOf m i row)] := by
  rw [List.take_add_one, List.map_append]
  unfold chars
  rw [List.getElem?_mapIdx, h]; rfl
theorem chars_length (m : Int) : (chars m).length = 10 := rfl
set_option maxHeartbeats 1000000 in
theorem spec_filemode {m : Int} : FnSpec prog w (hd.heap_39 w.params) (n + 2) 68 [.int m] (.str (signs m)) := by
  rw [← chars_join]
  refine fn_spec (ps := [("mode" : Str)]) rfl rfl rfl rfl rfl rfl ?_ (by decide) rfl rfl rfl rfl rfl rfl rfl ?_
  · intro vals hv
    match vals, hv with
    | [_], _ => rfl
  · refine ex_cons (ex_assign_own evs_nil (.inl rfl) rfl rfl (by decide)) ?_
    refine ex_cons (ex_for (itf_enum_tuple (ev_glob rfl rfl (readK_has table_data)) rfl rfl) (loop_idx (fun _ => permV m) (permO m) _ ?turn ex_nil)) (ex_cons_ret (ex_return (ev_join ev_str (ev_own (ds := (chars m).map .str) ?_) ?_)))
    · intro i d hi
      obtain ⟨row, hrow, rfl⟩ := enums_get hi
      have hlen : i < 10 := by
        have := (List.getElem?_eq_some_iff.mp hrow).1; exact this
      refine ⟨_, tgt_pair (.inl rfl) (.inl rfl) rfl, fun x l q => by cases q; rfl, ?_⟩
      refine ex_sub (v := [(("index" : Str), .int i), (("table" : Str), rowD row)] ++ permV m) (ex_one (ex_for (It.f (it_tuple (ev_name rfl))) (show LoopO _ _ _ _ _ _ _ _ (row.map cellD) _ _ _ from ?_))) (List.forall_mem_cons.mpr ⟨rfl, List.forall_mem_nil _⟩)
      have e : permO m (i + 1) = some (("perm" : Str), ((chars m).take i).map PyData.str ++ [((row.find? (fun p => hit m i p.1)).map fun a => PyData.str a.2).getD (if (i : Int) == 0 then PyData.str "?" else PyData.str "-")]) := by
        unfold permO
        rw [chars_take hrow]
        unfold charOf
        cases row.find? (fun p => hit m i p.1) with
        | some a => rfl
        | none => cases ((i : Int) == 0) <;> rfl
      rw [e]
      have hsz : (((chars m).take i).map PyData.str).length ≤ sizeLine := by
        rw [List.length_map, List.length_take, chars_length, sizeLine_eq]; omega
      show LoopO _ _ _ _ _ _ _ _ (row.map cellD) _ (some (("perm" : Str), ((chars m).take i).map .str)) _
      refine loop_pick cellD (fun p => hit m i p.1) (fun a => .str a.2) _ row (fun a ha => ?_) ?_
      · refine ⟨_, tgt_pair (.inl rfl) (.inl rfl) rfl, rfl, fun hf => ?_, fun hf => ?_⟩
        · refine ex_sub (v := [(("bit" : Str), .int a.1), (("char" : Str), .str a.2), (("index" : Str), .int i), (("table" : Str), rowD row)] ++ permV m) (ex_one (ex_if (tr_cmp (ev_name rfl) ev_int cmp_eq_int) (fun hb => ?_) fun hb => ?_)) (List.forall_mem_cons.mpr ⟨rfl, List.forall_mem_cons.mpr ⟨rfl, List.forall_mem_cons.mpr ⟨rfl, List.forall_mem_nil _⟩⟩⟩)
          · unfold hit at hf; rw [hb] at hf
            exact ex_one (ex_if (tr_cmp (ev_call (evs_cons (ev_name rfl) evs_nil) spec_S_IFMT rfl rfl rfl) (ev_name rfl) cmp_eq_int) (fun q => by rw [show (Builtin.bitAnd m 61440 == a.1) = false from hf] at q; cases q) fun _ => ex_nil)
          · unfold hit at hf; rw [hb] at hf
            exact ex_one (ex_if (tr_cmp (ev_bin (ev_name rfl) (ev_name rfl) bin_and_int) (ev_name rfl) cmp_eq_int) (fun q => by rw [show (Builtin.bitAnd m a.1 == a.1) = false from hf] at q; cases q) fun _ => ex_nil)
        · refine ex_sub_brk (v := [(("bit" : Str), .int a.1), (("char" : Str), .str a.2), (("index" : Str), .int i), (("table" : Str), rowD row)] ++ permV m) (ex_one (ex_if (tr_cmp (ev_name rfl) ev_int cmp_eq_int) (fun hb => ?_) fun hb => ?_)) (List.forall_mem_cons.mpr ⟨rfl, List.forall_mem_cons.mpr ⟨rfl, List.forall_mem_cons.mpr ⟨rfl, List.forall_mem_nil _⟩⟩⟩)
          · unfold hit at hf; rw [hb] at hf
            exact ex_one (ex_if (tr_cmp (ev_call (evs_cons (ev_name rfl) evs_nil) spec_S_IFMT rfl rfl rfl) (ev_name rfl) cmp_eq_int) (fun q => ex_cons (ex_append (ev_name rfl) rfl hsz) (ex_one ex_break)) fun q => by rw [show (Builtin.bitAnd m 61440 == a.1) = true from hf] at q; cases q)
          · unfold hit at hf; rw [hb] at hf
            exact ex_one (ex_if (tr_cmp (ev_bin (ev_name rfl) (ev_name rfl) bin_and_int) (ev_name rfl) cmp_eq_int) (fun q => ex_cons (ex_append (ev_name rfl) rfl hsz) (ex_one ex_break)) fun q => by rw [show (Builtin.bitAnd m a.1 == a.1) = true from hf] at q; cases q)
      · refine ex_one (ex_if (tr_cmp (ev_name rfl) ev_int cmp_eq_int) (fun hb => ?_) fun hb => ?_)
        · rw [hb]; exact ex_one (ex_append ev_str rfl hsz)
        · rw [hb]; exact ex_one (ex_append ev_str rfl hsz)
    · rfl
    · exact chars_ok m
end
end
noncomputable section
open PySem PySem.W PySem.Calls PySem.Spec PyProof.Rows
set_option autoImplicit false
section
variable {prog : Program} {w : World} {n : Nat}

theorem spec_fspath {x : Str} : FnSpec prog w (hd.heap_39 w.params) (n + 1) 148 [.str x] (.str x) := by
  refine fn_spec (ps := [("path" : Str)]) rfl rfl rfl rfl rfl rfl ?_ (by decide) rfl rfl rfl rfl rfl rfl rfl ?_
  · intro vals hv
    match vals, hv with
    | [_], _ => rfl
  · exact ex_fspath rfl rfl rfl rfl rfl rfl rfl rfl rfl rfl rfl rfl
theorem spec_get_sep {x : Str} : FnSpec prog w (hd.heap_39 w.params) (n + 1) 162 [.str x] (.str "/") := by
  refine fn_spec (ps := [("path" : Str)]) rfl rfl rfl rfl rfl rfl ?_ (by decide) rfl rfl rfl rfl rfl rfl rfl ?_
  · intro vals hv
    match vals, hv with
    | [_], _ => rfl
  · exact ex_cons_ret (ex_if (tr_value (ev_isbytes (ev_name rfl) rfl rfl rfl rfl) truth_bool) (fun q => nomatch q) fun _ => ex_cons_ret (ex_return ev_str))
end
end
noncomputable section
open PySem PySem.W PySem.Calls PySem.Spec PyProof.Rows
set_option autoImplicit false
section
variable {prog : Program} {w : World} {n : Nat}

def joinP (a b : Str) : Str := if (Txt.startswith b "/" || !((a.length : Int) != 0)) = true then b else if Txt.endswith a "/" = true then a ++ b else a ++ (("/" : Str) ++ b)
set_option maxHeartbeats 1000000 in
theorem spec_join {a b : Str} (hsz : a.length + b.length + 1 ≤ sizeLine) : FnSpec prog w (hd.heap_39 w.params) (n + 2) 169 [.str a, .str b] (.str (joinP a b)) := by
  refine fn_star (p1 := ("a" : Str)) (p2 := ("p" : Str)) rfl rfl rfl rfl rfl (fun v1 v2 => rfl) (by decide) rfl rfl rfl rfl rfl rfl rfl ?_
  refine ex_cons (ex_assign (ev_call (evs_cons (ev_name rfl) evs_nil) spec_fspath rfl rfl rfl) (.inl rfl) noOwn) ?_
  refine ex_cons (ex_assign (ev_call (evs_cons (ev_name rfl) evs_nil) spec_get_sep rfl rfl rfl) (.inl rfl) noOwn) ?_
  refine ex_cons (ex_assign (ev_name rfl) (.inl rfl) noOwn) ?_
  refine ex_cons (ex_try_next (ex_one (ex_for (It.f (it_tuple (ev_name rfl))) (LoopO.next (v' := [(("path" : Str), .str (joinP a b))]) (ow' := none) (tgt_name (.inl rfl)) noOwn ?_ (LoopO.nil ex_nil))))) (ex_cons_ret (ex_return (ev_name rfl)))
  refine ex_cons (ex_assign (ev_call (evs_cons (ev_name rfl) evs_nil) spec_fspath rfl rfl rfl) (.inl rfl) noOwn) ?_
  refine ex_one (ex_if (tr_or (tr_value (ev_startswith (ev_name rfl) (ev_name rfl)) truth_bool) fun _ => tr_not (tr_value (ev_name rfl) (truth_str (by omega)))) (fun hb => ?_) fun hb => ?_)
  · have e : joinP a b = b := by unfold joinP; rw [if_pos hb]
    rw [e]
    exact ex_sub (ex_one (ex_assign (ev_name rfl) (.inl rfl) noOwn)) (List.forall_mem_cons.mpr ⟨rfl, List.forall_mem_nil _⟩)
  · refine ex_one (ex_if (tr_value (ev_endswith (ev_name rfl) (ev_name rfl)) truth_bool) (fun hc => ?_) fun hc => ?_)
    · have e : joinP a b = a ++ b := by unfold joinP; rw [if_neg (by rw [hb]; decide), if_pos hc]
      rw [e]
      exact ex_sub (ex_one (ex_iadd_str rfl (ev_name rfl) (.inl rfl) noOwn (by omega))) (List.forall_mem_cons.mpr ⟨rfl, List.forall_mem_nil _⟩)
    · have e : joinP a b = a ++ (("/" : Str) ++ b) := by unfold joinP; rw [if_neg (by rw [hb]; decide), if_neg (by rw [hc]; decide)]
      rw [e]
      have h1 : (("/" : Str) ++ b).length = 1 + b.length := Str.length_append _ _
      exact ex_sub (ex_one (ex_iadd_str rfl (ev_bin (ev_name rfl) (ev_name rfl) (bin_add_str (by show 1 + b.length ≤ sizeLine; omega))) (.inl rfl) noOwn (by rw [h1]; omega))) (List.forall_mem_cons.mpr ⟨rfl, List.forall_mem_nil _⟩)
end
end
noncomputable section
open PySem PySem.W PySem.Calls PySem.Spec PyProof.Rows
set_option autoImplicit false
def fnames : List Str := ["a", "a-", "a0", "a."]
def nameAt (k : Int) : Str := fnames.getD k.toNat ""
abbrev File := Str × Int
def fileD (p : File) : PyData := .tuple [.str p.1, .int p.2]
def pathOf (fs : List File) (x : Int) : Str := joinP (fs.getD (x % (fs.length : Int)).toNat ("", 0)).1 (nameAt (x / (fs.length : Int) % 4))
def fstep (fs : List File) (x : Int) : List File := if pathOf fs x ∈ fs.map (·.1) then fs else fs ++ [(pathOf fs x, x / (fs.length : Int) / 4)]
def filesAll (xs : List Int) : List File := xs.foldl fstep [("", 0)]
def filesOf (xs : List Int) : List File := (filesAll xs).drop 1
theorem fileD_inj : ∀ a b : File, fileD a = fileD b → a = b := fun ⟨a, b⟩ ⟨c, d⟩ q => by
  unfold fileD at q; injection q with q; injection q with q1 q; injection q with q2 _; cases q1; cases q2; rfl
theorem nameAt_len (k : Int) : (nameAt k).length ≤ 2 := by
  unfold nameAt fnames
  match k.toNat with
  | 0 => decide
  | 1 => decide
  | 2 => decide
  | 3 => decide
  | n + 4 => exact Nat.zero_le _
theorem nameAt_ok (k : Int) : PyData.strOk (nameAt k) = true := by
  unfold nameAt fnames
  match k.toNat with
  | 0 => decide +kernel
  | 1 => decide +kernel
  | 2 => decide +kernel
  | 3 => decide +kernel
  | n + 4 => show PyData.strOk "" = true; decide +kernel
theorem strOk_append {a b : Str} (ha : PyData.strOk a = true) (hb : PyData.strOk b = true) : PyData.strOk (a ++ b) = true := by
  unfold PyData.strOk at *
  rw [Str.cps_append, Array.all_append, ha, hb]; rfl
theorem joinP_len (a b : Str) : (joinP a b).length ≤ a.length + b.length + 1 := by
  unfold joinP
  split
  · omega
  · split
    · rw [Str.length_append]; omega
    · rw [Str.length_append, Str.length_append, show ("/" : Str).length = 1 from rfl]; omega
theorem joinP_ok {a b : Str} (ha : PyData.strOk a = true) (hb : PyData.strOk b = true) : PyData.strOk (joinP a b) = true := by
  unfold joinP
  split
  · exact hb
  · split
    · exact strOk_append ha hb
    · exact strOk_append ha (strOk_append (by decide +kernel) hb)
def FilesP (r : List Int) (fs : List File) : Prop := fs ≠ [] ∧ fs.length + r.length ≤ 5 ∧ ∀ f ∈ fs, f.1.length + 3 * r.length ≤ 12 ∧ PyData.strOk f.1 = true
theorem pick_mem {fs : List File} (h : fs ≠ []) (x : Int) : 0 ≤ x % (fs.length : Int) ∧ x % (fs.length : Int) < (fs.length : Int) ∧ fs[(x % (fs.length : Int)).toNat]? = some (fs.getD (x % (fs.length : Int)).toNat ("", 0)) ∧ fs.getD (x % (fs.length : Int)).toNat ("", 0) ∈ fs := by
  have h0 : 0 < (fs.length : Int) := by have := List.length_pos_iff.mpr h; omega
  have h1 := Int.emod_nonneg x (Int.ne_of_gt h0)
  have h2 := Int.emod_lt_of_pos x h0
  have h3 : (x % (fs.length : Int)).toNat < fs.length := by omega
  refine ⟨h1, h2, ?_, ?_⟩
  · rw [List.getElem?_eq_getElem h3, List.getD_eq_getElem?_getD, List.getElem?_eq_getElem h3]; rfl
  · rw [List.getD_eq_getElem?_getD, List.getElem?_eq_getElem h3]; exact List.getElem_mem h3
theorem filesP_step {x : Int} {r : List Int} {fs : List File} (h : FilesP (x :: r) fs) : FilesP r (fstep fs x) := by
  obtain ⟨h0, h1, h2⟩ := h
  rw [List.length_cons] at h1
  unfold fstep
  split
  · refine ⟨h0, by omega, fun f hf => ?_⟩
    have := h2 f hf
    rw [List.length_cons] at this
    exact ⟨by omega, this.2⟩
  · refine ⟨by simp, by rw [List.length_append]; show fs.length + 1 + _ ≤ _; omega, fun f hf => ?_⟩
    rcases List.mem_append.mp hf with hf | hf
    · have := h2 f hf
      rw [List.length_cons] at this
      exact ⟨by omega, this.2⟩
    · rw [List.mem_singleton] at hf
      subst hf
      have hm := h2 _ (pick_mem h0 x).2.2.2
      rw [List.length_cons] at hm
      have hj := joinP_len (fs.getD (x % (fs.length : Int)).toNat ("", 0)).1 (nameAt (x / (fs.length : Int) % 4))
      have hn := nameAt_len (x / (fs.length : Int) % 4)
      exact ⟨by show (pathOf fs x).length + _ ≤ _; unfold pathOf; omega, joinP_ok hm.2 (nameAt_ok _)⟩
theorem filesP_start {xs : List Int} (h : xs.length ≤ 4) : FilesP xs [("", 0)] := by
  refine ⟨by simp, by show 1 + _ ≤ _; omega, fun f hf => ?_⟩
  rw [List.mem_singleton] at hf; subst hf
  exact ⟨by show 0 + _ ≤ _; omega, by decide +kernel⟩

section
variable {prog : Program} {w : World} {n : Nat}
theorem tup4 (k : Int) (h0 : 0 ≤ k) (h4 : k < 4) : ([PyData.str "a", PyData.str "a-", PyData.str "a0", PyData.str "a."])[k.toNat]? = some (PyData.str (nameAt k)) := by
  rcases (by omega : k = 0 ∨ k = 1 ∨ k = 2 ∨ k = 3) with rfl | rfl | rfl | rfl <;> rfl
theorem e4 (x : Int) : 0 ≤ x % 4 ∧ x % 4 < 4 ∧ x % 4 < 2 ^ 63 := by omega
set_option maxHeartbeats 1000000 in
theorem spec_files {xs : List Int} (hx : xs.length ≤ 4) : FnSpec prog w (hd.heap_39 w.params) (n + 3) 179 [.list (xs.map .int)] (.list ((filesOf xs).map fileD)) := by
  refine fn_spec (ps := [("numbers" : Str)]) rfl rfl rfl rfl rfl rfl ?_ (by decide) rfl rfl rfl rfl rfl rfl rfl ?_
  · intro vals hv
    match vals, hv with
    | [_], _ => rfl
  · refine ex_cons (ex_assign_own (ds := ([((""  : Str), (0 : Int))] : List File).map fileD) (evs_cons (ev_tuple (ds := [PyData.str "", PyData.int 0]) (evs_cons ev_str (evs_cons ev_int evs_nil)) (by decide)) evs_nil) (.inl rfl) rfl rfl (by decide)) ?_
    refine ex_cons (v := []) (ow := some (("files" : Str), (filesAll xs).map fileD)) (ex1_sub (ex_for (It.f (it_list (ev_name rfl))) (loop_fold .int (fun _ => [(("numbers" : Str), .list (xs.map .int))]) (fun fs => some (("files" : Str), fs.map fileD)) fstep FilesP ?turn xs [("", 0)] (filesP_start hx) fun _ => ex_nil)) (List.forall_mem_nil _)) ?ret
    case ret =>
      have hlen : (filesAll xs).length ≤ 5 := by
        have : ∀ (r : List Int) (fs : List File), FilesP r fs → FilesP [] (r.foldl fstep fs) := by
          intro r
          induction r with
          | nil => intro fs h; exact h
          | cons x r ih => intro fs h; exact ih _ (filesP_step h)
        have := (this xs _ (filesP_start hx)).2.1
        unfold filesAll; simpa using this
      refine ex_cons_ret (ex_return (ev_eq (ev_from (b := 1) (ev_own rfl) ev_int (by rw [List.length_map, sizeLine_eq]; omega)) ?_))
      unfold filesOf
      rw [List.map_drop]
    case turn =>
      intro x r fs hp
      refine ⟨filesP_step hp, _, tgt_name (.inl rfl), fun y l q => by cases q; rfl, ?_⟩
      obtain ⟨h0, h1, h2⟩ := hp
      rw [List.length_cons] at h1
      have hl : (fs.map fileD).length = fs.length := List.length_map _
      have hpos : 0 < fs.length := List.length_pos_iff.mpr h0
      obtain ⟨i0, i1, i2, i3⟩ := pick_mem h0 x
      have hm := h2 _ i3
      rw [List.length_cons] at hm
      have hn := nameAt_len (x / (fs.length : Int) % 4)
      have hlenE : ∀ {c : Cx} {p pos pp : Pos}, c.own = some (("files" : Str), fs.map fileD) → c.names.lookup ("len" : Str) = some .globalImplicit → Ev prog w (hd.heap_39 w.params) (n + 2) c (.Call (.Name ("len" : Str) p) [.Name ("files" : Str) pp] [] pos) (.int (fs.length : Int)) := fun {c p pos pp} ho hk => by
        have := ev_len (prog := prog) (w := w) (K := hd.heap_39 w.params) (n := n + 2) (c := c) (p := p) (pos := pos) (e := .Name ("files" : Str) pp) (ds := fs.map fileD) (ev_own ho) hk rfl (by rw [hl]; omega)
        rw [hl] at this; exact this
      refine ex_cons (ex_assign (d := .int (x / (fs.length : Int))) (ev_bin (ev_name rfl) (hlenE rfl rfl) (bin_div (by omega) (by omega))) (.inl rfl) (fun y l q => by cases q; rfl)) ?_
      refine ex_cons (ex_assign (d := .str (pathOf fs x)) (ev_call (evs_cons (ev_item_tuple (ds := [PyData.str (fs.getD (x % (fs.length : Int)).toNat ("", 0)).1, PyData.int (fs.getD (x % (fs.length : Int)).toNat ("", 0)).2]) (ev_item_list (ev_own rfl) (ev_bin (ev_name rfl) (hlenE rfl rfl) (bin_mod (by omega) (by omega))) i0 (by rw [List.getElem?_map, i2]; rfl) (by omega)) ev_int (by decide) rfl (by decide))
          (evs_cons (ev_item_tuple (ev_tuple (evs_cons ev_str (evs_cons ev_str (evs_cons ev_str (evs_cons ev_str evs_nil)))) (by decide)) (ev_bin (ev_name rfl) ev_int (bin_mod (by decide) (by decide))) (e4 _).1 (tup4 _ (e4 _).1 (e4 _).2.1) (e4 _).2.2) evs_nil)) (spec_join (by rw [sizeLine_eq]; omega)) rfl rfl rfl) (.inl rfl) (fun y l q => by cases q; rfl)) ?_
      have hok : PyData.strOk (pathOf fs x) = true := joinP_ok hm.2 (nameAt_ok _)
      refine ex_one (ex_if (tr_eq (tr_notin (ds := (fs.filter fun _ => true).map fun f => PyData.str f.1) (ev_name rfl) (Ev.weak (ev_compL (D := fileD) fileD_inj (it_weak (ev_own rfl)) (by rw [sizeLine_eq]; omega) (fun a _ => tgt_pair (.inl rfl) (.inl rfl) rfl) (fun _ _ => tst_nil) (fun a _ _ => ev_name rfl))) ?_ ?_) (d' := !(decide (pathOf fs x ∈ fs.map (·.1)))) ?_) (fun hb => ?_) fun hb => ?_)
      · refine (okD_list (k := 0) fun d hd => ?_).shaped
        obtain ⟨f, hf, rfl⟩ := List.mem_map.mp hd
        rw [filter_true] at hf
        exact okD_str (h2 f hf).2
      · exact (okD_str hok).shaped
      · rw [filter_true, show (fs.map fun f => PyData.str f.1) = (fs.map (·.1)).map PyData.str by rw [List.map_map]; rfl, any_eqv eqv_str]
      · have hq : ¬ pathOf fs x ∈ fs.map (·.1) := by simpa using hb
        have e : fstep fs x = fs ++ [(pathOf fs x, x / (fs.length : Int) / 4)] := if_neg hq
        rw [e, List.map_append]
        exact ex_sub (ex_one (ex_append (d := fileD (pathOf fs x, x / (fs.length : Int) / 4)) (ev_tuple (evs_cons (ev_name rfl) (evs_cons (ev_bin (ev_name rfl) ev_int (bin_div (by decide) (by decide))) evs_nil)) (by show 2 ≤ sizeLine; decide)) rfl (by rw [hl, sizeLine_eq]; omega))) (List.forall_mem_cons.mpr ⟨rfl, List.forall_mem_nil _⟩)
      · have hq : pathOf fs x ∈ fs.map (·.1) := by simpa using hb
        have e : fstep fs x = fs := if_pos hq
        rw [e]
        exact ex_sub ex_nil (List.forall_mem_cons.mpr ⟨rfl, List.forall_mem_nil _⟩)
end
end
noncomputable section
open PySem PySem.W PySem.Calls PySem.Spec PyProof.Rows
set_option autoImplicit false
section
variable {prog : Program} {w : World} {n : Nat}
/-- the names that a path holds -/
def partsOf (x : Str) : List Str := (Txt.split x "/").filter fun c => ((c.length : Int) != 0) && (c != ".")
/-- the front that two rows have in common, as the loop finds it -/
def frontOf : List Str → List Str → List Str
  | a :: as, b :: bs => if a != b then [] else a :: frontOf as bs
  | as, _ => as
def commonD (xs : List Str) : List Str := frontOf (minRow (xs.map partsOf)) (maxRow (xs.map partsOf))
structure PathOk (x : Str) : Prop where
  len : x.length ≤ 1000
  split : (Builtin.Str.partsBetween x (Builtin.Str.occurrences x "/" 0 x.length (x.length + 1)) 1).length ≤ 1000
  num : (Txt.split x "/").length ≤ 1000
  parts : ∀ c ∈ Txt.split x "/", c.length ≤ 1000
  rel : Txt.startswith x "/" = false
/-- the item that is there -/
def FitsP (a b : List Str) : Prop := ∀ i, i < a.length → a.take i = b.take i → i < b.length
theorem frontOf_at : ∀ (a b : List Str) (k : Nat) (x y : Str), a.take k = b.take k → a[k]? = some x → b[k]? = some y → x ≠ y → frontOf a b = a.take k
  | [], _, _, _, _, _, h, _, _ => by simp at h
  | _ :: _, [], _, _, _, _, _, h, _ => by simp at h
  | a :: as, b :: bs, 0, x, y, _, h1, h2, h3 => by
    simp at h1 h2; subst h1 h2
    unfold frontOf; rw [if_pos (by simpa using h3)]; rfl
  | a :: as, b :: bs, k + 1, x, y, h, h1, h2, h3 => by
    rw [List.take_succ_cons, List.take_succ_cons] at h
    injection h with q1 q2
    subst q1
    unfold frontOf
    rw [if_neg (by simp), frontOf_at as bs k x y q2 (by simpa using h1) (by simpa using h2) h3, List.take_succ_cons]
theorem frontOf_all : ∀ (a b : List Str), a = b.take a.length → frontOf a b = a
  | [], b, _ => by unfold frontOf; rfl
  | a :: as, [], h => by simp at h
  | a :: as, b :: bs, h => by
    rw [List.length_cons, List.take_succ_cons] at h
    injection h with q1 q2
    subst q1
    unfold frontOf
    rw [if_neg (by simp), frontOf_all as bs q2]
theorem take_step {a b : List Str} {k : Nat} {x : Str} (h : a.take k = b.take k) (hx : a[k]? = some x) (hy : b[k]? = some x) : a.take (k + 1) = b.take (k + 1) := by
  rw [List.take_add_one, List.take_add_one, h, hx, hy]
def cV (a b c : List Str) : Vars := [(("common" : Str), rowL c), (("s1" : Str), rowL a), (("s2" : Str), rowL b), (("isabs" : Str), .bool false), (("sep" : Str), .str "/")]
set_option maxHeartbeats 1000000 in
theorem spec_commonpath {xs : List Str} (hne : xs ≠ []) (hlen : xs.length ≤ 1000) (hok : ∀ x ∈ xs, PathOk x) (hj : JoinOk "/" (commonD xs) = true) (hj2 : (Txt.join "/" (commonD xs)).length ≤ sizeLine) (hfit : FitsP (minRow (xs.map partsOf)) (maxRow (xs.map partsOf))) (hml : (minRow (xs.map partsOf)).length ≤ 1000) :
    FnSpec prog w (hd.heap_39 w.params) (n + 9) 174 [.list (xs.map .str)] (.str (Txt.join "/" (commonD xs))) := by
  obtain ⟨a, hA⟩ : ∃ a, minRow (xs.map partsOf) = a := ⟨_, rfl⟩
  obtain ⟨b, hB⟩ : ∃ b, maxRow (xs.map partsOf) = b := ⟨_, rfl⟩
  have hC : commonD xs = frontOf a b := by unfold commonD; rw [hA, hB]
  rw [hC] at hj hj2 ⊢
  rw [hA, hB] at hfit
  rw [hA] at hml
  refine fn_spec (ps := [("paths" : Str)]) rfl rfl rfl rfl rfl rfl ?_ (by decide) rfl rfl rfl rfl rfl rfl rfl ?_
  · intro vals hv
    match vals, hv with
    | [_], _ => rfl
  · have hsl : xs.length ≤ sizeLine := by rw [sizeLine_eq]; omega
    have hsl' : (xs.map PyData.str).length ≤ sizeLine := by rw [List.length_map]; exact hsl
    obtain ⟨x0, xr, hx0⟩ : ∃ x0 xr, xs = x0 :: xr := by
      cases xs with
      | nil => exact absurd rfl hne
      | cons a b => exact ⟨a, b, rfl⟩
    refine sx_cons (sx_assign (ev_tuple_map (m := n + 2) (ev_name rfl) (fun x => spec_fspath) hsl rfl rfl rfl rfl rfl rfl) (.inl rfl) noOwn) ?_
    refine sx_cons (ex_if (tr_not (tr_value (ev_name rfl) (truth_tuple hsl'))) (fun hb => by rw [hx0] at hb; cases hb) fun _ => ex_nil) ?_
    refine sx_cons (ex_if (tr_value (ev_isbytes (ev_item_tuple (ev_name rfl) ev_int (by decide) (d := .str x0) (by rw [hx0]; rfl) (by decide)) rfl rfl rfl rfl) truth_bool) (fun q => nomatch q) fun _ => sx_cons (sx_assign ev_str (.inr ⟨rfl, List.mem_of_elem_eq_true rfl⟩) noOwn) (ex_one (sx_assign ev_str (.inr ⟨rfl, List.mem_of_elem_eq_true rfl⟩) noOwn))) ?_
    refine ex_cons_ret (ex_try ?_)
    refine sx_cons (sx_compM (D := .str) (f := fun x => rowL (Txt.split x "/")) str_inj (it_tuple (ev_name rfl)) hsl rfl noOwn rfl (fun a _ => tgt_name (.inl rfl)) fun a ha => ev_split (ev_name rfl) (ev_name rfl) rfl (by have := (hok a ha).len; rw [sizeLine_eq]; omega) (by have := (hok a ha).split; rw [sizeLine_eq]; exact Nat.le_trans this (by omega))) ?_
    refine sx_cons (ex_try_next (ex_one (sx_set_false (td := fun d => [(("p" : Str), d)]) (it_tuple (ev_name rfl)) hsl' (by rw [hx0]; exact fun q => nomatch q) rfl noOwn (fun d _ => tgt_name (.inl rfl)) (fun _ _ => tst_nil) ?set))) ?_
    case set =>
      intro d hd
      obtain ⟨x, hx, rfl⟩ := List.mem_map.mp hd
      exact ev_eq (ev_startswith (ev_name rfl) (ev_name rfl)) (by rw [(hok x hx).rel])
    have hrows : (xs.map fun x => rowL (Txt.split x "/")) = (xs.map fun x => Txt.split x "/").map rowL := by rw [List.map_map]; rfl
    rw [hrows]
    refine sx_cons (sx_compM (D := rowL) (f := fun r => rowL (r.filter fun c => ((c.length : Int) != 0) && (c != "."))) rowL_inj (it_list (ev_name rfl)) (by rw [List.length_map]; exact hsl) rfl noOwn rfl (fun a _ => tgt_name (.inl rfl)) ?rows) ?_
    case rows =>
      intro r hr
      obtain ⟨x, hx, rfl⟩ := List.mem_map.mp hr
      refine ev_compL (D := .str) (f := .str) str_inj (it_list (ev_name rfl)) (by have := (hok x hx).num; rw [sizeLine_eq]; omega) (fun a _ => tgt_name (.inl rfl)) (fun a ha => tst_one (tr_and (tr_value (ev_name rfl) (truth_str (by have := (hok x hx).parts a ha; rw [sizeLine_eq]; omega))) fun _ => tr_cmp (ev_name rfl) (ev_name rfl) cmp_ne_str)) (fun a _ _ => ev_name rfl)
    have hrows2 : ((xs.map fun x => Txt.split x "/").map fun r => rowL (r.filter fun c => ((c.length : Int) != 0) && (c != "."))) = (xs.map partsOf).map rowL := by rw [List.map_map, List.map_map]; rfl
    rw [hrows2]
    have hne2 : xs.map partsOf ≠ [] := by rw [hx0]; exact fun q => nomatch q
    refine sx_cons (sx_assign (d := rowL a) (ev_eq (ev_min (n := n + 7) (rows := xs.map partsOf) (ev_name rfl) hne2 rfl rfl) (by rw [hA])) (.inl rfl) noOwn) ?_
    refine sx_cons (sx_assign (d := rowL b) (ev_eq (ev_max (n := n + 7) (rows := xs.map partsOf) (ev_name rfl) hne2 rfl rfl) (by rw [hB])) (.inl rfl) noOwn) ?_
    refine sx_cons (sx_assign (ev_name rfl) (.inl rfl) noOwn) ?_
    have sub5 : ∀ {v : Vars} {p1 p2 p3 p4 p5 : Str × PyData}, v.lookup p1.1 = some p1.2 → v.lookup p2.1 = some p2.2 → v.lookup p3.1 = some p3.2 → v.lookup p4.1 = some p4.2 → v.lookup p5.1 = some p5.2 → Sub [p1, p2, p3, p4, p5] v := fun h1 h2 h3 h4 h5 =>
      List.forall_mem_cons.mpr ⟨h1, List.forall_mem_cons.mpr ⟨h2, List.forall_mem_cons.mpr ⟨h3, List.forall_mem_cons.mpr ⟨h4, List.forall_mem_cons.mpr ⟨h5, List.forall_mem_nil _⟩⟩⟩⟩⟩
    refine ex_pre (v' := cV a b a) ?_ (sub5 rfl rfl rfl rfl rfl)
    refine sx_cons (v := cV a b (frontOf a b)) (ow := none) (ex_for (itf_enum_list (ds := a.map .str) (ev_name rfl) rfl rfl) (loop_till_enum a (fun k => a.take k = b.take k) rfl ?loop ?fin)) ?_
    case fin =>
      intro h
      rw [List.take_length] at h
      have e := frontOf_all a b h
      exact ex_eq (o := .next (cV a b a) none) ex_nil (by rw [e])
    case loop =>
      intro k x hx hI
      · skip
        have hk : k < a.length := (List.getElem?_eq_some_iff.mp hx).1
        have hkb : k < b.length := hfit k hk hI
        obtain ⟨y, hy⟩ : ∃ y, b[k]? = some y := ⟨_, List.getElem?_eq_getElem hkb⟩
        refine ⟨_, tgt_pair (.inl rfl) (.inl rfl) rfl, noOwn, ?_⟩
        have hev : ∀ {c : Cx} {p1 p2 p3 : Pos}, c.vars.lookup ("s2" : Str) = some (rowL b) → c.vars.lookup ("i" : Str) = some (.int k) → Ev prog w (hd.heap_39 w.params) (n + 8) c (.Subscript (.Name ("s2" : Str) p1) (.Name ("i" : Str) p2) p3) (.str y) := fun h1 h2 =>
          ev_item_list (Ev.weak (ev_name h1)) (ev_name h2) (Int.natCast_nonneg k) (by rw [Int.toNat_natCast, List.getElem?_map, hy]; rfl) (by omega)
        by_cases hxy : x = y
        · left
          refine ⟨?_, ex_sub (ex_one (ex_if (tr_cmp (ev_name rfl) (hev rfl rfl) cmp_ne_str) (fun q => ?_) fun _ => ex_nil)) (sub5 rfl rfl rfl rfl rfl)⟩
          · exact take_step hI hx (hxy ▸ hy)
          · simp [hxy] at q
        · right
          have e := frontOf_at a b k x y hI hx hy hxy
          refine ⟨_, _, rfl, ex_eq (o := .brk (cV a b (a.take k)) none) ?_ (by rw [e])⟩
          refine ex_sub_brk (ex_one (ex_if (tr_cmp (ev_name rfl) (hev rfl rfl) cmp_ne_str) (fun _ => sx_cons (sx_assign (d := rowL (a.take k)) (ev_eq (ev_upto (b := k) (Ev.weak (ev_name rfl)) (ev_name rfl) (by rw [List.length_map, sizeLine_eq]; omega)) (by unfold rowL; rw [List.map_take])) (.inl rfl) noOwn) (ex_one ex_break)) fun q => ?_)) (sub5 rfl rfl rfl rfl rfl)
          have : (x != y) = true := by simpa using hxy
          rw [this] at q; cases q
    refine sx_cons (sx_assign (ev_ifexp (tr_value (ev_name rfl) truth_bool) (fun q => nomatch q) fun _ => ev_sep0 (ev_name rfl)) (.inl rfl) noOwn) ?_
    refine ex_cons_ret (ex_return (ev_eq (ev_bin (ev_name rfl) (ev_join (ev_name rfl) (Ev.weak (ev_name rfl)) hj) (bin_add_str (by show 0 + _ ≤ _; omega))) ?_))
    rw [show ("" : Str) ++ Txt.join "/" (frontOf a b) = Txt.join "/" (frontOf a b) from Str.empty_append _]
end
end
noncomputable section
open PySem PySem.W PySem.Calls PySem.Spec PyProof.Rows
set_option autoImplicit false
def stopsAt (rows : List (List Str)) (r : List Str) (k : Nat) : Bool := (rows.filter fun row => !decide (row.take k = r.take k)).isEmpty
/-- the longest front of the first row that all rows begin with -/
def frontR (rows : List (List Str)) : List Str := (rows.headD []).take (downTo (stopsAt rows (rows.headD [])) (rows.headD []).length)
section
variable {prog : Program} {w : World} {n : Nat}
def fV (rows : List (List Str)) (f : List Str) : Vars := [(("front" : Str), rowL f), (("rows" : Str), .list (rows.map rowL))]
theorem take_len {r : List Str} {k : Nat} (h : k ≤ r.length) : (r.take k).length = k := by rw [List.length_take]; omega
set_option maxHeartbeats 1000000 in
theorem spec_front {rows : List (List Str)} (hne : rows ≠ []) (hsz : rows.length ≤ 1000) (hrl : ∀ r ∈ rows, r.length ≤ 1000) (hok : ∀ r ∈ rows, ∀ x ∈ r, PyData.strOk x = true) :
    FnSpec prog w (hd.heap_39 w.params) (n + 1) 203 [.list (rows.map rowL)] (rowL (frontR rows)) := by
  obtain ⟨r, rs, hr⟩ : ∃ r rs, rows = r :: rs := by
    cases rows with
    | nil => exact absurd rfl hne
    | cons a b => exact ⟨a, b, rfl⟩
  have hr0 : rows.headD [] = r := by rw [hr]; rfl
  have hrm : r ∈ rows := by rw [hr]; exact .head _
  have hrl0 := hrl r hrm
  have hokr : ∀ k, ∀ x ∈ r.take k, PyData.strOk x = true := fun k x hx => hok r hrm x (List.mem_of_mem_take hx)
  unfold frontR
  rw [hr0]
  refine fn_spec (ps := [("rows" : Str)]) rfl rfl rfl rfl rfl rfl ?_ (by decide) rfl rfl rfl rfl rfl rfl rfl ?_
  · intro vals hv
    match vals, hv with
    | [_], _ => rfl
  · refine sx_cons (v := fV rows (r.take r.length)) (ow := none) (ex1_eq (sx_assign (d := rowL r) (ev_item_list (Ev.weak (ev_name rfl)) ev_int (by decide) (by rw [hr]; rfl) (by decide)) (.inr ⟨rfl, List.mem_of_elem_eq_true rfl⟩) noOwn) (by rw [List.take_length]; rfl)) ?_
    have hlen : ∀ {c : Cx} {k : Nat} {p pos pp : Pos}, k ≤ r.length → c.vars.lookup ("front" : Str) = some (rowL (r.take k)) → c.names.lookup ("len" : Str) = some .globalImplicit → Ev prog w (hd.heap_39 w.params) n c (.Call (.Name ("len" : Str) p) [.Name ("front" : Str) pp] [] pos) (.int (k : Int)) := fun {c k p pos pp} hk hv hl =>
      ev_eq (ev_len (Ev.weak (ev_name hv)) hl rfl (by rw [List.length_map, take_len hk]; omega)) (by rw [List.length_map, take_len hk])
    refine sx_cons (v := fV rows (r.take (downTo (stopsAt rows r) r.length))) (ow := none) (sx_while (k := r.length) (while_down (fun k => fV rows (r.take k)) (stopsAt rows r) r.length (by unfold stopsAt; simp) ?test ?body r.length (Nat.le_refl _))) (ex_cons_ret (ex_return (ev_name rfl)))
    case test =>
      intro k hk
      refine tr_cmp (ev_compL (D := rowL) (f := rowL) rowL_inj (it_list (ev_name rfl)) (by rw [sizeLine_eq]; omega) (fun a _ => tgt_name (.inl rfl)) (fun a ha => tst_one (tr_cmp (ev_eq (d' := rowL (a.take k)) (ev_upto (b := k) (Ev.weak (ev_name rfl)) (hlen hk rfl rfl) (by have := hrl a ha; rw [List.length_map, sizeLine_eq]; omega)) (by unfold rowL; rw [List.map_take])) (ev_name rfl) (cmp_ne_rows (fun x hx => hok a ha x (List.mem_of_mem_take hx)) (hokr k)))) (fun a _ _ => ev_name rfl)) (ev_list evs_nil (by decide)) (cmp_ne_nil eqv_row fun a ha => (okD_row (hok a (List.mem_filter.mp ha).1)).up (by decide))
    case body =>
      intro k hk
      have hkl : (r.take (k + 1)).length = k + 1 := take_len hk
      refine ex_sub (ex_one (sx_assign (d := rowL (r.take k)) (ev_eq (ev_butlast (Ev.weak (ev_name rfl)) (ev_neg ev_int) (by rw [List.length_map, hkl, sizeLine_eq]; omega)) ?_) (.inr ⟨rfl, List.mem_of_elem_eq_true rfl⟩) noOwn)) (List.forall_mem_cons.mpr ⟨rfl, List.forall_mem_cons.mpr ⟨rfl, List.forall_mem_nil _⟩⟩)
      rw [List.length_map, hkl]
      unfold rowL
      rw [← List.map_take, Nat.add_sub_cancel, List.take_take, Nat.min_eq_left (Nat.le_succ k)]
end
end
noncomputable section
open PySem PySem.W PySem.Calls PySem.Spec PyProof.Rows
set_option autoImplicit false
def minus (L : List Str) (k i : Nat) : Bool := sign (L.getD k "") (i : Int) == "-"
def nine : List Nat := (List.range 9).map (1 + ·)
def sharedD (L : List Str) (chosen : List Nat) : List Nat := nine.filter fun i => (chosen.filter fun k => minus L k i).isEmpty
def foundD (folder : Str) (paths : List Str) : List Nat := (List.range paths.length).filter fun k => below folder (paths.getD k "")
def dotted (paths : List Str) (chosen : List Nat) : List Str := chosen.map fun k => ((".//" : Str) ++ paths.getD k "")
def folderD (paths : List Str) (chosen : List Nat) : Str := Txt.join "/" (commonD (dotted paths chosen))
def closureD (paths L : List Str) (chosen : List Nat) : List Nat := (foundD (folderD paths chosen) paths).filter fun k => ((sharedD L chosen).filter fun i => minus L k i).isEmpty
structure CommonOk (xs : List Str) : Prop where
  ne : xs ≠ []
  len : xs.length ≤ 1000
  ok : ∀ x ∈ xs, PathOk x
  j : JoinOk "/" (commonD xs) = true
  j2 : (Txt.join "/" (commonD xs)).length ≤ 1000
  fit : FitsP (minRow (xs.map partsOf)) (maxRow (xs.map partsOf))
  ml : (minRow (xs.map partsOf)).length ≤ 1000
section
variable {prog : Program} {w : World} {n : Nat} {c : Cx} {K : Frag}
theorem ev_item_str' {value idx : Expr} {pos : Pos} {l : List Str} {k : Nat} (hv : Ev prog w K n c value (.list (l.map .str))) (hi : Ev prog w K n c idx (natD k)) (hk : k < l.length) (hlt : k < 1000)
    (hs : ∀ o i, subscripted idx false o i = operate [o, i] (getItem o i) := by intro _ _; rfl) : Ev prog w K n c (.Subscript value idx pos) (.str (l.getD k "")) :=
  ev_item_list (Ev.weak hv) hi (Int.natCast_nonneg k) (by rw [Int.toNat_natCast, List.getElem?_map, List.getElem?_eq_getElem hk, List.getD_eq_getElem?_getD, List.getElem?_eq_getElem hk]; rfl) (by omega) hs
theorem tr_minus {lst ki ii : Expr} {pos pos' pc cp : Pos} {m : Nat} {L : List Str} {k i : Nat} (hv : Ev prog w K n c lst (.list (L.map .str))) (hk : Ev prog w K n c ki (natD k)) (hi : Ev prog w K n c ii (natD i)) (hkl : k < L.length) (hlt : k < 1000) (hil : i < (L.getD k "").cps.size) (hi2 : i < 1000)
    (hs : ∀ o i, subscripted ki false o i = operate [o, i] (getItem o i) := by intro _ _; rfl) (hs' : ∀ o i, subscripted ii false o i = operate [o, i] (getItem o i) := by intro _ _; rfl) :
    Tr prog w K n c (.Compare (.Subscript (.Subscript lst ki pos) ii pos') [.Eq] [.Constant (.str "-") m cp] pc) (minus L k i) :=
  tr_cmp (ev_sign (ev_item_str' hv hk hkl hlt hs) hi (Int.natCast_nonneg i) (by omega) (by omega) hs') ev_str cmp_eq_str
end
section
variable {prog : Program} {w : World} {n : Nat}
theorem nine_mem {i : Nat} (h : i ∈ nine) : 1 ≤ i ∧ i < 10 := by
  unfold nine at h
  obtain ⟨j, hj, rfl⟩ := List.mem_map.mp h
  have := List.mem_range.mp hj
  omega
set_option maxHeartbeats 2000000 in
theorem spec_closure {paths L : List Str} {chosen : List Nat} (hN : paths.length ≤ 100) (hLN : L.length = paths.length) (hL : ∀ k, k < L.length → (L.getD k "").cps.size = 10) (hch : ∀ k ∈ chosen, k < paths.length) (hcl : chosen.length ≤ 100) (hpl : ∀ k, (paths.getD k "").length ≤ 100) (hc : CommonOk (dotted paths chosen)) :
    FnSpec prog w (hd.heap_39 w.params) (n + 10) 198 [.list (chosen.map natD), .list (paths.map .str), .list (L.map .str)] (.tuple [.list ((closureD paths L chosen).map natD), .str (folderD paths chosen)]) := by
  have hs1 : ∀ {m : Nat}, m ≤ 1000 → m ≤ sizeLine := fun h => by rw [sizeLine_eq]; omega
  refine fn_spec (ps := [("chosen" : Str), ("paths" : Str), ("listings" : Str)]) rfl rfl rfl rfl rfl rfl ?_ (by decide) rfl rfl rfl rfl rfl rfl rfl ?_
  · intro vals hv
    match vals, hv with
    | [_, _, _], _ => rfl
  · refine sx_cons (sx_assign (d := .str (folderD paths chosen)) (ev_call (evs_cons (ev_eq (d' := .list ((dotted paths chosen).map .str)) (ev_compM (D := natD) (f := fun k => .str ((".//" : Str) ++ paths.getD k "")) natD_inj (it_list (ev_name rfl)) (hs1 (by omega)) (fun a _ => tgt_name (.inl rfl)) fun k hk => ?elt) ?_) evs_nil) (spec_commonpath hc.ne hc.len hc.ok hc.j (hs1 hc.j2) hc.fit hc.ml) rfl rfl rfl) (.inr ⟨rfl, List.mem_of_elem_eq_true rfl⟩) noOwn) ?_
    case elt =>
      exact ev_bin ev_str (ev_item_str' (ev_name rfl) (ev_name rfl) (hch k hk) (by have := hch k hk; omega)) (bin_add_str (by have := hpl k; rw [sizeLine_eq]; show 3 + _ ≤ _; omega))
    · unfold dotted; rw [List.map_map]; rfl
    have hchL : ∀ k ∈ chosen, k < L.length := fun k hk => by rw [hLN]; exact hch k hk
    refine sx_cons (sx_assign (d := .list ((sharedD L chosen).map natD)) (ev_compL (D := natD) (f := natD) (l := nine) natD_inj (it_eq (it_range2 (a := 1) (m := 9) ev_int ev_int rfl rfl (by decide) (by decide) (by decide)) (upto_from 1 9)) (by decide) (fun a _ => tgt_name (.inr ⟨rfl, List.mem_of_elem_eq_true rfl⟩)) (fun i hi => ?tst) (fun a _ _ => ev_name rfl)) (.inr ⟨rfl, List.mem_of_elem_eq_true rfl⟩) noOwn (fun env fo => swaps_cell rfl fo)) ?_
    case tst =>
      have hi' := nine_mem hi
      exact tst_one (tr_cmp (ev_compL (D := natD) (f := natD) natD_inj (it_list (ev_name rfl)) (hs1 (by omega)) (fun a _ => tgt_name (.inl rfl)) (fun k hk => tst_one (tr_minus (ev_name rfl) (ev_name rfl) (ev_name rfl) (hchL k hk) (by have := hch k hk; omega) (by rw [hL k (hchL k hk)]; omega) (by omega))) (fun a _ _ => ev_name rfl)) (ev_list evs_nil (by decide)) (cmp_eq_nil eqv_nat fun a _ => okD_nat.up (by decide)))
    refine sx_cons (sx_compL (D := natD) (f := natD) (l := List.range paths.length) (p := fun k => below (folderD paths chosen) (paths.getD k "")) natD_inj (it_eq (it_range1 (m := paths.length) (ev_eq (ev_len (Ev.weak (ev_name rfl)) rfl rfl (by rw [List.length_map]; omega)) (by rw [List.length_map])) rfl rfl (by omega)) (upto_nat _)) (by rw [List.length_range]; exact hs1 (by omega)) rfl noOwn rfl (fun a _ => tgt_name (.inl rfl)) (fun k hk => tst_one (tr_value (ev_call (evs_cons (ev_name rfl) (evs_cons (ev_item_str' (ev_name rfl) (ev_name rfl) (List.mem_range.mp hk) (by have := List.mem_range.mp hk; omega)) evs_nil)) (spec_below (n := n + 7) ?sz) rfl rfl rfl) truth_bool)) (fun a _ _ => ev_name rfl)) ?_
    case sz =>
      have : (folderD paths chosen).length ≤ 1000 := hc.j2
      rw [sizeLine_eq]; omega
    refine ex_cons_ret (ex_return (ev_tuple (evs_cons (ev_compL (D := natD) (f := natD) natD_inj (it_list (ev_name rfl)) (by have := List.length_filter_le (fun k => below (folderD paths chosen) (paths.getD k "")) (List.range paths.length); rw [List.length_range] at this; exact hs1 (Nat.le_trans this (by omega))) (fun a _ => tgt_name (.inr ⟨rfl, List.mem_of_elem_eq_true rfl⟩)) (fun k hk => ?tst2) (fun a _ _ => ev_name rfl)) (evs_cons (ev_name rfl) evs_nil)) (by show 2 ≤ sizeLine; decide)))
    case tst2 =>
      have hk' : k < L.length := by rw [hLN]; exact List.mem_range.mp (List.mem_filter.mp hk).1
      exact tst_one (tr_cmp (ev_compL (D := natD) (f := natD) natD_inj (it_list (ev_name rfl)) (by have := List.length_filter_le (fun i => (chosen.filter fun k => minus L k i).isEmpty) nine; exact hs1 (Nat.le_trans this (by decide))) (fun a _ => tgt_name (.inl rfl)) (fun i hi => tst_one (tr_minus (ev_name rfl) (ev_name rfl) (ev_name rfl) hk' (by omega) (by have := nine_mem (List.mem_filter.mp hi).1; rw [hL k hk']; omega) (by have := nine_mem (List.mem_filter.mp hi).1; omega))) (fun a _ _ => ev_name rfl)) (ev_list evs_nil (by decide)) (cmp_eq_nil eqv_nat fun a _ => okD_nat.up (by decide)))
end
end
noncomputable section
open PySem PySem.W PySem.Calls PySem.Spec PyProof.Rows
set_option autoImplicit false
abbrev Sets := List (List Nat)
def natsD (l : List Nat) : PyData := .list (l.map natD)
theorem natsD_inj : ∀ a b : List Nat, natsD a = natsD b → a = b := fun a b q => by
  unfold natsD at q; injection q with q; exact map_inj_of natD_inj a b q
theorem eqv_nats (a b : List Nat) : PyData.eqv (natsD a) (natsD b) = decide (a = b) := eqv_list eqv_nat a b
theorem okD_nats {a : List Nat} : OkD 1 (natsD a) := okD_list (k := 0) fun x hx => by
  obtain ⟨y, _, rfl⟩ := List.mem_map.mp hx; exact okD_nat
def addNew (S : Sets) (one : List Nat) : Sets := if one ∈ S then S else S ++ [one]
theorem addNew_len (S : Sets) (one : List Nat) : (addNew S one).length ≤ S.length + 1 := by
  unfold addNew; split
  · omega
  · rw [List.length_append]; exact Nat.le_refl _
def frontSet (rows : List (List Str)) (row : List Str) (j : Nat) : List Nat := (List.range rows.length).filter fun k => decide ((rows.getD k []).take j = row.take j)
def rowStep (rows : List (List Str)) (S : Sets) (row : List Str) : Sets := (List.range (row.length + 1)).foldl (fun S j => addNew S (frontSet rows row j)) S
def rightSet (rights : List Int) (bit : Nat) (old : List Nat) : List Nat := old.filter fun k => rights.getD k 0 / 2 ^ bit % 2 == 1
def bitStep (rights : List Int) (S : Sets) (bit : Nat) : Sets := (S.map (rightSet rights bit)).foldl addNew S
def sets1 (rows : List (List Str)) : Sets := rows.foldl (rowStep rows) [[]]
def setsAll (rows : List (List Str)) (rights : List Int) : Sets := (List.range 9).foldl (bitStep rights) (sets1 rows)
def setItem (rows : List (List Str)) (one : List Nat) : Item := (one, Txt.join "/" (frontR (one.map fun k => rows.getD k [])))
theorem foldl_addNew_len {α : Type} (f : α → List Nat) : ∀ (l : List α) (S : Sets), (l.foldl (fun S a => addNew S (f a)) S).length ≤ S.length + l.length
  | [], S => Nat.le_refl _
  | a :: l, S => by
    have := foldl_addNew_len f l (addNew S (f a))
    have := addNew_len S (f a)
    rw [List.foldl_cons, List.length_cons]; omega
theorem mem_addNew {S : Sets} {one x : List Nat} : x ∈ addNew S one ↔ x ∈ S ∨ x = one := by
  unfold addNew; split
  · rename_i h
    exact ⟨.inl, fun q => q.elim id fun e => e ▸ h⟩
  · simp
section
variable {prog : Program} {w : World} {K : Frag} {n : Nat} {names : List (Str × NameKind)} {vars : Vars}
/-- if one not in sets: sets.append(one) -/
theorem ex_addNew {S : Sets} {one : List Nat} {x y : Str} {p1 p2 p3 p4 p5 p6 p7 p8 : Pos} (hx : vars.lookup x = some (natsD one)) (hsz : S.length ≤ 100000)
    (hm : ∀ r, r = Expr.Name y p2 → behindInMarks .NotIn r = false)
    (hbase : ∀ env, attributeBase (.Name y p4) ("append" : Str) env (eval (.Name y p4) env) = eval (.Name y p4) env) (hline : (p5.endLine == p7.line) = true)
    (hd : (x == ("__debug__" : Str)) = false := by rfl) (hn : (x == ("__classdict__" : Str)) = false := by rfl) (hd' : (y == ("__debug__" : Str)) = false := by rfl) (hn' : (y == ("__classdict__" : Str)) = false := by rfl) :
    Ex1 prog w K n ⟨names, vars, some (y, S.map natsD)⟩ (.If (.Compare (.Name x p1) [.NotIn] [.Name y p2] p3) [.Expr (.Call (.Attribute (.Name y p4) ("append" : Str) p5) [.Name x p6] [] p7) p8] [] p3) (.next vars (some (y, (addNew S one).map natsD))) := by
  refine ex_if (tr_eq (tr_notin (d := natsD one) (ds := S.map natsD) (ev_name hx hd hn) (ev_own rfl hd' hn') ((okD_list (k := 1) fun d hdd => ?_).shaped) okD_nats.shaped (hm _ rfl)) (d' := !(decide (one ∈ S))) (by rw [any_eqv eqv_nats]; congr)) (fun hb => ?_) fun hb => ?_
  · obtain ⟨a, _, rfl⟩ := List.mem_map.mp hdd; exact okD_nats
  · have hq : ¬ one ∈ S := by simpa using hb
    have e : addNew S one = S ++ [one] := if_neg hq
    exact ex_eq (ex_one (sx_append (d := natsD one) (ev_name hx hd hn) (by rw [List.length_map, sizeLine_eq]; omega) hbase hline (fun _ => rfl) hd' hn')) (by rw [e, List.map_append]; rfl)
  · have hq : one ∈ S := by simpa using hb
    have e : addNew S one = S := if_pos hq
    exact ex_eq ex_nil (by rw [e])
end
theorem fold_inv {α σ : Type} {step : σ → α → σ} {P : List α → σ → Prop} (h : ∀ x r a, P (x :: r) a → P r (step a x)) : ∀ (l : List α) (a : σ), P l a → P [] (l.foldl step a)
  | [], _, hp => hp
  | x :: r, a, hp => fold_inv h r _ (h x r a hp)
def In1 (N : Nat) (one : List Nat) : Prop := one.length ≤ N ∧ ∀ k ∈ one, k < N
def InN (N : Nat) (S : Sets) : Prop := ∀ one ∈ S, In1 N one
theorem InN.add {N : Nat} {S : Sets} {one : List Nat} (h : InN N S) (ho : In1 N one) : InN N (addNew S one) := fun x hx => by
  rcases mem_addNew.mp hx with q | q
  · exact h x q
  · subst q; exact ho
theorem InN.fold {N : Nat} {α : Type} {f : α → List Nat} : ∀ (l : List α) (S : Sets), InN N S → (∀ a ∈ l, In1 N (f a)) → InN N (l.foldl (fun S a => addNew S (f a)) S)
  | [], _, h, _ => h
  | a :: l, S, h, hf => InN.fold l _ (h.add (hf a (.head _))) fun b hb => hf b (.tail _ hb)
theorem frontSet_in {rows : List (List Str)} {row : List Str} {j : Nat} : In1 rows.length (frontSet rows row j) := ⟨by have := List.length_filter_le (fun k => decide ((rows.getD k []).take j = row.take j)) (List.range rows.length); rw [List.length_range] at this; exact this, fun k h => List.mem_range.mp (List.mem_filter.mp h).1⟩
theorem sets1_ok {rows : List (List Str)} (hN : rows.length ≤ 4) (hrl : ∀ r ∈ rows, r.length ≤ 10) : (sets1 rows).length ≤ 81 ∧ InN rows.length (sets1 rows) := by
  have := fold_inv (step := rowStep rows) (P := fun r S => S.length + 20 * r.length ≤ 81 ∧ (∀ x ∈ r, x ∈ rows) ∧ InN rows.length S) (fun row r S hp => by
    obtain ⟨h1, h2, h3⟩ := hp
    rw [List.length_cons] at h1
    have h4 := foldl_addNew_len (frontSet rows row) (List.range (row.length + 1)) S
    rw [List.length_range] at h4
    have h5 := hrl row (h2 row (.head _))
    refine ⟨by unfold rowStep; omega, fun x hx => h2 x (.tail _ hx), ?_⟩
    exact InN.fold _ S h3 fun a _ => frontSet_in) rows [[]] ⟨by show 1 + _ ≤ _; omega, fun _ h => h, fun one ho => by rw [List.mem_singleton] at ho; subst ho; exact ⟨Nat.zero_le _, fun _ h => nomatch h⟩⟩
  exact ⟨by have := this.1; rw [List.length_nil] at this; exact this, this.2.2⟩
theorem bitStep_ok {N : Nat} {rights : List Int} {S : Sets} {b : Nat} (h : InN N S) : (bitStep rights S b).length ≤ S.length + S.length ∧ InN N (bitStep rights S b) := by
  have h1 := foldl_addNew_len (id : List Nat → List Nat) (S.map (rightSet rights b)) S
  rw [List.length_map] at h1
  refine ⟨h1, InN.fold (f := id) _ S h fun a ha => ?_⟩
  obtain ⟨old, ho, rfl⟩ := List.mem_map.mp ha
  exact ⟨Nat.le_trans (List.length_filter_le _ _) (h old ho).1, fun k hk => (h old ho).2 k (List.mem_filter.mp hk).1⟩
section
variable {prog : Program} {w : World} {n : Nat}
def sV (rows : List (List Str)) (rights : List Int) : Vars := [(("rows" : Str), .list (rows.map rowL)), (("rights" : Str), .list (rights.map .int))]
theorem sub2 {v : Vars} {p1 p2 : Str × PyData} (h1 : v.lookup p1.1 = some p1.2) (h2 : v.lookup p2.1 = some p2.2) : Sub [p1, p2] v := List.forall_mem_cons.mpr ⟨h1, List.forall_mem_cons.mpr ⟨h2, List.forall_mem_nil _⟩⟩
set_option maxHeartbeats 2000000 in
theorem spec_sets {rows : List (List Str)} {rights : List Int} (hN : rows.length ≤ 4) (hrl : ∀ r ∈ rows, r.length ≤ 10) (hok : ∀ r ∈ rows, ∀ x ∈ r, PyData.strOk x = true) (hri : rights.length = rows.length)
    (h64 : (setsAll rows rights).length ≤ 64) (hmem : ∀ one ∈ (setsAll rows rights).drop 1, one ≠ [] ∧ JoinOk "/" (frontR (one.map fun k => rows.getD k [])) = true) :
    FnSpec prog w (hd.heap_39 w.params) (n + 5) 208 [.list (rows.map rowL), .list (rights.map .int)] (.list ((sortD (((setsAll rows rights).drop 1).map (setItem rows))).map itemD)) := by
  refine fn_spec (ps := [("rows" : Str), ("rights" : Str)]) rfl rfl rfl rfl rfl rfl ?_ (by decide) rfl rfl rfl rfl rfl rfl rfl ?_
  · intro vals hv
    match vals, hv with
    | [_, _], _ => rfl
  · refine sx_cons (sx_assign_own (ds := ([[]] : Sets).map natsD) (evs_cons (ev_list (ds := []) evs_nil (by decide)) evs_nil) (.inl rfl) rfl (by decide)) ?_
    refine sx_cons (v := sV rows rights) (ow := some (("sets" : Str), (sets1 rows).map natsD)) (sx_for (It.f (it_list (ev_name rfl))) (loop_fold rowL (fun _ => sV rows rights) (fun S => some (("sets" : Str), S.map natsD)) (rowStep rows) (fun r S => r.length ≤ 4 ∧ (∀ x ∈ r, x ∈ rows) ∧ S.length + 20 * r.length ≤ 81) ?rowturn rows [[]] ⟨hN, fun _ h => h, by show 1 + _ ≤ _; omega⟩ fun _ => ex_nil)) ?_
    case rowturn =>
      intro row r S hp
      obtain ⟨h1, h2, h3⟩ := hp
      rw [List.length_cons] at h1 h3
      have hrow : row ∈ rows := h2 row (.head _)
      have hrl0 := hrl row hrow
      have hstep : (rowStep rows S row).length ≤ S.length + (row.length + 1) := by
        have := foldl_addNew_len (frontSet rows row) (List.range (row.length + 1)) S
        rw [List.length_range] at this; exact this
      refine ⟨⟨by omega, fun x hx => h2 x (.tail _ hx), by omega⟩, _, tgt_name (.inr ⟨rfl, List.mem_of_elem_eq_true rfl⟩), fun y l q => by cases q; rfl, ?_⟩
      refine ex_sub (v := (("row" : Str), rowL row) :: sV rows rights) (ex_one (sx_for (It.f (it_eq (it_range1 (m := row.length + 1) (ev_eq (ev_bin (ev_len (Ev.weak (ev_name rfl)) rfl rfl (by rw [List.length_map]; omega)) ev_int bin_add_int) (by rw [List.length_map]; rfl)) rfl rfl (by omega)) (upto_nat _))) (loop_fold natD (fun _ => (("row" : Str), rowL row) :: sV rows rights) (fun S => some (("sets" : Str), S.map natsD)) (fun S j => addNew S (frontSet rows row j)) (fun r S => S.length + r.length ≤ 1000) ?jturn (List.range (row.length + 1)) S (by rw [List.length_range]; omega) fun _ => ex_nil))) (sub2 rfl rfl)
      case jturn =>
        intro j r' S' hp'
        rw [List.length_cons] at hp'
        have hlen' := addNew_len S' (frontSet rows row j)
        refine ⟨by omega, _, tgt_name (.inr ⟨rfl, List.mem_of_elem_eq_true rfl⟩), fun y l q => by cases q; rfl, ?_⟩
        refine ex_sub (v := (("one" : Str), natsD (frontSet rows row j)) :: (("j" : Str), natD j) :: (("row" : Str), rowL row) :: sV rows rights) (sx_cons (sx_compL (D := natD) (f := natD) (l := List.range rows.length) (p := fun k => decide ((rows.getD k []).take j = row.take j)) natD_inj (it_eq (it_range1 (m := rows.length) (ev_eq (ev_len (Ev.weak (ev_name rfl)) rfl rfl (by rw [List.length_map]; omega)) (by rw [List.length_map])) rfl rfl (by omega)) (upto_nat _)) (by rw [List.length_range, sizeLine_eq]; omega) rfl (fun y l q => by cases q; rfl) rfl (fun a _ => tgt_name (.inl rfl)) (fun k hk => ?tst) (fun a _ _ => ev_name rfl)) (ex_one (ex_addNew rfl (by omega) ?_ (fun _ => rfl) rfl))) ?_
        case tst =>
          have hk' : k < rows.length := List.mem_range.mp hk
          have hkm : rows.getD k [] ∈ rows := by
            rw [List.getD_eq_getElem?_getD, List.getElem?_eq_getElem hk']; exact List.getElem_mem hk'
          have hkl := hrl _ hkm
          refine tst_one (tr_cmp (a := rowL ((rows.getD k []).take j)) (b := rowL (row.take j)) (ev_eq (ev_upto (b := j) (Ev.weak (ev_item_list (d := rowL (rows.getD k [])) (Ev.weak (ev_name rfl)) (ev_name rfl) (Int.natCast_nonneg k) (by rw [Int.toNat_natCast, List.getElem?_map, List.getElem?_eq_getElem hk', List.getD_eq_getElem?_getD, List.getElem?_eq_getElem hk']; rfl) (by omega))) (ev_name rfl) (by rw [List.length_map, sizeLine_eq]; omega)) (by unfold rowL; rw [List.map_take])) (ev_eq (ev_upto (b := j) (Ev.weak (ev_name rfl)) (ev_name rfl) (by rw [List.length_map, sizeLine_eq]; omega)) (by unfold rowL; rw [List.map_take])) (cmp_eq_rows (fun x hx => hok _ hkm x (List.mem_of_mem_take hx)) fun x hx => hok _ hrow x (List.mem_of_mem_take hx)))
        · intro r hr; subst hr; with_unfolding_all rfl
        · exact List.forall_mem_cons.mpr ⟨rfl, sub2 rfl rfl⟩
    have s1 := sets1_ok hN hrl
    refine sx_cons (v := sV rows rights) (ow := some (("sets" : Str), (setsAll rows rights).map natsD)) (sx_for (It.f (it_eq (it_range1 (m := 9) ev_int rfl rfl (by decide)) (upto_nat 9))) (loop_fold natD (fun _ => sV rows rights) (fun S => some (("sets" : Str), S.map natsD)) (bitStep rights) (fun r S => r.length ≤ 9 ∧ S.length ≤ 81 * 2 ^ (9 - r.length) ∧ (∀ b ∈ r, b < 9) ∧ InN rows.length S) ?bitturn (List.range 9) (sets1 rows) ⟨by decide, s1.1, fun b hb => List.mem_range.mp hb, s1.2⟩ fun _ => ex_nil)) ?_
    case bitturn =>
      intro b r S hp
      obtain ⟨h1, h2, h3, h4⟩ := hp
      rw [List.length_cons] at h1 h2
      have hb := h3 b (.head _)
      have hst := bitStep_ok (rights := rights) (b := b) h4
      have e9 : 9 - r.length = (9 - (r.length + 1)) + 1 := by omega
      have hp2 : 2 ^ (9 - (r.length + 1)) ≤ 2 ^ 8 := Nat.pow_le_pow_right (by decide) (by omega)
      refine ⟨⟨by omega, by rw [e9, Nat.pow_succ]; omega, fun x hx => h3 x (.tail _ hx), hst.2⟩, _, tgt_name (.inr ⟨rfl, List.mem_of_elem_eq_true rfl⟩), fun y l q => by cases q; rfl, ?_⟩
      have hSz : S.length ≤ 20736 := by omega
      refine ex_sub (v := (("bit" : Str), natD b) :: sV rows rights) (ex_one (sx_for (It.f (it_eq (es' := (S.map (rightSet rights b)).map natsD) (it_list (ev_compM (D := natsD) (f := fun old => natsD (rightSet rights b old)) natsD_inj (it_weak (ev_own rfl)) (by rw [sizeLine_eq]; omega) (fun a _ => tgt_name (.inl rfl)) fun old hold => ?elt)) (by rw [List.map_map]; rfl))) (loop_fold natsD (fun _ => (("bit" : Str), natD b) :: sV rows rights) (fun S => some (("sets" : Str), S.map natsD)) addNew (fun r S => S.length + r.length ≤ 100000) ?oneturn (S.map (rightSet rights b)) S (by rw [List.length_map]; omega) fun _ => ex_nil))) (sub2 rfl rfl)
      case elt =>
        refine ev_compL (D := natD) (f := natD) natD_inj (it_list (ev_name rfl)) ?osz (fun a _ => tgt_name (.inl rfl)) (fun k hk => ?tst2) (fun a _ _ => ev_name rfl)
        case osz => have := (h4 old hold).1; rw [sizeLine_eq]; omega
        case tst2 =>
          have hk' : k < rights.length := by rw [hri]; exact (h4 old hold).2 k hk
          have hpow : (2 : Int) ^ ((b : Nat) : Int).toNat = 2 ^ b := by rw [Int.toNat_natCast]
          have hpos : (0 : Int) < 2 ^ b := Int.pow_pos (by decide)
          have hle : (2 : Int) ^ b < 1073741824 := by
            have : b = 0 ∨ b = 1 ∨ b = 2 ∨ b = 3 ∨ b = 4 ∨ b = 5 ∨ b = 6 ∨ b = 7 ∨ b = 8 := by omega
            rcases this with rfl | rfl | rfl | rfl | rfl | rfl | rfl | rfl | rfl <;> decide
          refine tst_one (tr_cmp (ev_bin (ev_bin (ev_item_list (d := .int (rights.getD k 0)) (Ev.weak (ev_name rfl)) (ev_name rfl) (Int.natCast_nonneg k) (by rw [Int.toNat_natCast, List.getElem?_map, List.getElem?_eq_getElem hk', List.getD_eq_getElem?_getD, List.getElem?_eq_getElem hk']; rfl) (by omega)) (ev_eq (ev_bin ev_int (ev_name rfl) (bin_pow_int (Int.natCast_nonneg b) (by show (2 : Int) * _ ≤ _; omega))) (by rw [hpow])) (bin_div hpos hle)) ev_int (bin_mod (by decide) (by decide))) ev_int cmp_eq_int)
      case oneturn =>
        intro one r' S' hp'
        rw [List.length_cons] at hp'
        have hlen' := addNew_len S' one
        refine ⟨by omega, _, tgt_name (.inl rfl), fun y l q => by cases q; rfl, ?_⟩
        refine ex_sub (v := (("one" : Str), natsD one) :: (("bit" : Str), natD b) :: sV rows rights) (ex_one (ex_addNew rfl (by omega) ?_ (fun _ => rfl) rfl)) (List.forall_mem_cons.mpr ⟨rfl, sub2 rfl rfl⟩)
        intro r hr; subst hr; with_unfolding_all rfl
    have hin2 : InN rows.length (setsAll rows rights) := (fold_inv (step := bitStep rights) (P := fun r S => InN rows.length S) (fun b r S hp => (bitStep_ok hp).2) (List.range 9) (sets1 rows) s1.2)
    refine ex_cons_ret (ex_return (ev_sorted (l := ((setsAll rows rights).drop 1).map (setItem rows)) (Ev.weak (ev_eq (d' := .list ((((setsAll rows rights).drop 1).map (setItem rows)).map itemD)) (ev_compM (D := natsD) (l := (setsAll rows rights).drop 1) (f := fun one => itemD (setItem rows one)) natsD_inj (it_eq (it_list (ev_from (b := 1) (ev_own rfl) ev_int (by rw [List.length_map, sizeLine_eq]; omega))) (by rw [List.map_drop])) (by rw [List.length_drop, sizeLine_eq]; omega) (fun a _ => tgt_name (.inl rfl)) fun one hone => ?elt) (by rw [List.map_map]; rfl))) (by rw [List.length_map, List.length_drop]; omega) rfl rfl))
    have h1 := hmem one hone
    have h2 := hin2 one (List.mem_of_mem_drop hone)
    have h2l := h2.1
    have hk : ∀ k ∈ one, rows.getD k [] ∈ rows := fun k hk => by
      have := h2.2 k hk
      rw [List.getD_eq_getElem?_getD, List.getElem?_eq_getElem this]; exact List.getElem_mem this
    refine ev_tuple (evs_cons (ev_name rfl) (evs_cons (ev_join ev_str (Ev.weak (ev_call (evs_cons (ev_eq (d' := .list ((one.map fun k => rows.getD k []).map rowL)) (ev_compM (D := natD) (f := fun k => rowL (rows.getD k [])) natD_inj (it_list (ev_name rfl)) (by rw [sizeLine_eq]; omega) (fun a _ => tgt_name (.inl rfl)) fun k hkk => ?elt2) (by rw [List.map_map]; rfl)) evs_nil) (spec_front (n := n + 3) ?a ?b ?c ?d) rfl rfl rfl)) h1.2) evs_nil)) (by show 2 ≤ sizeLine; decide)
    case elt2 =>
      have hk' := h2.2 k hkk
      exact ev_item_list (d := rowL (rows.getD k [])) (Ev.weak (ev_name rfl)) (ev_name rfl) (Int.natCast_nonneg k) (by rw [Int.toNat_natCast, List.getElem?_map, List.getElem?_eq_getElem hk', List.getD_eq_getElem?_getD, List.getElem?_eq_getElem hk']; rfl) (by omega)
    case a => intro q; exact h1.1 (List.map_eq_nil_iff.mp q)
    case b => rw [List.length_map]; omega
    case c =>
      intro r hr
      obtain ⟨k, hk2, rfl⟩ := List.mem_map.mp hr
      have := hrl _ (hk k hk2); omega
    case d =>
      intro r hr
      obtain ⟨k, hk2, rfl⟩ := List.mem_map.mp hr
      exact hok _ (hk k hk2)
end
end
noncomputable section
open PySem PySem.W PySem.Calls PySem.Spec PyProof.Rows
set_option autoImplicit false
def numsOf (script : List Int) : List Int := (script.take 4 ++ [67508, 281858, 398257, 532189]).take 4
def chosenOf (n number : Nat) : List Nat := (List.range n).filter fun k => ((number : Int) / 2 ^ k % 2 == 1)
def addItem (T : List Item) (one : Item) : List Item := if one ∈ T then T else T ++ [one]
def closItem (paths L : List Str) (n number : Nat) : Item := (closureD paths L (chosenOf n number), folderD paths (chosenOf n number))
def numbersOf (n : Nat) : List Nat := (List.range (2 ^ n - 1)).map (1 + ·)
def toldOf (paths L : List Str) (n : Nat) : List Item := (numbersOf n).foldl (fun T number => addItem T (closItem paths L n number)) []
def rightsOf (m : Int) : Int := Builtin.bitOr (Builtin.bitOr (Builtin.bitOr (m % 512) (m / 2048 % 2 * 64)) (m / 1024 % 2 * 8)) (m / 512 % 2)
theorem itemD_inj : ∀ a b : Item, itemD a = itemD b → a = b := fun ⟨a, b⟩ ⟨c, d⟩ q => by
  unfold itemD at q; injection q with q; injection q with q1 q; injection q with q2 _
  have := natsD_inj a c q1
  cases q2; rw [this]
theorem eqv_item (a b : Item) : PyData.eqv (itemD a) (itemD b) = decide (a = b) := by
  unfold itemD
  show PyData.eqvAll _ _ = _
  show (PyData.eqv (natsD a.1) (natsD b.1) && (PyData.eqv (.str a.2) (.str b.2) && true)) = _
  rw [eqv_nats, eqv_str, Bool.and_true, ← Bool.decide_and]
  exact decide_eq_decide.mpr ⟨fun ⟨x, y⟩ => Prod.ext x y, fun h => by rw [h]; exact ⟨rfl, rfl⟩⟩
theorem okD_item {a : Item} (h : PyData.strOk a.2 = true) : OkD 2 (itemD a) := okD_tuple (k := 1) fun x hx => by
  rcases List.mem_cons.mp hx with rfl | hx
  · exact okD_nats
  · rw [List.mem_singleton] at hx; subst hx; exact (okD_str h).up (by decide)
theorem sign_ok {x : Str} (h : PyData.strOk x = true) (k : Int) : PyData.strOk (sign x k) = true := by
  unfold PyData.strOk sign at *
  rw [Array.all_eq_true] at h
  have : x.cps.getD k.toNat 0 < 0x110000 := by
    rw [Array.getD_eq_getD_getElem?]
    by_cases q : k.toNat < x.cps.size
    · rw [Array.getElem?_eq_getElem q]; simpa using h k.toNat q
    · rw [Array.getElem?_eq_none (by omega)]; decide
  simpa using this
theorem signs_ok (m : Int) : PyData.strOk (signs m) = true := by
  unfold signs three
  have r : PyData.strOk "-r" = true := by decide +kernel
  have w' : PyData.strOk "-w" = true := by decide +kernel
  have x : ∀ k, PyData.strOk (execSigns k) = true := fun k => by unfold execSigns; split <;> decide +kernel
  have a : PyData.strOk "?pc?d?b?-?l?s???" = true := by decide +kernel
  have t : ∀ k, PyData.strOk (sign "-r" (fig m k / 4) ++ sign "-w" (fig m k / 2 % 2) ++ sign (execSigns k) (fig m k % 2 + 2 * spc m k)) = true := fun k => strOk_append (strOk_append (sign_ok r _) (sign_ok w' _)) (sign_ok (x k) _)
  exact strOk_append (strOk_append (strOk_append (sign_ok a _) (t 0)) (t 1)) (t 2)
theorem signs_len (m : Int) : (signs m).cps.size = 10 := by
  show (signs m).length = 10
  unfold signs three
  simp only [Str.length_append, sign_length]
theorem addItem_len (S : List Item) (one : Item) : (addItem S one).length ≤ S.length + 1 := by
  unfold addItem; split
  · omega
  · rw [List.length_append]; exact Nat.le_refl _
theorem mem_addItem {S : List Item} {one x : Item} : x ∈ addItem S one ↔ x ∈ S ∨ x = one := by
  unfold addItem; split
  · rename_i h
    exact ⟨.inl, fun q => q.elim id fun e => e ▸ h⟩
  · simp
/-- what the plain law has to show of the files -/
structure LawOk (fs : List File) : Prop where
  len1 : 1 ≤ fs.length
  len4 : fs.length ≤ 4
  plen : ∀ f ∈ fs, f.1.length ≤ 100 ∧ PyData.strOk f.1 = true
  split : ∀ f ∈ fs, (Builtin.Str.partsBetween f.1 (Builtin.Str.occurrences f.1 "/" 0 f.1.length (f.1.length + 1)) 1).length ≤ 1000
  row : ∀ f ∈ fs, (Txt.split f.1 "/").length ≤ 10 ∧ ∀ x ∈ Txt.split f.1 "/", PyData.strOk x = true
  common : ∀ number ∈ numbersOf fs.length, CommonOk (dotted (fs.map (·.1)) (chosenOf fs.length number)) ∧ PyData.strOk (folderD (fs.map (·.1)) (chosenOf fs.length number)) = true
  s64 : (setsAll (fs.map fun f => Txt.split f.1 "/") (fs.map fun f => rightsOf f.2)).length ≤ 64
  smem : ∀ one ∈ (setsAll (fs.map fun f => Txt.split f.1 "/") (fs.map fun f => rightsOf f.2)).drop 1, one ≠ [] ∧ JoinOk "/" (frontR (one.map fun k => (fs.map fun f => Txt.split f.1 "/").getD k [])) = true
  t64 : (toldOf (fs.map (·.1)) (fs.map fun f => signs f.2) fs.length).length < 64
  tok : ∀ i ∈ sortD (toldOf (fs.map (·.1)) (fs.map fun f => signs f.2) fs.length), PyData.strOk i.2 = true
  same : sortD (toldOf (fs.map (·.1)) (fs.map fun f => signs f.2) fs.length) = sortD (((setsAll (fs.map fun f => Txt.split f.1 "/") (fs.map fun f => rightsOf f.2)).drop 1).map (setItem (fs.map fun f => Txt.split f.1 "/")))
end
noncomputable section
open PySem PySem.W PySem.Calls PySem.Spec PyProof.Rows
set_option autoImplicit false
def lV (fs : List File) : Vars := [(("files" : Str), .list (fs.map fileD)), (("paths" : Str), .list (fs.map fun f => .str f.1)), (("listings" : Str), .list (fs.map fun f => .str (signs f.2)))]
section
variable {prog : Program} {w : World} {n : Nat}
/-- a bit of a number -/
theorem tr_bit {c : Cx} {K : Frag} {e1 e2 : Expr} {p1 p2 p3 p4 p5 p6 p7 : Pos} {k1 k2 k3 : Nat} {m : Int} {k : Nat} (h1 : Ev prog w K n c e1 (.int m)) (h2 : Ev prog w K n c e2 (natD k)) (hk : k ≤ 20) :
    Tr prog w K n c (.Compare (.BinOp (.BinOp e1 .FloorDiv (.BinOp (.Constant (.int 2) k1 p1) .Pow e2 p2) p3) .Mod (.Constant (.int 2) k2 p4) p5) [.Eq] [.Constant (.int 1) k3 p6] p7) (m / 2 ^ k % 2 == 1) := by
  have hpow : (2 : Int) ^ ((k : Nat) : Int).toNat = 2 ^ k := by rw [Int.toNat_natCast]
  have hpos : (0 : Int) < 2 ^ k := Int.pow_pos (by decide)
  have hle : (2 : Int) ^ k < 1073741824 := by
    have : (2 : Nat) ^ k ≤ 2 ^ 20 := Nat.pow_le_pow_right (by decide) hk
    have e : ((2 ^ k : Nat) : Int) = 2 ^ k := by rw [Int.natCast_pow]; rfl
    rw [← e]; omega
  have hb : ((Builtin.Int.intBits 2 : Nat) : Int) * (k : Int) ≤ 2 ^ 27 := by show (2 : Int) * _ ≤ _; omega
  exact tr_cmp (ev_bin (ev_bin h1 (ev_eq (ev_bin ev_int h2 (bin_pow_int (Int.natCast_nonneg k) hb)) (by rw [hpow])) (bin_div hpos hle)) ev_int (bin_mod (by decide) (by decide))) ev_int cmp_eq_int
/-- if one not in told: told.append(one) -/
theorem ex_addItem {K : Frag} {names : List (Str × NameKind)} {vars : Vars} {S : List Item} {one : Item} {x y : Str} {p1 p2 p3 p4 p5 p6 p7 p8 : Pos} (hx : vars.lookup x = some (itemD one)) (hsz : S.length ≤ 100000) (hS : ∀ i ∈ S, PyData.strOk i.2 = true) (h1 : PyData.strOk one.2 = true)
    (hm : ∀ r, r = Expr.Name y p2 → behindInMarks .NotIn r = false)
    (hbase : ∀ env, attributeBase (.Name y p4) ("append" : Str) env (eval (.Name y p4) env) = eval (.Name y p4) env) (hline : (p5.endLine == p7.line) = true)
    (hd : (x == ("__debug__" : Str)) = false := by rfl) (hn : (x == ("__classdict__" : Str)) = false := by rfl) (hd' : (y == ("__debug__" : Str)) = false := by rfl) (hn' : (y == ("__classdict__" : Str)) = false := by rfl) :
    Ex1 prog w K n ⟨names, vars, some (y, S.map itemD)⟩ (.If (.Compare (.Name x p1) [.NotIn] [.Name y p2] p3) [.Expr (.Call (.Attribute (.Name y p4) ("append" : Str) p5) [.Name x p6] [] p7) p8] [] p3) (.next vars (some (y, (addItem S one).map itemD))) := by
  refine ex_if (tr_eq (tr_notin (d := itemD one) (ds := S.map itemD) (ev_name hx hd hn) (ev_own rfl hd' hn') ((okD_list (k := 2) fun d hdd => ?_).shaped) (okD_item h1).shaped (hm _ rfl)) (d' := !(decide (one ∈ S))) (by rw [any_eqv eqv_item]; congr)) (fun hb => ?_) fun hb => ?_
  · obtain ⟨a, ha, rfl⟩ := List.mem_map.mp hdd; exact okD_item (hS a ha)
  · have hq : ¬ one ∈ S := by simpa using hb
    have e : addItem S one = S ++ [one] := if_neg hq
    exact ex_eq (ex_one (sx_append (d := itemD one) (ev_name hx hd hn) (by rw [List.length_map, sizeLine_eq]; omega) hbase hline (fun _ => rfl) hd' hn')) (by rw [e, List.map_append]; rfl)
  · have hq : one ∈ S := by simpa using hb
    have e : addItem S one = S := if_pos hq
    exact ex_eq ex_nil (by rw [e])
set_option maxHeartbeats 0 in
theorem spec_law {script : List Int} (hs : script.length ≤ 63) (hL : LawOk (filesOf (numsOf script))) : FnSpec prog w (hd.heap_39 w.params) (n + 12) 213 [.list (script.map .int)] (.bool true) := by
  obtain ⟨fs, hfs⟩ : ∃ fs, filesOf (numsOf script) = fs := ⟨_, rfl⟩
  rw [hfs] at hL
  refine fn_spec (ps := [("script" : Str)]) rfl rfl rfl rfl rfl rfl ?_ (by decide) rfl rfl rfl rfl rfl rfl rfl ?_
  · intro vals hv
    match vals, hv with
    | [_], _ => rfl
  · have hl4 := hL.len4
    have hsz : ∀ {m : Nat}, m ≤ 1000 → m ≤ sizeLine := fun h => by rw [sizeLine_eq]; omega
    have hn4 : (numsOf script).length ≤ 4 := by unfold numsOf; rw [List.length_take]; omega
    refine sx_cons (sx_assign (d := .list (fs.map fileD)) (ev_eq (ev_call (evs_cons (ev_eq (d' := .list ((numsOf script).map .int)) (ev_upto (b := 4) (Ev.weak (ev_bin (ev_upto (b := 4) (Ev.weak (ev_name rfl)) ev_int (by rw [List.length_map]; exact hsz (by omega))) (ev_list (ds := ([67508, 281858, 398257, 532189] : List Int).map .int) (evs_cons ev_int (evs_cons ev_int (evs_cons ev_int (evs_cons ev_int evs_nil)))) (by show 4 ≤ sizeLine; decide)) (bin_add_list ?_))) ev_int ?_) ?_) evs_nil) (spec_files (n := n + 8) hn4) rfl rfl rfl) (by rw [hfs])) (.inl rfl) noOwn) ?_
    · rw [List.length_take, List.length_map, List.length_map]; show _ + 4 ≤ _; rw [sizeLine_eq]; omega
    · rw [List.length_append, List.length_take, List.length_map, List.length_map]; show _ + 4 ≤ _; rw [sizeLine_eq]; omega
    · unfold numsOf; rw [List.map_take, List.map_append, List.map_take]
    refine sx_cons (sx_compM (D := fileD) (f := fun f => .str f.1) fileD_inj (it_list (ev_name rfl)) (hsz (by omega)) rfl noOwn rfl (fun a _ => tgt_pair (.inl rfl) (.inl rfl) rfl) fun a _ => ev_name rfl) ?_
    refine sx_cons (sx_compM (D := fileD) (f := fun f => .str (signs f.2)) fileD_inj (it_list (ev_name rfl)) (hsz (by omega)) rfl noOwn rfl (fun a _ => tgt_pair (.inl rfl) (.inl rfl) rfl) fun a _ => ev_call (evs_cons (ev_name rfl) evs_nil) (spec_filemode (n := n + 9)) rfl rfl rfl) ?_
    have hSg : (fs.map fun f => PyData.str (signs f.2)) = (fs.map fun f => signs f.2).map .str := by rw [List.map_map]; rfl
    have hPg : (fs.map fun f => PyData.str f.1) = (fs.map (·.1)).map .str := by rw [List.map_map]; rfl
    have hcmp : CmpSpec prog w (n + 11) .NotEq (.list (fs.map fun f => PyData.str (signs f.2))) (.list (fs.map fun f => PyData.str (signs f.2))) false := by
      rw [hSg]
      have := cmp_ne_rows (prog := prog) (w := w) (n := n + 11) (a := fs.map fun f => signs f.2) (b := fs.map fun f => signs f.2) (fun x hx => by obtain ⟨f, _, rfl⟩ := List.mem_map.mp hx; exact signs_ok _) (fun x hx => by obtain ⟨f, _, rfl⟩ := List.mem_map.mp hx; exact signs_ok _)
      rw [decide_eq_true rfl] at this
      exact this
    refine sx_cons (ex_if (tr_cmp (ev_name rfl) (ev_compM (D := fileD) (f := fun f => .str (signs f.2)) fileD_inj (it_list (ev_name rfl)) (hsz (by omega)) (fun a _ => tgt_pair (.inl rfl) (.inl rfl) rfl) fun a _ => ev_call (evs_cons (ev_name rfl) evs_nil) (spec_signs (n := n + 10)) rfl rfl rfl) hcmp) (fun q => nomatch q) fun _ => ex_nil) ?_
    refine ex_pre (v' := lV fs) ?_ (List.forall_mem_cons.mpr ⟨rfl, List.forall_mem_cons.mpr ⟨rfl, List.forall_mem_cons.mpr ⟨rfl, List.forall_mem_nil _⟩⟩⟩)
    refine sx_cons (sx_assign_own (ds := []) evs_nil (.inl rfl) rfl (by decide)) ?_
    refine sx_cons (v := lV fs) (ow := some (("told" : Str), (toldOf (fs.map (·.1)) (fs.map fun f => signs f.2) fs.length).map itemD)) (sx_for (It.f (it_eq (it_range2 (a := 1) (m := 2 ^ fs.length - 1) ev_int ?stop rfl rfl ?_ (by decide) (by decide)) (upto_from 1 _))) (loop_fold natD (fun _ => lV fs) (fun T => some (("told" : Str), T.map itemD)) (fun T number => addItem T (closItem (fs.map (·.1)) (fs.map fun f => signs f.2) fs.length number)) (fun r T => T.length + r.length ≤ 1000 ∧ (∀ x ∈ r, x ∈ numbersOf fs.length) ∧ ∀ i ∈ T, PyData.strOk i.2 = true) ?turn (numbersOf fs.length) [] ?start fun _ => ex_nil)) ?_
    case stop =>
      refine ev_eq (ev_bin ev_int (ev_len (Ev.weak (ev_name rfl)) rfl rfl (by rw [List.length_map]; omega)) (bin_pow_int (Int.natCast_nonneg _) ?_)) ?_
      · rw [List.length_map]; show (2 : Int) * _ ≤ _; omega
      · rw [List.length_map, Int.toNat_natCast]
        have : 1 ≤ 2 ^ fs.length := Nat.one_le_two_pow
        have e : ((2 ^ fs.length - 1 : Nat) : Int) = 2 ^ fs.length - 1 := by rw [Int.natCast_sub this, Int.natCast_pow]; rfl
        rw [e]
        congr 1
        omega
    · have : 2 ^ fs.length ≤ 2 ^ 4 := Nat.pow_le_pow_right (by decide) hl4
      omega
    case start =>
      have : 2 ^ fs.length ≤ 2 ^ 4 := Nat.pow_le_pow_right (by decide) hl4
      refine ⟨?_, fun _ h => h, fun _ h => nomatch h⟩
      unfold numbersOf
      rw [List.length_map, List.length_range]
      show 0 + _ ≤ _
      omega
    case turn =>
      intro number r T hp
      obtain ⟨h1, h2, h3⟩ := hp
      rw [List.length_cons] at h1
      have hnum := h2 number (.head _)
      have hc := hL.common number hnum
      have hlen := addItem_len T (closItem (fs.map (·.1)) (fs.map fun f => signs f.2) fs.length number)
      refine ⟨⟨by omega, fun x hx => h2 x (.tail _ hx), fun i hi => ?_⟩, _, tgt_name (.inr ⟨rfl, List.mem_of_elem_eq_true rfl⟩), fun y l q => by cases q; rfl, ?_⟩
      · rcases mem_addItem.mp hi with q | q
        · exact h3 i q
        · subst q; exact hc.2
      have hch : ∀ k ∈ chosenOf fs.length number, k < fs.length := fun k hk => List.mem_range.mp (List.mem_filter.mp hk).1
      have hchl : (chosenOf fs.length number).length ≤ 4 := by
        have := List.length_filter_le (fun k => ((number : Int) / 2 ^ k % 2 == 1)) (List.range fs.length)
        rw [List.length_range] at this
        unfold chosenOf; omega
      have hgetP : ∀ k, ((fs.map (·.1)).getD k ("" : Str)).length ≤ 100 := fun k => by
        rw [List.getD_eq_getElem?_getD, List.getElem?_map]
        cases hk : fs[k]? with
        | none => decide
        | some f => exact (hL.plen f (List.mem_of_getElem? hk)).1
      have hgetL : ∀ k, k < (fs.map fun f => signs f.2).length → ((fs.map fun f => signs f.2).getD k ("" : Str)).cps.size = 10 := fun k hk => by
        rw [List.length_map] at hk
        rw [List.getD_eq_getElem?_getD, List.getElem?_map, List.getElem?_eq_getElem hk]
        exact signs_len _
      refine ex_sub (v := (("one" : Str), itemD (closItem (fs.map (·.1)) (fs.map fun f => signs f.2) fs.length number)) :: (("number" : Str), natD number) :: lV fs) (sx_cons (sx_assign (ev_call (evs_cons (ev_eq (d' := .list ((chosenOf fs.length number).map natD)) (ev_compL (D := natD) (f := natD) (l := List.range fs.length) (p := fun k => ((number : Int) / 2 ^ k % 2 == 1)) natD_inj (it_eq (it_range1 (m := fs.length) (ev_eq (ev_len (Ev.weak (ev_name rfl)) rfl rfl (by rw [List.length_map]; omega)) (by rw [List.length_map])) rfl rfl (by omega)) (upto_nat _)) (by rw [List.length_range]; exact hsz (by omega)) (fun a _ => tgt_name (.inl rfl)) (fun k hk => ?tst) (fun a _ _ => ev_name rfl)) rfl) (evs_cons (ev_eq (ev_name rfl) (by rw [hPg])) (evs_cons (ev_eq (ev_name rfl) (by rw [hSg])) evs_nil))) (spec_closure (n := n + 1) (by rw [List.length_map]; omega) (by rw [List.length_map, List.length_map]) hgetL (fun k hk => by rw [List.length_map]; exact hch k hk) (by omega) hgetP hc.1) rfl rfl rfl) (.inl rfl) (fun y l q => by cases q; rfl)) (ex_one ?app)) ?_
      case tst => exact tst_one (tr_bit (ev_name rfl) (ev_name rfl) (by have := List.mem_range.mp hk; omega))
      case app =>
        refine ex_addItem rfl (by omega) h3 hc.2 ?_ (fun _ => rfl) rfl
        intro r hr; subst hr; with_unfolding_all rfl
      exact List.forall_mem_cons.mpr ⟨rfl, List.forall_mem_cons.mpr ⟨rfl, List.forall_mem_cons.mpr ⟨rfl, List.forall_mem_nil _⟩⟩⟩
    have hmul : ∀ {a b : Int}, Builtin.Int.intBits b ≤ 64 → BinSpec prog w (n + 11) .Mult (.int a) (.int b) (.int (a * b)) := fun h => bin_mul_int (IntMulOk.of_right h)
    refine sx_cons (sx_compM (D := fileD) (f := fun f => .int (rightsOf f.2)) fileD_inj (it_list (ev_name rfl)) (hsz (by omega)) rfl (fun y l q => by cases q; rfl) rfl (fun a _ => tgt_pair (.inl rfl) (.inl rfl) rfl) fun a _ => ev_bin (ev_bin (ev_bin (ev_bin (ev_name rfl) ev_int (bin_mod (by decide) (by decide))) (ev_bin (ev_bin (ev_bin (ev_name rfl) ev_int (bin_div (by decide) (by decide))) ev_int (bin_mod (by decide) (by decide))) ev_int (hmul (by decide))) bin_or_int) (ev_bin (ev_bin (ev_bin (ev_name rfl) ev_int (bin_div (by decide) (by decide))) ev_int (bin_mod (by decide) (by decide))) ev_int (hmul (by decide))) bin_or_int) (ev_bin (ev_bin (ev_name rfl) ev_int (bin_div (by decide) (by decide))) ev_int (bin_mod (by decide) (by decide))) bin_or_int) ?_
    have hRg : (fs.map fun f => PyData.int (rightsOf f.2)) = (fs.map fun f => rightsOf f.2).map .int := by rw [List.map_map]; rfl
    have hsok : ∀ d ∈ (sortD (toldOf (fs.map (·.1)) (fs.map fun f => signs f.2) fs.length)).map itemD, OkD 2 d := fun d hd => by
      obtain ⟨i, hi, rfl⟩ := List.mem_map.mp hd; exact okD_item (hL.tok i hi)
    have hc : CmpSpec prog w (n + 11) .Eq (.list ((sortD (toldOf (fs.map (·.1)) (fs.map fun f => signs f.2) fs.length)).map itemD)) (.list ((sortD (((setsAll (fs.map fun f => Txt.split f.1 "/") (fs.map fun f => rightsOf f.2)).drop 1).map (setItem (fs.map fun f => Txt.split f.1 "/")))).map itemD)) true := by
      rw [← hL.same]
      have := cmp_eq_data (prog := prog) (w := w) (n := n + 11) (okD_list hsok).shaped (okD_list hsok).shaped
      rw [eqv_list eqv_item, decide_eq_true rfl] at this
      exact this
    refine ex_cons_ret (ex_return (ev_cmp (ev_sorted (ev_own rfl) hL.t64 rfl rfl) (ev_call (evs_cons (ev_eq (d' := .list ((fs.map fun f => Txt.split f.1 "/").map rowL)) (ev_compM (D := .str) (l := fs.map (·.1)) (f := fun x => rowL (Txt.split x "/")) str_inj (it_eq (it_list (ev_name rfl)) hPg) (by rw [List.length_map]; exact hsz (by omega)) (fun a _ => tgt_name (.inl rfl)) fun a ha => ?elt) (by rw [List.map_map, List.map_map]; rfl)) (evs_cons (ev_eq (ev_name rfl) (by rw [hRg])) evs_nil)) (spec_sets (n := n + 6) (by rw [List.length_map]; omega) ?r1 ?r2 (by rw [List.length_map, List.length_map]) hL.s64 hL.smem) rfl rfl rfl) hc))
    case elt =>
      obtain ⟨f, hf, rfl⟩ := List.mem_map.mp ha
      have h1 := (hL.plen f hf).1
      have h2 := hL.split f hf
      exact ev_split (ev_name rfl) ev_str rfl (by rw [sizeLine_eq]; omega) (by rw [sizeLine_eq]; exact Nat.le_trans h2 (by omega))
    case r1 =>
      intro r hr
      obtain ⟨f, hf, rfl⟩ := List.mem_map.mp hr
      exact (hL.row f hf).1
    case r2 =>
      intro r hr
      obtain ⟨f, hf, rfl⟩ := List.mem_map.mp hr
      exact (hL.row f hf).2
end
end
noncomputable section
open PySem PySem.W PySem.Calls PySem.Spec PyProof.Rows
set_option autoImplicit false
/-! ### strict orders -/
structure SO {α : Type} (lt : α → α → Bool) : Prop where
  irr : ∀ a, lt a a = false
  trans : ∀ a b c, lt a b = true → lt b c = true → lt a c = true
  tri : ∀ a b, a ≠ b → lt a b = true ∨ lt b a = true
theorem SO.asym {α : Type} {lt : α → α → Bool} (h : SO lt) {a b : α} (x : lt a b = true) : lt b a = false := by
  cases e : lt b a with
  | false => rfl
  | true => have := h.trans a b a x e; rw [h.irr] at this; cases this
theorem so_nat : SO (fun a b : Nat => decide (a < b)) where
  irr := fun a => by simp
  trans := fun a b c x y => by simp at *; omega
  tri := fun a b h => by simp; omega
theorem so_lex {α : Type} [DecidableEq α] {lt : α → α → Bool} (h : SO lt) : SO (lexC lt (szOf .Lt)) where
  irr := fun a => by
    induction a with
    | nil => rfl
    | cons x a ih => unfold lexC; rw [if_pos rfl]; exact ih
  trans := fun a => by
    induction a with
    | nil =>
      intro b c x y
      cases c with
      | nil => cases b with
        | nil => exact x
        | cons p b => exact absurd y (by unfold lexC szOf; simp)
      | cons p c => unfold lexC szOf; simp
    | cons p a ih =>
      intro b c x y
      cases b with
      | nil => exact absurd x (by unfold lexC szOf; simp)
      | cons q b =>
        cases c with
        | nil => exact absurd y (by unfold lexC szOf; simp)
        | cons r c =>
          unfold lexC at x y ⊢
          by_cases e1 : p = q
          · subst e1
            rw [if_pos rfl] at x
            by_cases e2 : p = r
            · subst e2; rw [if_pos rfl] at y ⊢; exact ih _ _ x y
            · rw [if_neg e2] at y ⊢; exact y
          · rw [if_neg e1] at x
            by_cases e2 : q = r
            · subst e2; rw [if_neg e1]; exact x
            · rw [if_neg e2] at y
              have hz := h.trans _ _ _ x y
              have : p ≠ r := fun e => by rw [e, h.irr] at hz; cases hz
              rw [if_neg this]; exact hz
  tri := fun a => by
    induction a with
    | nil =>
      intro b hb
      cases b with
      | nil => exact absurd rfl hb
      | cons q b => left; unfold lexC szOf; simp
    | cons p a ih =>
      intro b hb
      cases b with
      | nil => right; unfold lexC szOf; simp
      | cons q b =>
        unfold lexC
        by_cases e : p = q
        · subst e; rw [if_pos rfl, if_pos rfl]; exact ih b fun e => hb (by rw [e])
        · rw [if_neg e, if_neg fun q => e q.symm]; exact h.tri _ _ e
theorem lt_tri : ∀ a b : List Nat, a ≠ b → a < b ∨ b < a
  | [], [], h => absurd rfl h
  | [], _ :: _, _ => .inl (List.nil_lt_cons _ _)
  | _ :: _, [], _ => .inr (List.nil_lt_cons _ _)
  | x :: a, y :: b, h => by
    rw [List.cons_lt_cons_iff, List.cons_lt_cons_iff]
    by_cases e : x = y
    · subst e
      rcases lt_tri a b (fun e => h (by rw [e])) with q | q
      · exact .inl (.inr ⟨rfl, q⟩)
      · exact .inr (.inr ⟨rfl, q⟩)
    · rcases Nat.lt_or_gt_of_ne e with q | q
      · exact .inl (.inl q)
      · exact .inr (.inl q)
theorem str_ext {a b : Str} (h : a.cps.toList = b.cps.toList) : a = b := by
  cases a; cases b
  congr
  exact Array.toList_inj.mp h
theorem so_str : SO ltS where
  irr := fun a => by unfold ltS; simp [List.lt_irrefl]
  trans := fun a b c x y => by
    unfold ltS at *
    exact decide_eq_true (List.lt_trans (of_decide_eq_true x) (of_decide_eq_true y))
  tri := fun a b h => by
    unfold ltS
    rcases lt_tri a.cps.toList b.cps.toList (fun e => h (str_ext e)) with q | q
    · exact .inl (decide_eq_true q)
    · exact .inr (decide_eq_true q)
theorem so_item : SO ltI where
  irr := fun a => by unfold ltI; rw [if_pos rfl, if_pos rfl]
  trans := fun ⟨a, x⟩ ⟨b, y⟩ ⟨c, z⟩ h1 h2 => by
    unfold ltI at *
    have N : SO ltN := so_lex so_nat
    dsimp only at *
    by_cases e1 : a = b
    · subst e1
      rw [if_pos rfl] at h1
      by_cases e2 : a = c
      · subst e2
        rw [if_pos rfl] at h2 ⊢
        by_cases f1 : x = y
        · rw [if_pos f1] at h1; cases h1
        · rw [if_neg f1] at h1
          by_cases f2 : y = z
          · rw [if_pos f2] at h2; cases h2
          · rw [if_neg f2] at h2
            have hz := so_str.trans _ _ _ h1 h2
            rw [if_neg fun e => by rw [e, so_str.irr] at hz; cases hz]; exact hz
      · rw [if_neg e2] at h2 ⊢; exact h2
    · rw [if_neg e1] at h1
      by_cases e2 : b = c
      · subst e2; rw [if_neg e1]; exact h1
      · rw [if_neg e2] at h2
        have hz := N.trans _ _ _ h1 h2
        rw [if_neg fun e => by rw [e, N.irr] at hz; cases hz]; exact hz
  tri := fun ⟨a, x⟩ ⟨b, y⟩ h => by
    unfold ltI
    dsimp only
    have N : SO ltN := so_lex so_nat
    by_cases e1 : a = b
    · subst e1
      rw [if_pos rfl, if_pos rfl]
      have f : x ≠ y := fun e => h (by rw [e])
      rw [if_neg f, if_neg f.symm]
      exact so_str.tri _ _ f
    · rw [if_neg e1, if_neg fun e => e1 e.symm]
      exact N.tri _ _ e1
/-! ### sorted lists -/
theorem up_unique {α : Type} {lt : α → α → Bool} (h : SO lt) : ∀ l m : List α, l.Pairwise (fun a b => lt a b = true) → m.Pairwise (fun a b => lt a b = true) → (∀ x, x ∈ l ↔ x ∈ m) → l = m
  | [], [], _, _, _ => rfl
  | [], b :: m, _, _, e => absurd ((e b).mpr (.head _)) (fun q => nomatch q)
  | a :: l, [], _, _, e => absurd ((e a).mp (.head _)) (fun q => nomatch q)
  | a :: l, b :: m, p, q, e => by
    rw [List.pairwise_cons] at p q
    have hab : a = b := by
      rcases List.mem_cons.mp ((e a).mp (.head _)) with x | x
      · exact x
      · rcases List.mem_cons.mp ((e b).mpr (.head _)) with y | y
        · exact y.symm
        · have h1 := q.1 a x
          have h2 := p.1 b y
          rw [h.asym h1] at h2; cases h2
    subst hab
    rw [up_unique h l m p.2 q.2 fun x => ⟨fun hx => ?_, fun hx => ?_⟩]
    · rcases List.mem_cons.mp ((e x).mp (.tail _ hx)) with y | y
      · subst y; have := p.1 x hx; rw [h.irr] at this; cases this
      · exact y
    · rcases List.mem_cons.mp ((e x).mpr (.tail _ hx)) with y | y
      · subst y; have := q.1 x hx; rw [h.irr] at this; cases this
      · exact y
theorem getD_of_lt {α : Type} {l : List α} {i : Nat} {d : α} (h : i < l.length) : l.getD i d = l[i] := by
  rw [List.getD_eq_getElem?_getD, List.getElem?_eq_getElem h]; rfl
theorem sortD_mem {l : List Item} {x : Item} : x ∈ sortD l ↔ x ∈ l := by
  unfold sortD
  split
  · exact Iff.rfl
  · have hpm : Pm (kasRun (ordOf l) (kas_sort l.length)) l.length := asksIn_run _ (asks_sort (by omega))
    rw [List.mem_map]
    constructor
    · rintro ⟨i, hi, rfl⟩
      have := List.mem_range.mp (hpm.perm.mem_iff.mp hi)
      rw [getD_of_lt this]; exact List.getElem_mem this
    · intro hx
      obtain ⟨i, hi, rfl⟩ := List.getElem_of_mem hx
      exact ⟨i, hpm.perm.mem_iff.mpr (List.mem_range.mpr hi), getD_of_lt hi⟩
theorem tot_ord {l : List Item} (hn : l.Nodup) : Tot (ordOf l) l.length where
  tri := fun i j hi hj hij => by
    unfold ordOf
    rw [getD_of_lt hi, getD_of_lt hj]
    exact so_item.tri _ _ fun e => hij ((List.getElem_inj hn).mp e)
  asym := fun i j h => so_item.asym h
  trans := fun i j k => so_item.trans _ _ _
theorem sortD_up {l : List Item} (hn : l.Nodup) : (sortD l).Pairwise (fun a b => ltI a b = true) := by
  unfold sortD
  split
  · rename_i h
    match l, h with
    | [], _ => exact .nil
    | [a], _ => exact List.pairwise_singleton _ _
  · obtain ⟨q, e, hp, hu⟩ := run_sort (tot_ord hn) (by omega)
    rw [e, List.pairwise_map, List.pairwise_iff_getElem]
    intro i j hi hj hij
    rw [Array.length_toList, hp.size] at hi hj
    have := hu i j hij hj
    unfold ordOf at' at this
    rw [Array.getD_eq_getD_getElem?, Array.getD_eq_getD_getElem?, Array.getElem?_eq_getElem (by rw [hp.size]; exact hi), Array.getElem?_eq_getElem (by rw [hp.size]; exact hj)] at this
    rw [Array.getElem_toList, Array.getElem_toList]
    exact this
theorem sortD_eq {l m : List Item} (hl : l.Nodup) (hm : m.Nodup) (h : ∀ x, x ∈ l ↔ x ∈ m) : sortD l = sortD m :=
  up_unique so_item _ _ (sortD_up hl) (sortD_up hm) fun x => by rw [sortD_mem, sortD_mem]; exact h x
/-! ### fronts -/
def IsFront (rows : List (List Str)) (f : List Str) : Prop := (∀ r ∈ rows, f <+: r) ∧ ∀ g, (∀ r ∈ rows, g <+: r) → g <+: f
theorem prefix_anti {α : Type} {a b : List α} (h : a <+: b) (h' : b <+: a) : a = b := by
  obtain ⟨t, rfl⟩ := h
  have := h'.length_le
  rw [List.length_append] at this
  have : t = [] := List.length_eq_zero_iff.mp (by omega)
  rw [this, List.append_nil]
theorem IsFront.unique {rows : List (List Str)} {f g : List Str} (h : IsFront rows f) (h' : IsFront rows g) : f = g := prefix_anti (h'.2 f h.1) (h.2 g h'.1)
theorem prefix_take {α : Type} {a b : List α} (h : a <+: b) : b.take a.length = a := by
  obtain ⟨t, rfl⟩ := h
  rw [List.take_left]
theorem take_prefix_iff {α : Type} {a b : List α} {j : Nat} (hj : j ≤ a.length) : b.take j = a.take j ↔ a.take j <+: b := by
  constructor
  · intro h; rw [← h]; exact List.take_prefix _ _
  · intro h
    have := prefix_take h
    rw [List.length_take, Nat.min_eq_left hj] at this
    exact this
theorem downTo_le (stop : Nat → Bool) : ∀ k, downTo stop k ≤ k
  | 0 => Nat.le_refl _
  | k + 1 => by
    unfold downTo; split
    · exact Nat.le_refl _
    · exact Nat.le_succ_of_le (downTo_le stop k)
theorem downTo_stop {stop : Nat → Bool} (h0 : stop 0 = true) : ∀ k, stop (downTo stop k) = true
  | 0 => h0
  | k + 1 => by
    unfold downTo; split
    · rename_i h; exact h
    · exact downTo_stop h0 k
theorem downTo_max {stop : Nat → Bool} {j : Nat} (hj : stop j = true) : ∀ k, j ≤ k → j ≤ downTo stop k
  | 0, h => by rw [Nat.le_zero.mp h]; exact Nat.zero_le _
  | k + 1, h => by
    unfold downTo; split
    · exact h
    · rename_i hs
      refine downTo_max hj k ?_
      by_cases e : j = k + 1
      · subst e; exact absurd hj hs
      · omega
theorem stopsAt_iff {rows : List (List Str)} {r : List Str} {k : Nat} : stopsAt rows r k = true ↔ ∀ row ∈ rows, row.take k = r.take k := by
  unfold stopsAt
  rw [List.isEmpty_iff, List.filter_eq_nil_iff]
  simp
theorem frontR_is {rows : List (List Str)} (hne : rows ≠ []) : IsFront rows (frontR rows) := by
  obtain ⟨r, rs, hr⟩ : ∃ r rs, rows = r :: rs := by
    cases rows with
    | nil => exact absurd rfl hne
    | cons a b => exact ⟨a, b, rfl⟩
  have hr0 : rows.headD [] = r := by rw [hr]; rfl
  have hrm : r ∈ rows := by rw [hr]; exact .head _
  have h0 : stopsAt rows r 0 = true := stopsAt_iff.mpr fun row _ => by rw [List.take_zero, List.take_zero]
  unfold frontR
  rw [hr0]
  refine ⟨fun row hrow => ?_, fun g hg => ?_⟩
  · have := stopsAt_iff.mp (downTo_stop h0 r.length) row hrow
    rw [← this]; exact List.take_prefix _ _
  · have hgr := hg r hrm
    have hst : stopsAt rows r g.length = true := stopsAt_iff.mpr fun row hrow => by rw [prefix_take (hg row hrow), prefix_take hgr]
    have hle := downTo_max hst r.length hgr.length_le
    have e := prefix_take hgr
    obtain ⟨m, hm⟩ : ∃ m, downTo (stopsAt rows r) r.length = m := ⟨_, rfl⟩
    rw [hm] at hle ⊢
    rw [← e]
    exact List.take_prefix_take_left hle
/-! ### the least and the greatest row -/
abbrev ltR : List Str → List Str → Bool := lexC ltS (szOf .Lt)
theorem so_row : SO ltR := so_lex so_str
theorem lexC_flip : ∀ a b : List Str, lexC (fun a b => ltS b a) (szOf .Gt) a b = ltR b a
  | [], [] => rfl
  | [], _ :: _ => by unfold ltR lexC szOf; simp
  | _ :: _, [] => by unfold ltR lexC szOf; simp
  | x :: a, y :: b => by
    unfold ltR lexC
    by_cases e : x = y
    · subst e; rw [if_pos rfl, if_pos rfl]; exact lexC_flip a b
    · rw [if_neg e, if_neg fun q => e q.symm]
theorem argBest_best {bt : Nat → Nat → Bool} (hs : SO bt ∨ ((∀ a, bt a a = false) ∧ ∀ a b c, bt a b = true → bt b c = true → bt a c = true)) : ∀ k i, i ≤ k → bt i (argBest bt k) = false := by
  have h1 : (∀ a, bt a a = false) := hs.elim (·.irr) (·.1)
  have h2 : ∀ a b c, bt a b = true → bt b c = true → bt a c = true := hs.elim (·.trans) (·.2)
  intro k
  induction k with
  | zero => intro i hi; rw [Nat.le_zero.mp hi]; exact h1 _
  | succ k ih =>
    intro i hi
    unfold argBest
    split
    · rename_i hb
      by_cases e : i = k + 1
      · subst e; exact h1 _
      · cases q : bt i (k + 1) with
        | false => rfl
        | true =>
          have := h2 _ _ _ q hb
          rw [ih i (by omega)] at this; cases this
    · rename_i hb
      by_cases e : i = k + 1
      · subst e; simpa using hb
      · exact ih i (by omega)
theorem best_mem {rows : List (List Str)} (hne : rows ≠ []) {bt : Nat → Nat → Bool} : rows.getD (argBest bt (rows.length - 1)) [] ∈ rows := by
  have h1 := argBest_le bt (rows.length - 1)
  have h2 := List.length_pos_iff.mpr hne
  rw [getD_of_lt (by omega)]; exact List.getElem_mem _
theorem minRow_mem {rows : List (List Str)} (hne : rows ≠ []) : minRow rows ∈ rows := best_mem hne
theorem maxRow_mem {rows : List (List Str)} (hne : rows ≠ []) : maxRow rows ∈ rows := best_mem hne
theorem minRow_le {rows : List (List Str)} {r : List Str} (hr : r ∈ rows) : ltR r (minRow rows) = false := by
  obtain ⟨i, hi, rfl⟩ := List.getElem_of_mem hr
  have := argBest_best (bt := fun i j => ltR (rows.getD i []) (rows.getD j [])) (.inr ⟨fun a => so_row.irr _, fun a b c => so_row.trans _ _ _⟩) (rows.length - 1) i (by omega)
  unfold minRow
  rw [← getD_of_lt (d := []) hi]; exact this
theorem le_maxRow {rows : List (List Str)} {r : List Str} (hr : r ∈ rows) : ltR (maxRow rows) r = false := by
  obtain ⟨i, hi, rfl⟩ := List.getElem_of_mem hr
  have := argBest_best (bt := fun i j => lexC (fun a b => ltS b a) (szOf .Gt) (rows.getD i []) (rows.getD j [])) (.inr ⟨fun a => by rw [lexC_flip]; exact so_row.irr _, fun a b c => by rw [lexC_flip, lexC_flip, lexC_flip]; exact fun x y => so_row.trans _ _ _ y x⟩) (rows.length - 1) i (by omega)
  unfold maxRow
  rw [lexC_flip] at this
  rw [← getD_of_lt (d := []) hi]; exact this
theorem frontOf_pre : ∀ a b r : List Str, ltR r a = false → ltR b r = false → ltR b a = false → frontOf a b <+: r
  | [], b, r, _, _, _ => by unfold frontOf; exact List.nil_prefix
  | x :: a, [], r, _, _, h => by unfold ltR lexC szOf at h; simp at h
  | x :: a, y :: b, r, h1, h2, h3 => by
    unfold frontOf
    by_cases e : x = y
    · subst e
      rw [if_neg (by simp)]
      cases r with
      | nil => unfold ltR lexC szOf at h1; simp at h1
      | cons z r =>
        unfold ltR lexC at h1 h2 h3
        rw [if_pos rfl] at h3
        by_cases e2 : z = x
        · subst e2
          rw [if_pos rfl] at h1 h2
          exact (List.prefix_cons_inj z).mpr (frontOf_pre a b r h1 h2 h3)
        · rw [if_neg e2] at h1
          rw [if_neg fun q => e2 q.symm] at h2
          rcases so_str.tri _ _ e2 with q | q
          · rw [h1] at q; cases q
          · rw [h2] at q; cases q
    · rw [if_pos (by simpa using e)]; exact List.nil_prefix
theorem frontOf_max : ∀ g a b : List Str, g <+: a → g <+: b → g <+: frontOf a b
  | [], _, _, _, _ => List.nil_prefix
  | z :: g, [], _, h, _ => by simp at h
  | z :: g, _ :: _, [], _, h => by simp at h
  | z :: g, x :: a, y :: b, h, h' => by
    rw [List.cons_prefix_cons] at h h'
    obtain ⟨rfl, h⟩ := h
    obtain ⟨rfl, h'⟩ := h'
    unfold frontOf
    rw [if_neg (by simp)]
    exact (List.prefix_cons_inj z).mpr (frontOf_max g a b h h')
theorem frontOf_is {rows : List (List Str)} (hne : rows ≠ []) : IsFront rows (frontOf (minRow rows) (maxRow rows)) :=
  ⟨fun r hr => frontOf_pre _ _ r (minRow_le hr) (le_maxRow hr) (minRow_le (maxRow_mem hne)), fun g hg => frontOf_max g _ _ (hg _ (minRow_mem hne)) (hg _ (maxRow_mem hne))⟩
theorem prefix_lt : ∀ a b : List Str, b <+: a → b.length < a.length → ltR b a = true
  | [], _, _, h => by simp at h
  | x :: a, [], _, _ => by unfold ltR lexC szOf; simp
  | x :: a, y :: b, h, hl => by
    rw [List.cons_prefix_cons] at h
    obtain ⟨rfl, h⟩ := h
    unfold ltR lexC
    rw [if_pos rfl]
    exact prefix_lt a b h (by simpa using hl)
theorem fits_rows {rows : List (List Str)} (hne : rows ≠ []) : FitsP (minRow rows) (maxRow rows) := by
  intro i hi e
  apply Classical.byContradiction
  intro hc
  have hl : (maxRow rows).length ≤ i := by omega
  rw [List.take_of_length_le hl] at e
  have hp : maxRow rows <+: minRow rows := by rw [← e]; exact List.take_prefix _ _
  have := prefix_lt _ _ hp (by omega)
  rw [minRow_le (maxRow_mem hne)] at this
  cases this
end
noncomputable section
open PySem PySem.W PySem.Calls PySem.Spec PyProof.Rows
set_option autoImplicit false
/-! ### texts joined by slashes -/
theorem slash_eq : ("/" : Str) = ⟨#[47]⟩ := by decide +kernel
theorem slash_list : ("/" : Str).cps.toList = [47] := by decide +kernel
def jl : List Str → List Nat
  | [] => []
  | [x] => x.cps.toList
  | x :: y :: r => x.cps.toList ++ 47 :: jl (y :: r)
theorem app_list (a b : Str) : (a ++ b).cps.toList = a.cps.toList ++ b.cps.toList := by rw [Str.cps_append, Array.toList_append]
theorem join_list : ∀ r : List Str, (Str.join "/" r).cps.toList = jl r
  | [] => rfl
  | [x] => rfl
  | x :: y :: r => by
    show (x ++ "/" ++ Str.join "/" (y :: r)).cps.toList = _
    rw [app_list, app_list, join_list (y :: r), slash_list]
    show _ = x.cps.toList ++ 47 :: jl (y :: r)
    simp
theorem tjoin_list (r : List Str) : (Txt.join "/" r).cps.toList = jl r := by
  show (Builtin.Str.glued "/" r).cps.toList = _
  rw [StrLaws.glued_eq_join, join_list]
theorem jl_append : ∀ u v : List Str, u ≠ [] → v ≠ [] → jl (u ++ v) = jl u ++ 47 :: jl v
  | [], _, h, _ => absurd rfl h
  | _, [], _, h => absurd rfl h
  | [x], y :: v, _, _ => rfl
  | x :: x' :: u, y :: v, _, h => by
    show x.cps.toList ++ 47 :: jl (x' :: u ++ y :: v) = (x.cps.toList ++ 47 :: jl (x' :: u)) ++ 47 :: jl (y :: v)
    rw [jl_append (x' :: u) (y :: v) (by simp) h]
    simp
def Free (r : List Str) : Prop := ∀ x ∈ r, 47 ∉ x.cps.toList
theorem cut_inj {c : Nat} : ∀ a b A B : List Nat, c ∉ a → c ∉ b → a ++ c :: A = b ++ c :: B → a = b ∧ A = B
  | [], [], A, B, _, _, h => by simpa using h
  | [], y :: b, A, B, _, hb, h => by
    simp at h
    exact absurd (h.1 ▸ List.mem_cons_self) hb
  | x :: a, [], A, B, ha, _, h => by
    simp at h
    exact absurd (h.1 ▸ List.mem_cons_self) ha
  | x :: a, y :: b, A, B, ha, hb, h => by
    rw [List.cons_append, List.cons_append] at h
    injection h with h1 h2
    obtain ⟨e1, e2⟩ := cut_inj a b A B (fun q => ha (.tail _ q)) (fun q => hb (.tail _ q)) h2
    exact ⟨by rw [h1, e1], e2⟩
theorem jl_inj : ∀ u v : List Str, u ≠ [] → v ≠ [] → Free u → Free v → jl u = jl v → u = v
  | [], _, h, _, _, _, _ => absurd rfl h
  | _, [], _, h, _, _, _ => absurd rfl h
  | [x], [y], _, _, _, _, h => by rw [str_ext (show x.cps.toList = y.cps.toList from h)]
  | [x], y :: y' :: v, _, _, hu, _, h => by
    have h' : x.cps.toList = y.cps.toList ++ 47 :: jl (y' :: v) := h
    exact absurd (by rw [h']; simp) (hu x (.head _))
  | x :: x' :: u, [y], _, _, _, hv, h => by
    have h' : x.cps.toList ++ 47 :: jl (x' :: u) = y.cps.toList := h
    exact absurd (by rw [← h']; simp) (hv y (.head _))
  | x :: x' :: u, y :: y' :: v, _, _, hu, hv, h => by
    have h' : x.cps.toList ++ 47 :: jl (x' :: u) = y.cps.toList ++ 47 :: jl (y' :: v) := h
    obtain ⟨e1, e2⟩ := cut_inj _ _ _ _ (hu x (.head _)) (hv y (.head _)) h'
    rw [str_ext e1, jl_inj (x' :: u) (y' :: v) (by simp) (by simp) (fun z hz => hu z (.tail _ hz)) (fun z hz => hv z (.tail _ hz)) e2]
theorem split_ne (x : Str) : Txt.split x "/" ≠ [] := by
  unfold Txt.split
  split
  · simp
  · split
    · simp
    · rw [StrLaws.partsBetween_eq]
      cases Builtin.Str.occurrences x "/" 0 x.length (x.length + 1) with
      | nil => simp [StrLaws.partsFrom]
      | cons a b => simp [StrLaws.partsFrom]
theorem split_fr (x : Str) : Free (Txt.split x "/") := by
  have := StrLaws.split_free x 47
  rw [← slash_eq] at this
  exact this
theorem split_jl (x : Str) : jl (Txt.split x "/") = x.cps.toList := by rw [← join_list, StrLaws.join_split]
theorem split_of {x : Str} {r : List Str} (hne : r ≠ []) (hf : Free r) (h : x.cps.toList = jl r) : Txt.split x "/" = r :=
  jl_inj _ _ (split_ne x) hne (split_fr x) hf (by rw [split_jl, h])
theorem split_app {a b x : Str} (h : x.cps.toList = a.cps.toList ++ 47 :: b.cps.toList) : Txt.split x "/" = Txt.split a "/" ++ Txt.split b "/" :=
  split_of (by intro q; exact split_ne a (List.append_eq_nil_iff.mp q).1) (fun z hz => (List.mem_append.mp hz).elim (split_fr a z) (split_fr b z)) (by rw [jl_append _ _ (split_ne a) (split_ne b), split_jl, split_jl, h])
theorem parts_len (x : Str) : (Builtin.Str.partsBetween x (Builtin.Str.occurrences x "/" 0 x.length (x.length + 1)) 1).length ≤ 1 ∨ (Builtin.Str.partsBetween x (Builtin.Str.occurrences x "/" 0 x.length (x.length + 1)) 1) = Txt.split x "/" ∨ x.length < 1 ∨ Builtin.Str.strKind x < Builtin.Str.strKind "/" := by
  unfold Txt.split
  split
  · rename_i h
    rw [Bool.or_eq_true, decide_eq_true_eq, decide_eq_true_eq] at h
    rcases h with h | h
    · exact .inr (.inr (.inl h))
    · exact .inr (.inr (.inr h))
  · split
    · rename_i h
      left
      rw [StrLaws.partsBetween_eq, List.isEmpty_iff.mp h]
      simp [StrLaws.partsFrom]
    · exact .inr (.inl rfl)
/-! ### below a folder -/
theorem between : ∀ f p : List Nat, (f ++ [47] < p ∧ p < f ++ [48]) ↔ ∃ t, t ≠ [] ∧ p = f ++ 47 :: t
  | [], [] => by simp
  | [], c :: t => by
    simp only [List.nil_append]
    rw [List.cons_lt_cons_iff, List.cons_lt_cons_iff]
    constructor
    · rintro ⟨h1, h2⟩
      rcases h2 with h2 | ⟨_, h2⟩
      · rcases h1 with h1 | ⟨h1, h3⟩
        · omega
        · refine ⟨t, fun e => ?_, by rw [← h1]⟩
          subst e; exact absurd h3 (List.not_lt_nil _)
      · exact absurd h2 (List.not_lt_nil _)
    · rintro ⟨t', h, e⟩
      injection e with e1 e2
      subst e1 e2
      refine ⟨.inr ⟨rfl, ?_⟩, .inl (by omega)⟩
      cases t with
      | nil => exact absurd rfl h
      | cons a b => exact List.nil_lt_cons _ _
  | x :: f, [] => by simp
  | x :: f, c :: p => by
    rw [List.cons_append, List.cons_append, List.cons_lt_cons_iff, List.cons_lt_cons_iff]
    have ih := between f p
    constructor
    · rintro ⟨h1, h2⟩
      rcases h1 with h1 | ⟨rfl, h1⟩
      · rcases h2 with h2 | ⟨rfl, h2⟩
        · omega
        · omega
      · rcases h2 with h2 | ⟨_, h2⟩
        · omega
        · obtain ⟨t, ht, e⟩ := ih.mp ⟨h1, h2⟩
          exact ⟨t, ht, by rw [e]; rfl⟩
    · rintro ⟨t, ht, e⟩
      rw [List.cons_append] at e
      injection e with e1 e2
      subst e1
      have := ih.mpr ⟨t, ht, e2⟩
      exact ⟨.inr ⟨rfl, this.1⟩, .inr ⟨rfl, this.2⟩⟩
theorem coll_neg {a b : Str} : coll a b < 0 ↔ a.cps.toList < b.cps.toList := by
  unfold coll b2i
  by_cases h1 : a.cps.toList < b.cps.toList
  · have h2 : ¬ b.cps.toList < a.cps.toList := fun h => List.lt_irrefl _ (List.lt_trans h h1)
    simp [h1, h2]
  · simp only [h1, decide_false, iff_false]
    split <;> simp
theorem coll_zero {a b : Str} : (coll a b == 0) = true ↔ a = b := by
  rw [beq_iff_eq]
  constructor
  · intro h
    apply Classical.byContradiction
    intro hne
    unfold coll b2i at h
    rcases lt_tri a.cps.toList b.cps.toList (fun e => hne (str_ext e)) with q | q
    · have h2 : ¬ b.cps.toList < a.cps.toList := fun h => List.lt_irrefl _ (List.lt_trans h q)
      simp [q, h2] at h
    · have h2 : ¬ a.cps.toList < b.cps.toList := fun h => List.lt_irrefl _ (List.lt_trans h q)
      simp [q, h2] at h
  · intro h; subst h; unfold coll; simp [List.lt_irrefl]
theorem below_iff {f p : Str} : below f p = true ↔ f = "" ∨ p = f ∨ ∃ t, t ≠ [] ∧ p.cps.toList = f.cps.toList ++ 47 :: t := by
  unfold below
  rw [Bool.or_eq_true, Bool.or_eq_true, coll_zero, beq_iff_eq, Bool.and_eq_true, decide_eq_true_eq, decide_eq_true_eq, coll_neg, coll_neg, app_list, app_list, slash_list, show ("0" : Str).cps.toList = [48] by decide +kernel, between, or_assoc]
/-! ### rows of names -/
def Names (r : List Str) : Prop := ∀ x ∈ r, x ∈ fnames
theorem fname_ok : ∀ x ∈ fnames, x.cps.toList ≠ [] ∧ 47 ∉ x.cps.toList ∧ x.length ≤ 2 ∧ PyData.strOk x = true ∧ ((x.length : Int) != 0) = true ∧ (x != ".") = true ∧ Txt.startswith x "/" = false := by decide +kernel
theorem Names.free {r : List Str} (h : Names r) : Free r := fun x hx => (fname_ok x (h x hx)).2.1
theorem Names.sub {r u : List Str} (h : Names r) (hu : u <+: r) : Names u := fun x hx => h x (hu.subset hx)
theorem jl_nil {r : List Str} (h : Names r) : jl r = [] ↔ r = [] := by
  constructor
  · intro e
    match r, h, e with
    | [], _, _ => rfl
    | [x], h, e => exact absurd e (fname_ok x (h x (.head _))).1
    | x :: y :: r, h, e => exact absurd (List.append_eq_nil_iff.mp e).2 (by simp)
  · intro e; subst e; rfl
theorem join_nil {r : List Str} (h : Names r) : Txt.join "/" r = "" ↔ r = [] := by
  rw [← jl_nil h, ← tjoin_list]
  exact ⟨fun e => by rw [e]; decide +kernel, fun e => str_ext (by rw [e]; decide +kernel)⟩
theorem split_join {r : List Str} (h : Names r) (hne : r ≠ []) : Txt.split (Txt.join "/" r) "/" = r := split_of hne h.free (tjoin_list r)
theorem below_rows {u v : List Str} (hu : Names u) (hv : Names v) (hne : v ≠ []) : below (Txt.join "/" u) (Txt.join "/" v) = true ↔ u <+: v := by
  rw [below_iff, join_nil hu]
  constructor
  · rintro (h | h | ⟨t, ht, h⟩)
    · subst h; exact List.nil_prefix
    · by_cases e : u = []
      · subst e; exact List.nil_prefix
      · have := split_join hv hne
        rw [h, split_join hu e] at this
        rw [this]; exact List.prefix_refl _
    · by_cases e : u = []
      · subst e; exact List.nil_prefix
      · have := split_app (a := Txt.join "/" u) (b := ⟨t.toArray⟩) (x := Txt.join "/" v) (by rw [h])
        rw [split_join hv hne, split_join hu e] at this
        exact ⟨_, this.symm⟩
  · rintro ⟨t, rfl⟩
    by_cases e : u = []
    · exact .inl e
    · right
      by_cases et : t = []
      · subst et; left; rw [List.append_nil]
      · right
        refine ⟨jl t, fun q => et ((jl_nil fun x hx => hv x (List.mem_append.mpr (.inr hx))).mp q), ?_⟩
        rw [tjoin_list, tjoin_list, jl_append _ _ e et]
theorem dot_split (p : Str) : Txt.split ((".//" : Str) ++ p) "/" = ("." : Str) :: ("" : Str) :: Txt.split p "/" := by
  have e1 : Txt.split "." "/" = [("." : Str)] := split_of (by simp) (by unfold Free; decide +kernel) (by decide +kernel)
  have e2 : Txt.split "" "/" = [("" : Str)] := split_of (by simp) (by unfold Free; decide +kernel) (by decide +kernel)
  rw [split_app (a := ".") (b := ("/" : Str) ++ p) (by rw [app_list, app_list]; rfl), split_app (a := "") (b := p) (x := ("/" : Str) ++ p) (by rw [app_list]; rfl), e1, e2]
  rfl
theorem names_filter {r : List Str} (h : Names r) : (r.filter fun c : Str => ((c.length : Int) != 0) && (c != ".")) = r := by
  rw [List.filter_eq_self]
  intro x hx
  have := fname_ok x (h x hx)
  rw [this.2.2.2.2.1, this.2.2.2.2.2.1]; rfl
theorem partsOf_dot {r : List Str} (h : Names r) (hne : r ≠ []) : partsOf ((".//" : Str) ++ Txt.join "/" r) = r := by
  unfold partsOf
  rw [dot_split, split_join h hne, List.filter_cons_of_neg (by decide +kernel), List.filter_cons_of_neg (by decide +kernel), names_filter h]
theorem jl_len : ∀ r : List Str, Names r → (jl r).length ≤ 3 * r.length
  | [], _ => Nat.le_refl _
  | [x], h => by
    have := (fname_ok x (h x (.head _))).2.2.1
    show x.cps.toList.length ≤ 3
    rw [Array.length_toList]; exact Nat.le_trans this (by decide)
  | x :: y :: r, h => by
    have := (fname_ok x (h x (.head _))).2.2.1
    have ih := jl_len (y :: r) fun z hz => h z (.tail _ hz)
    show (x.cps.toList ++ 47 :: jl (y :: r)).length ≤ _
    have e : x.cps.size ≤ 2 := this
    rw [List.length_append, List.length_cons, Array.length_toList, List.length_cons]
    omega
theorem join_len {r : List Str} (h : Names r) : (Txt.join "/" r).length ≤ 3 * r.length := by
  have := jl_len r h
  rw [← tjoin_list, Array.length_toList] at this
  exact this
theorem joinOk_names {r : List Str} (h : Names r) (hl : r.length ≤ 100) : JoinOk "/" r = true := by
  unfold JoinOk
  rw [StrLaws.joinTotal]
  have : (r.map (·.length)).sum ≤ 2 * r.length := by
    clear hl
    induction r with
    | nil => exact Nat.le_refl _
    | cons x r ih =>
      have h1 := (fname_ok x (h x (.head _))).2.2.1
      have h2 := ih fun z hz => h z (.tail _ hz)
      rw [List.map_cons, List.sum_cons, List.length_cons]; omega
  have e : ("/" : Str).length = 1 := by decide +kernel
  rw [e]
  unfold Builtin.Str.tooLong
  rw [Bool.not_eq_true', decide_eq_false_iff_not, sizeLine_eq]
  omega
theorem starts_iff {x : Str} : Txt.startswith x "/" = true → x.cps.toList[0]? = some 47 := fun h => by
  unfold Txt.startswith at h
  rw [Bool.and_eq_true, decide_eq_true_eq, slash_eq] at h
  exact (StrLaws.subAt_one x 47 0).mp h
theorem ends_iff {x : Str} : Txt.endswith x "/" = true → 47 = x.cps.toList.getLastD 0 := fun h => by
  unfold Txt.endswith at h
  rw [Bool.and_eq_true, decide_eq_true_eq, slash_eq] at h
  have h1 : (⟨#[47]⟩ : Str).length = 1 := rfl
  have := (StrLaws.subAt_one x 47 (x.length - 1)).mp ⟨by rw [h1] at h ⊢; omega, by rw [h1] at h; exact h.2⟩
  rw [List.getLastD_eq_getLast?, List.getLast?_eq_getElem?, Array.length_toList]
  rw [show x.cps.size - 1 = x.length - 1 from rfl, this]; rfl
theorem jl_last : ∀ r : List Str, Names r → (jl r).getLastD 0 ≠ 47
  | [], _ => by decide
  | [x], h => by
    intro e
    have := (fname_ok x (h x (.head _))).2.1
    have hne := (fname_ok x (h x (.head _))).1
    apply this
    have e' : x.cps.toList.getLastD 0 = 47 := e
    rw [← e', List.getLastD_eq_getLast?, List.getLast?_eq_some_getLast hne]
    exact List.getLast_mem hne
  | x :: y :: r, h => by
    have ih := jl_last (y :: r) fun z hz => h z (.tail _ hz)
    have hn : jl (y :: r) ≠ [] := fun q => by
      have := (jl_nil (r := y :: r) fun z hz => h z (.tail _ hz)).mp q
      cases this
    show (x.cps.toList ++ 47 :: jl (y :: r)).getLastD 0 ≠ 47
    rw [List.getLastD_eq_getLast?] at ih ⊢
    rw [List.getLast?_append, List.getLast?_cons, List.getLast?_eq_some_getLast hn] at *
    simpa using ih
theorem joinP_names {r : List Str} {x : Str} (h : Names r) (hx : x ∈ fnames) : joinP (Txt.join "/" r) x = Txt.join "/" (r ++ [x]) := by
  have hf := fname_ok x hx
  unfold joinP
  rw [hf.2.2.2.2.2.2, Bool.false_or]
  by_cases e : r = []
  · subst e
    rw [if_pos (by decide +kernel)]
    exact str_ext (by rw [tjoin_list]; rfl)
  · have hl : ((Txt.join "/" r).length : Int) ≠ 0 := by
      intro q
      have q' : (Txt.join "/" r).length = 0 := by omega
      have : (Txt.join "/" r).cps.toList = [] := List.length_eq_zero_iff.mp (by rw [Array.length_toList]; exact q')
      rw [tjoin_list] at this
      exact e ((jl_nil h).mp this)
    rw [if_neg (by simpa using hl), if_neg (fun q => by
      have := ends_iff q
      rw [tjoin_list] at this
      exact jl_last r h this.symm)]
    refine str_ext ?_
    rw [app_list, app_list, tjoin_list, tjoin_list, jl_append r [x] e (by simp), slash_list]
    rfl
end
noncomputable section
open PySem PySem.W PySem.Calls PySem.Spec PyProof.Rows
set_option autoImplicit false
def GoodP (p : Str) : Prop := ∃ row, Names row ∧ row ≠ [] ∧ row.length ≤ 4 ∧ p = Txt.join "/" row
theorem nameAt_mem (x : Int) : nameAt (x % 4) ∈ fnames := by
  unfold nameAt
  have h : (x % 4).toNat < fnames.length := by show _ < 4; omega
  rw [getD_of_lt h]; exact List.getElem_mem h
def FI (r : List Int) (fs : List File) : Prop := r.length ≤ 4 ∧ ∃ tl, fs = ((("" : Str), (0 : Int)) : File) :: tl ∧ (r.length < 4 → tl ≠ []) ∧ ∀ f ∈ tl, ∃ row, Names row ∧ row ≠ [] ∧ row.length + r.length ≤ 4 ∧ f.1 = Txt.join "/" row
theorem snoc_good {row : List Str} {x : Str} {n : Nat} (h : Names row) (hx : x ∈ fnames) (hl : row.length + (n + 1) ≤ 4) : ∃ row', Names row' ∧ row' ≠ [] ∧ row'.length + n ≤ 4 ∧ joinP (Txt.join "/" row) x = Txt.join "/" row' := by
  refine ⟨row ++ [x], ?_, by simp, ?_, joinP_names h hx⟩
  · intro z hz
    rcases List.mem_append.mp hz with hz | hz
    · exact h z hz
    · rw [List.mem_singleton] at hz; subst hz; exact hx
  · rw [List.length_append]; show _ + 1 + _ ≤ _; omega
theorem fi_step (x : Int) (r : List Int) (fs : List File) (h : FI (x :: r) fs) : FI r (fstep fs x) := by
  obtain ⟨h4, tl, rfl, ht, hg⟩ := h
  rw [List.length_cons] at h4 ht
  have hm := (pick_mem (fs := ((("" : Str), (0 : Int)) : File) :: tl) (by simp) x).2.2.2
  have hp : ∃ row, Names row ∧ row ≠ [] ∧ row.length + r.length ≤ 4 ∧ pathOf (((("" : Str), (0 : Int)) : File) :: tl) x = Txt.join "/" row := by
    unfold pathOf
    have hx := nameAt_mem (x / ((((("" : Str), (0 : Int)) : File) :: tl : List File).length : Int))
    rcases List.mem_cons.mp hm with e | e
    · rw [e]
      have : ((("" : Str), (0 : Int)) : File).1 = Txt.join "/" [] := by show ("" : Str) = _; decide +kernel
      rw [this]
      exact snoc_good (fun z hz => nomatch hz) hx (by show 0 + _ ≤ _; omega)
    · obtain ⟨row, n1, n2, n3, n4⟩ := hg _ e
      rw [List.length_cons] at n3
      rw [n4]
      exact snoc_good n1 hx n3
  refine ⟨by omega, ?_⟩
  have hw : ∀ f ∈ tl, ∃ row, Names row ∧ row ≠ [] ∧ row.length + r.length ≤ 4 ∧ f.1 = Txt.join "/" row := fun f hf => by
    obtain ⟨row, n1, n2, n3, n4⟩ := hg f hf
    rw [List.length_cons] at n3
    exact ⟨row, n1, n2, by omega, n4⟩
  unfold fstep
  split
  · rename_i hin
    refine ⟨tl, rfl, fun _ e => ?_, hw⟩
    subst e
    rw [List.map_cons, List.map_nil, List.mem_singleton] at hin
    obtain ⟨row, n1, n2, n3, n4⟩ := hp
    rw [n4] at hin
    exact n2 ((join_nil n1).mp hin)
  · refine ⟨tl ++ [(pathOf (((("" : Str), (0 : Int)) : File) :: tl) x, _)], rfl, fun _ => by simp, fun f hf => ?_⟩
    rcases List.mem_append.mp hf with hf | hf
    · exact hw f hf
    · rw [List.mem_singleton] at hf; subst hf; exact hp
theorem files_good {xs : List Int} (h : xs.length = 4) : 1 ≤ (filesOf xs).length ∧ (filesOf xs).length ≤ 4 ∧ ∀ f ∈ filesOf xs, GoodP f.1 := by
  have h1 := fold_inv fi_step xs [((("" : Str), (0 : Int)) : File)] ⟨by omega, [], rfl, fun q => by omega, fun _ hf => nomatch hf⟩
  have h2 := fold_inv (P := FilesP) (fun x r a => filesP_step) xs [((("" : Str), (0 : Int)) : File)] (filesP_start (by omega))
  obtain ⟨_, tl, e, ht, hg⟩ := h1
  have h3 := h2.2.1
  unfold filesOf filesAll
  rw [e] at h3 ⊢
  rw [List.drop_one, List.tail_cons]
  refine ⟨List.length_pos_iff.mpr (ht (by decide)), by rw [List.length_cons, List.length_nil] at h3; omega, fun f hf => ?_⟩
  obtain ⟨row, n1, n2, n3, n4⟩ := hg f hf
  exact ⟨row, n1, n2, n3, n4⟩
theorem numsOf_len (script : List Int) : (numsOf script).length = 4 := by
  unfold numsOf
  rw [List.length_take, List.length_append]
  show min 4 (_ + 4) = 4
  omega
/-! ### the facts of one path -/
theorem GoodP.split {p : Str} (h : GoodP p) : Names (Txt.split p "/") ∧ (Txt.split p "/").length ≤ 4 ∧ p = Txt.join "/" (Txt.split p "/") := by
  obtain ⟨row, n1, n2, n3, rfl⟩ := h
  rw [split_join n1 n2]; exact ⟨n1, n3, rfl⟩
theorem jl_ok : ∀ r : List Str, Names r → ∀ c ∈ jl r, c < 0x110000
  | [], _, c, hc => nomatch hc
  | [x], h, c, hc => by
    have := (fname_ok x (h x (.head _))).2.2.2.1
    unfold PyData.strOk at this
    rw [Array.all_eq_true'] at this
    have := this c (Array.mem_toList_iff.mp hc)
    simpa using this
  | x :: y :: r, h, c, hc => by
    rcases List.mem_append.mp (show c ∈ x.cps.toList ++ 47 :: jl (y :: r) from hc) with q | q
    · have := (fname_ok x (h x (.head _))).2.2.2.1
      unfold PyData.strOk at this
      rw [Array.all_eq_true'] at this
      have := this c (Array.mem_toList_iff.mp q)
      simpa using this
    · rcases List.mem_cons.mp q with q | q
      · subst q; decide
      · exact jl_ok (y :: r) (fun z hz => h z (.tail _ hz)) c q
theorem join_ok {r : List Str} (h : Names r) : PyData.strOk (Txt.join "/" r) = true := by
  unfold PyData.strOk
  rw [Array.all_eq_true']
  intro c hc
  have := jl_ok r h c (by rw [← tjoin_list]; exact Array.mem_toList_iff.mpr hc)
  simpa using this
theorem parts_le {x : Str} {m : Nat} (hm : 1 ≤ m) (h : (Txt.split x "/").length ≤ m) (hx : 1 ≤ x.length) (hk : ¬ Builtin.Str.strKind x < Builtin.Str.strKind "/") : (Builtin.Str.partsBetween x (Builtin.Str.occurrences x "/" 0 x.length (x.length + 1)) 1).length ≤ m := by
  rcases parts_len x with q | q | q | q
  · omega
  · rw [q]; exact h
  · omega
  · exact absurd q hk
theorem kind_slash (x : Str) : ¬ Builtin.Str.strKind x < Builtin.Str.strKind "/" := by
  have : Builtin.Str.strKind "/" = 1 := by decide +kernel
  rw [this]
  unfold Builtin.Str.strKind
  split
  · decide
  · split <;> decide
theorem getD_map {α β : Type} {f : α → β} {l : List α} {k : Nat} {d : β} {d' : α} (h : k < l.length) : (l.map f).getD k d = f (l.getD k d') := by
  rw [getD_of_lt (by rw [List.length_map]; exact h), getD_of_lt h, List.getElem_map]
theorem getD_mem {α : Type} {l : List α} {k : Nat} {d : α} (h : k < l.length) : l.getD k d ∈ l := by
  rw [getD_of_lt h]; exact List.getElem_mem h
abbrev pathsOf (fs : List File) : List Str := fs.map (·.1)
abbrev rowsOf (fs : List File) : List (List Str) := fs.map fun f => Txt.split f.1 "/"
def rowAt (fs : List File) (k : Nat) : List Str := (rowsOf fs).getD k []
def Good (fs : List File) : Prop := ∀ f ∈ fs, GoodP f.1
section
variable {fs : List File} (hg : Good fs)
include hg
theorem row_good {k : Nat} (hk : k < fs.length) : Names (rowAt fs k) ∧ rowAt fs k ≠ [] ∧ (rowAt fs k).length ≤ 4 ∧ (pathsOf fs).getD k "" = Txt.join "/" (rowAt fs k) := by
  unfold rowAt rowsOf pathsOf
  rw [getD_map (d' := ((("" : Str), (0 : Int)) : File)) hk, getD_map (d' := ((("" : Str), (0 : Int)) : File)) hk]
  have := (hg _ (getD_mem (d := ((("" : Str), (0 : Int)) : File)) hk)).split
  exact ⟨this.1, split_ne _, this.2.1, this.2.2⟩
theorem dotted_parts {chosen : List Nat} (hc : ∀ k ∈ chosen, k < fs.length) : (dotted (pathsOf fs) chosen).map partsOf = chosen.map (rowAt fs) := by
  unfold dotted
  rw [List.map_map]
  refine List.map_congr_left fun k hk => ?_
  have := row_good hg (hc k hk)
  show partsOf ((".//" : Str) ++ (pathsOf fs).getD k "") = _
  rw [this.2.2.2, partsOf_dot this.1 this.2.1]
theorem common_front {chosen : List Nat} (hc : ∀ k ∈ chosen, k < fs.length) (hne : chosen ≠ []) : IsFront (chosen.map (rowAt fs)) (commonD (dotted (pathsOf fs) chosen)) := by
  unfold commonD
  rw [dotted_parts hg hc]
  exact frontOf_is (by simpa using hne)
theorem front_names {chosen : List Nat} (hc : ∀ k ∈ chosen, k < fs.length) (hne : chosen ≠ []) {f : List Str} (hf : IsFront (chosen.map (rowAt fs)) f) : Names f ∧ f.length ≤ 4 := by
  obtain ⟨k, r, rfl⟩ := List.exists_cons_of_ne_nil hne
  have h1 := hf.1 (rowAt fs k) (List.mem_map.mpr ⟨k, .head _, rfl⟩)
  have h2 := row_good hg (hc k (.head _))
  exact ⟨h2.1.sub h1, Nat.le_trans h1.length_le h2.2.2.1⟩
theorem common_ok {chosen : List Nat} (hc : ∀ k ∈ chosen, k < fs.length) (hne : chosen ≠ []) (hl : chosen.length ≤ 4) : CommonOk (dotted (pathsOf fs) chosen) ∧ PyData.strOk (folderD (pathsOf fs) chosen) = true := by
  have hf := common_front hg hc hne
  have hn := front_names hg hc hne hf
  refine ⟨⟨?_, ?_, ?_, ?_, ?_, ?_, ?_⟩, join_ok hn.1⟩
  · unfold dotted; simpa using hne
  · unfold dotted; rw [List.length_map]; omega
  · intro x hx
    obtain ⟨k, hk, rfl⟩ := List.mem_map.mp hx
    have h2 := row_good hg (hc k hk)
    rw [h2.2.2.2]
    have hlen := join_len h2.1
    have hsp := dot_split (Txt.join "/" (rowAt fs k))
    rw [split_join h2.1 h2.2.1] at hsp
    have h3 : ((".//" : Str) ++ Txt.join "/" (rowAt fs k)).length = 3 + (Txt.join "/" (rowAt fs k)).length := by rw [Str.length_append]; rfl
    have hnum : (Txt.split ((".//" : Str) ++ Txt.join "/" (rowAt fs k)) "/").length ≤ 1000 := by
      rw [hsp, List.length_cons, List.length_cons]; omega
    refine ⟨by rw [h3]; omega, parts_le (by decide) hnum (by rw [h3]; omega) (kind_slash _), hnum, ?_, ?_⟩
    · intro c hc'
      rw [hsp] at hc'
      rcases List.mem_cons.mp hc' with q | q
      · subst q; decide +kernel
      · rcases List.mem_cons.mp q with q | q
        · subst q; decide +kernel
        · have := (fname_ok c (h2.1 c q)).2.2.1; omega
    · cases e : Txt.startswith ((".//" : Str) ++ Txt.join "/" (rowAt fs k)) "/" with
      | false => rfl
      | true =>
        have := starts_iff e
        rw [app_list, show (".//" : Str).cps.toList = [46, 47, 47] by decide +kernel] at this
        simp at this
  · exact joinOk_names hn.1 (by omega)
  · have := join_len hn.1; omega
  · rw [dotted_parts hg hc]; exact fits_rows (by simpa using hne)
  · rw [dotted_parts hg hc]
    obtain ⟨k, hk, e⟩ := List.mem_map.mp (minRow_mem (rows := chosen.map (rowAt fs)) (by simpa using hne))
    rw [← e]
    have := (row_good hg (hc k hk)).2.2.1; omega
end
end
noncomputable section
open PySem PySem.W PySem.Calls PySem.Spec PyProof.Rows
set_option autoImplicit false
/-! ### signs and rights -/
theorem bitOr_pp {x y : Int} (hx : 0 ≤ x) (hy : 0 ≤ y) : Builtin.bitOr x y = ((x.toNat ||| y.toNat : Nat) : Int) := by
  rw [bitOr_and, bitAnd_pp hx hy]
  have := nat_or_add_and x.toNat y.toNat
  omega
theorem bit_int {x : Nat} {b : Nat} : ((x : Int) / 2 ^ b % 2 == 1) = x.testBit b := by
  rw [Nat.testBit_eq_decide_div_mod_eq]
  have e : (x : Int) / 2 ^ b % 2 = ((x / 2 ^ b % 2 : Nat) : Int) := by
    rw [Int.natCast_emod, Int.natCast_ediv, Int.natCast_pow]; rfl
  rw [e, Bool.eq_iff_iff, beq_iff_eq, decide_eq_true_eq]
  omega
theorem toNat_or {x y : Int} (hx : 0 ≤ x) (hy : 0 ≤ y) : (Builtin.bitOr x y).toNat = x.toNat ||| y.toNat := by rw [bitOr_pp hx hy, Int.toNat_natCast]
theorem or_nn {x y : Int} (hx : 0 ≤ x) (hy : 0 ≤ y) : 0 ≤ Builtin.bitOr x y := by rw [bitOr_pp hx hy]; exact Int.natCast_nonneg _
theorem rights_bit (m : Int) (b : Nat) : (rightsOf m / 2 ^ b % 2 == 1) = ((((m % 512).toNat.testBit b || (m / 2048 % 2 * 64).toNat.testBit b) || (m / 1024 % 2 * 8).toNat.testBit b) || (m / 512 % 2).toNat.testBit b) := by
  have h1 : 0 ≤ m % 512 := by omega
  have h2 : 0 ≤ m / 2048 % 2 * 64 := by omega
  have h3 : 0 ≤ m / 1024 % 2 * 8 := by omega
  have h4 : 0 ≤ m / 512 % 2 := by omega
  have h5 : 0 ≤ rightsOf m := or_nn (or_nn (or_nn h1 h2) h3) h4
  have e : rightsOf m = ((rightsOf m).toNat : Int) := (Int.toNat_of_nonneg h5).symm
  rw [e, bit_int]
  unfold rightsOf
  rw [toNat_or (or_nn (or_nn h1 h2) h3) h4, toNat_or (or_nn h1 h2) h3, toNat_or h1 h2, Nat.testBit_or, Nat.testBit_or, Nat.testBit_or]
theorem low_div (m a c : Int) (ha : a ≠ 0) : m % (a * (2 * c)) / a % 2 = m / a % 2 := by
  have e : m % (a * (2 * c)) = m + a * (-(2 * (c * (m / (a * (2 * c)))))) := by
    rw [Int.emod_def, Int.mul_neg, Int.mul_assoc a, Int.mul_assoc 2]; rfl
  rw [e, Int.add_mul_ediv_left _ _ ha]
  generalize c * _ = t
  omega
theorem low_bit (m : Int) (b : Nat) (hb : b < 9) : (m % 512).toNat.testBit b = decide (m / 2 ^ b % 2 = 1) := by
  rw [← bit_int, Int.toNat_of_nonneg (Int.emod_nonneg _ (by decide))]
  rw [Bool.eq_iff_iff, beq_iff_eq, decide_eq_true_eq]
  have e : (512 : Int) = 2 ^ b * (2 * 2 ^ (8 - b)) := (by decide +kernel : ∀ b : Nat, b < 9 → (512 : Int) = 2 ^ b * (2 * 2 ^ (8 - b))) b hb
  rw [e, low_div _ _ _ (Int.pow_ne_zero (by decide))]
theorem sign_lst (m : Int) : ∃ c0 c1 c2 c3 c4 c5 c6 c7 c8 c9 : Nat, chars m = [⟨#[c0]⟩, ⟨#[c1]⟩, ⟨#[c2]⟩, ⟨#[c3]⟩, ⟨#[c4]⟩, ⟨#[c5]⟩, ⟨#[c6]⟩, ⟨#[c7]⟩, ⟨#[c8]⟩, ⟨#[c9]⟩] ∧ signs m = ⟨#[c0, c1, c2, c3, c4, c5, c6, c7, c8, c9]⟩ := by
  rw [chars_eq]
  exact ⟨_, _, _, _, _, _, _, _, _, _, rfl, rfl⟩
theorem sign_at (m : Int) (i : Nat) (h : i < 10) : sign (signs m) (i : Int) = (chars m).getD i "" := by
  obtain ⟨c0, c1, c2, c3, c4, c5, c6, c7, c8, c9, e1, e2⟩ := sign_lst m
  rw [e1, e2]
  have : i = 0 ∨ i = 1 ∨ i = 2 ∨ i = 3 ∨ i = 4 ∨ i = 5 ∨ i = 6 ∨ i = 7 ∨ i = 8 ∨ i = 9 := by omega
  rcases this with rfl | rfl | rfl | rfl | rfl | rfl | rfl | rfl | rfl | rfl <;> rfl
theorem if_one {p : Prop} [Decidable p] {c : Str} (hc : (c == "-") = false) : ((if p then c else "-" : Str) == "-") = !decide p := by
  by_cases h : p
  · rw [if_pos h, hc, decide_eq_true h]; rfl
  · rw [if_neg h, decide_eq_false h]; decide +kernel
theorem if_three {p q : Prop} [Decidable p] [Decidable q] {x y z : Str} (hx : (x == "-") = false) (hy : (y == "-") = false) (hz : (z == "-") = false) : ((if q then (if p then x else y) else if p then z else "-" : Str) == "-") = !(decide p || decide q) := by
  by_cases h : q
  · rw [if_pos h, decide_eq_true h, Bool.or_true]
    by_cases h' : p
    · rw [if_pos h', hx]; rfl
    · rw [if_neg h', hy]; rfl
  · rw [if_neg h, decide_eq_false h, Bool.or_false, if_one hz]
theorem test_flag {x : Int} (hx : x = 0 ∨ x = 1) (k b : Nat) : (x * 2 ^ k).toNat.testBit b = (decide (x = 1) && decide (b = k)) := by
  have e : ((2 : Int) ^ k).toNat = 2 ^ k := by
    rw [show (2 : Int) ^ k = ((2 ^ k : Nat) : Int) by rw [Int.natCast_pow]; rfl, Int.toNat_natCast]
  rcases hx with rfl | rfl
  · simp
  · rw [Int.one_mul, e, Nat.testBit_two_pow]
    simp [eq_comm]
theorem minus_bit (m : Int) : ∀ i ∈ nine, (sign (signs m) (i : Int) == "-") = !(rightsOf m / 2 ^ (9 - i) % 2 == 1) := by
  intro i hi
  have hi' := nine_mem hi
  have x1 : m / 2048 % 2 = 0 ∨ m / 2048 % 2 = 1 := by omega
  have x2 : m / 1024 % 2 = 0 ∨ m / 1024 % 2 = 1 := by omega
  have x3 : m / 512 % 2 = 0 ∨ m / 512 % 2 = 1 := by omega
  rw [rights_bit, low_bit m _ (by omega), show (64 : Int) = 2 ^ 6 by decide, show (8 : Int) = 2 ^ 3 by decide, show m / 512 % 2 = m / 512 % 2 * 2 ^ 0 by omega, test_flag x1, test_flag x2, test_flag x3, sign_at m i (by omega)]
  have r1 : ∀ {j : Nat} {row : List (Int × Str)} (v : Str), (chars m).getD j "" = charOf m j row → charOf m j row = v → (chars m).getD j "" = v := fun v a b => a.trans b
  have : i = 1 ∨ i = 2 ∨ i = 3 ∨ i = 4 ∨ i = 5 ∨ i = 6 ∨ i = 7 ∨ i = 8 ∨ i = 9 := by omega
  rcases this with rfl | rfl | rfl | rfl | rfl | rfl | rfl | rfl | rfl
  · rw [r1 (row := [(256, "r")]) _ rfl (one_row (k := 8) rfl rfl), if_one (by decide +kernel)]; simp
  · rw [r1 (row := [(128, "w")]) _ rfl (one_row (k := 7) rfl rfl), if_one (by decide +kernel)]; simp
  · rw [r1 (row := [(64 + 2048, "s"), (2048, "S"), (64, "x")]) _ rfl (three_row (k := 6) (j := 11) rfl rfl rfl (by decide) (by decide)), if_three (by decide +kernel) (by decide +kernel) (by decide +kernel)]; simp
  · rw [r1 (row := [(32, "r")]) _ rfl (one_row (k := 5) rfl rfl), if_one (by decide +kernel)]; simp
  · rw [r1 (row := [(16, "w")]) _ rfl (one_row (k := 4) rfl rfl), if_one (by decide +kernel)]; simp
  · rw [r1 (row := [(8 + 1024, "s"), (1024, "S"), (8, "x")]) _ rfl (three_row (k := 3) (j := 10) rfl rfl rfl (by decide) (by decide)), if_three (by decide +kernel) (by decide +kernel) (by decide +kernel)]; simp
  · rw [r1 (row := [(4, "r")]) _ rfl (one_row (k := 2) rfl rfl), if_one (by decide +kernel)]; simp
  · rw [r1 (row := [(2, "w")]) _ rfl (one_row (k := 1) rfl rfl), if_one (by decide +kernel)]; simp
  · rw [r1 (row := [(1 + 512, "t"), (512, "T"), (1, "x")]) _ rfl (three_row (k := 0) (j := 9) rfl rfl rfl (by decide) (by decide)), if_three (by decide +kernel) (by decide +kernel) (by decide +kernel)]; simp
end
noncomputable section
open PySem PySem.W PySem.Calls PySem.Spec PyProof.Rows
set_option autoImplicit false
/-! ### the sets that are made -/
theorem mem_foldl_addNew {α : Type} (f : α → List Nat) {x : List Nat} : ∀ (l : List α) (S : Sets), x ∈ l.foldl (fun S a => addNew S (f a)) S ↔ x ∈ S ∨ ∃ a ∈ l, x = f a
  | [], S => by simp
  | a :: l, S => by
    rw [List.foldl_cons, mem_foldl_addNew f l, mem_addNew]
    simp only [List.mem_cons, exists_eq_or_imp, or_assoc]
theorem mem_rowStep {rows : List (List Str)} {S : Sets} {row : List Str} {x : List Nat} : x ∈ rowStep rows S row ↔ x ∈ S ∨ ∃ j, j ≤ row.length ∧ x = frontSet rows row j := by
  unfold rowStep
  rw [mem_foldl_addNew (frontSet rows row)]
  constructor
  · rintro (h | ⟨j, hj, e⟩)
    · exact .inl h
    · exact .inr ⟨j, by have := List.mem_range.mp hj; omega, e⟩
  · rintro (h | ⟨j, hj, e⟩)
    · exact .inl h
    · exact .inr ⟨j, List.mem_range.mpr (by omega), e⟩
theorem mem_rows {rows : List (List Str)} {x : List Nat} : ∀ (l : List (List Str)) (S : Sets), x ∈ l.foldl (rowStep rows) S ↔ x ∈ S ∨ ∃ row ∈ l, ∃ j, j ≤ row.length ∧ x = frontSet rows row j
  | [], S => by simp
  | a :: l, S => by
    rw [List.foldl_cons, mem_rows l, mem_rowStep]
    simp only [List.mem_cons, exists_eq_or_imp, or_assoc]
theorem mem_sets1 {rows : List (List Str)} {x : List Nat} : x ∈ sets1 rows ↔ x = [] ∨ ∃ row ∈ rows, ∃ j, j ≤ row.length ∧ x = frontSet rows row j := by
  unfold sets1
  rw [mem_rows, List.mem_singleton]
def bitOn (R : List Int) (k b : Nat) : Bool := R.getD k 0 / 2 ^ b % 2 == 1
def okB (R : List Int) (B : Nat → Bool) (t k : Nat) : Bool := (List.range t).all fun b => !(B b) || bitOn R k b
theorem okB_iff {R : List Int} {B : Nat → Bool} {t k : Nat} : okB R B t k = true ↔ ∀ b, b < t → B b = true → bitOn R k b = true := by
  unfold okB
  rw [List.all_eq_true]
  constructor
  · intro h b hb hB
    have := h b (List.mem_range.mpr hb)
    rw [hB] at this
    simpa using this
  · intro h b hb
    have := h b (List.mem_range.mp hb)
    cases e : B b with
    | false => rfl
    | true => rw [this e]; rfl
theorem mem_bitStep {R : List Int} {S : Sets} {t : Nat} {x : List Nat} : x ∈ bitStep R S t ↔ x ∈ S ∨ ∃ y ∈ S, x = y.filter fun k => bitOn R k t := by
  unfold bitStep
  have := mem_foldl_addNew (id : List Nat → List Nat) (x := x) (S.map (rightSet R t)) S
  rw [show (fun (S : Sets) (a : List Nat) => addNew S (id a)) = addNew from rfl] at this
  rw [this]
  constructor
  · rintro (h | ⟨a, ha, e⟩)
    · exact .inl h
    · obtain ⟨y, hy, rfl⟩ := List.mem_map.mp ha
      exact .inr ⟨y, hy, e⟩
  · rintro (h | ⟨y, hy, e⟩)
    · exact .inl h
    · exact .inr ⟨_, List.mem_map.mpr ⟨y, hy, rfl⟩, e⟩
theorem mem_stage {R : List Int} {S : Sets} {x : List Nat} : ∀ t : Nat, x ∈ (List.range t).foldl (bitStep R) S ↔ ∃ old ∈ S, ∃ B : Nat → Bool, x = old.filter (okB R B t)
  | 0 => by
    rw [List.range_zero, List.foldl_nil]
    constructor
    · intro h
      exact ⟨x, h, fun _ => false, (List.filter_eq_self.mpr fun _ _ => rfl).symm⟩
    · rintro ⟨old, h, B, rfl⟩
      have e : old.filter (okB R B 0) = old := List.filter_eq_self.mpr fun _ _ => rfl
      rw [e]; exact h
  | t + 1 => by
    rw [List.range_succ, List.foldl_append, List.foldl_cons, List.foldl_nil, mem_bitStep, mem_stage t]
    constructor
    · rintro (⟨old, h, B, rfl⟩ | ⟨y, hy, e⟩)
      · refine ⟨old, h, fun b => if b = t then false else B b, List.filter_congr fun k _ => ?_⟩
        rw [Bool.eq_iff_iff, okB_iff, okB_iff]
        constructor
        · intro q b hb hB
          by_cases e : b = t
          · rw [if_pos e] at hB; cases hB
          · rw [if_neg e] at hB; exact q b (by omega) hB
        · intro q b hb hB
          exact q b (by omega) (by rw [if_neg (by omega)]; exact hB)
      · obtain ⟨old, h, B, rfl⟩ := (mem_stage t).mp hy
        refine ⟨old, h, fun b => if b = t then true else B b, ?_⟩
        rw [e, List.filter_filter]
        refine List.filter_congr fun k _ => ?_
        rw [Bool.eq_iff_iff, Bool.and_eq_true, okB_iff, okB_iff]
        constructor
        · rintro ⟨q1, q⟩ b hb hB
          by_cases e : b = t
          · subst e; exact q1
          · rw [if_neg e] at hB; exact q b (by omega) hB
        · intro q
          exact ⟨q t (by omega) (if_pos rfl), fun b hb hB => q b (by omega) (by rw [if_neg (by omega)]; exact hB)⟩
    · rintro ⟨old, h, B, rfl⟩
      by_cases hB : B t = true
      · right
        refine ⟨old.filter (okB R B t), (mem_stage t).mpr ⟨old, h, B, rfl⟩, ?_⟩
        rw [List.filter_filter]
        refine List.filter_congr fun k _ => ?_
        rw [Bool.eq_iff_iff, Bool.and_eq_true, okB_iff, okB_iff]
        constructor
        · intro q
          exact ⟨q t (by omega) hB, fun b hb hB' => q b (by omega) hB'⟩
        · rintro ⟨q1, q⟩ b hb hB'
          by_cases e : b = t
          · subst e; exact q1
          · exact q b (by omega) hB'
      · left
        refine ⟨old, h, B, List.filter_congr fun k _ => ?_⟩
        rw [Bool.eq_iff_iff, okB_iff, okB_iff]
        constructor
        · intro q b hb hB'; exact q b (by omega) hB'
        · intro q b hb hB'
          by_cases e : b = t
          · subst e; exact absurd hB' hB
          · exact q b (by omega) hB'
theorem mem_setsAll {rows : List (List Str)} {R : List Int} {x : List Nat} : x ∈ setsAll rows R ↔ ∃ old ∈ sets1 rows, ∃ B : Nat → Bool, x = old.filter (okB R B 9) := mem_stage 9
/-- a list of sets, each once, the empty one ahead -/
def HN (S : Sets) : Prop := S.Nodup ∧ ∃ tl, S = [] :: tl
theorem nodup_snoc {α : Type} {l : List α} {a : α} (h : l.Nodup) (ha : ¬ a ∈ l) : (l ++ [a]).Nodup := by
  rw [List.nodup_append]
  refine ⟨h, List.nodup_cons.mpr ⟨fun q => (nomatch q), List.nodup_nil⟩, fun x hx y hy => ?_⟩
  rw [List.mem_singleton] at hy; subst hy
  exact fun e => ha (e ▸ hx)
theorem HN.add {S : Sets} {one : List Nat} (h : HN S) : HN (addNew S one) := by
  unfold addNew
  split
  · exact h
  · rename_i hn
    obtain ⟨h1, tl, rfl⟩ := h
    exact ⟨nodup_snoc h1 hn, tl ++ [one], rfl⟩
theorem HN.fold {α : Type} {f : α → List Nat} : ∀ (l : List α) (S : Sets), HN S → HN (l.foldl (fun S a => addNew S (f a)) S)
  | [], _, h => h
  | a :: l, S, h => HN.fold l _ h.add
theorem HN.foldStep {α : Type} {step : Sets → α → Sets} (hs : ∀ S a, HN S → HN (step S a)) : ∀ (l : List α) (S : Sets), HN S → HN (l.foldl step S)
  | [], _, h => h
  | a :: l, S, h => HN.foldStep hs l _ (hs S a h)
theorem hn_all (rows : List (List Str)) (R : List Int) : HN (setsAll rows R) := by
  unfold setsAll
  refine HN.foldStep (fun S b h => ?_) _ _ ?_
  · unfold bitStep
    exact HN.fold (f := (id : List Nat → List Nat)) _ S h
  · unfold sets1
    refine HN.foldStep (fun S row h => ?_) _ _ ⟨List.nodup_cons.mpr ⟨fun q => (nomatch q), List.nodup_nil⟩, [], rfl⟩
    unfold rowStep
    exact HN.fold _ S h
theorem HN.drop {S : Sets} (h : HN S) : (S.drop 1).Nodup ∧ ∀ x, x ∈ S.drop 1 ↔ x ∈ S ∧ x ≠ [] := by
  obtain ⟨h1, tl, rfl⟩ := h
  rw [List.nodup_cons] at h1
  refine ⟨h1.2, fun x => ?_⟩
  rw [List.drop_one, List.tail_cons, List.mem_cons]
  constructor
  · intro h
    exact ⟨.inr h, fun e => h1.1 (e ▸ h)⟩
  · rintro ⟨h | h, hn⟩
    · exact absurd h hn
    · exact h
/-! ### the choices -/
theorem chosen_all : ∀ a b c d : Bool, ∀ N, N ≤ 4 → ∃ number, number < 2 ^ N ∧ chosenOf N number = (List.range N).filter fun k => [a, b, c, d].getD k false := by decide +kernel
theorem chosen_surj {N : Nat} (hN : N ≤ 4) (p : Nat → Bool) : ∃ number, number < 2 ^ N ∧ chosenOf N number = (List.range N).filter p := by
  obtain ⟨number, h1, h2⟩ := chosen_all (p 0) (p 1) (p 2) (p 3) N hN
  refine ⟨number, h1, h2.trans (List.filter_congr fun k hk => ?_)⟩
  have hk' := List.mem_range.mp hk
  have : k = 0 ∨ k = 1 ∨ k = 2 ∨ k = 3 := by omega
  rcases this with rfl | rfl | rfl | rfl <;> rfl
theorem chosen_ne' : ∀ N, N ≤ 4 → ∀ number, number < 2 ^ N → (chosenOf N number = [] ↔ number = 0) := by decide +kernel
theorem mem_numbers {N number : Nat} : number ∈ numbersOf N ↔ 1 ≤ number ∧ number < 2 ^ N := by
  unfold numbersOf
  rw [List.mem_map]
  constructor
  · rintro ⟨a, ha, rfl⟩
    have := List.mem_range.mp ha
    omega
  · rintro ⟨h1, h2⟩
    exact ⟨number - 1, List.mem_range.mpr (by omega), by omega⟩
theorem chosen_ne {N number : Nat} (hN : N ≤ 4) (h : number ∈ numbersOf N) : chosenOf N number ≠ [] := fun e => by
  have := mem_numbers.mp h
  have := (chosen_ne' N hN number this.2).mp e
  omega
theorem chosen_lt {N number k : Nat} (h : k ∈ chosenOf N number) : k < N := List.mem_range.mp (List.mem_filter.mp h).1
theorem chosen_len {N number : Nat} : (chosenOf N number).length ≤ N := by
  have := List.length_filter_le (fun k => ((number : Int) / 2 ^ k % 2 == 1)) (List.range N)
  rw [List.length_range] at this
  exact this
/-! ### what is told -/
theorem mem_foldl_addItem {α : Type} (f : α → Item) {x : Item} : ∀ (l : List α) (S : List Item), x ∈ l.foldl (fun S a => addItem S (f a)) S ↔ x ∈ S ∨ ∃ a ∈ l, x = f a
  | [], S => by simp
  | a :: l, S => by
    rw [List.foldl_cons, mem_foldl_addItem f l, mem_addItem]
    simp only [List.mem_cons, exists_eq_or_imp, or_assoc]
theorem nodup_addItem {S : List Item} {one : Item} (h : S.Nodup) : (addItem S one).Nodup := by
  unfold addItem
  split
  · exact h
  · rename_i hn; exact nodup_snoc h hn
theorem nodup_foldl_addItem {α : Type} (f : α → Item) : ∀ (l : List α) (S : List Item), S.Nodup → (l.foldl (fun S a => addItem S (f a)) S).Nodup
  | [], _, h => h
  | a :: l, S, h => nodup_foldl_addItem f l _ (nodup_addItem h)
theorem len_foldl_addItem {α : Type} (f : α → Item) : ∀ (l : List α) (S : List Item), (l.foldl (fun S a => addItem S (f a)) S).length ≤ S.length + l.length
  | [], S => Nat.le_refl _
  | a :: l, S => by
    have := len_foldl_addItem f l (addItem S (f a))
    have := addItem_len S (f a)
    rw [List.foldl_cons, List.length_cons]; omega
theorem mem_told {paths L : List Str} {N : Nat} {x : Item} : x ∈ toldOf paths L N ↔ ∃ number ∈ numbersOf N, x = closItem paths L N number := by
  unfold toldOf
  rw [mem_foldl_addItem (closItem paths L N)]
  simp
theorem nodup_told {paths L : List Str} {N : Nat} : (toldOf paths L N).Nodup := nodup_foldl_addItem (closItem paths L N) _ _ List.nodup_nil
theorem len_told {paths L : List Str} {N : Nat} (hN : N ≤ 4) : (toldOf paths L N).length < 64 := by
  have := len_foldl_addItem (closItem paths L N) (numbersOf N) []
  have h2 : (numbersOf N).length ≤ 15 := by
    unfold numbersOf
    rw [List.length_map, List.length_range]
    have : 2 ^ N ≤ 2 ^ 4 := Nat.pow_le_pow_right (by decide) hN
    omega
  have h3 : (toldOf paths L N).length ≤ ([] : List Item).length + (numbersOf N).length := this
  rw [List.length_nil] at h3
  omega
end
noncomputable section
open PySem PySem.W PySem.Calls PySem.Spec PyProof.Rows
set_option autoImplicit false
abbrev rOf (fs : List File) : List Int := fs.map fun f => rightsOf f.2
abbrev sOf (fs : List File) : List Str := fs.map fun f => signs f.2
abbrev noFile : File := ((("" : Str), (0 : Int)) : File)
theorem minus_on {fs : List File} {k i : Nat} (hk : k < fs.length) (hi : i ∈ nine) : minus (sOf fs) k i = !bitOn (rOf fs) k (9 - i) := by
  unfold minus bitOn sOf rOf
  rw [getD_map (d' := noFile) hk, getD_map (d' := noFile) hk]
  exact minus_bit _ i hi
theorem mem_nine {i : Nat} : i ∈ nine ↔ 1 ≤ i ∧ i < 10 := by
  refine ⟨nine_mem, fun h => ?_⟩
  unfold nine
  exact List.mem_map.mpr ⟨i - 1, List.mem_range.mpr (by omega), by omega⟩
def allOn (R : List Int) (S : List Nat) (b : Nat) : Bool := S.all fun s => bitOn R s b
theorem allOn_iff {R : List Int} {S : List Nat} {b : Nat} : allOn R S b = true ↔ ∀ s ∈ S, bitOn R s b = true := List.all_eq_true
theorem shared_ok {fs : List File} {S : List Nat} (hS : ∀ k ∈ S, k < fs.length) {k : Nat} (hk : k < fs.length) : ((sharedD (sOf fs) S).filter fun i => minus (sOf fs) k i).isEmpty = okB (rOf fs) (allOn (rOf fs) S) 9 k := by
  rw [Bool.eq_iff_iff, List.isEmpty_iff, List.filter_eq_nil_iff, okB_iff]
  constructor
  · intro q b hb hB
    have hi : 9 - b ∈ nine := mem_nine.mpr (by omega)
    have e9 : 9 - (9 - b) = b := by omega
    have hm : 9 - b ∈ sharedD (sOf fs) S := by
      unfold sharedD
      refine List.mem_filter.mpr ⟨hi, List.isEmpty_iff.mpr (List.filter_eq_nil_iff.mpr fun s hs => ?_)⟩
      rw [minus_on (hS s hs) hi, e9, allOn_iff.mp hB s hs]
      simp
    have := q _ hm
    rw [minus_on hk hi, e9] at this
    simpa using this
  · intro q i hi
    unfold sharedD at hi
    obtain ⟨hi, hs⟩ := List.mem_filter.mp hi
    have hi' := nine_mem hi
    have := q (9 - i) (by omega) (allOn_iff.mpr fun s hsS => by
      have := List.filter_eq_nil_iff.mp (List.isEmpty_iff.mp hs) s hsS
      rw [minus_on (hS s hsS) hi] at this
      simpa using this)
    rw [minus_on hk hi, this]
    simp
section
variable {fs : List File} (hg : Good fs)
include hg
theorem closure_eq {S : List Nat} (hS : ∀ k ∈ S, k < fs.length) (hne : S ≠ []) {f : List Str} (hf : IsFront (S.map (rowAt fs)) f) :
    closureD (pathsOf fs) (sOf fs) S = (List.range fs.length).filter (fun k => decide (f <+: rowAt fs k) && okB (rOf fs) (allOn (rOf fs) S) 9 k) := by
  have ef : folderD (pathsOf fs) S = Txt.join "/" f := by
    unfold folderD
    rw [(common_front hg hS hne).unique hf]
  have hn := front_names hg hS hne hf
  unfold closureD foundD
  rw [List.filter_filter, List.length_map, ef]
  refine List.filter_congr fun k hk => ?_
  have hk' := List.mem_range.mp hk
  have hr := row_good hg hk'
  rw [shared_ok hS hk', Bool.and_comm, hr.2.2.2]
  congr 1
  rw [Bool.eq_iff_iff, below_rows hn.1 hr.1 hr.2.1, decide_eq_true_eq]
theorem mem_closure {S : List Nat} (hS : ∀ k ∈ S, k < fs.length) (hne : S ≠ []) {f : List Str} (hf : IsFront (S.map (rowAt fs)) f) {k : Nat} :
    k ∈ closureD (pathsOf fs) (sOf fs) S ↔ k < fs.length ∧ f <+: rowAt fs k ∧ ∀ b, b < 9 → (∀ s ∈ S, bitOn (rOf fs) s b = true) → bitOn (rOf fs) k b = true := by
  rw [closure_eq hg hS hne hf, List.mem_filter, List.mem_range, Bool.and_eq_true, decide_eq_true_eq, okB_iff]
  simp only [allOn_iff]
omit hg in
theorem front_eq {r : List Str} {j : Nat} (hj : j ≤ r.length) : frontSet (rowsOf fs) r j = (List.range fs.length).filter fun k => decide (r.take j <+: rowAt fs k) := by
  unfold frontSet
  rw [List.length_map]
  refine List.filter_congr fun k _ => ?_
  rw [Bool.eq_iff_iff, decide_eq_true_eq, decide_eq_true_eq]
  exact take_prefix_iff hj
omit hg in
theorem rowAt_mem {k : Nat} (hk : k < fs.length) : rowAt fs k ∈ rowsOf fs := getD_mem (by rw [List.length_map]; exact hk)
omit hg in
theorem front_map {S : List Nat} (hne : S ≠ []) {f : List Str} (hf : IsFront (S.map (rowAt fs)) f) : setItem (rowsOf fs) S = (S, Txt.join "/" f) := by
  unfold setItem
  have : IsFront (S.map (rowAt fs)) (frontR (S.map fun k => (rowsOf fs).getD k [])) := frontR_is (by simpa using hne)
  rw [this.unique hf]
theorem told_set {S : List Nat} (hS : ∀ k ∈ S, k < fs.length) (hne : S ≠ []) : closureD (pathsOf fs) (sOf fs) S ∈ (setsAll (rowsOf fs) (rOf fs)).drop 1 ∧ setItem (rowsOf fs) (closureD (pathsOf fs) (sOf fs) S) = (closureD (pathsOf fs) (sOf fs) S, folderD (pathsOf fs) S) := by
  have hf := common_front hg hS hne
  obtain ⟨f, ef⟩ : ∃ f, commonD (dotted (pathsOf fs) S) = f := ⟨_, rfl⟩
  unfold folderD
  rw [ef] at hf ⊢
  have hsub : ∀ s ∈ S, s ∈ closureD (pathsOf fs) (sOf fs) S := fun s hs => (mem_closure hg hS hne hf).mpr ⟨hS s hs, hf.1 _ (List.mem_map.mpr ⟨s, hs, rfl⟩), fun b _ h => h s hs⟩
  obtain ⟨s, r, e⟩ := List.exists_cons_of_ne_nil hne
  have hs : s ∈ S := by rw [e]; exact .head _
  have hA : closureD (pathsOf fs) (sOf fs) S ≠ [] := fun q => by
    have := hsub s hs
    rw [q] at this; cases this
  refine ⟨(hn_all _ _).drop.2 _ |>.mpr ⟨mem_setsAll.mpr ⟨_, mem_sets1.mpr (.inr ⟨rowAt fs s, rowAt_mem (hS s hs), f.length, ?_, rfl⟩), allOn (rOf fs) S, ?_⟩, hA⟩, ?_⟩
  · exact (hf.1 _ (List.mem_map.mpr ⟨s, hs, rfl⟩)).length_le
  · have hp := hf.1 _ (List.mem_map.mpr ⟨s, hs, rfl⟩)
    rw [closure_eq hg hS hne hf, front_eq hp.length_le, List.filter_filter, prefix_take hp]
    exact List.filter_congr fun k _ => Bool.and_comm _ _
  · refine front_map hA ⟨fun row hrow => ?_, fun g hgg => hf.2 g fun row hrow => ?_⟩
    · obtain ⟨k, hk, rfl⟩ := List.mem_map.mp hrow
      exact ((mem_closure hg hS hne hf).mp hk).2.1
    · obtain ⟨k, hk, rfl⟩ := List.mem_map.mp hrow
      exact hgg _ (List.mem_map.mpr ⟨k, hsub k hk, rfl⟩)
omit hg in
theorem set_form {one : List Nat} (h : one ∈ setsAll (rowsOf fs) (rOf fs)) (hne : one ≠ []) : ∃ (r : List Str) (j : Nat) (B : Nat → Bool), j ≤ r.length ∧ one = (List.range fs.length).filter (fun k => decide (r.take j <+: rowAt fs k) && okB (rOf fs) B 9 k) := by
  obtain ⟨old, ho, B, rfl⟩ := mem_setsAll.mp h
  rcases mem_sets1.mp ho with e | ⟨r, hr, j, hj, e⟩
  · subst e; exact absurd rfl hne
  · subst e
    refine ⟨r, j, B, hj, ?_⟩
    rw [front_eq hj, List.filter_filter]
    exact List.filter_congr fun k _ => Bool.and_comm _ _
omit hg in
theorem set_filter {one : List Nat} (h : one ∈ setsAll (rowsOf fs) (rOf fs)) : ∃ p, one = (List.range fs.length).filter p := by
  by_cases hne : one = []
  · subst hne
    exact ⟨fun _ => false, by simp⟩
  · obtain ⟨r, j, B, hj, e⟩ := set_form h hne
    exact ⟨_, e⟩
omit hg in
theorem filter_lt {N : Nat} {p : Nat → Bool} {one : List Nat} (h : one = (List.range N).filter p) : ∀ k ∈ one, k < N := fun k hk => by
  rw [h] at hk; exact List.mem_range.mp (List.mem_filter.mp hk).1
theorem set_told {one : List Nat} (h : one ∈ setsAll (rowsOf fs) (rOf fs)) (hne : one ≠ []) : closureD (pathsOf fs) (sOf fs) one = one := by
  obtain ⟨r, j, B, hj, e⟩ := set_form h hne
  have hS := filter_lt e
  have hf := common_front hg hS hne
  have hmem : ∀ k, k ∈ one ↔ k < fs.length ∧ r.take j <+: rowAt fs k ∧ ∀ b, b < 9 → B b = true → bitOn (rOf fs) k b = true := fun k => by
    rw [e, List.mem_filter, List.mem_range, Bool.and_eq_true, decide_eq_true_eq, okB_iff]
  have hgf : r.take j <+: commonD (dotted (pathsOf fs) one) := hf.2 _ fun row hrow => by
    obtain ⟨k, hk, rfl⟩ := List.mem_map.mp hrow
    exact ((hmem k).mp hk).2.1
  rw [closure_eq hg hS hne hf]
  refine Eq.trans ?_ e.symm
  refine List.filter_congr fun k hk => ?_
  have hk' := List.mem_range.mp hk
  rw [Bool.eq_iff_iff, Bool.and_eq_true, Bool.and_eq_true, decide_eq_true_eq, decide_eq_true_eq, okB_iff, okB_iff]
  constructor
  · rintro ⟨q1, q2⟩
    exact ⟨hgf.trans q1, fun b hb hB => q2 b hb (allOn_iff.mpr fun s hs => ((hmem s).mp hs).2.2 b hb hB)⟩
  · rintro ⟨q1, q2⟩
    have hko : k ∈ one := (hmem k).mpr ⟨hk', q1, q2⟩
    exact ⟨hf.1 _ (List.mem_map.mpr ⟨k, hko, rfl⟩), fun b hb hB => allOn_iff.mp hB k hko⟩
theorem told_sets (h4 : fs.length ≤ 4) (x : Item) : x ∈ toldOf (pathsOf fs) (sOf fs) fs.length ↔ x ∈ ((setsAll (rowsOf fs) (rOf fs)).drop 1).map (setItem (rowsOf fs)) := by
  rw [mem_told, List.mem_map]
  constructor
  · rintro ⟨number, hnum, rfl⟩
    obtain ⟨h1, h2⟩ := told_set hg (fun k hk => chosen_lt hk) (chosen_ne h4 hnum)
    exact ⟨_, h1, h2⟩
  · rintro ⟨one, h1, rfl⟩
    obtain ⟨h1, hne⟩ := ((hn_all _ _).drop.2 _).mp h1
    obtain ⟨p, e⟩ := set_filter h1
    obtain ⟨number, hlt, e2⟩ := chosen_surj h4 p
    have hS := filter_lt e
    have hc : chosenOf fs.length number = one := e2.trans e.symm
    refine ⟨number, mem_numbers.mpr ⟨?_, hlt⟩, ?_⟩
    · apply Nat.pos_of_ne_zero
      intro q
      have := (chosen_ne' _ h4 number hlt).mpr q
      rw [hc] at this
      exact hne this
    · unfold closItem
      rw [hc, set_told hg h1 hne, front_map hne (common_front hg hS hne)]
      rfl
omit hg in
theorem sets_64 (h4 : fs.length ≤ 4) : (setsAll (rowsOf fs) (rOf fs)).length ≤ 64 := by
  have h1 := List.Nodup.length_le_of_subset (l₂ := (List.range (2 ^ fs.length)).map (chosenOf fs.length)) (hn_all (rowsOf fs) (rOf fs)).1 (fun x hx => by
    obtain ⟨p, e⟩ := set_filter hx
    obtain ⟨number, hlt, e2⟩ := chosen_surj h4 p
    exact List.mem_map.mpr ⟨number, List.mem_range.mpr hlt, e2.trans e.symm⟩)
  rw [List.length_map, List.length_range] at h1
  have : 2 ^ fs.length ≤ 2 ^ 4 := Nat.pow_le_pow_right (by decide) h4
  omega
end
theorem law_ok {xs : List Int} (h : xs.length = 4) : LawOk (filesOf xs) := by
  obtain ⟨h1, h4, hg⟩ := files_good h
  obtain ⟨fs, hfs⟩ : ∃ fs, filesOf xs = fs := ⟨_, rfl⟩
  rw [hfs] at h1 h4 hg ⊢
  have hcom : ∀ number ∈ numbersOf fs.length, _ := fun number hn => common_ok (chosen := chosenOf fs.length number) hg (fun k hk => chosen_lt hk) (chosen_ne h4 hn) (Nat.le_trans chosen_len h4)
  refine ⟨h1, h4, fun f hf => ?_, fun f hf => ?_, fun f hf => ?_, hcom, sets_64 h4, fun one ho => ?_, len_told h4, fun i hi => ?_, ?_⟩
  · obtain ⟨n1, n2, n3⟩ := (hg f hf).split
    have h5 := join_len n1
    have h6 := join_ok n1
    rw [← n3] at h5 h6
    exact ⟨by omega, h6⟩
  · obtain ⟨n1, n2, n3⟩ := (hg f hf).split
    refine parts_le (by decide) (by omega) ?_ (kind_slash _)
    apply Nat.pos_of_ne_zero
    intro q
    have e : f.1 = "" := str_ext (by
      have : f.1.cps.toList = [] := List.length_eq_zero_iff.mp (by rw [Array.length_toList]; exact q)
      rw [this]; decide +kernel)
    rw [n3] at e
    exact split_ne _ ((join_nil n1).mp e)
  · obtain ⟨n1, n2, n3⟩ := (hg f hf).split
    exact ⟨by omega, fun x hx => (fname_ok x (n1 x hx)).2.2.2.1⟩
  · obtain ⟨h5, h6⟩ := ((hn_all _ _).drop.2 _).mp ho
    obtain ⟨p, e⟩ := set_filter h5
    have hfr : IsFront (one.map (rowAt fs)) (frontR (one.map fun k => (rowsOf fs).getD k [])) := frontR_is (by simpa using h6)
    have hn := front_names hg (filter_lt e) h6 hfr
    exact ⟨h6, joinOk_names hn.1 (Nat.le_trans hn.2 (by decide))⟩
  · obtain ⟨number, hnum, rfl⟩ := mem_told.mp (sortD_mem.mp hi)
    exact (hcom number hnum).2
  · refine sortD_eq nodup_told ?_ (told_sets hg h4)
    exact List.pairwise_map.mpr ((hn_all _ _).drop.1.imp fun hab e => hab (congrArg Prod.fst e))
end
noncomputable section
open PySem PySem.W PySem.Calls PySem.Spec PyProof.Rows
set_option autoImplicit false
set_option maxHeartbeats 4000000
theorem ns_some_of {K : Frag} {h : Heap} {N : Addr} {mg : Str → Option Value} {n : Str} {v : Value} (X : K.In h) (G : h.Ns N mg) (e : nsIn K N n = some (some v)) : mg n = some v := by
  obtain ⟨o, es, ep, ho, hd, _, hf⟩ := G
  unfold nsIn at e
  split at e
  · rename_i c d es' n' sl q
    have := X _ _ q
    rw [ho] at this
    cases this
    cases hd
    split at e
    · rename_i en he
      injection e with e
      rw [← hf]
      unfold nsFind findBy
      rw [← Array.find?_toList, he]
      exact e
    · split at e <;> cases e
  · cases e
theorem ints_has {Z : List Addr} {h : Heap} : ∀ {vs : List Value} {ns : List Int}, IntsAre vs ns → HasAll Z h vs (ns.map .int)
  | [], [], _ => .nil
  | [], _ :: _, q => by cases q
  | _ :: _, [], q => by cases q
  | v :: vs, n :: ns, q => by
    cases q with
    | cons _ _ q1 => exact .cons Has.int (ints_has q1)
theorem rm_caller : Rm 12 callerA := ⟨by decide +kernel, by decide +kernel, rfl⟩
theorem law_call {w : World} {s : Shared} {a : Addr} {vs : List Value} {ns : List Int} (KX : (hd.heap_39 w.params).In s.heap) (hn : s.heap.NoLimit) (hb : ∃ mb, s.heap.Ns builtinsNs mb ∧ ∀ x : Str, x ≠ "__name__" → mb x = bootBuiltins x)
    (hl : s.heap.IsList a vs.toArray) (hi : IntsAre vs ns) (h63 : ns.length ≤ 63) (prog : Program) :
    wpAny (model prog w) callerA (call (.ref 213) [.ref a]) (fun v s' => v = .bool true ∧ Keeps s s') noE s :=
  wpAny_mono ((spec_law (n := 0) h63 (law_ok (numsOf_len ns))) callerA [] s [.ref a] rm_caller ⟨KX, hn, hb⟩ (fun _ h => nomatch h) (.cons (Has.list hl (fun h => nomatch h) (ints_has (by simpa using hi))) .nil)) (fun v s' q => ⟨q.1.bool_inv, q.2⟩) fun _ _ q => q
theorem joined : PySem.Challenge.rw_qw0040_01.Holds := by
  refine hd ?_
  intro w s₀ s₁ mg mb G Y fa o pm cd doc dV kV ho hd' hcd hD hmg hg args vals as hpre hlay hrd hwl hlo
  have KX := kIn_of Y
  clear Y ho hd' hcd hD
  have e213 := ns_some_of (n := "law") KX G.T.g rfl
  have efa : fa = 213 := by
    have := hmg.symm.trans e213
    injection this with this
    injection this
  clear hmg e213
  subst efa
  have hn := G.T.nolimit
  have hb : ∃ mb, s₁.heap.Ns builtinsNs mb ∧ ∀ x : Str, x ≠ "__name__" → mb x = bootBuiltins x := ⟨_, G.T.b, G.T.builtins⟩
  clear G
  wrow_args hpre hlay hrd hwl hlo
  rename_i ns _ _ _ _ _ _ a vs _ hL _ _ _ hI _ h63 _
  refine wpAny_mono (law_call KX hn hb hL hI (by omega) _) (fun v s' q => ?_) fun _ _ q => q.elim
  obtain ⟨rfl, h', t', rfl, hk⟩ := q
  refine GoodW.toG ⟨.inl ⟨.bool true, .bool true, [], rfl, raisesW_false (by wrow_none_raised), ReadsW.bool _, ?_, fun _ => ⟨List.nodup_nil, fun _ h => nomatch h⟩⟩, hk, rfl, hg⟩
  wrow_post
end
end Mine
theorem PySem.Challenge.cw_qw0040_01_holds : PySem.Challenge.rw_qw0040_01.Holds := by
  exact Mine.joined
