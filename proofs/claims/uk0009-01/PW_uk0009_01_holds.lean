import PyProof.Rows.All
import Wide.All
import OpenK.AllK
import Wide.FinOn
import Lean
import PySem.Challenge.RW_uk0009_01
open PySem PySem.W PySem.W.X PyProof.Rows PySem.Calls
set_option Elab.async false
set_option linter.unusedVariables false
set_option linter.unusedSimpArgs false
set_option maxRecDepth 100000

namespace Mine
theorem sj {α : Type _} {a b : α} (h : some a = some b) : b = a := (Option.some.inj h).symm
theorem n1 {α : Type _} {a : α} {p : Prop} (h : none = some a) : p := nomatch h
theorem n2 {α : Type _} {a : α} {p : Prop} (h : some a = none) : p := nomatch h
theorem b1 {p : Prop} (h : false = true) : p := nomatch h
theorem b2 {p : Prop} (h : true = false) : p := nomatch h
def tRfl : Lean.Syntax := (Lean.Unhygienic.run `(Lean.Parser.Tactic.tacticSeq| rfl)).raw
def tRfl1 : Lean.Syntax := (Lean.Unhygienic.run `(Lean.Parser.Tactic.tacticSeq| (intro _; rfl))).raw
def tRfl2 : Lean.Syntax := (Lean.Unhygienic.run `(Lean.Parser.Tactic.tacticSeq| (intro _ _; rfl))).raw
theorem sub_le1 {a n c : Nat} (h : a + n < c) : a ≤ c - 1 - n := Nat.le_sub_of_add_le (Nat.le_sub_one_of_lt h)
theorem sub_lt1 {a n c : Nat} (h : a + n < c) : c - 1 - n + n < c := by rw [Nat.sub_add_cancel (Nat.le_sub_one_of_lt (Nat.lt_of_le_of_lt (Nat.le_add_left n a) h))]; exact Nat.sub_lt (Nat.lt_of_le_of_lt (Nat.zero_le _) h) Nat.one_pos
theorem lt4 {x : Nat} (h : x < 4) : x = 0 ∨ x = 1 ∨ x = 2 ∨ x = 3 := (by decide : ∀ x, x < 4 → x = 0 ∨ x = 1 ∨ x = 2 ∨ x = 3) x h
theorem four {M : Nat → Prop} {x : Nat} (h : x < 4) (h0 : M 0) (h1 : M 1) (h2 : M 2) (h3 : M 3) : M x := by rcases lt4 h with rfl | rfl | rfl | rfl <;> assumption
theorem rdL {n a b : Nat} (h : 0 < b) : n + a + 3 ≤ n + (a + b) - 1 + 3 := Nat.add_le_add_right (Nat.le_sub_one_of_lt (Nat.add_lt_add_left (Nat.lt_add_of_pos_right h) n)) 3
theorem rdR {n a b : Nat} (h : 0 < a) : n + b + 3 ≤ n + (a + b) - 1 + 3 := Nat.add_le_add_right (Nat.le_sub_one_of_lt (Nat.add_lt_add_left (Nat.lt_add_of_pos_left h) n)) 3
theorem rd4 {n a : Nat} (h : 0 < a) : n + a - 1 + 4 ≤ n + a + 3 := Nat.le_of_eq (congrArg (· + 3) (Nat.sub_add_cancel (Nat.le_trans h (Nat.le_add_left a n))))
theorem r0 (k : Nat) : 0 ≤ 0 + (k : Int) * 1 := by omega
theorem rk {k a : Nat} {b : Int} (h : k < a) (hb : (a : Int) ≤ b) : 0 + (k : Int) * 1 ≤ b := by omega
end Mine

local macro_rules | `(tactic| walk_at "o") => `(tactic| first | with_reducible assumption | with_reducible exact Mine.lt4 (by assumption) | with_reducible exact Mine.r0 _ | with_reducible exact Mine.rk (by assumption) (by decide) | lia | omega)

namespace Mine

/-! ## Clean values -/
inductive CV where
  | none | bool (b : Bool) | int (i : Int) | str (s : Str) | cst (v : Value)
  | list (vs : List CV) | tup (vs : List CV) | rng (a b c : Int)
  | ref (i : Nat) | meth (i : Nat) (f : Addr)

noncomputable abbrev Gh := Addr → Option Obj
noncomputable abbrev GG := Nat → Option GenState
noncomputable abbrev Sto := List (Addr × List Addr)

noncomputable abbrev listObj (xs : List Value) (ep : Nat) : Obj := ⟨.type "list", none, .seq xs.toArray ep, #[]⟩
noncomputable abbrev tupObj (xs : List Value) (ep : Nat) : Obj := ⟨.type "tuple", none, .seq xs.toArray ep, #[]⟩

mutual
inductive VR (P : Gh) (ι : Sto) : CV → Value → Prop
  | none : VR P ι .none .none
  | bool (b : Bool) : VR P ι (.bool b) (.bool b)
  | int (i : Int) (t : Tok) : VR P ι (.int i) (.int i t)
  | str (s : Str) (t : Tok) : VR P ι (.str s) (.str s t)
  | cst (v : Value) : VR P ι (.cst v) v
  | list {vs : List CV} {xs : List Value} {a : Addr} {o : Obj} : P a = some o → (o.cls = .type "list" ∧ ∃ ep, o.data = .seq xs.toArray ep) → VRs P ι vs xs → VR P ι (.list vs) (.ref a)
  | tup {vs : List CV} {xs : List Value} {a : Addr} {ep : Nat} : P a = some (tupObj xs ep) → VRs P ι vs xs → VR P ι (.tup vs) (.ref a)
  | rng {a b c : Int} {t u v : Tok} {r : Addr} : P r = some ⟨.type "range", none, .fields #[.int a t, .int b u, .int c v], #[]⟩ → VR P ι (.rng a b c) (.ref r)
  | ref {i : Nat} {a : Addr} {xs : List Addr} : ι[i]? = some (a, xs) → VR P ι (.ref i) (.ref a)
  | meth {i : Nat} {f m a : Addr} {xs : List Addr} {o : Obj} {r : List Value} : P m = some o → o.cls = .type "method" → o.data = .fields (.ref f :: .ref a :: r).toArray → ι[i]? = some (a, xs) → VR P ι (.meth i f) (.ref m)
inductive VRs (P : Gh) (ι : Sto) : List CV → List Value → Prop
  | nil : VRs P ι [] []
  | cons {v : CV} {vs : List CV} {x : Value} {xs : List Value} : VR P ι v x → VRs P ι vs xs → VRs P ι (v :: vs) (x :: xs)
end

noncomputable def Le (P P' : Gh) : Prop := ∀ a o, P a = some o → P' a = some o
noncomputable def StoLe (ι ι' : Sto) : Prop := ∃ δ, ι' = ι ++ δ
theorem Le.refl (P : Gh) : Le P P := fun _ _ h => h
theorem Le.trans {P P' P'' : Gh} (a : Le P P') (b : Le P' P'') : Le P P'' := fun x o h => b x o (a x o h)
theorem StoLe.refl (ι : Sto) : StoLe ι ι := ⟨[], by simp⟩
theorem StoLe.trans {ι ι' ι'' : Sto} (a : StoLe ι ι') (b : StoLe ι' ι'') : StoLe ι ι'' := by
  obtain ⟨d, rfl⟩ := a; obtain ⟨e, rfl⟩ := b; exact ⟨d ++ e, by simp⟩
theorem StoLe.get {ι ι' : Sto} (a : StoLe ι ι') {i : Nat} {x} (h : ι[i]? = some x) : ι'[i]? = some x := by
  obtain ⟨d, rfl⟩ := a
  rw [List.getElem?_append_left (List.getElem?_eq_some_iff.mp h).1]; exact h

theorem VR.ind2 {P : Gh} {ι : Sto} {M : CV → Value → Prop} {N : List CV → List Value → Prop} (none : M .none .none) (bool : ∀ b, M (.bool b) (.bool b)) (int : ∀ i t, M (.int i) (.int i t)) (str : ∀ s t, M (.str s) (.str s t)) (cst : ∀ v, M (.cst v) v)
    (list : ∀ {vs : List CV} {xs : List Value} {a : Addr} {o : Obj}, P a = some o → (o.cls = .type "list" ∧ ∃ ep, o.data = .seq xs.toArray ep) → N vs xs → M (.list vs) (.ref a)) (tup : ∀ {vs : List CV} {xs : List Value} {a : Addr} {ep : Nat}, P a = some (tupObj xs ep) → N vs xs → M (.tup vs) (.ref a))
    (rng : ∀ {a b c : Int} {t u v : Tok} {r : Addr}, P r = some ⟨.type "range", .none, .fields #[.int a t, .int b u, .int c v], #[]⟩ → M (.rng a b c) (.ref r)) (ref : ∀ {i : Nat} {a : Addr} {xs : List Addr}, ι[i]? = some (a, xs) → M (.ref i) (.ref a))
    (meth : ∀ {i : Nat} {f m a : Addr} {xs : List Addr} {o : Obj} {r : List Value}, P m = some o → o.cls = .type "method" → o.data = .fields (.ref f :: .ref a :: r).toArray → ι[i]? = some (a, xs) → M (.meth i f) (.ref m))
    (nil : N [] []) (cons : ∀ {v : CV} {vs : List CV} {x : Value} {xs : List Value}, M v x → N vs xs → N (v :: vs) (x :: xs)) : (∀ {v x}, VR P ι v x → M v x) ∧ ∀ {vs xs}, VRs P ι vs xs → N vs xs :=
  ⟨fun h => VR.rec (motive_1 := fun v x _ => M v x) (motive_2 := fun vs xs _ => N vs xs) none bool int str cst (fun h q _ r => list h q r) (fun h _ r => tup h r) rng ref meth nil (fun _ _ a b => cons a b) h,
   fun h => VRs.rec (motive_1 := fun v x _ => M v x) (motive_2 := fun vs xs _ => N vs xs) none bool int str cst (fun h q _ r => list h q r) (fun h _ r => tup h r) rng ref meth nil (fun _ _ a b => cons a b) h⟩
theorem VRs.ind {P : Gh} {ι : Sto} {N : List CV → List Value → Prop} (nil : N [] []) (cons : ∀ {v : CV} {vs : List CV} {x : Value} {xs : List Value}, VR P ι v x → VRs P ι vs xs → N vs xs → N (v :: vs) (x :: xs)) {vs : List CV} {xs : List Value} (h : VRs P ι vs xs) : N vs xs :=
  VRs.rec (motive_1 := fun _ _ _ => True) (motive_2 := fun vs xs _ => N vs xs) trivial (fun _ => trivial) (fun _ _ => trivial) (fun _ _ => trivial) (fun _ => trivial) (fun _ _ _ _ => trivial) (fun _ _ _ => trivial) (fun _ => trivial) (fun _ => trivial) (fun _ _ _ _ => trivial) nil (fun a b _ c => cons a b c) h
/-- what a value is, said by its clean value -/
noncomputable def VR.Inv (P : Gh) (ι : Sto) : CV → Value → Prop
  | .none, x => ∃ _t : Tok, x = .none
  | .bool b, x => ∃ _t : Tok, x = .bool b
  | .int i, x => ∃ t : Tok, x = .int i t
  | .str s, x => ∃ t : Tok, x = .str s t
  | .cst v, x => ∃ _t : Tok, x = v
  | .list vs, x => ∃ xs a o, x = .ref a ∧ P a = some o ∧ (o.cls = .type "list" ∧ ∃ ep, o.data = .seq xs.toArray ep) ∧ VRs P ι vs xs
  | .tup vs, x => ∃ xs a ep, x = .ref a ∧ P a = some (tupObj xs ep) ∧ VRs P ι vs xs
  | .rng a b c, x => ∃ t u v r, x = .ref r ∧ P r = some ⟨.type "range", Option.none, .fields #[.int a t, .int b u, .int c v], #[]⟩
  | .ref i, x => ∃ a xs, x = .ref a ∧ ι[i]? = some (a, xs)
  | .meth i f, x => ∃ m a xs o r, x = .ref m ∧ P m = some o ∧ o.cls = .type "method" ∧ o.data = .fields (.ref f :: .ref a :: r).toArray ∧ ι[i]? = some (a, xs)
theorem VR.inv {P : Gh} {ι : Sto} {v : CV} {x : Value} (h : VR P ι v x) : VR.Inv P ι v x :=
  VR.rec (motive_1 := fun v x _ => VR.Inv P ι v x) (motive_2 := fun vs xs _ => VRs P ι vs xs) ⟨0, rfl⟩ (fun _ => ⟨0, rfl⟩) (fun _ t => ⟨t, rfl⟩) (fun _ t => ⟨t, rfl⟩) (fun _ => ⟨0, rfl⟩) (fun h q _ r => ⟨_, _, _, rfl, h, q, r⟩) (fun h _ r => ⟨_, _, _, rfl, h, r⟩) (fun {a b c t u v r} h => ⟨t, u, v, r, rfl, h⟩) (fun h => ⟨_, _, rfl, h⟩) (fun h a b c => ⟨_, _, _, _, _, rfl, h, a, b, c⟩) .nil (fun a _ _ b => .cons a b) h
theorem VRs.nil_inv {P : Gh} {ι : Sto} {xs : List Value} (h : VRs P ι [] xs) : xs = [] := by cases h; rfl
theorem VRs.cons_inv {P : Gh} {ι : Sto} {v : CV} {vs : List CV} {xs : List Value} (h : VRs P ι (v :: vs) xs) : ∃ x ys, xs = x :: ys ∧ VR P ι v x ∧ VRs P ι vs ys := by cases h with | cons a b => exact ⟨_, _, rfl, a, b⟩
theorem mono2 {P P' : Gh} {ι ι' : Sto} (hP : Le P P') (hι : StoLe ι ι') : (∀ {v x}, VR P ι v x → VR P' ι' v x) ∧ ∀ {vs xs}, VRs P ι vs xs → VRs P' ι' vs xs :=
  VR.ind2 .none .bool .int .str .cst (fun h q r => .list (hP _ _ h) q r) (fun h r => .tup (hP _ _ h) r) (fun h => .rng (hP _ _ h)) (fun h => .ref (hι.get h)) (fun h a b c => .meth (hP _ _ h) a b (hι.get c)) .nil .cons
theorem VR.mono {P P' : Gh} {ι ι' : Sto} (hP : Le P P') (hι : StoLe ι ι') {v : CV} {x : Value} (h : VR P ι v x) : VR P' ι' v x := (mono2 hP hι).1 h
theorem VRs.mono {P P' : Gh} {ι ι' : Sto} (hP : Le P P') (hι : StoLe ι ι') {vs : List CV} {xs : List Value} (h : VRs P ι vs xs) : VRs P' ι' vs xs := (mono2 hP hι).2 h

mutual
noncomputable def CV.pure : CV → Bool
  | .ref _ | .meth .. => false
  | .list vs | .tup vs => pures vs
  | _ => true
noncomputable def pures : List CV → Bool
  | [] => true
  | v :: vs => v.pure && pures vs
end
theorem pure2 {P : Gh} {ι ι' : Sto} : (∀ {v x}, VR P ι v x → v.pure = true → VR P ι' v x) ∧ ∀ {vs xs}, VRs P ι vs xs → pures vs = true → VRs P ι' vs xs :=
  VR.ind2 (fun _ => .none) (fun b _ => .bool b) (fun i t _ => .int i t) (fun s t _ => .str s t) (fun v _ => .cst v) (fun a q r h => .list a q (r h)) (fun a r h => .tup a (r h)) (fun a _ => .rng a) (fun _ h => nomatch (h : false = true)) (fun _ _ _ _ h => nomatch (h : false = true)) (fun _ => .nil)
    (fun a b h => .cons (a (Bool.and_eq_true_iff.mp h).1) (b (Bool.and_eq_true_iff.mp h).2))
theorem VR.pure' {P : Gh} {ι ι' : Sto} {v : CV} {x : Value} (h : v.pure = true) (r : VR P ι v x) : VR P ι' v x := pure2.1 r h
theorem VRs.pure' {P : Gh} {ι ι' : Sto} {vs : List CV} {xs : List Value} (h : pures vs = true) (r : VRs P ι vs xs) : VRs P ι' vs xs := pure2.2 r h
theorem VRs.length {P : Gh} {ι : Sto} {vs : List CV} {xs : List Value} (h : VRs P ι vs xs) : xs.length = vs.length := h.ind (N := fun vs xs => xs.length = vs.length) rfl fun _ _ e => congrArg (· + 1) e
theorem VRs.get {P : Gh} {ι : Sto} {vs : List CV} {xs : List Value} (h : VRs P ι vs xs) : ∀ {i : Nat} {v : CV}, vs[i]? = some v → ∃ x, xs[i]? = some x ∧ VR P ι v x :=
  @(h.ind (N := fun vs xs => ∀ (i : Nat) (v : CV), vs[i]? = some v → ∃ x, xs[i]? = some x ∧ VR P ι v x) (fun _ _ h => nomatch h) fun a _ f (i : Nat) v => match i with
    | 0 => fun h => ⟨_, rfl, Option.some.inj h ▸ a⟩
    | _ + 1 => fun h => f _ _ h)
theorem VRs.append {P : Gh} {ι : Sto} {vs ws : List CV} {xs ys : List Value} (h : VRs P ι vs xs) (k : VRs P ι ws ys) : VRs P ι (vs ++ ws) (xs ++ ys) := h.ind (N := fun vs xs => VRs P ι (vs ++ ws) (xs ++ ys)) k fun a _ f => .cons a f
theorem VRs.set {P : Gh} {ι : Sto} {v : CV} {x : Value} (hv : VR P ι v x) {vs : List CV} {xs : List Value} (n : Nat) (h : VRs P ι vs xs) : VRs P ι (vs.set n v) (xs.set n x) :=
  h.ind (N := fun vs xs => ∀ n : Nat, VRs P ι (vs.set n v) (xs.set n x)) (fun _ => .nil) (fun a b f n => match n with | 0 => .cons hv b | n + 1 => .cons a (f n)) n
theorem VRs.reverse {P : Gh} {ι : Sto} {vs : List CV} {xs : List Value} (h : VRs P ι vs xs) : VRs P ι vs.reverse xs.reverse :=
  h.ind (N := fun vs xs => VRs P ι vs.reverse xs.reverse) .nil fun a _ f => by rw [List.reverse_cons, List.reverse_cons]; exact f.append (.cons a .nil)

/-! ## States -/
structure Tabl where
  c : Addr
  P : Addr
  line : Nat
  col : Nat
  qual : Str

structure CEnv where
  scope : Scope
  free : List (Str × CV) := []

inductive CFl where
  | nxt | brk | cnt | ret (v : CV)
end Mine

namespace Mine

inductive CO where
  | dead
  | lst (vs : List CV)
  | inst (C : Addr) (attrs : List (Str × CV))
  | clo (params : List Str) (body : FuncBody) (scope : Scope) (free : List (Str × CV))
  | citer (i f : Nat) (ended : Bool)

structure LSt where
  vars : List (Str × CV)
  store : List CO

noncomputable def LeH (P : Gh) (h : Heap) : Prop := ∀ a o, P a = some o → h.get? a = some o

structure FnD (P : Gh) (fd : FuncData) (params : List Str) (body : FuncBody) (scope : Scope) (clo : List (Str × Addr)) : Prop where
  scope : fd.scope = scope
  body : fd.body = body
  glob : fd.globals = mainGlobals
  bui : fd.builtins = builtinsNs
  clo : fd.closure = clo
  bind : ∀ vs : List Value, vs.length = params.length → bindArgs fd ⟨vs, []⟩ = pure (params.zip vs)
  code : ∃ c oc xs t, fd.code = .ref c ∧ P c = some oc ∧ oc.data = .fields xs ∧ xs[1]? = some (.str fd.qualname t)

noncomputable def G0 : List (Str × CV) := [
  (Str.ofString "len", .cst (.builtin "len")),
  (Str.ofString "isinstance", .cst (.builtin "isinstance")),
  (Str.ofString "max", .cst (.builtin "max")),
  (Str.ofString "min", .cst (.builtin "min")),
  (Str.ofString "sum", .cst (.builtin "sum")),
  (Str.ofString "abs", .cst (.builtin "abs")),
  (Str.ofString "divmod", .cst (.builtin "divmod")),
  (Str.ofString "iter", .cst (.builtin "iter")),
  (Str.ofString "range", .cst (.type "range")),
  (Str.ofString "list", .cst (.type "list")),
  (Str.ofString "int", .cst (.type "int")),
  (Str.ofString "reversed", .cst (.type "reversed")),
  (Str.ofString "enumerate", .cst (.type "enumerate")),
  (Str.ofString "_div2n1n", .cst (.ref 21)),
  (Str.ofString "_int2digits", .cst (.ref 35)),
  (Str.ofString "_digits2int", .cst (.ref 42)),
  (Str.ofString "_divmod_pos", .cst (.ref 49)),
  (Str.ofString "int_divmod", .cst (.ref 56)),
  (Str.ofString "_iter_escaped_chars", .cst (.ref 63)),
  (Str.ofString "_strip_quoted_realnames", .cst (.ref 70)),
  (Str.ofString "_check_parenthesis", .cst (.ref 77)),
  (Str.ofString "_netrclex", .cst (.ref 115)),
  (Str.ofString "EXACT_TOKEN_TYPES", .cst (.ref 120)),
  (Str.ofString "ISEOF", .cst (.ref 129)),
  (Str.ofString "_law_heaps", .cst (.ref 134)),
  (Str.ofString "_law_tree", .cst (.ref 141)),
  (Str.ofString "_law_row", .cst (.ref 148)),
  (Str.ofString "_law_truths", .cst (.ref 153)),
  (Str.ofString "_law_spelled", .cst (.ref 158)),
  (Str.ofString "_law_lexer", .cst (.ref 165)),
  (Str.ofString "_law_read", .cst (.ref 170)),
  (Str.ofString "_law_digits", .cst (.ref 175)),
  (Str.ofString "_law_divided", .cst (.ref 182)),
  (Str.ofString "_law_least", .cst (.ref 187)),
  (Str.ofString "_law_near", .cst (.ref 192)),
  (Str.ofString "_law_piles", .cst (.ref 197)),
  (Str.ofString "_law_text", .cst (.ref 202)),
  (Str.ofString "_law_once", .cst (.ref 207)),
  (Str.ofString "_DIV_LIMIT", .int 4000),
  (Str.ofString "ENDMARKER", .int 0),
  (Str.ofString "NAME", .int 1)]

set_option genInjectivity false in
set_option genSizeOf false in
structure Base where
  prog : Program
  w : World
  P₀ : Gh
  K : Frag
  os : OsState
  tabs : List Tabl
  mg : Str → Option Value
  mb : Str → Option Value
  K_in : ∀ a o, K.lookup a = some o → P₀ a = some o
  ns_g : ∀ h, LeH P₀ h → h.Ns mainGlobals mg
  ns_b : ∀ h, LeH P₀ h → h.Ns builtinsNs mb
  nolim : ∀ h, LeH P₀ h → h.NoLimit
  tabs0 : ∀ t ∈ tabs, P₀ t.P = none
  code_hd : ∀ t ∈ tabs, ∀ h, LeH P₀ h → CodeHd h t.c t.P
  bui_at : ∀ t ∈ tabs, ∀ h, LeH P₀ h → h.BuiltinsAt mg t.P
  tab_g : ∀ t ∈ tabs, mainGlobals ≠ t.P
  tabs_nd : ∀ t ∈ tabs, ∀ t' ∈ tabs, t.P = t'.P → t = t'
  glob : ∀ x cv, G0.lookup x = some cv → ∃ v, (mg x = some v ∨ (mg x = none ∧ mb x = some v)) ∧ ∀ P ι, VR P ι cv v

noncomputable def TabOk (P : Gh) (h : Heap) (t : Tabl) : Prop :=
  ∃ ps, h.get? t.P = some (tabObj ps) ∧ (ps = #[] ∨ ∃ c' oc xs tk, ps = #[rawInt t.line, rawInt t.col, .ref c'] ∧ P c' = some oc ∧ oc.data = .fields xs ∧ xs[1]? = some (.str t.qual tk))

structure InvS (B : Base) (P K : Gh) (g : GG) (s : Shared) : Prop where
  perm : LeH P s.heap
  keep : LeH K s.heap
  apart : ∀ a o, K a = some o → P a = none
  base : Le B.P₀ P
  os : s.os = B.os
  bare : AllBare s.gens
  gk : ∀ i x, g i = some x → s.gens[i]? = some x
  tabs : ∀ t ∈ B.tabs, P t.P = none ∧ K t.P = none ∧ TabOk P s.heap t

theorem TabOk.mono {P P' : Gh} {h h' : Heap} {t : Tabl} (x : TabOk P h t) (hP : Le P P') (hh : h'.get? t.P = h.get? t.P) : TabOk P' h' t := by
  obtain ⟨ps, e, r⟩ := x
  refine ⟨ps, hh.trans e, r.imp id ?_⟩
  rintro ⟨c', oc, xs, tk, a, b, c⟩
  exact ⟨c', oc, xs, tk, a, hP _ _ b, c⟩

section
variable {B : Base} {P K : Gh} {g : GG} {s s' : Shared}
theorem InvS.h0 (I : InvS B P K g s) : LeH B.P₀ s.heap := fun a o e => I.perm a o (I.base a o e)
theorem InvS.ns_g (I : InvS B P K g s) : s.heap.Ns mainGlobals B.mg := B.ns_g _ I.h0
theorem InvS.ns_b (I : InvS B P K g s) : s.heap.Ns builtinsNs B.mb := B.ns_b _ I.h0
theorem InvS.nolim (I : InvS B P K g s) : s.heap.NoLimit := B.nolim _ I.h0
theorem InvS.K_in (I : InvS B P K g s) : B.K.In s.heap := fun a o e => I.h0 a o (B.K_in a o e)

/-- a change that touches nothing that is said -/
theorem InvS.step (I : InvS B P K g s) (T : Addr → Prop) (hh : ∀ b o, ¬ T b → s.heap.get? b = some o → s'.heap.get? b = some o)
    (hT : ∀ b, T b → P b = none ∧ K b = none ∧ ∀ t ∈ B.tabs, t.P ≠ b) (ho : s'.os = s.os) (hg : s'.gens = s.gens) : InvS B P K g s' where
  perm := fun a o e => hh a o (fun t => by rw [(hT a t).1] at e; (first|subst e|obtain rfl:=sj e|exact n1 e|exact n2 e|exact b1 e|exact b2 e|cases e)) (I.perm a o e)
  keep := fun a o e => hh a o (fun t => by rw [(hT a t).2.1] at e; (first|subst e|obtain rfl:=sj e|exact n1 e|exact n2 e|exact b1 e|exact b2 e|cases e)) (I.keep a o e)
  apart := I.apart
  base := I.base
  os := ho.trans I.os
  bare := hg ▸ I.bare
  gk := hg ▸ I.gk
  tabs := fun t ht => by
    obtain ⟨a, b, c⟩ := I.tabs t ht
    refine ⟨a, b, c.mono (Le.refl P) ?_⟩
    obtain ⟨ps, e, _⟩ := c
    rw [e]
    exact hh _ _ (fun q => (hT _ q).2.2 t ht rfl) e
theorem InvS.grow (I : InvS B P K g s) (hh : ∀ b o, s.heap.get? b = some o → s'.heap.get? b = some o) (ho : autoParam (s'.os = s.os) tRfl) (hg : autoParam (s'.gens = s.gens) tRfl) : InvS B P K g s' :=
  I.step (fun _ => False) (fun b o _ e => hh b o e) (fun _ h => h.elim) ho hg

/-- a new object becomes permanent -/
noncomputable def Gh.put (P : Gh) (a : Addr) (o : Obj) : Gh := fun b => if b = a then some o else P b
theorem Gh.put_self {P : Gh} {a : Addr} {o : Obj} : P.put a o a = some o := by simp [Gh.put]
theorem Gh.put_ne {P : Gh} {a b : Addr} {o : Obj} (h : b ≠ a) : P.put a o b = P b := by simp [Gh.put, h]
theorem Gh.put_le {P : Gh} {a : Addr} {o : Obj} (h : P a = none) : Le P (P.put a o) := fun b o' e => by
  have : b ≠ a := fun q => by subst q; rw [h] at e; (first|subst e|obtain rfl:=sj e|exact n1 e|exact n2 e|exact b1 e|exact b2 e|cases e)
  rw [Gh.put_ne this]; exact e
theorem InvS.freshP (I : InvS B P K g s) : P s.heap.objs.size = none := by
  cases e : P s.heap.objs.size with
  | none => rfl
  | some o => exact absurd (Heap.lt_size (I.perm _ _ e)) (Nat.lt_irrefl _)
theorem InvS.freshK (I : InvS B P K g s) : K s.heap.objs.size = none := by
  cases e : K s.heap.objs.size with
  | none => rfl
  | some o => exact absurd (Heap.lt_size (I.keep _ _ e)) (Nat.lt_irrefl _)
theorem InvS.freshT (I : InvS B P K g s) : ∀ t ∈ B.tabs, t.P ≠ s.heap.objs.size := fun t ht q => by
  obtain ⟨_, _, ps, e, _⟩ := I.tabs t ht
  exact absurd (Heap.lt_size e) (by rw [q]; exact Nat.lt_irrefl _)
/-- any object that is in the heap, in nobody's hands, may be put among the permanent ones -/
theorem InvS.put (I : InvS B P K g s) {a : Addr} {o : Obj} (ha : s.heap.get? a = some o) (hP : P a = none) (hK : K a = none) (hT : ∀ t ∈ B.tabs, t.P ≠ a) : InvS B (P.put a o) K g s where
  perm := fun b o' e => by
    by_cases q : b = a
    · subst q; rw [Gh.put_self] at e; (first|subst e|obtain rfl:=sj e|exact n1 e|exact n2 e|exact b1 e|exact b2 e|cases e); exact ha
    · rw [Gh.put_ne q] at e; exact I.perm b o' e
  keep := I.keep
  apart := fun b o' e => by
    have q : b ≠ a := fun q => by subst q; rw [hK] at e; (first|subst e|obtain rfl:=sj e|exact n1 e|exact n2 e|exact b1 e|exact b2 e|cases e)
    rw [Gh.put_ne q]; exact I.apart b o' e
  base := I.base.trans (Gh.put_le hP)
  os := I.os
  bare := I.bare
  gk := I.gk
  tabs := fun t ht => by
    obtain ⟨x, y, z⟩ := I.tabs t ht
    exact ⟨by rw [Gh.put_ne (hT t ht)]; exact x, y, z.mono (Gh.put_le hP) rfl⟩
end

inductive AttrsR (P : Gh) (ι : Sto) : List (Str × CV) → List DictEntry → Prop
  | nil : AttrsR P ι [] []
  | cons {x : Str} {cv : CV} {r : List (Str × CV)} {e : DictEntry} {es : List DictEntry} {t : Tok} : e.key = .str x t → VR P ι cv e.val → AttrsR P ι r es → AttrsR P ι ((x, cv) :: r) (e :: es)
theorem AttrsR.mono {P P' : Gh} {ι ι' : Sto} (hP : Le P P') (hι : StoLe ι ι') {l : List (Str × CV)} {es : List DictEntry} (h : AttrsR P ι l es) : AttrsR P' ι' l es := by
  induction h with
  | nil => exact .nil
  | cons a b _ ih => exact .cons a (b.mono hP hι) ih

/-- what an object of the store has in its hands -/
noncomputable def CO.own (p : Addr × List Addr) : CO → List Addr
  | .dead | .clo .. => []
  | _ => p.1 :: p.2
noncomputable def CO.has : CO → Bool
  | .dead | .clo .. => false
  | _ => true
theorem CO.own_has {p : Addr × List Addr} {co : CO} (h : co.has = true) : co.own p = p.1 :: p.2 := by cases co <;> first | rfl | simp [CO.has] at h
theorem CO.own_not {p : Addr × List Addr} {co : CO} (h : co.has = false) : co.own p = [] := by cases co <;> first | rfl | simp [CO.has] at h

noncomputable def COR (P : Gh) (ι : Sto) (h : Heap) (a : Addr) (xs : List Addr) : CO → Prop
  | .dead => True
  | .lst vs => xs = [] ∧ ∃ ys ep, h.get? a = some (listObj ys ep) ∧ VRs P ι vs ys
  | .inst C attrs => ∃ d es n, xs = [d] ∧ h.get? a = some ⟨.ref C, some d, .plain, #[]⟩ ∧ h.get? d = some (dictOf es n) ∧ AttrsR P ι attrs es
  | .clo params body scope free => ∃ o fd clo, P a = some o ∧ o.cls = .type "function" ∧ o.data = .func fd ∧ FnD P fd params body scope clo ∧ ∀ x cv, free.lookup x = some cv → scope.names.lookup x = some .free ∧ ∃ c v oc, clo.lookup x = some c ∧ P c = some oc ∧ oc.data = .cell (some v) ∧ VR P ι cv v
  | .citer i f e => xs = [] ∧ ∃ mv t, h.get? a = some ⟨.type "callable_iterator", none, .fields (if e then #[.none, .none, .bool true] else #[mv, .str (Str.ofString "") t, .bool false]), #[]⟩ ∧ (e = false → VR P ι (.meth i f) mv)

theorem FnD.mono {P P' : Gh} {fd params body scope clo} (hP : Le P P') (x : FnD P fd params body scope clo) : FnD P' fd params body scope clo :=
  ⟨x.scope, x.body, x.glob, x.bui, x.clo, x.bind, by obtain ⟨c, oc, xs, t, a, b, r⟩ := x.code; exact ⟨c, oc, xs, t, a, hP _ _ b, r⟩⟩
theorem COR.mono {P P' : Gh} {ι ι' : Sto} {h h' : Heap} {a : Addr} {xs : List Addr} {co : CO} (x : COR P ι h a xs co) (hP : Le P P') (hι : StoLe ι ι') (hh : ∀ b ∈ a :: xs, ∀ o, h.get? b = some o → h'.get? b = some o) : COR P' ι' h' a xs co := by
  have h0 := hh a (.head _)
  cases co with
  | dead => trivial
  | lst vs => obtain ⟨e, ys, ep, x, y⟩ := x; exact ⟨e, ys, ep, h0 _ x, y.mono hP hι⟩
  | inst C attrs => obtain ⟨d, es, n, e, x, y, z⟩ := x; subst e; exact ⟨d, es, n, rfl, h0 _ x, hh d (.tail _ (.head _)) _ y, z.mono hP hι⟩
  | clo params body scope free =>
    obtain ⟨o, fd, clo, x, y, z, u, v⟩ := x
    exact ⟨o, fd, clo, hP _ _ x, y, z, u.mono hP, fun q cv e => let ⟨a, c, w, oc, b1, b2, b3, b4⟩ := v q cv e; ⟨a, c, w, oc, b1, hP _ _ b2, b3, b4.mono hP hι⟩⟩
  | citer i f e => obtain ⟨e', mv, t, x, y⟩ := x; exact ⟨e', mv, t, h0 _ x, fun q => (y q).mono hP hι⟩
theorem COR.alive {P : Gh} {ι : Sto} {h : Heap} {a : Addr} {xs : List Addr} {co : CO} (x : COR P ι h a xs co) (hd : co.has = true) : ∀ b ∈ a :: xs, ∃ o, h.get? b = some o := by
  cases co with
  | dead => (first|subst hd|obtain rfl:=sj hd|exact n1 hd|exact n2 hd|exact b1 hd|exact b2 hd|cases hd)
  | lst vs => obtain ⟨e, ys, ep, x, y⟩ := x; subst e; simpa using ⟨_, x⟩
  | inst C attrs => obtain ⟨d, es, n, e, x, y, z⟩ := x; subst e; simpa using ⟨⟨_, x⟩, ⟨_, y⟩⟩
  | clo params body scope free => (first|subst hd|obtain rfl:=sj hd|exact n1 hd|exact n2 hd|exact b1 hd|exact b2 hd|cases hd)
  | citer i f e => obtain ⟨e', mv, t, x, y⟩ := x; subst e'; simpa using ⟨_, x⟩

/-- the addresses in the store's hands -/
noncomputable def stoOwn : Sto → List CO → List Addr
  | p :: ι, co :: S => co.own p ++ stoOwn ι S
  | _, _ => []
inductive StoR (P : Gh) (ι₀ : Sto) (h : Heap) : Sto → List CO → Prop
  | nil : StoR P ι₀ h [] []
  | cons {p : Addr × List Addr} {ι : Sto} {co : CO} {S : List CO} : COR P ι₀ h p.1 p.2 co → StoR P ι₀ h ι S → StoR P ι₀ h (p :: ι) (co :: S)
theorem COR.mono' {P P' : Gh} {ι ι' : Sto} {h h' : Heap} {p : Addr × List Addr} {co : CO} (x : COR P ι h p.1 p.2 co) (hP : Le P P') (hι : StoLe ι ι') (hh : ∀ b ∈ co.own p, ∀ o, h.get? b = some o → h'.get? b = some o) : COR P' ι' h' p.1 p.2 co := by
  cases co with
  | dead => trivial
  | clo params body scope free =>
    obtain ⟨o, fd, clo, x, y, z, u, v⟩ := x
    exact ⟨o, fd, clo, hP _ _ x, y, z, u.mono hP, fun q cv e => let ⟨a, c, w, oc, b1, b2, b3, b4⟩ := v q cv e; ⟨a, c, w, oc, b1, hP _ _ b2, b3, b4.mono hP hι⟩⟩
  | _ => exact x.mono hP hι hh
theorem StoR.mono {P P' : Gh} {ι₀ ι₁ : Sto} {h h' : Heap} (hP : Le P P') (hι : StoLe ι₀ ι₁) : ∀ {ι S}, StoR P ι₀ h ι S → (∀ b ∈ stoOwn ι S, ∀ o, h.get? b = some o → h'.get? b = some o) → StoR P' ι₁ h' ι S := by
  intro ι S hs
  induction hs with
  | nil => intro _; exact .nil
  | cons a r ih => intro k; exact .cons (a.mono' hP hι fun b hb => k b (List.mem_append_left _ hb)) (ih fun b hb => k b (List.mem_append_right _ hb))
theorem StoR.length {P : Gh} {ι₀ : Sto} {h : Heap} {ι : Sto} {S : List CO} (hs : StoR P ι₀ h ι S) : ι.length = S.length := by
  induction hs with
  | nil => rfl
  | cons _ r ih => exact congrArg (· + 1) ih
theorem StoR.get {P : Gh} {ι₀ : Sto} {h : Heap} : ∀ {ι S}, StoR P ι₀ h ι S → ∀ {i : Nat} {co : CO}, S[i]? = some co → ∃ p, ι[i]? = some p ∧ COR P ι₀ h p.1 p.2 co := by
  intro ι S hs
  induction hs with
  | nil => intro i co e; exact n1 e
  | cons a r ih =>
    intro i co e
    cases i with
    | zero => exact ⟨_, rfl, by rw [sj e]; exact a⟩
    | succ i => exact ih e
theorem StoR.alive {P : Gh} {ι₀ : Sto} {h : Heap} : ∀ {ι S}, StoR P ι₀ h ι S → ∀ b ∈ stoOwn ι S, ∃ o, h.get? b = some o := by
  intro ι S hs
  induction hs with
  | nil => intro b hb; cases hb
  | @cons p ι co S a r ih =>
    intro b hb
    unfold stoOwn at hb
    rcases List.mem_append.mp hb with hb | hb
    · cases hc : co.has with
      | true => rw [CO.own_has hc] at hb; exact a.alive hc b hb
      | false => rw [CO.own_not hc] at hb; cases hb
    · exact ih b hb
theorem stoOwn_get : ∀ {ι : Sto} {S : List CO} {i : Nat} {co : CO} {p}, S[i]? = some co → ι[i]? = some p → co.has = true → ∀ b ∈ p.1 :: p.2, b ∈ stoOwn ι S
  | q :: ι, d :: S, 0, co, p, e, e', hd, b, hb => by
    simp at e e'; subst e e'
    unfold stoOwn
    exact List.mem_append_left _ (by rw [CO.own_has hd]; exact hb)
  | q :: ι, d :: S, i + 1, co, p, e, e', hd, b, hb => by
    simp at e e'
    unfold stoOwn
    exact List.mem_append_right _ (stoOwn_get e e' hd b hb)
  | [], S, i, co, p, e, e', hd, b, hb => by simp at e'
  | _ :: _, [], i, co, p, e, e', hd, b, hb => by simp at e
end Mine

namespace Mine

structure Book where
  L : Addr
  cells : List (Str × Addr)
  ι : Sto
noncomputable abbrev Book.fown (X : Book) : List Addr := X.L :: X.cells.map (·.2)
noncomputable abbrev Book.own (X : Book) (S : List CO) : List Addr := X.fown ++ stoOwn X.ι S
structure Book.Le (X X' : Book) : Prop where
  L : X'.L = X.L
  cells : X'.cells = X.cells
  ι : StoLe X.ι X'.ι
theorem Book.Le.refl (X : Book) : X.Le X := ⟨rfl, rfl, .refl _⟩
theorem Book.Le.trans {X X' X'' : Book} (a : X.Le X') (b : X'.Le X'') : X.Le X'' := ⟨b.L.trans a.L, b.cells.trans a.cells, a.ι.trans b.ι⟩

structure EnvOk (P K : Gh) (X : Book) (ce : CEnv) (env : Env) : Prop where
  scope : env.scope = ce.scope
  kind : ce.scope.kind = .function
  locals : env.locals = X.L
  globals : env.globals = mainGlobals
  bui : env.builtins = builtinsNs
  cell : ∀ x, ce.scope.names.lookup x = some .cell → ce.free.lookup x = none → ∃ c, env.cells.lookup x = some c ∧ X.cells.lookup x = some c
  cellk : ∀ x c, (x, c) ∈ X.cells → ce.scope.names.lookup x = some .cell
  celln : (X.cells.map (·.1)).Nodup
  free : ∀ x cv, ce.free.lookup x = some cv → ∃ c v, env.cells.lookup x = some c ∧ (∃ o, (K c = some o ∨ P c = some o) ∧ o.data = .cell (some v)) ∧ VR P X.ι cv v
theorem EnvOk.mono {P P' K : Gh} {X X' : Book} {ce : CEnv} {env : Env} (x : EnvOk P K X ce env) (hP : Le P P') (hX : X.Le X') : EnvOk P' K X' ce env :=
  ⟨x.scope, x.kind, x.locals.trans hX.L.symm, x.globals, x.bui, fun y hy hf => by rw [hX.cells]; exact x.cell y hy hf, fun y c hy => x.cellk y c (by rw [← hX.cells]; exact hy), by rw [hX.cells]; exact x.celln, fun y cv hy => by obtain ⟨c, v, a, ⟨o, b, d⟩, r⟩ := x.free y cv hy; exact ⟨c, v, a, ⟨o, b.imp id (hP c o), d⟩, r.mono hP hX.ι⟩⟩

structure Rel (B : Base) (P K : Gh) (g : GG) (X : Book) (ce : CEnv) (env : Env) (st : LSt) (s : Shared) : Prop where
  inv : InvS B P K g s
  env : EnvOk P K X ce env
  loc : ∃ m, s.heap.Ns X.L m ∧ ∀ x cv, ce.scope.names.lookup x = some .local → st.vars.lookup x = some cv → ∃ v, m x = some v ∧ VR P X.ι cv v
  cel : ∀ x c, (x, c) ∈ X.cells → ∃ v, s.heap.IsCell c v ∧ ∀ cv, st.vars.lookup x = some cv → ∃ u, v = some u ∧ VR P X.ι cv u
  sto : StoR P X.ι s.heap X.ι st.store
  own : (X.own st.store).Nodup
  off : ∀ a ∈ X.own st.store, P a = none ∧ K a = none ∧ ∀ t ∈ B.tabs, t.P ≠ a

noncomputable def frK (D : List Addr) (h : Heap) (K : Gh) : Gh := fun a => if a ∈ D then h.get? a else K a
theorem frK_in {D : List Addr} {h : Heap} {K : Gh} {a : Addr} (ha : a ∈ D) : frK D h K a = h.get? a := by simp [frK, ha]
theorem frK_out {D : List Addr} {h : Heap} {K : Gh} {a : Addr} (ha : a ∉ D) : frK D h K a = K a := by simp [frK, ha]

section
variable {B : Base} {P P' K : Gh} {g : GG} {X : Book} {ce : CEnv} {env : Env} {st : LSt} {s s' : Shared}
theorem Rel.alive (R : Rel B P K g X ce env st s) : ∀ a ∈ X.own st.store, ∃ o, s.heap.get? a = some o := by
  intro a ha
  rcases List.mem_append.mp ha with ha | ha
  · rcases List.mem_cons.mp ha with rfl | ha
    · obtain ⟨m, ⟨o, _, _, e, _⟩, _⟩ := R.loc; exact ⟨o, e⟩
    · obtain ⟨⟨x, c⟩, hx, rfl⟩ := List.mem_map.mp ha
      obtain ⟨v, ⟨o, e, _⟩, _⟩ := R.cel x c hx
      exact ⟨o, e⟩
  · exact R.sto.alive a ha

theorem InvS.frame (I : InvS B P K g s) (D : List Addr) (h1 : ∀ a ∈ D, P a = none) (h3 : ∀ a ∈ D, ∀ t ∈ B.tabs, t.P ≠ a) : InvS B P (frK D s.heap K) (fun i => s.gens[i]?) s where
  perm := I.perm
  keep := fun a o e => by
    by_cases ha : a ∈ D
    · rw [frK_in ha] at e; exact e
    · rw [frK_out ha] at e; exact I.keep a o e
  apart := fun a o e => by
    by_cases ha : a ∈ D
    · exact h1 a ha
    · rw [frK_out ha] at e; exact I.apart a o e
  base := I.base
  os := I.os
  bare := I.bare
  gk := fun _ _ e => e
  tabs := fun t ht => by
    obtain ⟨a, b, c⟩ := I.tabs t ht
    refine ⟨a, ?_, c⟩
    rw [frK_out fun q => h3 _ q t ht rfl]; exact b
theorem InvS.unframe {D : List Addr} {g₁ : GG} (I : InvS B P' (frK D s.heap K) g₁ s') (hK : ∀ a ∈ D, K a = none) (hg : ∀ i x, g i = some x → g₁ i = some x) : InvS B P' K g s' where
  perm := I.perm
  keep := fun a o e => by
    have ha : a ∉ D := fun ha => by rw [hK a ha] at e; (first|subst e|obtain rfl:=sj e|exact n1 e|exact n2 e|exact b1 e|exact b2 e|cases e)
    exact I.keep a o (by rw [frK_out ha]; exact e)
  apart := fun a o e => by
    have ha : a ∉ D := fun ha => by rw [hK a ha] at e; (first|subst e|obtain rfl:=sj e|exact n1 e|exact n2 e|exact b1 e|exact b2 e|cases e)
    exact I.apart a o (by rw [frK_out ha]; exact e)
  base := I.base
  os := I.os
  bare := I.bare
  gk := fun i x e => I.gk i x (hg i x e)
  tabs := fun t ht => by
    obtain ⟨a, b, c⟩ := I.tabs t ht
    refine ⟨a, ?_, c⟩
    by_cases ha : t.P ∈ D
    · exact hK _ ha
    · rw [frK_out ha] at b; exact b
theorem Rel.frame (R : Rel B P K g X ce env st s) : InvS B P (frK (X.own st.store) s.heap K) (fun i => s.gens[i]?) s :=
  R.inv.frame _ (fun a ha => (R.off a ha).1) fun a ha => (R.off a ha).2.2
/-- what stood in our hands is as it was -/
theorem Rel.same (R : Rel B P K g X ce env st s) (hP : Le P P') (I : InvS B P' K g s') (hh : ∀ a ∈ X.own st.store, ∀ o, s.heap.get? a = some o → s'.heap.get? a = some o) (ho : ∀ a ∈ X.own st.store, P' a = none) : Rel B P' K g X ce env st s' where
  inv := I
  env := R.env.mono hP (.refl X)
  loc := by
    obtain ⟨m, ⟨o, es, ep, e, r⟩, h⟩ := R.loc
    exact ⟨m, ⟨o, es, ep, hh _ (by simp) _ e, r⟩, fun x cv a b => let ⟨v, c, d⟩ := h x cv a b; ⟨v, c, d.mono hP (.refl _)⟩⟩
  cel := fun x c hx => by
    obtain ⟨v, ⟨o, e, r⟩, h⟩ := R.cel x c hx
    refine ⟨v, ⟨o, hh c ?_ o e, r⟩, fun cv hc => let ⟨u, a, b⟩ := h cv hc; ⟨u, a, b.mono hP (.refl _)⟩⟩
    exact List.mem_append_left _ (List.mem_cons_of_mem _ (List.mem_map.mpr ⟨_, hx, rfl⟩))
  sto := R.sto.mono hP (.refl _) fun b hb o e => hh b (List.mem_append_right _ hb) o e
  own := R.own
  off := fun a ha => ⟨ho a ha, (R.off a ha).2⟩
theorem Rel.back {g₁ : GG} (R : Rel B P K g X ce env st s) (hP : Le P P') (I : InvS B P' (frK (X.own st.store) s.heap K) g₁ s') (hg : ∀ i x, g i = some x → g₁ i = some x) : Rel B P' K g X ce env st s' := by
  refine R.same hP (I.unframe (fun a ha => (R.off a ha).2.1) hg) (fun a ha o e => I.keep a o (by rw [frK_in ha]; exact e)) fun a ha => ?_
  obtain ⟨o, e⟩ := R.alive a ha
  exact I.apart a o (by rw [frK_in ha]; exact e)
theorem Rel.grow (R : Rel B P K g X ce env st s) (hh : ∀ b o, s.heap.get? b = some o → s'.heap.get? b = some o) (ho : autoParam (s'.os = s.os) tRfl) (hg : autoParam (s'.gens = s.gens) tRfl) : Rel B P K g X ce env st s' :=
  R.same (Le.refl P) (R.inv.grow hh ho hg) (fun a _ o e => hh a o e) fun a ha => (R.off a ha).1
theorem Rel.fresh (R : Rel B P K g X ce env st s) : s.heap.objs.size ∉ X.own st.store := fun h => by
  obtain ⟨o, e⟩ := R.alive _ h
  exact absurd (Heap.lt_size e) (Nat.lt_irrefl _)
/-- a new object, at once permanent -/
theorem Rel.newP (R : Rel B P K g X ce env st s) {o : Obj} (hf : o.isFreed = false) (tk : Nat) :
    Le P (P.put s.heap.objs.size o) ∧ Rel B (P.put s.heap.objs.size o) K g X ce env st { s with heap := s.heap.push o, toks := tk } := by
  have hn := R.inv.freshP
  refine ⟨Gh.put_le hn, ?_⟩
  have R' : Rel B P K g X ce env st { s with heap := s.heap.push o, toks := tk } := R.grow fun b o' e => Heap.get?_push_of_some _ e
  refine R'.same (Gh.put_le hn) (R'.inv.put (Heap.get?_push_size _ hf) hn R.inv.freshK R.inv.freshT) (fun _ _ _ e => e) fun a ha => ?_
  refine (Gh.put_ne ?_).trans (R.off a ha).1
  intro q
  subst q
  exact R.fresh ha
end

structure Room (A : Around) (n : Nat) : Prop where
  handled : A.handled = none
  depth : A.depth + n < recursionLimit
  units : A.units + 8 * n + 80 < cLine
theorem Room.mono {A : Around} {m n : Nat} (r : Room A n) (h : m ≤ n) : Room A m := ⟨r.handled, by have := r.depth; walk_at "o", by have := r.units; walk_at "o"⟩

/-- a piece of the run: from st to st', with R said of what it hands on -/
noncomputable def J (B : Base) (n : Nat) (ce : CEnv) {α : Type} (t : Env → Sem α) (st : LSt) (R : Gh → Sto → α → Prop) (st' : LSt) : Prop :=
  ∀ (A : Around) (env : Env) (P K : Gh) (g : GG) (X : Book) (s : Shared) (Q : α → Shared → Prop) (E : Value → Shared → Prop),
    Room A n → Rel B P K g X ce env st s →
    (∀ P' X' s' a, Le P P' → X.Le X' → Rel B P' K g X' ce env st' s' → R P' X'.ι a → Q a s') →
    wpAny (model B.prog B.w) A (t env) Q E s

inductive FlR (P : Gh) (ι : Sto) : CFl → Flow → Prop
  | nxt : FlR P ι .nxt .next
  | brk : FlR P ι .brk .brk
  | cnt : FlR P ι .cnt .cont
  | ret {cv : CV} {v : Value} : VR P ι cv v → FlR P ι (.ret cv) (.ret v)

theorem FlR.ret_inv {P : Gh} {ι : Sto} {v : CV} {fl : Flow} (h : FlR P ι (.ret v) fl) : ∃ x, fl = .ret x ∧ VR P ι v x := by cases h with | ret h => exact ⟨_, rfl, h⟩
noncomputable abbrev EvJ (B : Base) (n : Nat) (ce : CEnv) (e : Expr) (st : LSt) (v : CV) (st' : LSt) : Prop := J B n ce (fun env => eval e env) st (fun P ι a => VR P ι v a) st'
noncomputable abbrev TsJ (B : Base) (n : Nat) (ce : CEnv) (e : Expr) (st : LSt) (b : Bool) (st' : LSt) : Prop := J B n ce (fun env => isTrue e env (eval e env)) st (fun _ _ a => a = b) st'
noncomputable abbrev ExJ (B : Base) (n : Nat) (ce : CEnv) (x : Stmt) (st : LSt) (f : CFl) (st' : LSt) : Prop := J B n ce (fun env => exec x env) st (fun P ι a => FlR P ι f a) st'
noncomputable abbrev XsJ (B : Base) (n : Nat) (ce : CEnv) (xs : List Stmt) (st : LSt) (f : CFl) (st' : LSt) : Prop := J B n ce (fun env => execs xs env) st (fun P ι a => FlR P ι f a) st'

section
variable {B : Base} {n : Nat} {ce : CEnv} {st st1 st2 st3 : LSt} {v v1 v2 : CV}

theorem Xs_nil : XsJ B n ce [] st .nxt st := fun A env P K g X s Q E hA R hQ => wpAny_execs_nil (hQ P X s _ (.refl _) (.refl _) R .nxt)
theorem Xs_cons {x : Stmt} {xs : List Stmt} {f : CFl} (h1 : ExJ B n ce x st .nxt st1) (h2 : XsJ B n ce xs st1 f st2) : XsJ B n ce (x :: xs) st f st2 := fun A env P K g X s Q E hA R hQ => by
  refine wpAny_bind (m := exec x env) (h1 A env P K g X s _ E hA R fun P1 X1 s1 a lP lX R1 r => ?_)
  cases r
  exact h2 A env P1 K g X1 s1 Q E hA R1 fun P2 X2 s2 a lP2 lX2 R2 r => hQ P2 X2 s2 a (lP.trans lP2) (lX.trans lX2) R2 r
theorem Xs_stop {x : Stmt} {xs : List Stmt} {f : CFl} (h1 : ExJ B n ce x st f st1) (hf : f ≠ .nxt) : XsJ B n ce (x :: xs) st f st1 := fun A env P K g X s Q E hA R hQ => by
  refine wpAny_bind (m := exec x env) (h1 A env P K g X s _ E hA R fun P1 X1 s1 a lP lX R1 r => ?_)
  cases r with
  | nxt => exact absurd rfl hf
  | brk => exact wpAny_pure (hQ P1 X1 s1 _ lP lX R1 .brk)
  | cnt => exact wpAny_pure (hQ P1 X1 s1 _ lP lX R1 .cnt)
  | ret r => exact wpAny_pure (hQ P1 X1 s1 _ lP lX R1 (.ret r))

theorem Ev_int {i : Int} {k : Nat} {pos : Pos} : EvJ B n ce (.Constant (.int i) k pos) st (.int i) st := fun A env P K g X s Q E hA R hQ =>
  wpAny_Constant_int (hQ P X _ _ (.refl _) (.refl _) (R.grow fun _ _ e => e) (.int i _))
theorem Ev_str {x : Str} {k : Nat} {pos : Pos} : EvJ B n ce (.Constant (.str x) k pos) st (.str x) st := fun A env P K g X s Q E hA R hQ =>
  Constant_str (hQ P X _ _ (.refl _) (.refl _) (R.grow fun _ _ e => e) (.str x _))
theorem Ev_none {k : Nat} {pos : Pos} : EvJ B n ce (.Constant .none k pos) st .none st := fun A env P K g X s Q E hA R hQ =>
  wpAny_pure (hQ P X _ _ (.refl _) (.refl _) R .none)
theorem Ev_bool {b : Bool} {k : Nat} {pos : Pos} : EvJ B n ce (.Constant (.bool b) k pos) st (.bool b) st := fun A env P K g X s Q E hA R hQ =>
  wpAny_pure (hQ P X _ _ (.refl _) (.refl _) R (.bool b))

theorem mem_lookup {α : Type} {l : List (Str × α)} {x : Str} {c : α} (h : l.lookup x = some c) : (x, c) ∈ l := mem_of_lookup h

/-- what a name says -/
noncomputable def look (ce : CEnv) (st : LSt) (x : Str) : Option CV := match ce.scope.names.lookup x with
  | some .local => st.vars.lookup x
  | some .cell => match ce.free.lookup x with
    | some v => some v
    | none => st.vars.lookup x
  | some .free => ce.free.lookup x
  | some .globalImplicit => G0.lookup x
  | _ => none
theorem nameJ {x : Str} (h : look ce st x = some v) (hd : (x == ("__classdict__" : Str)) = false) : J B n ce (fun env => loadName env x) st (fun P ι a => VR P ι v a) st := fun A env P K g X s Q E hA R hQ => by
  have hk : env.scope.kind = .function := by rw [R.env.scope]; exact R.env.kind
  have hkx : env.kindOf x = ce.scope.names.lookup x := by unfold Env.kindOf; rw [R.env.scope]
  unfold look at h
  split at h
  · rename_i hl
    obtain ⟨m, hm, hv⟩ := R.loc
    obtain ⟨u, hu, r⟩ := hv x v hl h
    exact wpAny_loadName_local hk (hkx.trans hl) (R.env.locals ▸ hm) hu (hQ P X s u (.refl _) (.refl _) R r)
  · rename_i hl
    split at h
    · rename_i z hz
      (first|subst h|obtain rfl:=sj h|exact n1 h|exact n2 h|exact b1 h|exact b2 h|cases h)
      obtain ⟨c, u, h1, ⟨o, h2, h3⟩, r⟩ := R.env.free x v hz
      exact wpAny_loadName_cell hk (hkx.trans hl) h1 ⟨o, h2.elim (R.inv.keep c o) (R.inv.perm c o), h3⟩ (hQ P X s u (.refl _) (.refl _) R r)
    · rename_i hz
      obtain ⟨c, h1, h2⟩ := R.env.cell x hl hz
      obtain ⟨w, hw, hv⟩ := R.cel x c (mem_lookup h2)
      obtain ⟨u, rfl, r⟩ := hv v h
      exact wpAny_loadName_cell hk (hkx.trans hl) h1 hw (hQ P X s u (.refl _) (.refl _) R r)
  · rename_i hl
    obtain ⟨c, u, h1, ⟨o, h2, h3⟩, r⟩ := R.env.free x v h
    exact wpAny_loadName_free hk (hkx.trans hl) h1 ⟨o, h2.elim (R.inv.keep c o) (R.inv.perm c o), h3⟩ (hQ P X s u (.refl _) (.refl _) R r) hd
  · rename_i hl
    obtain ⟨u, hu, r⟩ := B.glob x v h
    have key : wpAny (model B.prog B.w) A (loadGlobal env x) Q E s := by
      have hg : s.heap.Ns env.globals B.mg := R.env.globals ▸ R.inv.ns_g
      have hb : s.heap.Ns env.builtins B.mb := R.env.bui ▸ R.inv.ns_b
      rcases hu with hu | ⟨hu, hu'⟩
      · exact loadGlobal_global hg hu (hQ P X s u (.refl _) (.refl _) R (r P X.ι))
      · exact loadGlobal_builtin hg hu hb hu' (hQ P X s u (.refl _) (.refl _) R (r P X.ι))
    show wpAny _ _ (loadName env x) _ _ _
    unfold loadName
    simp only [Env.blockKind, hk, hkx, hl, ScopeKind.isAnnotationScope, Bool.false_and, Bool.false_eq_true, if_false]
    exact key
  · (first|subst h|obtain rfl:=sj h|exact n1 h|exact n2 h|exact b1 h|exact b2 h|cases h)
theorem Ev_name {x : Str} {pos : Pos} (h : look ce st x = some v) (hd : (x == ("__classdict__" : Str)) = false := by decide) (hd' : (x == ("__debug__" : Str)) = false := by decide) : EvJ B n ce (.Name x pos) st v st :=
  fun A env P K g X s Q E hA R hQ => wpAny_Name (nameJ h hd A env P K g X s Q E hA R hQ) hd'

inductive BinR : Operator → CV → CV → CV → Prop
  | add (a b : Int) : BinR .Add (.int a) (.int b) (.int (a + b))
  | sub (a b : Int) : BinR .Sub (.int a) (.int b) (.int (a - b))
  | mul (a b : Int) : b.natAbs < 2 ^ 64 → BinR .Mult (.int a) (.int b) (.int (a * b))
  | div (a b : Int) : 0 < b → b < 1073741824 → BinR .FloorDiv (.int a) (.int b) (.int (a / b))
  | mod (a b : Int) : 0 < b → BinR .Mod (.int a) (.int b) (.int (a % b))
  | pow (a b : Int) : 0 ≤ b → b ≤ 1000000 → a.natAbs < 2 ^ 64 → BinR .Pow (.int a) (.int b) (.int (a ^ b.toNat))
  | shr (a b : Int) : 0 ≤ b → BinR .RShift (.int a) (.int b) (.int (a / 2 ^ b.toNat))
  | shl (a b : Int) : 0 ≤ b → b ≤ 1000000 → a.natAbs < 2 ^ 64 → BinR .LShift (.int a) (.int b) (.int (a * 2 ^ b.toNat))
  | and (a b : Int) : BinR .BitAnd (.int a) (.int b) (.int (Builtin.bitAnd a b))
  | or (a b : Int) : BinR .BitOr (.int a) (.int b) (.int (Builtin.bitOr a b))
  | xor (a b : Int) : BinR .BitXor (.int a) (.int b) (.int (Builtin.bitXor a b))

theorem bin_ok {op : Operator} {a b c : CV} (h : BinR op a b c) {A : Around} {P K : Gh} {g : GG} {X : Book} {env : Env} {s : Shared} {x y : Value} {Q : Value → Shared → Prop} {E : Value → Shared → Prop}
    (R : Rel B P K g X ce env st s) (hx : VR P X.ι a x) (hy : VR P X.ι b y) (hQ : ∀ P' X' s' v', Le P P' → X.Le X' → Rel B P' K g X' ce env st s' → VR P' X'.ι c v' → Q v' s') :
    wpAny (model B.prog B.w) A (binaryOp op x y) Q E s := by
  have ret : ∀ (i : Int), c = .int i → Q (.int i s.toks) { s with toks := s.toks + 1 } := fun i e => by
    subst e
    exact hQ P X _ _ (.refl _) (.refl _) (R.grow fun _ _ e => e) (.int i _)
  induction h with
  | add a b => (first|obtain ⟨_, rfl⟩:=hx.inv|subst hx|obtain rfl:=sj hx|exact n1 hx|exact n2 hx|cases hx); (first|obtain ⟨_, rfl⟩:=hy.inv|subst hy|obtain rfl:=sj hy|exact n1 hy|exact n2 hy|cases hy); exact wpAny_add_int (ret _ rfl)
  | sub a b => (first|obtain ⟨_, rfl⟩:=hx.inv|subst hx|obtain rfl:=sj hx|exact n1 hx|exact n2 hx|cases hx); (first|obtain ⟨_, rfl⟩:=hy.inv|subst hy|obtain rfl:=sj hy|exact n1 hy|exact n2 hy|cases hy); exact PyProof.Rows.sub_int' (ret _ rfl)
  | mul a b hb => (first|obtain ⟨_, rfl⟩:=hx.inv|subst hx|obtain rfl:=sj hx|exact n1 hx|exact n2 hx|cases hx); (first|obtain ⟨_, rfl⟩:=hy.inv|subst hy|obtain rfl:=sj hy|exact n1 hy|exact n2 hy|cases hy); exact PyProof.Rows.mul_int (ret _ rfl) (IntMulOk.of_right (intBits_le hb))
  | div a b h1 h2 =>
    (first|obtain ⟨_, rfl⟩:=hx.inv|subst hx|obtain rfl:=sj hx|exact n1 hx|exact n2 hx|cases hx); (first|obtain ⟨_, rfl⟩:=hy.inv|subst hy|obtain rfl:=sj hy|exact n1 hy|exact n2 hy|cases hy)
    refine PyProof.Rows.floordiv_int (by walk_at "o") ?_ (Or.inl (PyProof.noPylong_small (by walk_at "o")))
    rw [Int.fdiv_eq_ediv_of_nonneg a (by walk_at "o")]
    exact ret _ rfl
  | mod a b h1 =>
    (first|obtain ⟨_, rfl⟩:=hx.inv|subst hx|obtain rfl:=sj hx|exact n1 hx|exact n2 hx|cases hx); (first|obtain ⟨_, rfl⟩:=hy.inv|subst hy|obtain rfl:=sj hy|exact n1 hy|exact n2 hy|cases hy)
    refine PyProof.Rows.mod_int' (by walk_at "o") ?_
    rw [Int.fmod_eq_emod_of_nonneg a (by walk_at "o")]
    exact ret _ rfl
  | pow a b h1 h2 h3 => (first|obtain ⟨_, rfl⟩:=hx.inv|subst hx|obtain rfl:=sj hx|exact n1 hx|exact n2 hx|cases hx); (first|obtain ⟨_, rfl⟩:=hy.inv|subst hy|obtain rfl:=sj hy|exact n1 hy|exact n2 hy|cases hy); exact PyProof.Rows.pow_int_small h1 h2 h3 (ret _ rfl)
  | shr a b h1 =>
    (first|obtain ⟨_, rfl⟩:=hx.inv|subst hx|obtain rfl:=sj hx|exact n1 hx|exact n2 hx|cases hx); (first|obtain ⟨_, rfl⟩:=hy.inv|subst hy|obtain rfl:=sj hy|exact n1 hy|exact n2 hy|cases hy)
    refine PyProof.Rows.rshift_int h1 ?_
    rw [Int.fdiv_eq_ediv_of_nonneg a (Int.le_of_lt (Int.pow_pos (by decide)))]
    exact ret _ rfl
  | shl a b h1 h2 h3 => (first|obtain ⟨_, rfl⟩:=hx.inv|subst hx|obtain rfl:=sj hx|exact n1 hx|exact n2 hx|cases hx); (first|obtain ⟨_, rfl⟩:=hy.inv|subst hy|obtain rfl:=sj hy|exact n1 hy|exact n2 hy|cases hy); exact PyProof.Rows.lshift_int_small h1 h2 h3 (ret _ rfl)
  | and a b => (first|obtain ⟨_, rfl⟩:=hx.inv|subst hx|obtain rfl:=sj hx|exact n1 hx|exact n2 hx|cases hx); (first|obtain ⟨_, rfl⟩:=hy.inv|subst hy|obtain rfl:=sj hy|exact n1 hy|exact n2 hy|cases hy); exact PyProof.Rows.and_int (ret _ rfl)
  | or a b => (first|obtain ⟨_, rfl⟩:=hx.inv|subst hx|obtain rfl:=sj hx|exact n1 hx|exact n2 hx|cases hx); (first|obtain ⟨_, rfl⟩:=hy.inv|subst hy|obtain rfl:=sj hy|exact n1 hy|exact n2 hy|cases hy); exact PyProof.Rows.or_int (ret _ rfl)
  | xor a b => (first|obtain ⟨_, rfl⟩:=hx.inv|subst hx|obtain rfl:=sj hx|exact n1 hx|exact n2 hx|cases hx); (first|obtain ⟨_, rfl⟩:=hy.inv|subst hy|obtain rfl:=sj hy|exact n1 hy|exact n2 hy|cases hy); exact PyProof.Rows.xor_int (ret _ rfl)

end
end Mine

namespace Mine

noncomputable abbrev cI (ns : List Int) : CV := .list (ns.map .int)
noncomputable abbrev cS (xs : List Str) : CV := .list (xs.map .str)

/-- a value as a list, now -/
noncomputable def asL (S : List CO) : CV → Option (List CV)
  | .list vs => some vs
  | .ref i => match S[i]? with
    | some (.lst vs) => some vs
    | _ => none
  | _ => none

theorem ints_are {P : Gh} {ι : Sto} : ∀ {ns : List Int} {xs : List Value}, VRs P ι (ns.map .int) xs → IntsAre xs ns
  | [], _, h => h.nil_inv ▸ .nil
  | n :: ns, _, h => by
    obtain ⟨x, ys, rfl, a, b⟩ := h.cons_inv
    obtain ⟨t, rfl⟩ := a.inv
    exact .cons n t (ints_are b)
theorem strs_are {P : Gh} {ι : Sto} : ∀ {ns : List Str} {xs : List Value}, VRs P ι (ns.map .str) xs → StrsAre xs ns
  | [], _, h => h.nil_inv ▸ .nil
  | n :: ns, _, h => by
    obtain ⟨x, ys, rfl, a, b⟩ := h.cons_inv
    obtain ⟨t, rfl⟩ := a.inv
    exact .cons n t (strs_are b)
theorem ints_of {P : Gh} {ι : Sto} {ns : List Int} {xs : List Value} (h : IntsAre xs ns) : VRs P ι (ns.map .int) xs := by
  induction h with
  | nil => exact .nil
  | cons n t _ ih => exact .cons (.int n t) ih

section
variable {B : Base} {n : Nat} {ce : CEnv} {st st1 st2 st3 : LSt} {v v1 v2 : CV} {P P' K : Gh} {g : GG} {X : Book} {env : Env} {s s' : Shared}

theorem Rel.asL (R : Rel B P K g X ce env st s) {cv : CV} {x : Value} {vs : List CV} (h : asL st.store cv = some vs) (hx : VR P X.ι cv x) :
    ∃ a ys, x = .ref a ∧ s.heap.IsList a ys.toArray ∧ VRs P X.ι vs ys := by
  cases hx with
  | list hp q r => simp only [Mine.asL, Option.some.injEq] at h; subst h; exact ⟨_, _, rfl, ⟨_, R.inv.perm _ _ hp, q⟩, r⟩
  | ref hi =>
    rename_i i a xs
    simp only [Mine.asL] at h
    split at h
    · rename_i ws e
      simp only [Option.some.injEq] at h
      subst h
      obtain ⟨p, e1, e2⟩ := R.sto.get e
      rw [hi] at e1
      (first|subst e1|obtain rfl:=sj e1|exact n1 e1|exact n2 e1|exact b1 e1|exact b2 e1|cases e1)
      obtain ⟨_, ys, ep, a1, a2⟩ := e2
      exact ⟨_, ys, rfl, ⟨_, a1, rfl, ep, rfl⟩, a2⟩
    · simp at h
  | _ => simp [Mine.asL] at h
theorem isL {h : Heap} {a : Addr} {ys : List Value} {ep : Nat} (e : h.get? a = some (listObj ys ep)) : h.IsList a ys.toArray := ⟨_, e, rfl, ep, rfl⟩
theorem isT {h : Heap} {a : Addr} {ys : List Value} {ep : Nat} (e : h.get? a = some (tupObj ys ep)) : IsTup h a ys.toArray := ⟨_, e, rfl, ep, rfl⟩

theorem Ev_bin {op : Operator} {l r : Expr} {pos : Pos} (h1 : EvJ B n ce l st v1 st1) (h2 : EvJ B n ce r st1 v2 st2) (h : BinR op v1 v2 v) : EvJ B n ce (.BinOp l op r pos) st v st2 := fun A env P K g X s Q E hA R hQ => by
  refine wpAny_BinOp (h1 A env P K g X s _ E hA R fun P1 X1 s1 a lP lX R1 r1 => h2 A env P1 K g X1 s1 _ E hA R1 fun P2 X2 s2 b lP2 lX2 R2 r2 => ?_)
  exact bin_ok h R2 (r1.mono lP2 lX2.ι) r2 fun P' X' s' v' a1 a2 a3 a4 => hQ P' X' s' v' (lP.trans (lP2.trans a1)) (lX.trans (lX2.trans a2)) a3 a4

inductive UnR : UnaryOp → CV → CV → Prop
  | neg (a : Int) : UnR .USub (.int a) (.int (-a))
  | inv (a : Int) : UnR .Invert (.int a) (.int (Builtin.bitNot a))
theorem Ev_un {op : UnaryOp} {x : Expr} {pos : Pos} (h1 : EvJ B n ce x st v1 st1) (h : UnR op v1 v) : EvJ B n ce (.UnaryOp op x pos) st v st1 := fun A env P K g X s Q E hA R hQ => by
  refine UnaryOp_ (h1 A env P K g X s _ E hA R fun P1 X1 s1 a lP lX R1 r1 => ?_)
  induction h with
  | neg i => (first|obtain ⟨_, rfl⟩:=r1.inv|subst r1|obtain rfl:=sj r1|exact n1 r1|exact n2 r1|cases r1); exact PyProof.Rows.neg_int (hQ P1 X1 _ _ lP lX (R1.grow fun _ _ e => e) (.int _ _))
  | inv i => (first|obtain ⟨_, rfl⟩:=r1.inv|subst r1|obtain rfl:=sj r1|exact n1 r1|exact n2 r1|cases r1); exact PyProof.Rows.invert_int (hQ P1 X1 _ _ lP lX (R1.grow fun _ _ e => e) (.int _ _))

/-- truth -/
inductive TruR (S : List CO) : CV → Bool → Prop
  | none : TruR S .none false
  | bool (b : Bool) : TruR S (.bool b) b
  | int (i : Int) : TruR S (.int i) (i != 0)
  | str (x : Str) : x.length < 16777216 → TruR S (.str x) ((x.length : Int) != 0)
  | list {cv : CV} {vs : List CV} : asL S cv = some vs → vs.length < 16777216 → TruR S cv (!vs.isEmpty)
theorem tru_ok {b : Bool} {A : Around} {x : Value} {Q : Bool → Shared → Prop} {E : Value → Shared → Prop} (h : TruR st.store v b) (R : Rel B P K g X ce env st s) (hx : VR P X.ι v x)
    (hQ : ∀ s', Rel B P K g X ce env st s' → Q b s') : wpAny (model B.prog B.w) A (truthy x) Q E s := by
  induction h with
  | none => (first|obtain ⟨_, rfl⟩:=hx.inv|subst hx|obtain rfl:=sj hx|exact n1 hx|exact n2 hx|cases hx); exact truthy_none (hQ _ R)
  | bool b => (first|obtain ⟨_, rfl⟩:=hx.inv|subst hx|obtain rfl:=sj hx|exact n1 hx|exact n2 hx|cases hx); exact wpAny_truthy_bool (hQ _ R)
  | int i => (first|obtain ⟨_, rfl⟩:=hx.inv|subst hx|obtain rfl:=sj hx|exact n1 hx|exact n2 hx|cases hx); exact PySem.P.truthy_int (hQ _ R)
  | str y hy => (first|obtain ⟨_, rfl⟩:=hx.inv|subst hx|obtain rfl:=sj hx|exact n1 hx|exact n2 hx|cases hx); exact PySem.P.truthy_str (by walk_at "o") (hQ _ (R.grow fun _ _ e => e))
  | list h1 h2 =>
    rename_i vs
    obtain ⟨a, ys, rfl, e, r⟩ := R.asL h1 hx
    have hl := r.length
    refine wpAny_truthy_list e (by simp; walk_at "o") ?_
    have : (!ys.toArray.isEmpty) = !vs.isEmpty := by cases vs <;> cases ys <;> simp_all
    rw [this]
    exact hQ _ (R.grow fun _ _ e => e)

theorem Ts_plain {e : Expr} {b : Bool} (h1 : EvJ B n ce e st v st1) (h : TruR st1.store v b) (he : autoParam (∀ env whole, isTrue e env whole = (do let v ← whole; standAt e.pos; holding [v] (truthy v))) tRfl2) : TsJ B n ce e st b st1 := fun A env P K g X s Q E hA R hQ => by
  refine isTrue_plain (h1 A env P K g X s _ E hA R fun P1 X1 s1 a lP lX R1 r1 => ?_) (he env _)
  exact tru_ok h R1 r1 fun s' R' => hQ P1 X1 s' _ lP lX R' rfl
theorem Ts_not {x : Expr} {pos : Pos} {b : Bool} (h : TsJ B n ce x st b st1) : TsJ B n ce (.UnaryOp .Not x pos) st (!b) st1 := fun A env P K g X s Q E hA R hQ => by
  refine isTrue_not (h A env P K g X s _ E hA R fun P1 X1 s1 a lP lX R1 r1 => ?_)
  subst r1
  exact hQ P1 X1 s1 _ lP lX R1 rfl
theorem Ts_and_nil {pos : Pos} : TsJ B n ce (.BoolOp .And [] pos) st true st := fun A env P K g X s Q E hA R hQ => isTrue_and_nil (hQ P X s _ (.refl _) (.refl _) R rfl)
theorem Ts_or_nil {pos : Pos} : TsJ B n ce (.BoolOp .Or [] pos) st false st := fun A env P K g X s Q E hA R hQ => isTrue_or_nil (hQ P X s _ (.refl _) (.refl _) R rfl)
theorem Ts_and_false {x : Expr} {r : List Expr} {pos : Pos} (h : TsJ B n ce x st false st1) : TsJ B n ce (.BoolOp .And (x :: r) pos) st false st1 := fun A env P K g X s Q E hA R hQ => by
  refine isTrue_and (h A env P K g X s _ E hA R fun P1 X1 s1 a lP lX R1 r1 => ?_)
  subst r1
  exact hQ P1 X1 s1 _ lP lX R1 rfl
theorem Ts_and_true {x : Expr} {r : List Expr} {pos : Pos} {b : Bool} (h : TsJ B n ce x st true st1) (h2 : TsJ B n ce (.BoolOp .And r pos) st1 b st2) : TsJ B n ce (.BoolOp .And (x :: r) pos) st b st2 := fun A env P K g X s Q E hA R hQ => by
  refine isTrue_and (h A env P K g X s _ E hA R fun P1 X1 s1 a lP lX R1 r1 => ?_)
  subst r1
  exact h2 A env P1 K g X1 s1 Q E hA R1 fun P2 X2 s2 a lP2 lX2 R2 r2 => hQ P2 X2 s2 a (lP.trans lP2) (lX.trans lX2) R2 r2
theorem Ts_or_true {x : Expr} {r : List Expr} {pos : Pos} (h : TsJ B n ce x st true st1) : TsJ B n ce (.BoolOp .Or (x :: r) pos) st true st1 := fun A env P K g X s Q E hA R hQ => by
  refine isTrue_or (h A env P K g X s _ E hA R fun P1 X1 s1 a lP lX R1 r1 => ?_)
  subst r1
  exact hQ P1 X1 s1 _ lP lX R1 rfl
theorem Ts_or_false {x : Expr} {r : List Expr} {pos : Pos} {b : Bool} (h : TsJ B n ce x st false st1) (h2 : TsJ B n ce (.BoolOp .Or r pos) st1 b st2) : TsJ B n ce (.BoolOp .Or (x :: r) pos) st b st2 := fun A env P K g X s Q E hA R hQ => by
  refine isTrue_or (h A env P K g X s _ E hA R fun P1 X1 s1 a lP lX R1 r1 => ?_)
  subst r1
  exact h2 A env P1 K g X1 s1 Q E hA R1 fun P2 X2 s2 a lP2 lX2 R2 r2 => hQ P2 X2 s2 a (lP.trans lP2) (lX.trans lX2) R2 r2
theorem Ev_one {op : BoolOp} {x : Expr} {pos : Pos} (h : EvJ B n ce x st v st1) : EvJ B n ce (.BoolOp op [x] pos) st v st1 := fun A env P K g X s Q E hA R hQ => BoolOp_one (h A env P K g X s Q E hA R hQ)
theorem Ev_and_true {x y : Expr} {r : List Expr} {pos : Pos} (h : EvJ B n ce x st v1 st1) (ht : TruR st1.store v1 true) (h2 : EvJ B n ce (.BoolOp .And (y :: r) pos) st1 v st2) : EvJ B n ce (.BoolOp .And (x :: y :: r) pos) st v st2 := fun A env P K g X s Q E hA R hQ => by
  refine BoolOp_and (h A env P K g X s _ E hA R fun P1 X1 s1 a lP lX R1 r1 => tru_ok ht R1 r1 fun s' R' => ?_)
  exact h2 A env P1 K g X1 s' Q E hA R' fun P2 X2 s2 a lP2 lX2 R2 r2 => hQ P2 X2 s2 a (lP.trans lP2) (lX.trans lX2) R2 r2
theorem Ev_and_false {x y : Expr} {r : List Expr} {pos : Pos} (h : EvJ B n ce x st v1 st1) (ht : TruR st1.store v1 false) : EvJ B n ce (.BoolOp .And (x :: y :: r) pos) st v1 st1 := fun A env P K g X s Q E hA R hQ => by
  refine BoolOp_and (h A env P K g X s _ E hA R fun P1 X1 s1 a lP lX R1 r1 => tru_ok ht R1 r1 fun s' R' => ?_)
  exact hQ P1 X1 s' a lP lX R' r1
theorem Ev_if {t x y : Expr} {pos : Pos} {b : Bool} (h : TsJ B n ce t st b st1) (h2 : EvJ B n ce (if b then x else y) st1 v st2) : EvJ B n ce (.IfExp t x y pos) st v st2 := fun A env P K g X s Q E hA R hQ => by
  refine IfExp_ (h A env P K g X s _ E hA R fun P1 X1 s1 a lP lX R1 r1 => ?_)
  cases r1
  have z := h2 A env P1 K g X1 s1 Q E hA R1 fun P2 X2 s2 a lP2 lX2 R2 r2 => hQ P2 X2 s2 a (lP.trans lP2) (lX.trans lX2) R2 r2
  cases b <;> exact z

/-- comparisons -/
inductive CmpR (S : List CO) : CmpOp → CV → CV → Bool → Prop
  | eqI (a b : Int) : CmpR S .Eq (.int a) (.int b) (decide (a = b))
  | neI (a b : Int) : CmpR S .NotEq (.int a) (.int b) (!decide (a = b))
  | lt (a b : Int) : CmpR S .Lt (.int a) (.int b) (decide (a < b))
  | le (a b : Int) : CmpR S .LtE (.int a) (.int b) (decide (a ≤ b))
  | gt (a b : Int) : CmpR S .Gt (.int a) (.int b) (decide (b < a))
  | ge (a b : Int) : CmpR S .GtE (.int a) (.int b) (decide (b ≤ a))
  | eqS (a b : Str) : CmpR S .Eq (.str a) (.str b) (a == b)
  | neS (a b : Str) : CmpR S .NotEq (.str a) (.str b) (!(a == b))
  | eqL {u v : CV} {ns ms : List Int} : asL S u = some (ns.map .int) → asL S v = some (ms.map .int) → CmpR S .Eq u v (decide (ns = ms))
  | neL {u v : CV} {ns ms : List Int} : asL S u = some (ns.map .int) → asL S v = some (ms.map .int) → CmpR S .NotEq u v (!decide (ns = ms))
  | eqT (ns ms : List Int) : CmpR S .Eq (.tup (ns.map .int)) (.tup (ms.map .int)) (decide (ns = ms))
  | inS (c : Nat) (x : Str) : CmpR S .In (.str ⟨#[c]⟩) (.str x) (decide (c ∈ x.cps.toList))
  | notInS (c : Nat) (x : Str) : CmpR S .NotIn (.str ⟨#[c]⟩) (.str x) (!decide (c ∈ x.cps.toList))
  | inI {v : CV} {ns : List Int} (k : Int) : asL S v = some (ns.map .int) → CmpR S .In (.int k) v (decide (k ∈ ns))
  | notInI {v : CV} {ns : List Int} (k : Int) : asL S v = some (ns.map .int) → CmpR S .NotIn (.int k) v (!decide (k ∈ ns))
  | inSs {v : CV} {xs : List Str} (k : Str) : asL S v = some (xs.map .str) → CmpR S .In (.str k) v (xs.any (· == k))
  | isB (a b : Bool) : CmpR S .Is (.bool a) (.bool b) (a == b)
  | isNotB (a b : Bool) : CmpR S .IsNot (.bool a) (.bool b) (!(a == b))
  | isN : CmpR S .Is .none .none true
  | isNI (i : Int) : CmpR S .Is (.int i) .none false

theorem any_mem (k : Int) (ns : List Int) : ns.any (· == k) = decide (k ∈ ns) := by
  induction ns with
  | nil => simp
  | cons a r ih =>
    simp only [List.any_cons, ih, List.mem_cons]
    by_cases h : k = a
    · subst h; simp
    · have : (a == k) = false := by simpa using fun q => h q.symm
      simp [this, h]

open PyProof.V PySem.Spec PySem.SeqAt in
theorem reads_tup_ints {h : Heap} {a : Addr} {vs : List Value} {ns : List Int} {ep : Nat} (e : h.get? a = some (tupObj vs ep)) (hi : IntsAre vs ns) : Reads h (.ref a) (.tuple (ns.map PyData.int)) [] :=
  .tuple e rfl rfl (by simpa using readsAll_of_ints hi)
open PyProof.V PySem.Spec PySem.SeqAt in
theorem shaped_tup (ns : List Int) : shaped (.tuple (ns.map PyData.int)) = true := by
  have h1 := PySem.W.depthAll_ints ns
  have h2 : PyData.depth (.tuple (ns.map PyData.int)) ≤ 64 := by simp only [PyData.depth]; walk_at "o"
  show (PyData.canLay0 (.tuple (ns.map PyData.int)) && decide (PyData.depth (.tuple (ns.map PyData.int)) ≤ 64)) = true
  rw [Bool.and_eq_true]
  exact ⟨by simp only [PyData.canLay0]; exact canLayAll0_ints ns, decide_eq_true h2⟩

open PyProof.V PySem.Spec PySem.SeqAt in
theorem cmp_ok {op : CmpOp} {a b : CV} {r : Bool} {A : Around} {x y : Value} {Q : Value → Shared → Prop} {E : Value → Shared → Prop} (h : CmpR st.store op a b r) (hA : A.units + 64 < cLine) (R : Rel B P K g X ce env st s) (hx : VR P X.ι a x) (hy : VR P X.ι b y)
    (hQ : ∀ s', Rel B P K g X ce env st s' → Q (.bool r) s') : wpAny (model B.prog B.w) A (compareOp op x y) Q E s := by
  have q := hQ s R
  clear hQ
  induction h with
  | eqI a b => (first|obtain ⟨_, rfl⟩:=hx.inv|subst hx|obtain rfl:=sj hx|exact n1 hx|exact n2 hx|cases hx); (first|obtain ⟨_, rfl⟩:=hy.inv|subst hy|obtain rfl:=sj hy|exact n1 hy|exact n2 hy|cases hy); exact wpAny_eq_int (by rw [show (a == b) = decide (a = b) by by_cases h : a = b <;> simp [h]]; exact q)
  | neI a b => (first|obtain ⟨_, rfl⟩:=hx.inv|subst hx|obtain rfl:=sj hx|exact n1 hx|exact n2 hx|cases hx); (first|obtain ⟨_, rfl⟩:=hy.inv|subst hy|obtain rfl:=sj hy|exact n1 hy|exact n2 hy|cases hy); exact PyProof.Rows.ne_int (by rw [show (a != b) = !decide (a = b) by by_cases h : a = b <;> simp [h]]; exact q)
  | lt a b => (first|obtain ⟨_, rfl⟩:=hx.inv|subst hx|obtain rfl:=sj hx|exact n1 hx|exact n2 hx|cases hx); (first|obtain ⟨_, rfl⟩:=hy.inv|subst hy|obtain rfl:=sj hy|exact n1 hy|exact n2 hy|cases hy); exact wpAny_lt_int q
  | le a b => (first|obtain ⟨_, rfl⟩:=hx.inv|subst hx|obtain rfl:=sj hx|exact n1 hx|exact n2 hx|cases hx); (first|obtain ⟨_, rfl⟩:=hy.inv|subst hy|obtain rfl:=sj hy|exact n1 hy|exact n2 hy|cases hy); exact PyProof.Rows.le_int q
  | gt a b => (first|obtain ⟨_, rfl⟩:=hx.inv|subst hx|obtain rfl:=sj hx|exact n1 hx|exact n2 hx|cases hx); (first|obtain ⟨_, rfl⟩:=hy.inv|subst hy|obtain rfl:=sj hy|exact n1 hy|exact n2 hy|cases hy); exact PyProof.Rows.gt_int q
  | ge a b => (first|obtain ⟨_, rfl⟩:=hx.inv|subst hx|obtain rfl:=sj hx|exact n1 hx|exact n2 hx|cases hx); (first|obtain ⟨_, rfl⟩:=hy.inv|subst hy|obtain rfl:=sj hy|exact n1 hy|exact n2 hy|cases hy); exact PyProof.Rows.ge_int q
  | eqS a b => (first|obtain ⟨_, rfl⟩:=hx.inv|subst hx|obtain rfl:=sj hx|exact n1 hx|exact n2 hx|cases hx); (first|obtain ⟨_, rfl⟩:=hy.inv|subst hy|obtain rfl:=sj hy|exact n1 hy|exact n2 hy|cases hy); exact PyProof.Rows.eq_str q
  | neS a b => (first|obtain ⟨_, rfl⟩:=hx.inv|subst hx|obtain rfl:=sj hx|exact n1 hx|exact n2 hx|cases hx); (first|obtain ⟨_, rfl⟩:=hy.inv|subst hy|obtain rfl:=sj hy|exact n1 hy|exact n2 hy|cases hy); exact PyProof.Rows.ne_str q
  | eqL h1 h2 =>
    obtain ⟨l, xs, rfl, e1, r1⟩ := R.asL h1 hx
    obtain ⟨l', xs', rfl, e1', r1'⟩ := R.asL h2 hy
    exact eq_intsK e1 (ints_are r1) e1' (ints_are r1') hA q
  | neL h1 h2 =>
    obtain ⟨l, xs, rfl, e1, r1⟩ := R.asL h1 hx
    obtain ⟨l', xs', rfl, e1', r1'⟩ := R.asL h2 hy
    exact ne_intsK e1 (ints_are r1) e1' (ints_are r1') hA q
  | eqT ns ms =>
    obtain ⟨_, _, _, rfl, p1, r1⟩ := hx.inv; obtain ⟨_, _, _, rfl, p2, r2⟩ := hy.inv
    exact eq_dataH_same (reads_tup_ints (R.inv.perm _ _ p1) (ints_are r1)) (reads_tup_ints (R.inv.perm _ _ p2) (ints_are r2)) (shaped_tup ns) (shaped_tup ms) hA (by simp only [noMix]; exact noMix_ints ns ms) (by simp only [PySem.Spec.same]; rw [same_ints]; exact q)
  | inS c x => (first|obtain ⟨_, rfl⟩:=hx.inv|subst hx|obtain rfl:=sj hx|exact n1 hx|exact n2 hx|cases hx); (first|obtain ⟨_, rfl⟩:=hy.inv|subst hy|obtain rfl:=sj hy|exact n1 hy|exact n2 hy|cases hy); exact PyProof.Rows.in_str (by rw [StrLaws.found_one]; exact q)
  | notInS c x => (first|obtain ⟨_, rfl⟩:=hx.inv|subst hx|obtain rfl:=sj hx|exact n1 hx|exact n2 hx|cases hx); (first|obtain ⟨_, rfl⟩:=hy.inv|subst hy|obtain rfl:=sj hy|exact n1 hy|exact n2 hy|cases hy); exact PyProof.Rows.notIn_str (by rw [StrLaws.found_one]; exact q)
  | inI k h1 =>
    (first|obtain ⟨_, rfl⟩:=hx.inv|subst hx|obtain rfl:=sj hx|exact n1 hx|exact n2 hx|cases hx)
    obtain ⟨l, xs, rfl, e1, r1⟩ := R.asL h1 hy
    exact in_list_ints e1 (ints_are r1) (by rw [any_mem]; exact q)
  | notInI k h1 =>
    (first|obtain ⟨_, rfl⟩:=hx.inv|subst hx|obtain rfl:=sj hx|exact n1 hx|exact n2 hx|cases hx)
    obtain ⟨l, xs, rfl, e1, r1⟩ := R.asL h1 hy
    exact notin_list_ints e1 (ints_are r1) (by rw [any_mem]; exact q)
  | inSs k h1 =>
    (first|obtain ⟨_, rfl⟩:=hx.inv|subst hx|obtain rfl:=sj hx|exact n1 hx|exact n2 hx|cases hx)
    obtain ⟨l, xs, rfl, e1, r1⟩ := R.asL h1 hy
    exact in_list_strs e1 (strs_are r1) q
  | isB a b => (first|obtain ⟨_, rfl⟩:=hx.inv|subst hx|obtain rfl:=sj hx|exact n1 hx|exact n2 hx|cases hx); (first|obtain ⟨_, rfl⟩:=hy.inv|subst hy|obtain rfl:=sj hy|exact n1 hy|exact n2 hy|cases hy); cases a <;> cases b <;> exact wpAny_pure q
  | isNotB a b => (first|obtain ⟨_, rfl⟩:=hx.inv|subst hx|obtain rfl:=sj hx|exact n1 hx|exact n2 hx|cases hx); (first|obtain ⟨_, rfl⟩:=hy.inv|subst hy|obtain rfl:=sj hy|exact n1 hy|exact n2 hy|cases hy); cases a <;> cases b <;> exact wpAny_pure q
  | isN => (first|obtain ⟨_, rfl⟩:=hx.inv|subst hx|obtain rfl:=sj hx|exact n1 hx|exact n2 hx|cases hx); (first|obtain ⟨_, rfl⟩:=hy.inv|subst hy|obtain rfl:=sj hy|exact n1 hy|exact n2 hy|cases hy); exact wpAny_pure q
  | isNI i => (first|obtain ⟨_, rfl⟩:=hx.inv|subst hx|obtain rfl:=sj hx|exact n1 hx|exact n2 hx|cases hx); (first|obtain ⟨_, rfl⟩:=hy.inv|subst hy|obtain rfl:=sj hy|exact n1 hy|exact n2 hy|cases hy); exact wpAny_pure q

theorem Room.u {A : Around} (h : Room A n) : A.units + 64 < cLine := by have := h.units; walk_at "o"
theorem Ev_cmp {op : CmpOp} {l r : Expr} {pos : Pos} {b : Bool} (h1 : EvJ B n ce l st v1 st1) (h2 : EvJ B n ce r st1 v2 st2) (h : CmpR st2.store op v1 v2 b) (hm : behindInMarks op r = false := by with_unfolding_all rfl) : EvJ B n ce (.Compare l [op] [r] pos) st (.bool b) st2 := fun A env P K g X s Q E hA R hQ => by
  refine wpAny_Compare1 (h1 A env P K g X s _ E hA R fun P1 X1 s1 a lP lX R1 r1 => h2 A env P1 K g X1 s1 _ E hA R1 fun P2 X2 s2 c lP2 lX2 R2 r2 => ?_) hm
  exact cmp_ok h hA.u R2 (r1.mono lP2 lX2.ι) r2 fun s' R' => hQ P2 X2 s' _ (lP.trans lP2) (lX.trans lX2) R' (.bool _)
theorem Ts_cmp {op : CmpOp} {l r : Expr} {pos : Pos} {b : Bool} (h1 : EvJ B n ce l st v1 st1) (h2 : EvJ B n ce r st1 v2 st2) (h : CmpR st2.store op v1 v2 b) (hm : behindInMarks op r = false := by with_unfolding_all rfl) : TsJ B n ce (.Compare l [op] [r] pos) st b st2 := fun A env P K g X s Q E hA R hQ => by
  refine wpAny_isTrue_Compare1 (h1 A env P K g X s _ E hA R fun P1 X1 s1 a lP lX R1 r1 => h2 A env P1 K g X1 s1 _ E hA R1 fun P2 X2 s2 c lP2 lX2 R2 r2 => ?_) hm
  exact cmp_ok h hA.u R2 (r1.mono lP2 lX2.ι) r2 fun s' R' => wpAny_truthy_bool (hQ P2 X2 s' _ (lP.trans lP2) (lX.trans lX2) R' rfl)

/-- lists of expressions -/
noncomputable abbrev EsJ (B : Base) (n : Nat) (ce : CEnv) (pos : Pos) (es : List Expr) (st : LSt) (vs : List CV) (st' : LSt) : Prop := J B n ce (fun env => spliced (backTo pos (starEach es env))) st (fun P ι a => VRs P ι vs a) st'
noncomputable def isStar : Expr → Bool
  | .Starred .. => true
  | _ => false
theorem starEach_plain {e : Expr} {r : List Expr} {env : Env} (h : isStar e = false) : starEach (e :: r) env = (false, eval e env) :: starEach r env := by
  cases e <;> first | rfl | exact b2 h
theorem Es_nil {pos : Pos} : EsJ B n ce pos [] st [] st := fun A env P K g X s Q E hA R hQ => spliced_nil (hQ P X s _ (.refl _) (.refl _) R .nil)
theorem Es_cons {pos : Pos} {e : Expr} {r : List Expr} {vs : List CV} (h1 : EvJ B n ce e st v st1) (h2 : EsJ B n ce pos r st1 vs st2) (he : autoParam (isStar e = false) tRfl) : EsJ B n ce pos (e :: r) st (v :: vs) st2 := fun A env P K g X s Q E hA R hQ => by
  show wpAny _ _ (spliced (backTo pos (starEach (e :: r) env))) _ _ _
  rw [starEach_plain he]
  show wpAny _ _ (spliced ((false, eval e env) :: backTo pos (starEach r env))) _ _ _
  refine spliced_cons (h1 A env P K g X s _ E hA R fun P1 X1 s1 a lP lX R1 r1 => h2 A env P1 K g X1 s1 _ E hA R1 fun P2 X2 s2 c lP2 lX2 R2 r2 => ?_)
  exact hQ P2 X2 s2 _ (lP.trans lP2) (lX.trans lX2) R2 (.cons (r1.mono lP2 lX2.ι) r2)

theorem new_ok {o : Obj} {A : Around} {Q : Value → Shared → Prop} {E : Value → Shared → Prop} (hf : o.isFreed = false) (R : Rel B P K g X ce env st s) (hQ : ∀ P' s', Le P P' → P' s.heap.objs.size = some o → Rel B P' K g X ce env st s' → Q (.ref s.heap.objs.size) s') :
    Q (.ref s.heap.objs.size) { s with heap := s.heap.push o } := by
  obtain ⟨a, b⟩ := R.newP hf s.toks
  exact hQ _ _ a Gh.put_self b
theorem Ev_list {es : List Expr} {pos : Pos} {vs : List CV} (h : EsJ B n ce pos es st vs st1) (hsz : vs.length ≤ 16777216) : EvJ B n ce (.List es pos) st (.list vs) st1 := fun A env P K g X s Q E hA R hQ => by
  refine List_ (h A env P K g X s _ E hA R fun P1 X1 s1 a lP lX R1 r1 => ?_)
  refine wpAny_newObj_type ?_ (by show a.toArray.size ≤ sizeLine; have := r1.length; rw [List.size_toArray, sizeLine_eq]; walk_at "o")
  exact new_ok (o := listObj a 0) (A := A) (E := E) rfl R1 fun P' s' lP' hp R' => hQ P' X1 s' _ (lP.trans lP') lX R' (.list hp ⟨rfl, _, rfl⟩ (r1.mono lP' (.refl _)))
theorem Ev_tuple {es : List Expr} {k : Nat} {pos : Pos} {vs : List CV} (h : EsJ B n ce pos es st vs st1) (hsz : vs.length ≤ 16777216) : EvJ B n ce (.Tuple es k pos) st (.tup vs) st1 := fun A env P K g X s Q E hA R hQ => by
  refine Tuple_ (h A env P K g X s _ E hA R fun P1 X1 s1 a lP lX R1 r1 => ?_)
  refine wpAny_newObj_type ?_ (by show a.toArray.size ≤ sizeLine; have := r1.length; rw [List.size_toArray, sizeLine_eq]; walk_at "o")
  exact new_ok (o := tupObj a 0) (A := A) (E := E) rfl R1 fun P' s' lP' hp R' => hQ P' X1 s' _ (lP.trans lP') lX R' (.tup hp (r1.mono lP' (.refl _)))
end
end Mine

namespace Mine

noncomputable abbrev setV (x : Str) (v : CV) (l : List (Str × CV)) : List (Str × CV) := (x, v) :: l
theorem setV_self (x : Str) (v : CV) (l : List (Str × CV)) : (setV x v l).lookup x = some v := by simp [setV]
theorem setV_ne {x z : Str} (v : CV) (h : z ≠ x) (l : List (Str × CV)) : (setV x v l).lookup z = l.lookup z := by
  have : (z == x) = false := by simpa using h
  rw [List.lookup_cons, this]

noncomputable abbrev LSt.set (st : LSt) (x : Str) (v : CV) : LSt := { st with vars := setV x v st.vars }

theorem nodup_fst {l : List (Str × Addr)} (h : (l.map (·.1)).Nodup) {x : Str} {c c' : Addr} (a : (x, c) ∈ l) (b : (x, c') ∈ l) : c = c' := by
  induction l with
  | nil => cases a
  | cons p r ih =>
    simp only [List.map_cons, List.nodup_cons] at h
    rcases List.mem_cons.mp a with rfl | a <;> rcases List.mem_cons.mp b with e | b
    · (first|subst e|obtain rfl:=sj e|exact n1 e|exact n2 e|exact b1 e|exact b2 e|cases e); rfl
    · exact absurd (List.mem_map.mpr ⟨_, b, rfl⟩) h.1
    · exact absurd (List.mem_map.mpr ⟨(x, c), a, by rw [← e]⟩) h.1
    · exact ih h.2 a b
theorem nodup_snd {l : List (Str × Addr)} (h : (l.map (·.2)).Nodup) {x x' : Str} {c : Addr} (a : (x, c) ∈ l) (b : (x', c) ∈ l) : x = x' := by
  induction l with
  | nil => cases a
  | cons p r ih =>
    simp only [List.map_cons, List.nodup_cons] at h
    rcases List.mem_cons.mp a with rfl | a <;> rcases List.mem_cons.mp b with e | b
    · (first|subst e|obtain rfl:=sj e|exact n1 e|exact n2 e|exact b1 e|exact b2 e|cases e); rfl
    · exact absurd (List.mem_map.mpr ⟨_, b, rfl⟩) h.1
    · exact absurd (List.mem_map.mpr ⟨(x, c), a, by rw [← e]⟩) h.1
    · exact ih h.2 a b

section
variable {B : Base} {n : Nat} {ce : CEnv} {st st1 st2 st3 : LSt} {v v1 v2 : CV} {P P' K : Gh} {g : GG} {X : Book} {env : Env} {s s' : Shared}

/-- the kinds of a name that may be stored -/
noncomputable def stores (ce : CEnv) (x : Str) : Bool := match ce.scope.names.lookup x with
  | some .local => true
  | some .cell => (ce.free.lookup x).isNone
  | _ => false

theorem store_ok {x : Str} {A : Around} {y : Value} {Q : Unit → Shared → Prop} {E : Value → Shared → Prop} (h : stores ce x = true) (R : Rel B P K g X ce env st s) (hy : VR P X.ι v y)
    (hQ : ∀ s', Rel B P K g X ce env (st.set x v) s' → Q () s') : wpAny (model B.prog B.w) A (storeName env x y) Q E s := by
  have hk : env.scope.kind = .function := by rw [R.env.scope]; exact R.env.kind
  have hkx : env.kindOf x = ce.scope.names.lookup x := by unfold Env.kindOf; rw [R.env.scope]
  have hown := R.own
  have hfo : ∀ b ∈ X.own st.store, P b = none ∧ K b = none ∧ ∀ t ∈ B.tabs, t.P ≠ b := R.off
  unfold stores at h
  split at h
  · rename_i hl
    obtain ⟨m, hm, hv⟩ := R.loc
    refine wpAny_storeName_local (hkx.trans hl) (R.env.locals ▸ hm) (fun h' hn hs => ?_) (by rw [hk]; rfl)
    rw [R.env.locals] at hn hs
    have hLn : X.L ∉ X.cells.map (·.2) ++ stoOwn X.ι st.store := (List.nodup_cons.mp (by simpa using hown)).1
    have hcne : ∀ y c, (y, c) ∈ X.cells → c ≠ X.L := fun y c hy q => hLn (List.mem_append_left _ (List.mem_map.mpr ⟨_, hy, q⟩))
    have hsne : ∀ b ∈ stoOwn X.ι st.store, b ≠ X.L := fun b hb q => hLn (List.mem_append_right _ (q ▸ hb))
    refine hQ _ ⟨R.inv.step (· = X.L) (fun b o hb e => (hs.2 b hb).trans e) (fun b hb => ?_) rfl rfl, R.env, ⟨_, hn, fun z cv hz hc => ?_⟩, fun z c hz => ?_, ?_, hown, hfo⟩
    · obtain rfl := hb.symm; exact hfo _ (by simp)
    · by_cases q : z = x
      · obtain rfl := q.symm
        rw [setV_self] at hc; (first|subst hc|obtain rfl:=sj hc|exact n1 hc|exact n2 hc|exact b1 hc|exact b2 hc|cases hc)
        exact ⟨y, by simp, hy⟩
      · rw [setV_ne v q] at hc
        obtain ⟨u, hu, r⟩ := hv z cv hz hc
        exact ⟨u, by simp [q, hu], r⟩
    · obtain ⟨u, hu, r⟩ := R.cel z c hz
      refine ⟨u, hu.sameBut hs (hcne z c hz), fun cv hc => ?_⟩
      have q : z ≠ x := fun q => by
        have := R.env.cellk z c hz
        rw [q, hl] at this; (first|subst this|obtain rfl:=sj this|exact n1 this|exact n2 this|exact b1 this|exact b2 this|cases this)
      rw [setV_ne v q] at hc
      exact r cv hc
    · exact R.sto.mono (Le.refl P) (.refl _) fun b hb o e => (hs.2 b (hsne b hb)).trans e
  · rename_i hl
    obtain ⟨c, h1, h2⟩ := R.env.cell x hl (by simpa using h)
    have hxc := mem_lookup h2
    obtain ⟨w, hw, hv⟩ := R.cel x c hxc
    refine wpAny_storeName_cell hk (hkx.trans hl) h1 hw fun h' hc' hs => ?_
    have hnd : (X.cells.map (·.2)).Nodup := (List.nodup_append.mp (List.nodup_cons.mp (by simpa using hown)).2).1
    have hLn : X.L ∉ X.cells.map (·.2) ++ stoOwn X.ι st.store := (List.nodup_cons.mp (by simpa using hown)).1
    have hcL : c ≠ X.L := fun q => hLn (List.mem_append_left _ (List.mem_map.mpr ⟨_, hxc, q⟩))
    have hsne : ∀ b ∈ stoOwn X.ι st.store, b ≠ c := fun b hb q => by
      have hd := (List.nodup_append.mp (List.nodup_cons.mp (by simpa using hown : (X.L :: (X.cells.map (·.2) ++ stoOwn X.ι st.store)).Nodup)).2).2.2
      exact hd c (List.mem_map.mpr ⟨_, hxc, rfl⟩) b hb q.symm
    refine hQ _ ⟨R.inv.step (· = c) (fun b o hb e => (hs.2 b hb).trans e) (fun b hb => ?_) rfl rfl, R.env, ?_, fun z c2 hz => ?_, ?_, hown, hfo⟩
    · obtain rfl := hb.symm; exact hfo _ (List.mem_append_left _ (List.mem_cons_of_mem _ (List.mem_map.mpr ⟨_, hxc, rfl⟩)))
    · obtain ⟨m, hm, hv⟩ := R.loc
      refine ⟨m, hm.sameBut hs hcL.symm, fun z cv hz hc => ?_⟩
      have q : z ≠ x := fun q => by rw [q, hl] at hz; (first|obtain ⟨_, rfl⟩:=hz.inv|subst hz|obtain rfl:=sj hz|exact n1 hz|exact n2 hz|cases hz)
      rw [setV_ne v q] at hc
      exact hv z cv hz hc
    · by_cases q : z = x
      · obtain rfl := q.symm
        have := nodup_fst R.env.celln hxc hz
        obtain rfl := this.symm
        exact ⟨_, hc', fun cv hc => by rw [setV_self] at hc; (first|subst hc|obtain rfl:=sj hc|exact n1 hc|exact n2 hc|exact b1 hc|exact b2 hc|cases hc); exact ⟨y, rfl, hy⟩⟩
      · obtain ⟨u, hu, r⟩ := R.cel z c2 hz
        refine ⟨u, hu.sameBut hs fun e => q (nodup_snd hnd hz (e ▸ hxc)), fun cv hc => ?_⟩
        rw [setV_ne v q] at hc
        exact r cv hc
    · exact R.sto.mono (Le.refl P) (.refl _) fun b hb o e => (hs.2 b (hsne b hb)).trans e
  · (first|subst h|obtain rfl:=sj h|exact n1 h|exact n2 h|exact b1 h|exact b2 h|cases h)

/-- to store a value at a target -/
noncomputable def AsJ (B : Base) (n : Nat) (ce : CEnv) (t : Expr) (st : LSt) (v : CV) (st' : LSt) : Prop :=
  ∀ (A : Around) (env : Env) (P K : Gh) (g : GG) (X : Book) (s : Shared) (y : Value) (Q : Unit → Shared → Prop) (E : Value → Shared → Prop),
    Room A n → Rel B P K g X ce env st s → VR P X.ι v y →
    (∀ P' X' s', Le P P' → X.Le X' → Rel B P' K g X' ce env st' s' → Q () s') →
    wpAny (model B.prog B.w) A (assign t env y) Q E s
theorem As_name {x : Str} {pos : Pos} (h : stores ce x = true) : AsJ B n ce (.Name x pos) st v (st.set x v) := fun A env P K g X s y Q E hA R hy hQ =>
  wpAny_assign_Name (store_ok h R hy fun s' R' => hQ P X s' (.refl _) (.refl _) R')

theorem Ex_assign {t e : Expr} {pos : Pos} (h : EvJ B n ce e st v st1) (ht : AsJ B n ce t st1 v st2) (h1 : autoParam (∀ env, env.scope = ce.scope → swapsWithSole [t] e pos.line env = pure false) tRfl2) (h2 : autoParam (∀ env, swappedStores [t] e env = pure none) tRfl1)
    (h3 : autoParam (∀ env, (assignEach [t] env).map (·.2) = [assign t env]) tRfl1) :
    ExJ B n ce (.Assign [t] e pos) st .nxt st2 := fun A env P K g X s Q E hA R hQ => by
  show wpAny _ _ (exec (.Assign [t] e pos) env) _ _ _
  have e0 : exec (.Assign [t] e pos) env = (do
      standAt pos
      if ← swapsWithSole [t] e pos.line env then do
        evalThenUse e env fun v => assignAll v ((assignEach [t] env).map (·.2))
        pure .next
      else do
        let v ← eval e env
        assignStores env v (← swappedStores [t] e env) ((assignEach [t] env).map (·.2))) := rfl
  rw [e0, h1 env R.env.scope, h2, h3]
  refine wpAny_bind (wpAny_standAt (wpAny_bind (wpAny_pure ?_)))
  show wpAny _ _ (eval e env >>= fun v => pure none >>= fun x => assignStores env v x [assign t env]) _ _ _
  refine wpAny_bind (h A env P K g X s _ E hA R fun P1 X1 s1 a lP lX R1 r1 => ?_)
  refine wpAny_bind (wpAny_pure ?_)
  show wpAny _ _ (assignAll a [assign t env] >>= fun _ => pure Flow.next) _ _ _
  refine wpAny_bind ?_
  show wpAny _ _ (assign t env a) _ _ _
  exact ht A env P1 K g X1 s1 a _ E hA R1 r1 fun P2 X2 s2 lP2 lX2 R2 => wpAny_pure (hQ P2 X2 s2 _ (lP.trans lP2) (lX.trans lX2) R2 .nxt)

theorem Ex_if {t : Expr} {x y : List Stmt} {pos : Pos} {b : Bool} {f : CFl} (h : TsJ B n ce t st b st1) (h2 : XsJ B n ce (if b then x else y) st1 f st2) : ExJ B n ce (.If t x y pos) st f st2 := fun A env P K g X s Q E hA R hQ => by
  refine wpAny_If (h A env P K g X s _ E hA R fun P1 X1 s1 a lP lX R1 r1 => ?_)
  cases r1
  have z := h2 A env P1 K g X1 s1 Q E hA R1 fun P2 X2 s2 a lP2 lX2 R2 r2 => hQ P2 X2 s2 a (lP.trans lP2) (lX.trans lX2) R2 r2
  cases b <;> exact z
theorem Ex_ret {e : Expr} {pos : Pos} (h : EvJ B n ce e st v st1) : ExJ B n ce (.Return (some e) pos) st (.ret v) st1 := fun A env P K g X s Q E hA R hQ =>
  wpAny_Return_some (h A env P K g X s _ E hA R fun P1 X1 s1 a lP lX R1 r1 => hQ P1 X1 s1 _ lP lX R1 (.ret r1))
theorem Ex_ret_none {pos : Pos} : ExJ B n ce (.Return none pos) st (.ret .none) st := fun A env P K g X s Q E hA R hQ =>
  wpAny_Return_none (hQ P X s _ (.refl _) (.refl _) R (.ret .none))
theorem Ex_continue {pos : Pos} : ExJ B n ce (.Continue pos) st .cnt st := fun A env P K g X s Q E hA R hQ =>
  wpAny_bind (wpAny_standAt (wpAny_pure (hQ P X s _ (.refl _) (.refl _) R .cnt)))

theorem Ex_expr {e : Expr} {pos : Pos} (h : EvJ B n ce e st .none st1) (hi : ce.scope.more.all (fun (k, _) => k != ("interactive" : Str)) = true := by decide +kernel) (hs : autoParam (∀ env, swapsWith e none pos.line env = pure false) tRfl1) : ExJ B n ce (.Expr e pos) st .nxt st1 := fun A env P K g X s Q E hA R hQ => by
  refine wpAny_Expr (h A env P K g X s _ E hA R fun P1 X1 s1 a lP lX R1 r1 => ?_) ?_ (hs env)
  · (first|obtain ⟨_, rfl⟩:=r1.inv|subst r1|obtain rfl:=sj r1|exact n1 r1|exact n2 r1|cases r1); exact hQ P1 X1 s1 _ lP lX R1 .nxt
  · unfold interactive
    have hk : env.scope.kind = .function := by rw [R.env.scope]; exact R.env.kind
    rw [hk]; rfl

inductive AugR : Operator → CV → CV → CV → Prop
  | add (a b : Int) : AugR .Add (.int a) (.int b) (.int (a + b))
  | sub (a b : Int) : AugR .Sub (.int a) (.int b) (.int (a - b))
  | addS (a b : Str) : a.length + b.length ≤ 16777216 → AugR .Add (.str a) (.str b) (.str (a ++ b))
theorem aug_ok {op : Operator} {a b c : CV} {A : Around} {x y : Value} {Q : Value → Shared → Prop} {E : Value → Shared → Prop} (h : AugR op a b c) (R : Rel B P K g X ce env st s) (hx : VR P X.ι a x) (hy : VR P X.ι b y)
    (hQ : ∀ s' z, Rel B P K g X ce env st s' → VR P X.ι c z → Q z s') : wpAny (model B.prog B.w) A (inplaceOp op x y) Q E s := by
  induction h with
  | add a b => (first|obtain ⟨_, rfl⟩:=hx.inv|subst hx|obtain rfl:=sj hx|exact n1 hx|exact n2 hx|cases hx); (first|obtain ⟨_, rfl⟩:=hy.inv|subst hy|obtain rfl:=sj hy|exact n1 hy|exact n2 hy|cases hy); exact wpAny_iadd_int (hQ _ _ (R.grow fun _ _ e => e) (.int _ _))
  | sub a b => (first|obtain ⟨_, rfl⟩:=hx.inv|subst hx|obtain rfl:=sj hx|exact n1 hx|exact n2 hx|cases hx); (first|obtain ⟨_, rfl⟩:=hy.inv|subst hy|obtain rfl:=sj hy|exact n1 hy|exact n2 hy|cases hy); exact PyProof.Rows.isub_int (hQ _ _ (R.grow fun _ _ e => e) (.int _ _))
  | addS a b hl => (first|obtain ⟨_, rfl⟩:=hx.inv|subst hx|obtain rfl:=sj hx|exact n1 hx|exact n2 hx|cases hx); (first|obtain ⟨_, rfl⟩:=hy.inv|subst hy|obtain rfl:=sj hy|exact n1 hy|exact n2 hy|cases hy); exact PyProof.Rows.iadd_str (fun t' tk => hQ _ _ (R.grow fun _ _ e => e) (.str _ _)) (by rw [sizeLine_eq]; exact hl)
theorem Ex_aug {x : Str} {p pos : Pos} {op : Operator} {e : Expr} (hx : look ce st x = some v1) (h : EvJ B n ce e st v2 st1) (ho : AugR op v1 v2 v) (hs : stores ce x = true) (hd : (x == ("__classdict__" : Str)) = false := by decide) : ExJ B n ce (.AugAssign (.Name x p) op e pos) st .nxt (st1.set x v) := fun A env P K g X s Q E hA R hQ => by
  refine wpAny_AugAssign_Name (nameJ hx hd A env P K g X s _ E hA R fun P0 X0 s0 o lP0 lX0 R0 r0 => h A env P0 K g X0 s0 _ E hA R0 fun P1 X1 s1 a lP lX R1 r1 => ?_)
  refine aug_ok ho R1 (r0.mono lP lX.ι) r1 fun s2 z R2 rz => ?_
  exact store_ok hs R2 rz fun s3 R3 => hQ P1 X1 s3 _ (lP0.trans lP) (lX0.trans lX) R3 .nxt

/-- a while -/
inductive WhlJ (B : Base) (n : Nat) (ce : CEnv) (t : Expr) (body : List Stmt) : LSt → CFl → LSt → Prop
  | stop {st st1 : LSt} : TsJ B n ce t st false st1 → WhlJ B n ce t body st .nxt st1
  | turn {st st1 st2 st3 : LSt} {f fl : CFl} : TsJ B n ce t st true st1 → XsJ B n ce body st1 f st2 → (f = .nxt ∨ f = .cnt) → WhlJ B n ce t body st2 fl st3 → WhlJ B n ce t body st fl st3
  | ret {st st1 st2 : LSt} {v : CV} : TsJ B n ce t st true st1 → XsJ B n ce body st1 (.ret v) st2 → WhlJ B n ce t body st (.ret v) st2
theorem while_step {prog : Program} {w : World} {A : Around} {test : Expr} {body : List Stmt} {env : Env} {R : Result → Shared → Prop} {s : Shared}
    (h : ∀ E, wpAny (model prog w) A (isTrue test env (eval test env)) (fun b s₁ => if b then ∀ E, wpAny (model prog w) A (execs body env) (fun f s₂ => match f with
      | .next | .cont => codeAny (model prog w) A (.whileLoop test body [] env) R s₂
      | .brk => R (.ok .next) s₂
      | .ret v => R (.ok (.ret v)) s₂) E s₁ else R (.ok .next) s₁) E s) : codeAny (model prog w) A (.whileLoop test body [] env) R s := by
  refine codeAny_of_tree ?_
  show wpAny _ A ((whileTurn test body [] env).onRaise (fun x => do noteFrame x env; theTreesLotGoes x)) _ _ s
  refine wpAny_noted ?_
  unfold whileTurn
  refine wpAny_bind (wpAny_mono (h _) (fun b s₁ h₁ => ?_) fun _ _ x => x)
  cases b with
  | false => exact wpAny_bind (wpAny_execs_nil (wpAny_pure h₁))
  | true =>
    refine wpAny_bind (wpAny_mono (h₁ _) (fun f s₂ h₂ => ?_) fun _ _ x => x)
    cases f with
    | next => exact wpAny_pure ⟨rfl, h₂⟩
    | cont => exact wpAny_pure ⟨rfl, h₂⟩
    | brk => exact wpAny_pure h₂
    | ret v => exact wpAny_pure h₂
theorem while_ok {t : Expr} {body : List Stmt} {fl : CFl} {st st' : LSt} (W : WhlJ B n ce t body st fl st') : ∀ {A : Around} {env : Env} {P K : Gh} {g : GG} {X : Book} {s : Shared} {R : Result → Shared → Prop}, Room A n → Rel B P K g X ce env st s →
    (∀ P' X' s' f, Le P P' → X.Le X' → Rel B P' K g X' ce env st' s' → FlR P' X'.ι fl f → R (.ok f) s') → codeAny (model B.prog B.w) A (.whileLoop t body [] env) R s := by
  induction W with
  | stop h =>
    intro A env P K g X s R hA Rl hQ
    refine while_step fun E => h A env P K g X s _ E hA Rl fun P1 X1 s1 a lP lX R1 r1 => ?_
    obtain rfl := r1.symm
    exact hQ P1 X1 s1 _ lP lX R1 .nxt
  | turn h hb hf _ ih =>
    intro A env P K g X s R hA Rl hQ
    refine while_step fun E => h A env P K g X s _ E hA Rl fun P1 X1 s1 a lP lX R1 r1 => ?_
    obtain rfl := r1.symm
    intro E
    refine hb A env P1 K g X1 s1 _ E hA R1 fun P2 X2 s2 f lP2 lX2 R2 r2 => ?_
    have z := ih (R := R) hA R2 fun P3 X3 s3 f lP3 lX3 R3 r3 => hQ P3 X3 s3 f (lP.trans (lP2.trans lP3)) (lX.trans (lX2.trans lX3)) R3 r3
    rcases hf with rfl | rfl <;> (first|obtain ⟨_, rfl⟩:=r2.inv|subst r2|obtain rfl:=sj r2|exact n1 r2|exact n2 r2|cases r2) <;> exact z
  | ret h hb =>
    intro A env P K g X s R hA Rl hQ
    refine while_step fun E => h A env P K g X s _ E hA Rl fun P1 X1 s1 a lP lX R1 r1 => ?_
    obtain rfl := r1.symm
    intro E
    refine hb A env P1 K g X1 s1 _ E hA R1 fun P2 X2 s2 f lP2 lX2 R2 r2 => ?_
    cases r2 with | ret r2 =>
    exact hQ P2 X2 s2 _ (lP.trans lP2) (lX.trans lX2) R2 (.ret r2)
theorem Ex_while {t : Expr} {body : List Stmt} {pos : Pos} {fl : CFl} (W : WhlJ B n ce t body st fl st') : ExJ B n ce (.While t body [] pos) st fl st' := fun A env P K g X s Q E hA R hQ =>
  wpAny_While (while_ok W hA R hQ)
end
end Mine

namespace Mine

noncomputable def orG (led K : Gh) : Gh := fun a => (led a).or (K a)
noncomputable def orGG (gl g : GG) : GG := fun i => (gl i).or (g i)
noncomputable def Apart (B : Base) (led P K : Gh) : Prop := ∀ a o, led a = some o → P a = none ∧ K a = none ∧ ∀ t ∈ B.tabs, t.P ≠ a
noncomputable def GOk (gl g : GG) (s : Shared) : Prop := ∀ i x, gl i = some x → s.gens[i]? = some x ∧ g i = none

noncomputable def tupleGoers : List String := ["enumerate", "zip", "dict_itemiterator", "dict_reverseitemiterator", "odict_iterator", "itertools.zip_longest", "itertools.pairwise"]
structure ItSelf (B : Base) (n : Nat) (it : Addr) (P led : Gh) : Prop where
  self : ∀ (A : Around) (s : Shared) (Q : Value → Shared → Prop) (E : Value → Shared → Prop), Room A n → LeH P s.heap → LeH led s.heap → Q (.ref it) s → wpAny (model B.prog B.w) A (pyIter (.ref it)) Q E s
  tup : ∃ o T, led it = some o ∧ o.cls = .type T ∧ tupleGoers.contains T = false
noncomputable def ItNext (B : Base) (n : Nat) (it : Addr) (P led : Gh) (gl : GG) (post : Option (CV × (Gh → Gh → GG → Prop))) : Prop :=
  ∀ (A : Around) (P' K : Gh) (g : GG) (s : Shared) (Q : Option Value → Shared → Prop) (E : Value → Shared → Prop), Room A n → Le P P' → InvS B P' K g s → LeH led s.heap → Apart B led P' K → GOk gl g s →
    (match post with
      | none => ∀ P'' s', Le P' P'' → InvS B P'' K g s' → Q none s'
      | some (y, next) => ∀ P'' s' v led' gl', Le P' P'' → InvS B P'' K g s' → LeH led' s'.heap → Apart B led' P'' K → GOk gl' g s' → VR P'' [] y v → next P'' led' gl' → Q (some v) s') →
    wpAny (model B.prog B.w) A (pyNext (.ref it)) Q E s
noncomputable def ItJ (B : Base) (n : Nat) (it : Addr) : List CV → Gh → Gh → GG → Prop
  | [] => fun P led gl => ItSelf B n it P led ∧ ItNext B n it P led gl none
  | y :: ys => fun P led gl => ItSelf B n it P led ∧ ItNext B n it P led gl (some (y, ItJ B n it ys))
theorem ItJ.self {B : Base} {n : Nat} {it : Addr} {ys : List CV} {P led : Gh} {gl : GG} (h : ItJ B n it ys P led gl) : ItSelf B n it P led := by
  cases ys <;> exact h.1
theorem ItSelf.mono {B : Base} {n : Nat} {it : Addr} {P P' led : Gh} (h : ItSelf B n it P led) (hP : Le P P') : ItSelf B n it P' led :=
  ⟨fun A s Q E hA hp hl => h.self A s Q E hA (fun a o e => hp a o (hP a o e)) hl, h.tup⟩
theorem ItJ.mono {B : Base} {n : Nat} {it : Addr} {ys : List CV} {P P' led : Gh} {gl : GG} (h : ItJ B n it ys P led gl) (hP : Le P P') : ItJ B n it ys P' led gl := by
  cases ys with
  | nil => exact ⟨h.1.mono hP, fun A P2 K g s Q E a b => h.2 A P2 K g s Q E a (hP.trans b)⟩
  | cons y ys => exact ⟨h.1.mono hP, fun A P2 K g s Q E a b => h.2 A P2 K g s Q E a (hP.trans b)⟩

section
variable {B : Base} {n : Nat} {ce : CEnv} {st st1 st2 st3 : LSt} {v v1 v2 : CV} {P P' K led : Gh} {g gl : GG} {X X' : Book} {env : Env} {s s' : Shared}
theorem InvS.weakG {g' : GG} (I : InvS B P K g s) (h : ∀ i x, g' i = some x → s.gens[i]? = some x) : InvS B P K g' s := ⟨I.perm, I.keep, I.apart, I.base, I.os, I.bare, h, I.tabs⟩
theorem orG_le (hK : ∀ a o, led a = some o → K a = none) : Le K (orG led K) := fun a o e => by
  unfold orG
  cases h : led a with
  | none => simpa using e
  | some o' => rw [hK a o' h] at e; (first|subst e|obtain rfl:=sj e|exact n1 e|exact n2 e|exact b1 e|exact b2 e|cases e)
theorem Rel.addK (R : Rel B P K g X ce env st s) (hl : LeH led s.heap) (ha : Apart B led P K) (ho : ∀ a ∈ X.own st.store, led a = none) (hg : GOk gl g s) : Rel B P (orG led K) (orGG gl g) X ce env st s where
  inv := ⟨R.inv.perm, fun a o e => by
      unfold orG at e
      cases h : led a with
      | none => rw [h] at e; exact R.inv.keep a o (by simpa using e)
      | some o' => rw [h] at e; simp at e; subst e; exact hl a o' h, fun a o e => by
      unfold orG at e
      cases h : led a with
      | none => rw [h] at e; exact R.inv.apart a o (by simpa using e)
      | some o' => exact (ha a o' h).1, R.inv.base, R.inv.os, R.inv.bare, fun i x e => by
      unfold orGG at e
      cases h : gl i with
      | none => rw [h] at e; exact R.inv.gk i x (by simpa using e)
      | some o' => rw [h] at e; simp at e; subst e; exact (hg i o' h).1, fun t ht => by
      obtain ⟨a, b, c⟩ := R.inv.tabs t ht
      refine ⟨a, ?_, c⟩
      unfold orG
      cases h : led t.P with
      | none => simpa using b
      | some o' => exact absurd rfl ((ha t.P o' h).2.2 t ht)⟩
  env := ⟨R.env.scope, R.env.kind, R.env.locals, R.env.globals, R.env.bui, R.env.cell, R.env.cellk, R.env.celln, fun x cv h => by
    obtain ⟨c, v, a, ⟨o, b, d⟩, r⟩ := R.env.free x cv h
    exact ⟨c, v, a, ⟨o, b.imp (orG_le (fun a o e => (ha a o e).2.1) c o) id, d⟩, r⟩⟩
  loc := R.loc
  cel := R.cel
  sto := R.sto
  own := R.own
  off := fun a h => ⟨(R.off a h).1, by unfold orG; rw [ho a h]; simpa using (R.off a h).2.1, (R.off a h).2.2⟩
theorem Rel.dropK (R : Rel B P' (orG led K) (orGG gl g) X' ce env st' s') (E : EnvOk P' K X' ce env) (ha : Apart B led P K) (hg : ∀ i x, gl i = some x → g i = none) :
    Rel B P' K g X' ce env st' s' ∧ LeH led s'.heap ∧ Apart B led P' K ∧ (∀ a ∈ X'.own st'.store, led a = none) ∧ GOk gl g s' := by
  have e1 : ∀ a o, led a = some o → orG led K a = some o := fun a o e => by unfold orG; rw [e]; rfl
  have e2 : ∀ a o, K a = some o → orG led K a = some o := orG_le fun a o e => (ha a o e).2.1
  refine ⟨⟨⟨R.inv.perm, fun a o e => R.inv.keep a o (e2 a o e), fun a o e => R.inv.apart a o (e2 a o e), R.inv.base, R.inv.os, R.inv.bare, fun i x e => ?_, fun t ht => ?_⟩, E, R.loc, R.cel, R.sto, R.own, fun a h => ?_⟩, fun a o e => R.inv.keep a o (e1 a o e),
    fun a o e => ⟨R.inv.apart a o (e1 a o e), (ha a o e).2⟩, fun a h => ?_, fun i x e => ⟨R.inv.gk i x (by unfold orGG; rw [e]; rfl), hg i x e⟩⟩
  · refine R.inv.gk i x ?_
    unfold orGG
    cases h : gl i with
    | none => simpa using e
    | some y => rw [hg i y h] at e; (first|subst e|obtain rfl:=sj e|exact n1 e|exact n2 e|exact b1 e|exact b2 e|cases e)
  · obtain ⟨a, b, c⟩ := R.inv.tabs t ht
    refine ⟨a, ?_, c⟩
    cases h : K t.P with
    | none => rfl
    | some o => rw [e2 _ _ h] at b; cases b
  · refine ⟨(R.off a h).1, ?_, (R.off a h).2.2⟩
    cases q : K a with
    | none => rfl
    | some o => have := (R.off a h).2.1; rw [e2 _ _ q] at this; (first|subst this|obtain rfl:=sj this|exact n1 this|exact n2 this|exact b1 this|exact b2 this|cases this)
  · cases q : led a with
    | none => rfl
    | some o => have := (R.off a h).2.1; rw [e1 _ _ q] at this; (first|subst this|obtain rfl:=sj this|exact n1 this|exact n2 this|exact b1 this|exact b2 this|cases this)

/-- a loop over what an iterator hands on -/
inductive ForJ (B : Base) (n : Nat) (ce : CEnv) (t : Expr) (body : List Stmt) : List CV → LSt → CFl → LSt → Prop
  | nil {st : LSt} : ForJ B n ce t body [] st .nxt st
  | cons {y : CV} {ys : List CV} {st st1 st2 st3 : LSt} {f fl : CFl} : AsJ B n ce t st y st1 → XsJ B n ce body st1 f st2 → (f = .nxt ∨ f = .cnt) → ForJ B n ce t body ys st2 fl st3 → ForJ B n ce t body (y :: ys) st fl st3
  | ret {y : CV} {ys : List CV} {st st1 st2 : LSt} {v : CV} : AsJ B n ce t st y st1 → XsJ B n ce body st1 (.ret v) st2 → ForJ B n ce t body (y :: ys) st (.ret v) st2

theorem letTuple_ok {M : Model} {A : Around} {t : Expr} {it : Addr} {v : Value} {o : Obj} {T : String} {Q : Unit → Shared → Prop} {E : Value → Shared → Prop} (ho : s.heap.get? it = some o) (hc : o.cls = .type T) (hT : tupleGoers.contains T = false) (h : Q () s) :
    wpAny M A (letOwnedTupleGo t (.ref it) v) Q E s := by
  unfold letOwnedTupleGo
  have key : wpAny M A (do
      let (.ref r, .ref a) := (Value.ref it, v) | return
      let o ← load r
      match o.cls, o.data with
      | .type n, .fields vs =>
        if ["enumerate", "zip", "dict_itemiterator", "dict_reverseitemiterator", "odict_iterator", "itertools.zip_longest", "itertools.pairwise"].contains n && vs[0]? == some (rawInt a) then
          rule "for.unpacks-the-owned-tuple"
          updateField r 0 .none
      | _, _ => pure () : Sem Unit) Q E s := by
    cases v with
    | ref a =>
      refine wpAny_bind (wpAny_load ho ?_)
      rw [hc]
      split
      · rename_i n vs e1 e2
        (first|subst e1|obtain rfl:=sj e1|exact n1 e1|exact n2 e1|exact b1 e1|exact b2 e1|cases e1)
        have : (["enumerate", "zip", "dict_itemiterator", "dict_reverseitemiterator", "odict_iterator", "itertools.zip_longest", "itertools.pairwise"].contains T) = false := hT
        rw [this]
        exact wpAny_pure h
      · exact wpAny_pure h
    | _ => exact wpAny_pure h
  cases t <;> first | exact key | exact wpAny_pure h

theorem for_step {prog : Program} {w : World} {A : Around} {t : Expr} {it : Addr} {body : List Stmt} {env : Env} {R : Result → Shared → Prop}
    (h : ∀ E, wpAny (model prog w) A (pyNext (.ref it)) (fun r s₁ => match r with
      | none => R (.ok .next) s₁
      | some v => (∃ o T, s₁.heap.get? it = some o ∧ o.cls = .type T ∧ tupleGoers.contains T = false) ∧ ∀ E, wpAny (model prog w) A (assign t env v) (fun _ s₂ => ∀ E, wpAny (model prog w) A (execs body env) (fun f s₃ => match f with
          | .next | .cont => codeAny (model prog w) A (.forLoop t (.ref it) body [] env) R s₃
          | .brk => R (.ok .next) s₃
          | .ret v => R (.ok (.ret v)) s₃) E s₂) E s₁) E s) : codeAny (model prog w) A (.forLoop t (.ref it) body [] env) R s := by
  refine codeAny_of_tree ?_
  show wpAny _ A ((forTurn t (.ref it) body [] env).onRaise (fun x => do noteFrame x env; theTreesLotGoes x)) _ _ s
  refine wpAny_noted ?_
  unfold forTurn
  refine wpAny_bind (wpAny_standAt (wpAny_bind (wpAny_onRaise (wpAny_mono (h fun e s' => _) (fun r s₁ h₁ => ?_) fun _ _ h' => wpAny_standAt h'))))
  cases r with
  | none => exact wpAny_pure ⟨rfl, codeAny_block (wpAny_execs_nil h₁)⟩
  | some v =>
    obtain ⟨⟨o, T, ho, hc, hT⟩, h₁⟩ := h₁
    refine wpAny_bind (letTuple_ok ho hc hT ?_)
    refine wpAny_bind (wpAny_mono (h₁ _) (fun _ s₂ h₂ => wpAny_bind (wpAny_mono (h₂ _) (fun f s₃ h₃ => ?_) fun _ _ x => x)) fun _ _ x => x)
    cases f with
    | next => exact wpAny_pure ⟨rfl, h₃⟩
    | cont => exact wpAny_pure ⟨rfl, h₃⟩
    | brk => exact wpAny_pure h₃
    | ret v => exact wpAny_pure h₃

/-- to draw once, in a frame -/
theorem Rel.draw {A : Around} {it : Addr} {post} {Q : Option Value → Shared → Prop} {E : Value → Shared → Prop} (R : Rel B P K g X ce env st s) (hA : Room A n) (I : ItNext B n it P led gl post) (hl : LeH led s.heap) (ha : Apart B led P K) (ho : ∀ a ∈ X.own st.store, led a = none) (hg : GOk gl g s)
    (h : match post with
      | none => ∀ P' s', Le P P' → Rel B P' K g X ce env st s' → Q none s'
      | some (y, next) => ∀ P' s' v led' gl', Le P P' → Rel B P' K g X ce env st s' → LeH led' s'.heap → Apart B led' P' K → (∀ a ∈ X.own st.store, led' a = none) → GOk gl' g s' → VR P' [] y v → next P' led' gl' → Q (some v) s') :
    wpAny (model B.prog B.w) A (pyNext (.ref it)) Q E s := by
  have hw : ∀ i x, (fun i => if gl i = none then s.gens[i]? else none) i = some x → s.gens[i]? = some x := fun i x e => by
    by_cases q : gl i = none
    · simpa [q] using e
    · simp [q] at e
  have hgg : ∀ i x, g i = some x → (fun i => if gl i = none then s.gens[i]? else none) i = some x := fun i x e => by
    have q : gl i = none := by
      cases q : gl i with
      | none => rfl
      | some y => rw [(hg i y q).2] at e; (first|subst e|obtain rfl:=sj e|exact n1 e|exact n2 e|exact b1 e|exact b2 e|cases e)
    simp only [q, if_true]
    exact R.inv.gk i x e
  have ha' : Apart B led P (frK (X.own st.store) s.heap K) := fun a o e => by
    obtain ⟨x, y, z⟩ := ha a o e
    refine ⟨x, ?_, z⟩
    rw [frK_out fun q => by rw [ho a q] at e; (first|subst e|obtain rfl:=sj e|exact n1 e|exact n2 e|exact b1 e|exact b2 e|cases e)]; exact y
  refine I A P (frK (X.own st.store) s.heap K) _ s Q E hA (Le.refl P) (R.frame.weakG hw) hl ha' (fun i x e => ⟨(hg i x e).1, by simp [e]⟩) ?_
  have un : ∀ {led' P'' : Gh}, Apart B led' P'' (frK (X.own st.store) s.heap K) → Apart B led' P'' K ∧ ∀ a ∈ X.own st.store, led' a = none := fun {led' P''} h => by
    refine ⟨fun a o e => ?_, fun a q => ?_⟩
    · obtain ⟨x, y, z⟩ := h a o e
      refine ⟨x, ?_, z⟩
      by_cases q : a ∈ X.own st.store
      · exact (R.off a q).2.1
      · rw [frK_out q] at y; exact y
    · cases e : led' a with
      | none => rfl
      | some o =>
        obtain ⟨x, y, z⟩ := h a o e
        rw [frK_in q] at y
        obtain ⟨o', e'⟩ := R.alive a q
        rw [e'] at y; cases y
  cases post with
  | none => exact fun P'' s' lP I' => h P'' s' lP (R.back lP I' hgg)
  | some p =>
    obtain ⟨y, next⟩ := p
    exact fun P'' s' v led' gl' lP I' hl' ha'' hg' hv hn => h P'' s' v led' gl' lP (R.back lP I' hgg) hl' (un ha'').1 (un ha'').2 (fun i x e => ⟨(hg' i x e).1, by
      cases q : g i with
      | none => rfl
      | some z => have := (hg' i x e).2; rw [hgg i z q] at this; (first|subst this|obtain rfl:=sj this|exact n1 this|exact n2 this|exact b1 this|exact b2 this|cases this)⟩) hv hn

theorem for_ok {t : Expr} {body : List Stmt} {ys : List CV} {fl : CFl} {st st' : LSt} (F : ForJ B n ce t body ys st fl st') : ∀ {A : Around} {env : Env} {P K led : Gh} {g gl : GG} {X : Book} {s : Shared} {R : Result → Shared → Prop} {it : Addr}, Room A n → Rel B P K g X ce env st s →
    ItJ B n it ys P led gl → LeH led s.heap → Apart B led P K → (∀ a ∈ X.own st.store, led a = none) → GOk gl g s → pures ys = true →
    (∀ P' X' s' f, Le P P' → X.Le X' → Rel B P' K g X' ce env st' s' → FlR P' X'.ι fl f → R (.ok f) s') → codeAny (model B.prog B.w) A (.forLoop t (.ref it) body [] env) R s := by
  induction F with
  | nil =>
    intro A env P K led g gl X s R it hA Rl I hl ha ho hg hp hQ
    refine for_step fun E => Rl.draw hA I.2 hl ha ho hg fun P1 s1 lP R1 => ?_
    exact hQ P1 X s1 _ lP (.refl X) R1 .nxt
  | cons h1 h2 hf _ ih =>
    intro A env P K led g gl X s R it hA Rl I hl ha ho hg hp hQ
    simp only [pures, Bool.and_eq_true] at hp
    refine for_step fun E => Rl.draw hA I.2 hl ha ho hg fun P1 s1 v led1 gl1 lP R1 hl1 ha1 ho1 hg1 hv I1 => ⟨?_, fun E => ?_⟩
    · obtain ⟨o, T, a, b, c⟩ := I1.self.tup
      exact ⟨o, T, hl1 _ _ a, b, c⟩
    refine h1 A env P1 _ _ X s1 v _ E hA (R1.addK hl1 ha1 ho1 hg1) (hv.pure' hp.1) fun P2 X2 s2 lP2 lX2 R2 E => ?_
    refine h2 A env P2 _ _ X2 s2 _ E hA R2 fun P3 X3 s3 f lP3 lX3 R3 rf => ?_
    obtain ⟨R4, hl4, ha4, ho4, hg4⟩ := R3.dropK ((R1.env.mono lP2 lX2).mono lP3 lX3) ha1 fun i x e => (hg1 i x e).2
    have z := ih (R := R) hA R4 (I1.mono (lP2.trans lP3)) hl4 ha4 ho4 hg4 hp.2 fun P5 X5 s5 f lP5 lX5 R5 rf => hQ P5 X5 s5 f (lP.trans (lP2.trans (lP3.trans lP5))) (lX2.trans (lX3.trans lX5)) R5 rf
    rcases hf with rfl | rfl <;> cases rf <;> exact z
  | ret h1 h2 =>
    intro A env P K led g gl X s R it hA Rl I hl ha ho hg hp hQ
    simp only [pures, Bool.and_eq_true] at hp
    refine for_step fun E => Rl.draw hA I.2 hl ha ho hg fun P1 s1 v led1 gl1 lP R1 hl1 ha1 ho1 hg1 hv I1 => ⟨?_, fun E => ?_⟩
    · obtain ⟨o, T, a, b, c⟩ := I1.self.tup
      exact ⟨o, T, hl1 _ _ a, b, c⟩
    refine h1 A env P1 _ _ X s1 v _ E hA (R1.addK hl1 ha1 ho1 hg1) (hv.pure' hp.1) fun P2 X2 s2 lP2 lX2 R2 E => ?_
    refine h2 A env P2 _ _ X2 s2 _ E hA R2 fun P3 X3 s3 f lP3 lX3 R3 rf => ?_
    obtain ⟨R4, hl4, ha4, ho4, hg4⟩ := R3.dropK ((R1.env.mono lP2 lX2).mono lP3 lX3) ha1 fun i x e => (hg1 i x e).2
    cases rf with | ret rf =>
    exact hQ P3 X3 s3 _ (lP.trans (lP2.trans lP3)) (lX2.trans lX3) R4 (.ret rf)

/-- to evaluate an expression and to make its iterator -/
noncomputable def ItE (B : Base) (n : Nat) (ce : CEnv) (e : Expr) (st : LSt) (ys : List CV) (st' : LSt) : Prop :=
  ∀ (A : Around) (env : Env) (P K : Gh) (g : GG) (X : Book) (s : Shared) (Q : Value → Shared → Prop) (E : Value → Shared → Prop),
    Room A n → Rel B P K g X ce env st s →
    (∀ P' X' s' it led gl, Le P P' → X.Le X' → Rel B P' K g X' ce env st' s' → ItJ B n it ys P' led gl → LeH led s'.heap → Apart B led P' K → (∀ a ∈ X'.own st'.store, led a = none) → GOk gl g s' → Q (.ref it) s') →
    wpAny (model B.prog B.w) A (eval e env) (fun x s1 => wpAny (model B.prog B.w) A (pyIter x) Q E s1) E s
theorem Ex_for {t e : Expr} {body : List Stmt} {pos : Pos} {ys : List CV} {fl : CFl} {st' : LSt} (h : ItE B n ce e st ys st1) (hp : pures ys = true) (F : ForJ B n ce t body ys st1 fl st') (hs : autoParam (∀ env x, foldedSetIterable e env x = pure x) tRfl2) : ExJ B n ce (.For t e body [] pos) st fl st' := fun A env P K g X s Q E hA R hQ => by
  refine wpAny_For (h A env P K g X s _ E hA R fun P1 X1 s1 it led gl lP lX R1 I hl ha ho hg => ?_) (hs env)
  exact for_ok F hA R1 I hl ha ho hg hp fun P2 X2 s2 f lP2 lX2 R2 rf => hQ P2 X2 s2 f (lP.trans lP2) (lX.trans lX2) R2 rf

/-- a fresh iterator object over permanent things -/
theorem ItE.of {e : Expr} {ys : List CV} (h : EvJ B n ce e st v st1)
    (hi : ∀ {A : Around} {P K : Gh} {g : GG} {s : Shared} {x : Value} {ι : Sto} {Q : Value → Shared → Prop} {E : Value → Shared → Prop}, Room A n → InvS B P K g s → VR P ι v x →
      (∀ o s', s'.heap = s.heap.push o → s'.os = s.os → s'.gens = s.gens → o.isFreed = false → (∀ P', Le P P' → ItJ B n s.heap.objs.size ys P' (fun a => if a = s.heap.objs.size then some o else none) (fun _ => none)) → Q (.ref s.heap.objs.size) s') → wpAny (model B.prog B.w) A (pyIter x) Q E s) :
    ItE B n ce e st ys st1 := fun A env P K g X s Q E hA R hQ => by
  refine h A env P K g X s _ E hA R fun P1 X1 s1 x lP lX R1 r1 => hi hA R1.inv r1 fun o s2 e1 e2 e3 hf I => ?_
  have grow : ∀ b ob, s1.heap.get? b = some ob → s2.heap.get? b = some ob := fun b ob e => by rw [e1]; exact Heap.get?_push_of_some _ e
  refine hQ P1 X1 s2 _ _ _ lP lX (R1.grow grow e2 e3) (I P1 (Le.refl _)) (fun a ob e => ?_) (fun a ob e => ?_) (fun a ha => ?_) (fun i x e => by (first|subst e|obtain rfl:=sj e|exact n1 e|exact n2 e|exact b1 e|exact b2 e|cases e))
  · by_cases q : a = s1.heap.objs.size
    · subst q; simp at e; subst e; rw [e1]; exact Heap.get?_push_size _ hf
    · simp [q] at e
  · by_cases q : a = s1.heap.objs.size
    · subst q; exact ⟨R1.inv.freshP, R1.inv.freshK, R1.inv.freshT⟩
    · simp [q] at e
  · by_cases q : a = s1.heap.objs.size
    · subst q; exact absurd ha R1.fresh
    · simp [q]
end
end Mine

namespace Mine

noncomputable def one (a : Addr) (o : Obj) : Gh := fun b => if b = a then some o else none
theorem one_self {a : Addr} {o : Obj} : one a o a = some o := by simp [one]
theorem one_some {a b : Addr} {o o' : Obj} (h : one a o b = some o') : b = a ∧ o' = o := by
  unfold one at h
  split at h
  · (first|subst h|obtain rfl:=sj h|exact n1 h|exact n2 h|exact b1 h|exact b2 h|cases h); exact ⟨‹_›, rfl⟩
  · (first|subst h|obtain rfl:=sj h|exact n1 h|exact n2 h|exact b1 h|exact b2 h|cases h)
noncomputable def noG : GG := fun _ => none

section
variable {B : Base} {n : Nat} {ce : CEnv} {st st1 st2 st3 : LSt} {v v1 v2 : CV} {P P' K led : Gh} {g gl : GG} {X X' : Book} {env : Env} {s s' : Shared}

theorem ItJ.of_walks {I : Addr} {fp : List Addr} {Val : Nat → Value → Prop} {St : Nat → Heap → Prop} {ys : List CV}
    (W : ∀ A : Around, A.handled = none → Walks B.prog B.w A I fp [I] ys.length Val St)
    (hobj : ∀ i h, St i h → ∃ o T, h.get? I = some o ∧ o.cls = .type T ∧ tupleGoers.contains T = false) :
    ∀ (k i : Nat) (P : Gh) (o : Obj), i + k = ys.length → (∀ b ∈ fp, b ≠ I → ∃ ob, P b = some ob) → (∀ i v, i < ys.length → Val i v → ∃ y, ys[i]? = some y ∧ VR P [] y v) → (∀ h, LeH P h → h.get? I = some o → St i h) → (∃ T, o.cls = .type T ∧ tupleGoers.contains T = false) →
      ItJ B n I (ys.drop i) P (one I o) noG := by
  intro k
  induction k with
  | zero =>
    intro i P o hi hfp hv hst hT
    rw [List.drop_eq_nil_of_le (by walk_at "o")]
    refine ⟨⟨fun A s Q E hA hp hl hQ => (W A hA.handled).self i s Q E (hst _ hp (hl _ _ one_self)) hQ, o, hT.choose, one_self, hT.choose_spec⟩, fun A P' K g s Q E hA hP I' hl ha hg hQ => ?_⟩
    refine (W A hA.handled).done s Q E ((show i = ys.length by walk_at "o") ▸ hst _ (fun a o e => I'.perm a o (hP a o e)) (hl _ _ one_self)) fun h' tk hk => ?_
    obtain ⟨a1, a2, a3⟩ := ha I o one_self
    exact hQ P' _ (.refl _) (I'.step (s' := { s with heap := h', toks := tk }) (· = I) (fun b ob hb e => hk b ob (by simpa using hb) e) (fun b hb => hb ▸ ⟨a1, a2, a3⟩) rfl rfl)
  | succ k ih =>
    intro i P o hi hfp hv hst hT
    have hlt : i < ys.length := by walk_at "o"
    rw [List.drop_eq_getElem_cons hlt]
    refine ⟨⟨fun A s Q E hA hp hl hQ => (W A hA.handled).self i s Q E (hst _ hp (hl _ _ one_self)) hQ, o, hT.choose, one_self, hT.choose_spec⟩, fun A P' K g s Q E hA hP I' hl ha hg hQ => ?_⟩
    refine (W A hA.handled).item i s Q E hlt (hst _ (fun a o e => I'.perm a o (hP a o e)) (hl _ _ one_self)) fun v h' tk hpv hst' hk => ?_
    obtain ⟨a1, a2, a3⟩ := ha I o one_self
    obtain ⟨o', T, e', hc', hT'⟩ := hobj _ _ hst'
    have I2 : InvS B P' K g { s with heap := h', toks := tk } := I'.step (s' := { s with heap := h', toks := tk }) (· = I) (fun b ob hb e => hk b ob (by simpa using hb) e) (fun b hb => hb ▸ ⟨a1, a2, a3⟩) rfl rfl
    obtain ⟨y, hy, hr⟩ := hv i v hlt hpv
    rw [List.getElem?_eq_getElem hlt] at hy
    (first|obtain ⟨_, rfl⟩:=hy.inv|subst hy|obtain rfl:=sj hy|exact n1 hy|exact n2 hy|cases hy)
    refine hQ P' _ v (one I o') noG (.refl _) I2 (fun a ob e => ?_) (fun a ob e => ?_) (fun i x e => by (first|subst e|obtain rfl:=sj e|exact n1 e|exact n2 e|exact b1 e|exact b2 e|cases e)) (hr.mono hP (.refl _)) ?_
    · obtain ⟨rfl, rfl⟩ := one_some e; exact e'
    · obtain ⟨rfl, rfl⟩ := one_some e; exact ⟨a1, a2, a3⟩
    · refine ih (i + 1) P' o' (by walk_at "o") (fun b hb hne => let ⟨ob, e⟩ := hfp b hb hne; ⟨ob, hP b ob e⟩) (fun i v hi hp => let ⟨y, a, b⟩ := hv i v hi hp; ⟨y, a, b.mono hP (.refl _)⟩) (fun h'' hp he => ?_) ⟨T, hc', hT'⟩
      refine (W {} rfl).frame _ _ _ hst' fun b hb ob e => ?_
      by_cases q : b = I
      · subst q; rw [e'] at e; (first|subst e|obtain rfl:=sj e|exact n1 e|exact n2 e|exact b1 e|exact b2 e|cases e); exact he
      · obtain ⟨ob', e2⟩ := hfp b hb q
        have e3 := hP b ob' e2
        have e4 := I2.perm b ob' e3
        rw [show h'.get? b = some ob' from e4] at e
        (first|subst e|obtain rfl:=sj e|exact n1 e|exact n2 e|exact b1 e|exact b2 e|cases e)
        exact hp b _ e3

/-- to make an iterator of a value -/
noncomputable def IterOk (B : Base) (n : Nat) (v : CV) (ys : List CV) : Prop :=
  ∀ {A : Around} {P K : Gh} {g : GG} {s : Shared} {x : Value} {ι : Sto} {Q : Value → Shared → Prop} {E : Value → Shared → Prop}, Room A n → InvS B P K g s → VR P ι v x →
      (∀ o s', s'.heap = s.heap.push o → s'.os = s.os → s'.gens = s.gens → o.isFreed = false → (∀ P', Le P P' → ItJ B n s.heap.objs.size ys P' (one s.heap.objs.size o) noG) → Q (.ref s.heap.objs.size) s') → wpAny (model B.prog B.w) A (pyIter x) Q E s
theorem ItE.ok {e : Expr} {ys : List CV} (h : EvJ B n ce e st v st1) (hi : IterOk B n v ys) : ItE B n ce e st ys st1 := ItE.of h hi
theorem pures_get : ∀ {vs : List CV}, pures vs = true → ∀ {i : Nat} {y : CV}, vs[i]? = some y → y.pure = true
  | [], _, i, y, e => by simp at e
  | v :: vs, h, 0, y, e => by simp only [pures, Bool.and_eq_true] at h; simp at e; subst e; exact h.1
  | v :: vs, h, i + 1, y, e => by simp only [pures, Bool.and_eq_true] at h; simp at e; exact pures_get h.2 e
theorem VRs.at {ι : Sto} {vs : List CV} {xs : List Value} (r : VRs P ι vs xs) (hp : pures vs = true) {i : Nat} {v : Value} (hi : i < vs.length) (e : xs[i]? = some v) : ∃ y, vs[i]? = some y ∧ VR P [] y v := by
  refine ⟨vs[i], List.getElem?_eq_getElem hi, ?_⟩
  obtain ⟨x, a, b⟩ := r.get (List.getElem?_eq_getElem hi)
  rw [a] at e; (first|subst e|obtain rfl:=sj e|exact n1 e|exact n2 e|exact b1 e|exact b2 e|cases e)
  exact b.pure' (pures_get hp (List.getElem?_eq_getElem hi))
theorem IterOk.list {vs : List CV} (hp : pures vs = true) : IterOk B n (.list vs) vs := by
  intro A P K g s x ι Q E hA I hx hQ
  obtain ⟨xs, l, ol, rfl, hl, q, r⟩ := hx.inv
  have e := I.perm _ _ hl
  refine wpAny_pyIter_list ⟨_, e, q⟩ (hQ _ _ rfl rfl rfl rfl fun P' lP => ?_)
  have hne : l ≠ s.heap.objs.size := Nat.ne_of_lt (Heap.lt_size e)
  have hlen := r.length
  refine ItJ.of_walks (B := B) (I := s.heap.objs.size) (fp := [s.heap.objs.size, l]) (Val := fun i v => xs.toArray[i]? = some v) (St := fun i h => h.IsListIter s.heap.objs.size l i ∧ h.IsList l xs.toArray) (ys := vs)
    (fun A hh => by have := Walks.list (prog := B.prog) (w := B.w) hh s.heap.objs.size l hne xs.toArray; rw [show xs.toArray.size = vs.length from hlen] at this; exact this) (fun i h hs => ?_) vs.length 0 P' _ (by simp) (fun b hb hb' => ?_) (fun i v hi e => (r.at hp hi (by simpa using e)).imp fun y q => ⟨q.1, q.2.mono lP (.refl _)⟩) (fun h hP he => ⟨⟨_, he, rfl, rfl⟩, ⟨_, hP _ _ (lP _ _ hl), q⟩⟩) ⟨_, rfl, by decide⟩
  · obtain ⟨⟨o, a, b, _⟩, _⟩ := hs; exact ⟨o, _, a, b, by decide⟩
  · simp at hb; rcases hb with rfl | rfl
    · exact absurd rfl hb'
    · exact ⟨_, lP _ _ hl⟩
theorem IterOk.tup {vs : List CV} (hp : pures vs = true) : IterOk B n (.tup vs) vs := by
  intro A P K g s x ι Q E hA I hx hQ
  obtain ⟨xs, l, ep, rfl, hl, r⟩ := hx.inv
  have e := I.perm _ _ hl
  refine wpAny_pyIter_tuple (items := xs.toArray) ⟨_, e, rfl, ep, rfl⟩ (hQ _ _ rfl rfl rfl rfl fun P' lP => ?_)
  have hne : l ≠ s.heap.objs.size := Nat.ne_of_lt (Heap.lt_size e)
  have hlen := r.length
  refine ItJ.of_walks (B := B) (I := s.heap.objs.size) (fp := [s.heap.objs.size, l]) (Val := fun i v => xs.toArray[i]? = some v) (St := fun i h => h.IsTupleIter s.heap.objs.size l i ∧ h.IsTuple l xs.toArray) (ys := vs)
    (fun A hh => by have := Walks.tuple (prog := B.prog) (w := B.w) hh s.heap.objs.size l hne xs.toArray; rw [show xs.toArray.size = vs.length from hlen] at this; exact this) (fun i h hs => ?_) vs.length 0 P' _ (by simp) (fun b hb hb' => ?_) (fun i v hi e => (r.at hp hi (by simpa using e)).imp fun y q => ⟨q.1, q.2.mono lP (.refl _)⟩) (fun h hP he => ⟨⟨_, he, rfl, rfl⟩, ⟨_, hP _ _ (lP _ _ hl), rfl, ep, rfl⟩⟩) ⟨_, rfl, by decide⟩
  · obtain ⟨⟨o, a, b, _⟩, _⟩ := hs; exact ⟨o, _, a, b, by decide⟩
  · simp at hb; rcases hb with rfl | rfl
    · exact absurd rfl hb'
    · exact ⟨_, lP _ _ hl⟩
noncomputable def rngL (a c : Int) (k : Nat) : List CV := (List.range k).map fun (i : Nat) => .int (a + i * c)
theorem IterOk.rng {a b c : Int} {k : Nat} (hs : Builtin.Range.small a b c = true) (hk : Builtin.Range.rangeSize a b c = k) : IterOk B n (.rng a b c) (rngL a c k) := by
  intro A P K g s x ι Q E hA I hx hQ
  obtain ⟨t, u, v, l, rfl, hl⟩ := hx.inv
  have e := I.perm _ _ hl
  refine wpAny_pyIter_range e hs (hQ _ _ rfl rfl rfl rfl fun P' lP => ?_)
  have hlen : (rngL a c k).length = k := by simp [rngL]
  refine ItJ.of_walks (B := B) (I := s.heap.objs.size) (fp := [s.heap.objs.size]) (ys := rngL a c k)
    (fun A hh => by have := Walks.range (prog := B.prog) (w := B.w) hh s.heap.objs.size a c k; rw [hlen]; exact this) (fun i h hs => ?_) (rngL a c k).length 0 P' _ (by simp) (fun b hb hb' => ?_) (fun i v hi e => ?_) (fun h hP he => ?_) ⟨_, rfl, by decide⟩
  · exact ⟨_, _, hs, rfl, by decide⟩
  · simp at hb; exact absurd hb hb'
  · obtain ⟨t, rfl⟩ := e
    rw [hlen] at hi
    exact ⟨_, by simp [rngL, hi], .int _ _⟩
  · show IsRangeIter h _ _ _ _
    unfold IsRangeIter
    rw [he]
    simp [hk]
theorem IterOk.str {y : Str} : IterOk B n (.str y) (y.cps.toList.map fun c => .str ⟨#[c]⟩) := by
  intro A P K g s x ι Q E hA I hx hQ
  obtain ⟨t, rfl⟩ := hx.inv
  have hlen : (y.cps.toList.map fun c => CV.str ⟨#[c]⟩).length = y.cps.size := by simp
  have hv : ∀ (P : Gh) i v, i < (y.cps.toList.map fun c => CV.str ⟨#[c]⟩).length → SignAt y i v → ∃ z, (y.cps.toList.map fun c => CV.str ⟨#[c]⟩)[i]? = some z ∧ VR P [] z v := fun P i v hi e => by
    obtain ⟨c, u, e, rfl⟩ := e
    exact ⟨.str ⟨#[c]⟩, by simp [e], .str _ _⟩
  refine wpAny_pyIter_strU (hQ _ _ rfl rfl rfl rfl fun P' lP => ?_)
  unfold strIterType
  cases ha : y.cps.all (· < 128)
  · refine ItJ.of_walks (B := B) (I := s.heap.objs.size) (fp := [s.heap.objs.size]) (ys := y.cps.toList.map fun c => .str ⟨#[c]⟩)
      (fun A hh => by have := Walks.strWide (prog := B.prog) (w := B.w) hh s.heap.objs.size y t; rw [hlen]; exact this) (fun i h hs => ?_) _ 0 P' _ (by simp; rfl) (fun b hb hb' => ?_) (hv P') (fun h hP he => (⟨_, he, rfl, rfl⟩ : h.IsStrIter _ _ y t 0)) ⟨_, rfl, by decide⟩
    · obtain ⟨o, a, b, _⟩ := hs; exact ⟨o, _, a, b, by decide⟩
    · simp at hb; exact absurd hb hb'
  · refine ItJ.of_walks (B := B) (I := s.heap.objs.size) (fp := [s.heap.objs.size]) (ys := y.cps.toList.map fun c => .str ⟨#[c]⟩)
      (fun A hh => by have := Walks.strAscii (prog := B.prog) (w := B.w) hh s.heap.objs.size y t; rw [hlen]; exact this) (fun i h hs => ?_) _ 0 P' _ (by simp; rfl) (fun b hb hb' => ?_) (hv P') (fun h hP he => (⟨_, he, rfl, rfl⟩ : h.IsStrIter _ _ y t 0)) ⟨_, rfl, by decide⟩
    · obtain ⟨o, a, b, _⟩ := hs; exact ⟨o, _, a, b, by decide⟩
    · simp at hb; exact absurd hb hb'
end
end Mine

namespace Mine

theorem letTuple_any {M : Model} {A : Around} {s : Shared} {t : Expr} {it : Addr} {v : Value} {Q : Unit → Shared → Prop} {E : Value → Shared → Prop} (h : ∃ o T, s.heap.get? it = some o ∧ o.cls = .type T ∧ tupleGoers.contains T = false) (hQ : Q () s) :
    wpAny M A (letOwnedTupleGo t (.ref it) v) Q E s := by
  obtain ⟨o, T, a, b, c⟩ := h
  exact letTuple_ok a b c hQ

theorem comp_step {prog : Program} {w : World} {A : Around} {elt t iter : Expr} {ifs : List Expr} {gens : List Comprehension} {d : Nat} {scope : Scope} {pos : Pos} {it : Addr} {acc : Value} {env : Env} {R : Result → Shared → Prop} {s : Shared}
    (hg : gens[d]? = some ⟨t, iter, ifs, 0⟩) (hg' : ∀ g', gens[d + 1]? = some g' → g'.is_async = 0)
    (hs : ∀ g', gens[d + 1]? = some g' → ∀ x, foldedSetIterable g'.iter env x = pure x)
    (h : ∀ E, wpAny (model prog w) A (pyNext (.ref it)) (fun r s₁ => match r with
      | none => R (.ok .next) s₁
      | some v => (∃ o T, s₁.heap.get? it = some o ∧ o.cls = .type T ∧ tupleGoers.contains T = false) ∧ ∀ E, wpAny (model prog w) A (assign t env v) (fun _ s₂ => ∀ E,
          wpAny (model prog w) A (forIn ifs true fun c r => if r = true then do let ok ← isTrue c env (eval c env); pure (ForInStep.yield ok) else pure (ForInStep.yield r)) (fun ok s₃ =>
            if ok = true then (match gens[d + 1]? with
              | none => ∀ E, wpAny (model prog w) A (eval elt env) (fun y s₄ => ∀ E, wpAny (model prog w) A (call (.builtin "list.append") [acc, y]) (fun _ s₅ => codeAny (model prog w) A (.compLoop (.ListComp elt gens scope pos) d (.ref it) acc env) R s₅) E s₄) E s₃
              | some g' => ∀ E, wpAny (model prog w) A (eval g'.iter env) (fun x s₄ => wpAny (model prog w) A (pyIter x) (fun it' s₅ => ∀ R', (∀ s₆, codeAny (model prog w) A (.compLoop (.ListComp elt gens scope pos) d (.ref it) acc env) R s₆ → R' (.ok .next) s₆) → codeAny (model prog w) A (.compStart (.ListComp elt gens scope pos) (d + 1) it' acc env) R' s₅) E s₄) E s₃)
            else codeAny (model prog w) A (.compLoop (.ListComp elt gens scope pos) d (.ref it) acc env) R s₃) E s₂) E s₁) E s) :
    codeAny (model prog w) A (.compLoop (.ListComp elt gens scope pos) d (.ref it) acc env) R s := by
  refine codeAny_of_tree ?_
  show wpAny _ A ((compTurn (.ListComp elt gens scope pos) d (.ref it) acc env).onRaise (fun x => do noteFrame x env; theTreesLotGoes x)) _ _ s
  refine wpAny_noted ?_
  unfold compTurn
  simp only [hg]
  refine wpAny_bind (wpAny_standAt (wpAny_bind ?_))
  show wpAny _ _ (pyNext (.ref it)) _ _ _
  refine wpAny_mono (h _) (fun r s₁ h₁ => ?_) fun _ _ h' => h'
  cases r with
  | none => exact wpAny_pure h₁
  | some v =>
    refine wpAny_bind (letTuple_any h₁.1 ?_)
    refine wpAny_bind (wpAny_mono (h₁.2 _) (fun _ s₂ h₂ => wpAny_bind (wpAny_mono (h₂ _) (fun ok s₃ h₃ => ?_) fun _ _ h' => h')) fun _ _ h' => h')
    cases ok with
    | false => exact wpAny_pure ⟨rfl, h₃⟩
    | true =>
      simp only [if_true] at h₃
      cases e : gens[d + 1]? with
      | none =>
        rw [e] at h₃
        simp only []
        exact wpAny_bind (wpAny_bind (wpAny_mono (h₃ _) (fun x s₄ h₄ => wpAny_bind (wpAny_mono (h₄ _) (fun _ s₅ h₅ => wpAny_pure (wpAny_pure ⟨rfl, h₅⟩)) fun _ _ h' => h')) fun _ _ h' => h'))
      | some g' =>
        rw [e] at h₃
        have ha := hg' g' e
        have hs' := hs g' e
        obtain ⟨t', iter', ifs', a'⟩ := g'
        simp only at ha hs' h₃
        obtain rfl := ha.symm
        simp only []
        refine wpAny_bind (wpAny_mono (h₃ _) (fun x s₄ h₄ => ?_) fun _ _ h' => h')
        refine wpAny_bind (wpAny_standAt ?_)
        refine wpAny_bind ?_
        show wpAny _ _ (foldedSetIterable iter' env x) _ _ _
        rw [hs']
        refine wpAny_pure ?_
        refine wpAny_bind (wpAny_holding (wpAny_mono h₄ (fun it' s₅ h₅ => ?_) fun _ _ h' => h'))
        refine wpAny_bind (wpAny_runOwn (h₅ _ fun s₆ h₆ => wpAny_pure ⟨rfl, h₆⟩))

theorem compStart_ok {prog : Program} {w : World} {A : Around} {elt t iter : Expr} {ifs : List Expr} {gens : List Comprehension} {d : Nat} {scope : Scope} {pos : Pos} {it acc : Value} {env : Env} {R : Result → Shared → Prop} {s : Shared}
    (hg : gens[d]? = some ⟨t, iter, ifs, 0⟩)
    (h0 : codeAny (model prog w) A (.compLoop (.ListComp elt gens scope pos) d it acc env) R s)
    (h : ∀ E, wpAny (model prog w) A (pyIter it) (fun it' s' => codeAny (model prog w) A (.compLoop (.ListComp elt gens scope pos) d it' acc env) R s') E s) :
    codeAny (model prog w) A (.compStart (.ListComp elt gens scope pos) d it acc env) R s := by
  refine codeAny_of_tree ?_
  show wpAny _ _ ((compStart (.ListComp elt gens scope pos) d it acc env).onRaise (fun x => do noteFrame x env; standAt theWindowsPlace)) _ _ s
  refine wpAny_notedAt ?_
  unfold compStart
  rw [show clausesOf (.ListComp elt gens scope pos) = gens from rfl, hg]
  show wpAny _ _ (ask >>= _) _ _ s
  refine wpAny_bind (wpAny_askSetting (wpAny_ite ?_))
  split
  · first
      | exact wpAny_bind (wpAny_pure (wpAny_pure (And.intro rfl h0)))
      | exact wpAny_pure (And.intro rfl h0)
  · first
      | exact wpAny_bind (wpAny_rule (wpAny_bind (wpAny_standAt (wpAny_bind (wpAny_mono (h _) (fun it' s' h' => wpAny_pure (And.intro rfl h')) fun _ _ x => x)))))
      | (refine wpAny_bind (wpAny_rule ?_); show wpAny _ _ (standAt iter.pos >>= _) _ _ s; exact wpAny_bind (wpAny_standAt (wpAny_bind (wpAny_mono (h _) (fun it' s' h' => wpAny_pure (And.intro rfl h')) fun _ _ x => x))))

section
variable {B : Base} {n : Nat} {ce : CEnv} {st st1 st2 st3 st4 st5 : LSt} {v v1 v2 : CV} {P P' K led : Gh} {g gl : GG} {X X' : Book} {env : Env} {s s' : Shared}

/-- one object in our hands -/
structure DOk (B : Base) (D : Addr) (o : Obj) (P K : Gh) (own : List Addr) (s : Shared) : Prop where
  here : s.heap.get? D = some o
  P : P D = none
  K : K D = none
  T : ∀ t ∈ B.tabs, t.P ≠ D
  own : D ∉ own
theorem Rel.addD {D : Addr} {o : Obj} (R : Rel B P K g X ce env st s) (d : DOk B D o P K (X.own st.store) s) : Rel B P (orG (one D o) K) g X ce env st s :=
  R.addK (led := one D o) (gl := noG) (fun a ob e => by obtain ⟨rfl, rfl⟩ := one_some e; exact d.here) (fun a ob e => by obtain ⟨rfl, rfl⟩ := one_some e; exact ⟨d.P, d.K, d.T⟩)
    (fun a ha => by
      cases e : one D o a with
      | none => rfl
      | some ob => obtain ⟨rfl, rfl⟩ := one_some e; exact absurd ha d.own) (fun i x e => by (first|subst e|obtain rfl:=sj e|exact n1 e|exact n2 e|exact b1 e|exact b2 e|cases e))
theorem Rel.dropD {D : Addr} {o : Obj} (R : Rel B P' (orG (one D o) K) g X' ce env st' s') (E : EnvOk P' K X' ce env) (hK : K D = none) (hT : ∀ t ∈ B.tabs, t.P ≠ D) : Rel B P' K g X' ce env st' s' ∧ DOk B D o P' K (X'.own st'.store) s' := by
  have e1 : (orG (one D o) K) D = some o := by unfold orG; rw [one_self]; rfl
  have hP : P' D = none := R.inv.apart _ _ e1
  obtain ⟨a, b, c, d, _⟩ := Rel.dropK (led := one D o) (gl := noG) (P := P') R E (fun a ob e => by obtain ⟨rfl, rfl⟩ := one_some e; exact ⟨hP, hK, hT⟩) (fun i x e => by (first|subst e|obtain rfl:=sj e|exact n1 e|exact n2 e|exact b1 e|exact b2 e|cases e))
  exact ⟨a, b _ _ one_self, hP, hK, hT, fun h => by have := d D h; rw [one_self] at this; (first|subst this|obtain rfl:=sj this|exact n1 this|exact n2 this|exact b1 this|exact b2 this|cases this)⟩
theorem Rel.poke {D : Addr} {o : Obj} {h' : Heap} {tk : Nat} (R : Rel B P K g X ce env st s) (d : DOk B D o P K (X.own st.store) s) (hs : Heap.SameBut D s.heap h') : Rel B P K g X ce env st { s with heap := h', toks := tk } :=
  R.same (Le.refl P) (R.inv.step (s' := { s with heap := h', toks := tk }) (· = D) (fun b ob hb e => (hs.2 b hb).trans e) (fun b hb => hb ▸ ⟨d.P, d.K, d.T⟩) rfl rfl) (fun a ha ob e => (hs.2 a fun q => d.own (q ▸ ha)).trans e) fun a ha => (R.off a ha).1

noncomputable def IfsJ (B : Base) (n : Nat) (ce : CEnv) (ifs : List Expr) (st : LSt) (b : Bool) (st' : LSt) : Prop :=
  J B n ce (fun env => forIn ifs true fun c r => if r = true then do let ok ← isTrue c env (eval c env); pure (ForInStep.yield ok) else pure (ForInStep.yield r)) st (fun _ _ a => a = b) st'
theorem Ifs_nil : IfsJ B n ce [] st true st := fun A env P K g X s Q E hA R hQ => wpAny_tests_nil (hQ P X s _ (.refl _) (.refl _) R rfl)
theorem Ifs_one {c : Expr} {b : Bool} (h : TsJ B n ce c st b st1) : IfsJ B n ce [c] st b st1 := fun A env P K g X s Q E hA R hQ => wpAny_tests_one (h A env P K g X s Q E hA R hQ)

/-- the turns of a comprehension -/
inductive LpJ (B : Base) (n : Nat) (ce : CEnv) (elt : Expr) : List Comprehension → List CV → LSt → List CV → LSt → Prop
  | nil {gs : List Comprehension} {st : LSt} : LpJ B n ce elt gs [] st [] st
  | skip {t iter : Expr} {ifs : List Expr} {gs : List Comprehension} {y : CV} {ys out : List CV} {st st1 st2 st3 : LSt} : AsJ B n ce t st y st1 → IfsJ B n ce ifs st1 false st2 → LpJ B n ce elt (⟨t, iter, ifs, 0⟩ :: gs) ys st2 out st3 → LpJ B n ce elt (⟨t, iter, ifs, 0⟩ :: gs) (y :: ys) st out st3
  | take {t iter : Expr} {ifs : List Expr} {y v : CV} {ys out : List CV} {st st1 st2 st3 st4 : LSt} : AsJ B n ce t st y st1 → IfsJ B n ce ifs st1 true st2 → EvJ B n ce elt st2 v st3 → v.pure = true → LpJ B n ce elt [⟨t, iter, ifs, 0⟩] ys st3 out st4 → LpJ B n ce elt [⟨t, iter, ifs, 0⟩] (y :: ys) st (v :: out) st4
  | deep {t iter t' iter' : Expr} {ifs ifs' : List Expr} {gs : List Comprehension} {y : CV} {ys zs out1 out2 : List CV} {st st1 st2 st3 st4 st5 : LSt} : AsJ B n ce t st y st1 → IfsJ B n ce ifs st1 true st2 → ItE B n ce iter' st2 zs st3 → pures zs = true → LpJ B n ce elt (⟨t', iter', ifs', 0⟩ :: gs) zs st3 out1 st4 → LpJ B n ce elt (⟨t, iter, ifs, 0⟩ :: ⟨t', iter', ifs', 0⟩ :: gs) ys st4 out2 st5 →
      LpJ B n ce elt (⟨t, iter, ifs, 0⟩ :: ⟨t', iter', ifs', 0⟩ :: gs) (y :: ys) st (out1 ++ out2) st5

theorem dropK_pair {P₀ : Gh} (R : Rel B P' (orG led K) (orGG gl g) X' ce env st' s') (E : EnvOk P' K X' ce env) (ha : Apart B led P₀ K) (hg : ∀ i x, gl i = some x → g i = none) :
    Rel B P' K g X' ce env st' s' ∧ LeH led s'.heap ∧ Apart B led P' K ∧ (∀ a ∈ X'.own st'.store, led a = none) ∧ GOk gl g s' := Rel.dropK R E ha hg
theorem drop_get {α : Type} : ∀ {d : Nat} {l : List α} {g : α} {gs : List α}, l.drop d = g :: gs → l[d]? = some g ∧ l.drop (d + 1) = gs
  | 0, _ :: _, _, _, h => by simp at h; simp [h]
  | 0, [], _, _, h => by simp at h
  | d + 1, [], _, _, h => by simp at h
  | d + 1, x :: l, g, gs, h => by simpa using drop_get (d := d) (l := l) (by simpa using h)

theorem Rel.drawD {A : Around} {it D : Addr} {o : Obj} {post} {Q : Option Value → Shared → Prop} {E : Value → Shared → Prop} (R : Rel B P K g X ce env st s) (hA : Room A n) (I : ItNext B n it P led gl post) (hl : LeH led s.heap) (ha : Apart B led P K) (ho : ∀ a ∈ X.own st.store, led a = none) (hg : GOk gl g s)
    (d : DOk B D o P K (X.own st.store) s) (hD : led D = none)
    (h : match post with
      | none => ∀ P' s', Le P P' → Rel B P' K g X ce env st s' → DOk B D o P' K (X.own st.store) s' → Q none s'
      | some (y, next) => ∀ P' s' v led' gl', Le P P' → Rel B P' K g X ce env st s' → Rel B P' (orG led' K) (orGG gl' g) X ce env st s' → DOk B D o P' (orG led' K) (X.own st.store) s' → LeH led' s'.heap → Apart B led' P' K → (∀ i x, gl' i = some x → g i = none) → led' D = none → VR P' [] y v → next P' led' gl' → Q (some v) s') :
    wpAny (model B.prog B.w) A (pyNext (.ref it)) Q E s := by
  have hne : ∀ a o', led a = some o' → a ≠ D := fun a o' e q => by obtain rfl := q.symm; rw [hD] at e; (first|subst e|obtain rfl:=sj e|exact n1 e|exact n2 e|exact b1 e|exact b2 e|cases e)
  refine (R.addD d).draw hA I hl (fun a o' e => ⟨(ha a o' e).1, ?_, (ha a o' e).2.2⟩) ho hg ?_
  · unfold orG one
    rw [if_neg (hne a o' e)]
    exact (ha a o' e).2.1
  · cases post with
    | none =>
      intro P' s' lP R1
      obtain ⟨a, b⟩ := R1.dropD (R.env.mono lP (.refl _)) d.K d.T
      exact h P' s' lP a b
    | some p =>
      obtain ⟨y, next⟩ := p
      intro P' s' v led' gl' lP R1 hl1 ha1 ho1 hg1 hv hn
      obtain ⟨a, b⟩ := R1.dropD (R.env.mono lP (.refl _)) d.K d.T
      have ha2 : Apart B led' P' K := fun c oc e => by
        obtain ⟨x, y, z⟩ := ha1 c oc e
        refine ⟨x, ?_, z⟩
        unfold orG at y
        cases q : one D o c with
        | none => rw [q] at y; simpa using y
        | some oo => rw [q] at y; cases y
      have hD' : led' D = none := by
        cases e : led' D with
        | none => rfl
        | some oo =>
          obtain ⟨_, y, _⟩ := ha1 D oo e
          unfold orG at y
          rw [one_self] at y
          cases y
      refine h P' s' v led' gl' lP a (a.addK hl1 ha2 ho1 hg1) ⟨b.here, b.P, ?_, b.T, b.own⟩ hl1 ha2 (fun i x e => (hg1 i x e).2) hD' hv hn
      unfold orG
      rw [hD']; exact b.K

theorem drop_head {α : Type} {l : List α} {d : Nat} : l[d]? = (l.drop d).head? := by simp

theorem loop_ok {elt : Expr} {gs : List Comprehension} {ys out : List CV} {st st' : LSt} (L : LpJ B n ce elt gs ys st out st') : ∀ {A : Around} {env : Env} {P K led : Gh} {g gl : GG} {X : Book} {s : Shared} {R : Result → Shared → Prop} {it D : Addr} {acc : List Value} {ep d : Nat} {gens : List Comprehension} {scope : Scope} {pos : Pos},
    Room A n → gens.drop d = gs → gs ≠ [] → (∀ g ∈ gens, g.is_async = 0 ∧ ∀ env x, foldedSetIterable g.iter env x = pure x) → Rel B P K g X ce env st s → ItJ B n it ys P led gl → LeH led s.heap → Apart B led P K → (∀ a ∈ X.own st.store, led a = none) → GOk gl g s → pures ys = true →
    DOk B D (listObj acc ep) P K (X.own st.store) s → led D = none → acc.length + out.length ≤ 16777216 →
    (∀ P' X' s' acc' ep', Le P P' → X.Le X' → Rel B P' K g X' ce env st' s' → DOk B D (listObj (acc ++ acc') ep') P' K (X'.own st'.store) s' → VRs P' [] out acc' → R (.ok .next) s') →
    codeAny (model B.prog B.w) A (.compLoop (.ListComp elt gens scope pos) d (.ref it) (.ref D) env) R s := by
  induction L with
  | nil =>
    intro A env P K led g gl X s R it D acc ep d gens scope pos hA hd hne hgs Rl I hl ha ho hg hp D0 hD hsz hQ
    obtain ⟨⟨t, iter, ifs, a⟩, gs', rfl⟩ := List.exists_cons_of_ne_nil hne
    obtain ⟨e1, e2⟩ := drop_get hd
    have h0 := hgs _ (List.mem_of_getElem? e1)
    obtain rfl : a = 0 := h0.1
    refine comp_step e1 (fun g' e => (hgs g' (List.mem_of_getElem? e)).1) (fun g' e x => (hgs g' (List.mem_of_getElem? e)).2 env x) fun E => ?_
    refine Rl.drawD hA I.2 hl ha ho hg D0 hD fun P1 s1 lP R1 D1 => ?_
    have := hQ P1 X s1 [] ep lP (.refl X) R1 (by simpa using D1) .nil
    exact this
  | skip h1 h2 _ ih =>
    intro A env P K led g gl X s R it D acc ep d gens scope pos hA hd hne hgs Rl I hl ha ho hg hp D0 hD hsz hQ
    obtain ⟨e1, e2⟩ := drop_get hd
    simp only [pures, Bool.and_eq_true] at hp
    refine comp_step e1 (fun g' e => (hgs g' (List.mem_of_getElem? e)).1) (fun g' e x => (hgs g' (List.mem_of_getElem? e)).2 env x) fun E => ?_
    refine Rl.drawD hA I.2 hl ha ho hg D0 hD fun P1 s1 v led1 gl1 lP R1 R1' D1 hl1 ha1 hg1 hD1 hv I1 => ⟨?_, fun E => ?_⟩
    · obtain ⟨o, T, a, b, c⟩ := I1.self.tup
      exact ⟨o, T, hl1 _ _ a, b, c⟩
    refine h1 A env P1 _ _ X s1 v _ E hA (R1'.addD D1) (hv.pure' hp.1) fun P2 X2 s2 lP2 lX2 R2 E => ?_
    refine h2 A env P2 _ _ X2 s2 _ E hA R2 fun P3 X3 s3 ok lP3 lX3 R3 rok => ?_
    obtain rfl := rok.symm
    rw [if_neg (by decide)]
    have hE := (R1'.env.mono lP2 lX2).mono lP3 lX3
    obtain ⟨R4, D4⟩ := R3.dropD hE D1.K D1.T
    obtain ⟨R5, hl5, ha5, ho5, hg5⟩ := dropK_pair R4 ((R1.env.mono lP2 lX2).mono lP3 lX3) ha1 hg1
    exact ih (R := R) hA hd hne hgs R5 (I1.mono (lP2.trans lP3)) hl5 ha5 ho5 hg5 hp.2 ⟨D4.here, D4.P, D0.K, D4.T, D4.own⟩ hD1 hsz fun P' X' s' acc' ep' lP' lX' R' D' r' => hQ P' X' s' acc' ep' (lP.trans (lP2.trans (lP3.trans lP'))) (lX2.trans (lX3.trans lX')) R' D' r'
  | take h1 h2 h3 hpv _ ih =>
    intro A env P K led g gl X s R it D acc ep d gens scope pos hA hd hne hgs Rl I hl ha ho hg hp D0 hD hsz hQ
    obtain ⟨e1, e2⟩ := drop_get hd
    have e3 : gens[d + 1]? = none := by rw [drop_head, e2]; rfl
    simp only [pures, Bool.and_eq_true] at hp
    simp only [List.length_cons] at hsz
    refine comp_step e1 (fun g' e => (hgs g' (List.mem_of_getElem? e)).1) (fun g' e x => (hgs g' (List.mem_of_getElem? e)).2 env x) fun E => ?_
    refine Rl.drawD hA I.2 hl ha ho hg D0 hD fun P1 s1 v led1 gl1 lP R1 R1' D1 hl1 ha1 hg1 hD1 hv I1 => ⟨?_, fun E => ?_⟩
    · obtain ⟨o, T, a, b, c⟩ := I1.self.tup
      exact ⟨o, T, hl1 _ _ a, b, c⟩
    refine h1 A env P1 _ _ X s1 v _ E hA (R1'.addD D1) (hv.pure' hp.1) fun P2 X2 s2 lP2 lX2 R2 E => ?_
    refine h2 A env P2 _ _ X2 s2 _ E hA R2 fun P3 X3 s3 ok lP3 lX3 R3 rok => ?_
    obtain rfl := rok.symm
    rw [if_pos rfl, e3]
    intro E
    refine h3 A env P3 _ _ X3 s3 _ E hA R3 fun P4 X4 s4 y lP4 lX4 R4 ry E => ?_
    have hE := ((R1'.env.mono lP2 lX2).mono lP3 lX3).mono lP4 lX4
    obtain ⟨R5, D5⟩ := R4.dropD hE D1.K D1.T
    refine wpAny_list_append_plain (items := acc.toArray) ⟨ep, D5.here⟩ (fun h' hp' hs' => ?_) (by rw [sizeLine_eq]; show acc.length ≤ _; walk_at "o")
    have R6 := R5.poke (tk := s4.toks) D5 hs'
    obtain ⟨R7, hl7, ha7, ho7, hg7⟩ := dropK_pair R6 (((R1.env.mono lP2 lX2).mono lP3 lX3).mono lP4 lX4) ha1 hg1
    obtain ⟨ep2, hp2⟩ := hp'
    refine ih (R := R) (acc := acc ++ [y]) (ep := ep2) hA hd hne hgs R7 (I1.mono (lP2.trans (lP3.trans lP4))) hl7 ha7 ho7 hg7 hp.2 ⟨?_, D5.P, D0.K, D5.T, D5.own⟩ hD1 (by simp; walk_at "o") fun P' X' s' acc' ep' lP' lX' R' D' r' => ?_
    · rw [show ({ s4 with heap := h', toks := s4.toks } : Shared).heap = h' from rfl, hp2]
      simp [listObj]
    · exact hQ P' X' s' (y :: acc') ep' (lP.trans (lP2.trans (lP3.trans (lP4.trans lP')))) (lX2.trans (lX3.trans (lX4.trans lX'))) R' (by simpa using D') (.cons ((ry.mono lP' lX'.ι).pure' hpv) r')
  | deep h1 h2 h3 hpz _ _ ih1 ih2 =>
    intro A env P K led g gl X s R it D acc ep d gens scope pos hA hd hne hgs Rl I hl ha ho hg hp D0 hD hsz hQ
    obtain ⟨e1, e2⟩ := drop_get hd
    have e3 := (drop_get e2).1
    simp only [pures, Bool.and_eq_true] at hp
    simp only [List.length_append] at hsz
    refine comp_step e1 (fun g' e => (hgs g' (List.mem_of_getElem? e)).1) (fun g' e x => (hgs g' (List.mem_of_getElem? e)).2 env x) fun E => ?_
    refine Rl.drawD hA I.2 hl ha ho hg D0 hD fun P1 s1 v led1 gl1 lP R1 R1' D1 hl1 ha1 hg1 hD1 hv I1 => ⟨?_, fun E => ?_⟩
    · obtain ⟨o, T, a, b, c⟩ := I1.self.tup
      exact ⟨o, T, hl1 _ _ a, b, c⟩
    refine h1 A env P1 _ _ X s1 v _ E hA (R1'.addD D1) (hv.pure' hp.1) fun P2 X2 s2 lP2 lX2 R2 E => ?_
    refine h2 A env P2 _ _ X2 s2 _ E hA R2 fun P3 X3 s3 ok lP3 lX3 R3 rok => ?_
    obtain rfl := rok.symm
    rw [if_pos rfl, e3]
    intro E
    refine h3 A env P3 _ _ X3 s3 _ E hA R3 fun P4 X4 s4 it4 led4 gl4 lP4 lX4 R4 I4 hl4 ha4 ho4 hg4 R' hR' => ?_
    have hE := ((R1'.env.mono lP2 lX2).mono lP3 lX3).mono lP4 lX4
    obtain ⟨R5, D5⟩ := R4.dropD hE D1.K D1.T
    have ha5 : Apart B led4 P4 (orG led1 K) := fun c oc e => by
      obtain ⟨x, y, z⟩ := ha4 c oc e
      refine ⟨x, ?_, z⟩
      unfold orG at y
      cases q : one D (listObj acc ep) c with
      | none => rw [q] at y; simpa [orG] using y
      | some oo => rw [q] at y; cases y
    have hD4 : led4 D = none := by
      cases e : led4 D with
      | none => rfl
      | some oo =>
        obtain ⟨_, y, _⟩ := ha4 D oo e
        unfold orG at y
        rw [one_self] at y
        cases y
    have inner : codeAny (model B.prog B.w) A (.compLoop (.ListComp elt gens scope pos) (d + 1) (.ref it4) (.ref D) env) R' s4 := by
      refine ih1 (R := R') hA e2 (by simp) hgs R5 I4 hl4 ha5 ho4 hg4 hpz D5 hD4 (by walk_at "o") fun P6 X6 s6 acc6 ep6 lP6 lX6 R6 D6 r6 => hR' s6 ?_
      obtain ⟨R7, hl7, ha7, ho7, hg7⟩ := dropK_pair R6 ((((R1.env.mono lP2 lX2).mono lP3 lX3).mono lP4 lX4).mono lP6 lX6) ha1 hg1
      have hlen := r6.length
      refine ih2 (R := R) (acc := acc ++ acc6) (ep := ep6) hA hd hne hgs R7 (I1.mono (lP2.trans (lP3.trans (lP4.trans lP6)))) hl7 ha7 ho7 hg7 hp.2 ⟨D6.here, D6.P, D0.K, D6.T, D6.own⟩ hD1 (by simp; walk_at "o") fun P' X' s' acc' ep' lP' lX' R' D' r' => ?_
      exact hQ P' X' s' (acc6 ++ acc') ep' (lP.trans (lP2.trans (lP3.trans (lP4.trans (lP6.trans lP'))))) (lX2.trans (lX3.trans (lX4.trans (lX6.trans lX')))) R' (by simpa using D') ((r6.mono lP' (.refl _)).append r')
    exact compStart_ok e3 inner fun E => I4.self.self A s4 _ E hA R5.inv.perm hl4 inner
end
end Mine

namespace Mine

section
variable {B : Base} {n : Nat} {ce ce' : CEnv} {st st1 st2 st3 st4 st5 : LSt} {v v1 v2 : CV} {P P' K led : Gh} {g gl g' : GG} {X X' : Book} {env env' : Env} {s s' s'' : Shared}

theorem InvS.newP (I : InvS B P K g s) {a : Addr} (h : s.heap.objs.size ≤ a) : P a = none := by
  cases e : P a with
  | none => rfl
  | some o => exact absurd (Heap.lt_size (I.perm _ _ e)) (Nat.not_lt.mpr h)
theorem InvS.newK (I : InvS B P K g s) {a : Addr} (h : s.heap.objs.size ≤ a) : K a = none := by
  cases e : K a with
  | none => rfl
  | some o => exact absurd (Heap.lt_size (I.keep _ _ e)) (Nat.not_lt.mpr h)
theorem InvS.newT (I : InvS B P K g s) {a : Addr} (h : s.heap.objs.size ≤ a) : ∀ t ∈ B.tabs, t.P ≠ a := fun t ht q => by
  obtain ⟨_, _, ps, e, _⟩ := I.tabs t ht
  exact absurd (Heap.lt_size e) (by rw [q]; exact Nat.not_lt.mpr h)
theorem Rel.below (R : Rel B P K g X ce env st s) {a : Addr} (h : a ∈ X.own st.store) : a < s.heap.objs.size := by
  obtain ⟨o, e⟩ := R.alive a h
  exact Heap.lt_size e

/-- what is in our hands becomes permanent -/
theorem Rel.putD {D : Addr} {o : Obj} (R : Rel B P K g X ce env st s) (d : DOk B D o P K (X.own st.store) s) : Le P (P.put D o) ∧ Rel B (P.put D o) K g X ce env st s :=
  ⟨Gh.put_le d.P, R.same (Gh.put_le d.P) (R.inv.put d.here d.P d.K d.T) (fun _ _ _ e => e) fun a ha => (Gh.put_ne (fun (q : a = D) => d.own (q ▸ ha))).trans (R.off a ha).1⟩

/-- a new frame, over the same store -/
theorem Rel.enter (R : Rel B P K g X ce env st s) {C : Addr} {cs : List (Str × Addr)} {vars : List (Str × CV)} (hh : ∀ b o, s.heap.get? b = some o → s'.heap.get? b = some o) (hos : s'.os = s.os) (hgs : s'.gens = s.gens)
    (hC : ∀ a ∈ C :: cs.map (·.2), s.heap.objs.size ≤ a) (hn : (C :: cs.map (·.2)).Nodup)
    (hE : EnvOk P (frK X.fown s.heap K) ⟨C, cs, X.ι⟩ ce' env')
    (hloc : ∃ m, s'.heap.Ns C m ∧ ∀ x cv, ce'.scope.names.lookup x = some .local → vars.lookup x = some cv → ∃ v, m x = some v ∧ VR P X.ι cv v)
    (hcel : ∀ x c, (x, c) ∈ cs → ∃ v, s'.heap.IsCell c v ∧ ∀ cv, vars.lookup x = some cv → ∃ u, v = some u ∧ VR P X.ι cv u) :
    Rel B P (frK X.fown s.heap K) g ⟨C, cs, X.ι⟩ ce' env' ⟨vars, st.store⟩ s' where
  inv := ((R.inv.frame X.fown (fun a ha => (R.off a (List.mem_append_left _ ha)).1) fun a ha => (R.off a (List.mem_append_left _ ha)).2.2).weakG R.inv.gk).grow hh hos hgs
  env := hE
  loc := hloc
  cel := hcel
  sto := R.sto.mono (Le.refl P) (.refl _) fun b _ o e => hh b o e
  own := by
    refine List.nodup_append.mpr ⟨hn, (List.nodup_append.mp R.own).2.1, fun a ha b hb q => ?_⟩
    subst q
    exact absurd (R.below (List.mem_append_right _ hb)) (Nat.not_lt.mpr (hC a ha))
  off := fun a ha => by
    rcases List.mem_append.mp ha with ha | ha
    · have h := hC a ha
      refine ⟨R.inv.newP h, ?_, R.inv.newT h⟩
      rw [frK_out fun q => absurd (R.below (List.mem_append_left _ q)) (Nat.not_lt.mpr h)]
      exact R.inv.newK h
    · have h := R.off a (List.mem_append_right _ ha)
      refine ⟨h.1, ?_, h.2.2⟩
      rw [frK_out fun q => (List.nodup_append.mp R.own).2.2 a q a ha rfl]
      exact h.2.1
theorem Rel.leave (R : Rel B P K g X ce env st s) (hP : Le P P') {X2 : Book} {st2 : LSt} (R2 : Rel B P' (frK X.fown s.heap K) g' X2 ce' env' st2 s') (hι : X2.ι = X.ι) (hg : ∀ i x, g i = some x → g' i = some x) :
    Rel B P' K g X ce env ⟨st.vars, st2.store⟩ s' := by
  have hk : ∀ a ∈ X.fown, ∀ o, s.heap.get? a = some o → s'.heap.get? a = some o := fun a ha o e => R2.inv.keep a o (by rw [frK_in ha]; exact e)
  have hnK : ∀ a ∈ X.fown, ∃ o, frK X.fown s.heap K a = some o := fun a ha => by
    rw [frK_in ha]; exact R.alive a (List.mem_append_left _ ha)
  have hdis : ∀ a ∈ X.fown, a ∉ stoOwn X.ι st2.store := fun a ha hb => by
    obtain ⟨o, e⟩ := hnK a ha
    rw [(R2.off a (List.mem_append_right _ (by rw [hι]; exact hb))).2.1] at e; (first|subst e|obtain rfl:=sj e|exact n1 e|exact n2 e|exact b1 e|exact b2 e|cases e)
  refine ⟨R2.inv.unframe (fun a ha => (R.off a (List.mem_append_left _ ha)).2.1) hg, R.env.mono hP (.refl X), ?_, ?_, ?_, ?_, ?_⟩
  · obtain ⟨m, ⟨o, es, ep, e, r⟩, h⟩ := R.loc
    exact ⟨m, ⟨o, es, ep, hk _ (by simp) _ e, r⟩, fun x cv a b => let ⟨v, c, d⟩ := h x cv a b; ⟨v, c, d.mono hP (.refl _)⟩⟩
  · intro x c hx
    obtain ⟨v, ⟨o, e, r⟩, h⟩ := R.cel x c hx
    exact ⟨v, ⟨o, hk c (List.mem_cons_of_mem _ (List.mem_map.mpr ⟨_, hx, rfl⟩)) o e, r⟩, fun cv hc => let ⟨u, a, b⟩ := h cv hc; ⟨u, a, b.mono hP (.refl _)⟩⟩
  · exact hι ▸ R2.sto
  · refine List.nodup_append.mpr ⟨(List.nodup_append.mp R.own).1, hι ▸ (List.nodup_append.mp R2.own).2.1, fun a ha b hb q => ?_⟩
    subst q; exact hdis a ha hb
  · intro a ha
    rcases List.mem_append.mp ha with ha | ha
    · obtain ⟨o, e⟩ := hnK a ha
      exact ⟨R2.inv.apart a o e, (R.off a (List.mem_append_left _ ha)).2⟩
    · obtain ⟨x, y, z⟩ := R2.off a (List.mem_append_right _ (by rw [hι]; exact ha))
      refine ⟨x, ?_, z⟩
      rw [frK_out fun q => hdis a q ha] at y; exact y
end

/-! ## closures -/
noncomputable def closL (cells : List (Str × Addr)) : List (Str × NameKind) → List (Str × Addr) → List (Str × Addr)
  | [], acc => acc
  | (n, k) :: r, acc => if k == .free then closL cells r ((n, (cells.lookup n).getD 0) :: acc) else closL cells r acc
theorem forIn_clos {env : Env} (f : Str × NameKind → List (Str × Addr) → Sem (ForInStep (List (Str × Addr)))) (hf : ∀ n k cs, f (n, k) cs = if k == .free then (do let a ← cellOf env n; pure (.yield ((n, a) :: cs))) else pure (.yield cs)) :
    ∀ (names : List (Str × NameKind)) (acc : List (Str × Addr)), (∀ x, (x, NameKind.free) ∈ names → ∃ c, env.cells.lookup x = some c) → forIn names acc f = pure (closL env.cells names acc)
  | [], acc, _ => by simp [closL]
  | (n, k) :: r, acc, h => by
    rw [List.forIn_cons, hf]
    have ih := forIn_clos f hf r
    by_cases hk : k = .free
    · subst hk
      obtain ⟨c, hc⟩ := h n (.head _)
      simp only [beq_self_eq_true, if_true, cellOf, hc, closL, Option.getD_some]
      exact ih _ fun x hx => h x (.tail _ hx)
    · have hb : (k == NameKind.free) = false := by simpa using hk
      simp only [hb, Bool.false_eq_true, if_false, closL]
      exact ih _ fun x hx => h x (.tail _ hx)
theorem closureFor_eq {scope : Scope} {env : Env} (h : ∀ x, (x, NameKind.free) ∈ scope.names → ∃ c, env.cells.lookup x = some c) : closureFor scope env = pure (closL env.cells scope.names []) := by
  unfold closureFor
  have key := forIn_clos (env := env) (fun x cs => if (x.2 == NameKind.free) = true then do
      let a ← cellOf env x.1
      pure (ForInStep.yield ((x.1, a) :: cs)) else pure (ForInStep.yield cs)) (fun n k cs => rfl) scope.names [] h
  show (forIn scope.names [] _ >>= fun cs => pure cs) = _
  refine Eq.trans ?_ (congrArg (· >>= fun cs => pure cs) key)
  rfl
theorem closL_mem {cells : List (Str × Addr)} : ∀ {names : List (Str × NameKind)} {acc : List (Str × Addr)}, (∀ x, (x, NameKind.free) ∈ names → ∃ c, cells.lookup x = some c) → (∀ x c, (x, c) ∈ acc → cells.lookup x = some c) → ∀ x c, (x, c) ∈ closL cells names acc → cells.lookup x = some c
  | [], acc, _, h, x, c, hx => h x c hx
  | (n, k) :: r, acc, h0, h, x, c, hx => by
    unfold closL at hx
    split at hx
    · rename_i hk
      refine closL_mem (fun y hy => h0 y (.tail _ hy)) (fun y d hy => ?_) x c hx
      rcases List.mem_cons.mp hy with e | hy
      · (first|subst e|obtain rfl:=sj e|exact n1 e|exact n2 e|exact b1 e|exact b2 e|cases e)
        obtain ⟨c, hc⟩ := h0 n (by rw [show k = NameKind.free by simpa using hk]; exact .head _)
        rw [hc]; rfl
      · exact h y d hy
    · exact closL_mem (fun y hy => h0 y (.tail _ hy)) h x c hx
theorem closL_acc {cells : List (Str × Addr)} : ∀ {names : List (Str × NameKind)} {acc : List (Str × Addr)} {x : Str}, (acc.lookup x).isSome = true → ((closL cells names acc).lookup x).isSome = true
  | [], _, _, h => h
  | (n, k) :: r, acc, x, h => by
    unfold closL
    split
    · refine closL_acc ?_
      rw [List.lookup_cons]
      split
      · rfl
      · exact h
    · exact closL_acc h
theorem closL_has {cells : List (Str × Addr)} : ∀ {names : List (Str × NameKind)} {acc : List (Str × Addr)} {x : Str}, (x, NameKind.free) ∈ names → ((closL cells names acc).lookup x).isSome = true
  | (n, k) :: r, acc, x, h => by
    unfold closL
    rcases List.mem_cons.mp h with e | h
    · (first|subst e|obtain rfl:=sj e|exact n1 e|exact n2 e|exact b1 e|exact b2 e|cases e)
      simp only [beq_self_eq_true, if_true]
      refine closL_acc ?_
      simp [List.lookup_cons]
    · split
      · exact closL_has h
      · exact closL_has h
theorem closL_get {cells : List (Str × Addr)} {names : List (Str × NameKind)} (h : ∀ x, (x, NameKind.free) ∈ names → ∃ c, cells.lookup x = some c) {x : Str} (hx : (x, NameKind.free) ∈ names) : (closL cells names []).lookup x = cells.lookup x := by
  obtain ⟨c, hc⟩ := Option.isSome_iff_exists.mp (closL_has (cells := cells) (acc := []) hx)
  rw [hc, closL_mem h (fun _ _ hm => by (first|subst hm|obtain rfl:=sj hm|exact n1 hm|exact n2 hm|exact b1 hm|exact b2 hm|cases hm)) x c (mem_lookup hc)]

theorem cellsFrom_app : ∀ (names : List (Str × NameKind)) (m : Nat) (acc : List (Str × Addr)), cellsFrom m names acc = cellsFrom m names [] ++ acc
  | [], m, acc => rfl
  | (n, k) :: r, m, acc => by
    unfold cellsFrom
    split
    · rw [cellsFrom_app r (m + 1) ((n, m) :: acc), cellsFrom_app r (m + 1) [(n, m)]]; simp
    · exact cellsFrom_app r m acc
theorem cellsFrom_key : ∀ {names : List (Str × NameKind)} {m : Nat} {acc : List (Str × Addr)} {x : Str} {c : Addr}, (x, c) ∈ cellsFrom m names acc → (x, NameKind.cell) ∈ names ∨ (x, c) ∈ acc
  | [], m, acc, x, c, h => .inr h
  | (n, k) :: r, m, acc, x, c, h => by
    unfold cellsFrom at h
    split at h
    · rename_i hk
      rcases cellsFrom_key h with h | h
      · exact .inl (.tail _ h)
      · rcases List.mem_cons.mp h with e | h
        · (first|subst e|obtain rfl:=sj e|exact n1 e|exact n2 e|exact b1 e|exact b2 e|cases e); exact .inl (by rw [show k = NameKind.cell by simpa using hk]; exact .head _)
        · exact .inr h
    · rcases cellsFrom_key h with h | h
      · exact .inl (.tail _ h)
      · exact .inr h
theorem cellsFrom_acc : ∀ {names : List (Str × NameKind)} {m : Nat} {acc : List (Str × Addr)} {x : Str}, (acc.lookup x).isSome = true → ((cellsFrom m names acc).lookup x).isSome = true
  | [], _, _, _, h => h
  | (n, k) :: r, m, acc, x, h => by
    unfold cellsFrom
    split
    · refine cellsFrom_acc ?_
      rw [List.lookup_cons]
      split
      · rfl
      · exact h
    · exact cellsFrom_acc h
theorem cellsFrom_has : ∀ {names : List (Str × NameKind)} {m : Nat} {acc : List (Str × Addr)} {x : Str}, (x, NameKind.cell) ∈ names → ((cellsFrom m names acc).lookup x).isSome = true
  | (n, k) :: r, m, acc, x, h => by
    unfold cellsFrom
    rcases List.mem_cons.mp h with e | h
    · (first|subst e|obtain rfl:=sj e|exact n1 e|exact n2 e|exact b1 e|exact b2 e|cases e)
      simp only [beq_self_eq_true, if_true]
      refine cellsFrom_acc ?_
      simp [List.lookup_cons]
    · split
      · exact cellsFrom_has h
      · exact cellsFrom_has h
theorem cellsFrom_nodup : ∀ {names : List (Str × NameKind)} {m : Nat} {acc : List (Str × Addr)}, (names.map (·.1)).Nodup → (acc.map (·.1)).Nodup → (∀ x ∈ acc.map (·.1), x ∉ names.map (·.1)) → ((cellsFrom m names acc).map (·.1)).Nodup
  | [], _, _, _, h, _ => h
  | (n, k) :: r, m, acc, h1, h2, h3 => by
    simp only [List.map_cons, List.nodup_cons] at h1
    unfold cellsFrom
    split
    · refine cellsFrom_nodup h1.2 ?_ fun x hx => ?_
      · simp only [List.map_cons, List.nodup_cons]
        exact ⟨fun hx => h3 n hx (by simp), h2⟩
      · rcases List.mem_cons.mp hx with rfl | hx
        · exact h1.1
        · exact fun q => h3 x hx (by simp only [List.map_cons]; exact .tail _ q)
    · exact cellsFrom_nodup h1.2 h2 fun x hx q => h3 x hx (by simp only [List.map_cons]; exact .tail _ q)
theorem lookup_nodup {α : Type} : ∀ {l : List (Str × α)} {x : Str} {k : α}, (l.map (·.1)).Nodup → (x, k) ∈ l → l.lookup x = some k
  | (y, k') :: r, x, k, h, hm => by
    simp only [List.map_cons, List.nodup_cons] at h
    rw [List.lookup_cons]
    rcases List.mem_cons.mp hm with e | hm
    · (first|subst e|obtain rfl:=sj e|exact n1 e|exact n2 e|exact b1 e|exact b2 e|cases e); simp
    · have : (x == y) = false := by
        simpa using fun q : x = y => h.1 (q ▸ List.mem_map.mpr ⟨_, hm, rfl⟩)
      rw [this]; exact lookup_nodup h.2 hm
theorem lookup_app {α : Type} : ∀ {l r : List (Str × α)} {x : Str}, (l ++ r).lookup x = (l.lookup x).or (r.lookup x)
  | [], r, x => by simp
  | (y, k) :: l, r, x => by
    simp only [List.cons_append, List.lookup_cons]
    split
    · rfl
    · exact lookup_app

/-! ## a comprehension's own frame -/
noncomputable def relabS (scope sc : Scope) : Scope := { scope with names := scope.names.map fun (n, k) => if (k == .free && sc.kind == .function && sc.names.lookup n == some .cell) then (n, .cell) else (n, k) }
noncomputable def capV (ce : CEnv) (st : LSt) (x : Str) : Option CV := match ce.scope.names.lookup x with
  | some .cell => (ce.free.lookup x).or (st.vars.lookup x)
  | some .free => ce.free.lookup x
  | _ => none
noncomputable def capt (ce : CEnv) (st : LSt) : List (Str × NameKind) → List (Str × CV)
  | [] => []
  | (x, k) :: r => if k == .free then (match capV ce st x with | some v => (x, v) :: capt ce st r | none => capt ce st r) else capt ce st r
noncomputable def captOk (ce : CEnv) (st : LSt) (names : List (Str × NameKind)) : Bool := names.all fun (x, k) => k != .free || (capV ce st x).isSome
theorem capt_mem {ce : CEnv} {st : LSt} : ∀ {names : List (Str × NameKind)} {x : Str} {v : CV}, (x, v) ∈ capt ce st names → (x, NameKind.free) ∈ names ∧ capV ce st x = some v
  | (n, k) :: r, x, v, h => by
    unfold capt at h
    split at h
    · rename_i hk
      have hk' : k = .free := by simpa using hk
      subst hk'
      split at h
      · rename_i u hu
        rcases List.mem_cons.mp h with e | h
        · (first|subst e|obtain rfl:=sj e|exact n1 e|exact n2 e|exact b1 e|exact b2 e|cases e); exact ⟨.head _, hu⟩
        · exact ⟨.tail _ (capt_mem h).1, (capt_mem h).2⟩
      · exact ⟨.tail _ (capt_mem h).1, (capt_mem h).2⟩
    · exact ⟨.tail _ (capt_mem h).1, (capt_mem h).2⟩
theorem capt_has {ce : CEnv} {st : LSt} : ∀ {names : List (Str × NameKind)} {x : Str}, (x, NameKind.free) ∈ names → (capV ce st x).isSome = true → ((capt ce st names).lookup x).isSome = true
  | (n, k) :: r, x, h, hv => by
    unfold capt
    rcases List.mem_cons.mp h with e | h
    · (first|subst e|obtain rfl:=sj e|exact n1 e|exact n2 e|exact b1 e|exact b2 e|cases e)
      obtain ⟨v, hv⟩ := Option.isSome_iff_exists.mp hv
      simp only [beq_self_eq_true, if_true, hv]
      simp [List.lookup_cons]
    · split
      · split
        · rw [List.lookup_cons]
          split
          · rfl
          · exact capt_has h hv
        · exact capt_has h hv
      · exact capt_has h hv
theorem relab_look {sc : Scope} : ∀ {names : List (Str × NameKind)} {x : Str}, (names.map fun (p : Str × NameKind) => if (p.2 == .free && sc.kind == .function && sc.names.lookup p.1 == some .cell) then (p.1, NameKind.cell) else (p.1, p.2)).lookup x =
    (names.lookup x).map fun k => if (k == .free && sc.kind == .function && sc.names.lookup x == some .cell) then NameKind.cell else k
  | [], x => rfl
  | (n, k) :: r, x => by
    have ih := relab_look (sc := sc) (names := r) (x := x)
    simp only [List.map_cons]
    cases hx : x == n with
    | true =>
      have e : x = n := by simpa using hx
      subst e
      cases h : (k == NameKind.free && sc.kind == .function && sc.names.lookup x == some .cell) <;> simp only [h, if_true, if_false, Bool.false_eq_true, List.lookup_cons, beq_self_eq_true, Option.map_some]
    | false =>
      cases h : (k == NameKind.free && sc.kind == .function && sc.names.lookup n == some .cell) <;> simp only [if_true, if_false, Bool.false_eq_true, List.lookup_cons, hx] <;> exact ih
end Mine

namespace Mine

theorem newComp_ok {M : Model} {A : Around} {E : Value → Shared → Prop} {s : Shared} {scope : Scope} {env : Env} {cl : List (Str × Addr)} {Q : Env → Shared → Prop}
    (h : Q { scope, locals := s.heap.objs.size, globals := env.globals, cells := cellsFrom (s.heap.objs.size + 1) scope.names cl, qual := env.qual, func := none, code := env.code, frame := env.frame, builtins := env.builtins }
      { s with heap := pushCells (s.heap.push { cls := .type "dict", data := .dict #[] }) scope.names }) :
    wpAny M A (newFunctionEnv scope env.globals cl [] env.qual none .none (some env)) Q E s := by
  simp only [newFunctionEnv, Option.isSome_some, if_true]
  refine wpAny_bind (wpAny_alloc ?_)
  refine wpAny_bind (wpAny_layCells _ (fun name kind cells => by cases hkc : kind == NameKind.cell <;> simp [hkc]) _ _ _ _ ?_)
  rw [show ({ s with heap := s.heap.push { cls := .type "dict", data := .dict #[] } } : Shared).heap.objs.size = s.heap.objs.size + 1 from Heap.size_push ..]
  exact wpAny_bind (wpAny_pure (wpAny_pure h))

section
variable {B : Base} {n : Nat} {ce ce' : CEnv} {st st1 st2 st3 st4 st5 : LSt} {v v1 v2 : CV} {P P' K led : Gh} {g gl g' : GG} {X X' : Book} {env env' : Env} {s s' s'' : Shared}

noncomputable abbrev compCE (ce : CEnv) (st : LSt) (scope : Scope) : CEnv := ⟨relabS scope ce.scope, capt ce st scope.names⟩
/-- what must be so of a comprehension's names; to be decided -/
structure CompOk (ce : CEnv) (st : LSt) (scope : Scope) : Prop where
  kind : scope.kind = .function
  nodup : (scope.names.map (·.1)).Nodup
  capt : captOk ce st scope.names = true

theorem Rel.capt (R : Rel B P K g X ce env st s) {x : Str} {cv : CV} (h : capV ce st x = some cv) : ∃ c v, env.cells.lookup x = some c ∧ (∃ o, (frK X.fown s.heap K c = some o ∨ P c = some o) ∧ o.data = .cell (some v)) ∧ VR P X.ι cv v := by
  have fr : ce.free.lookup x = some cv → ∃ c v, env.cells.lookup x = some c ∧ (∃ o, (frK X.fown s.heap K c = some o ∨ P c = some o) ∧ o.data = .cell (some v)) ∧ VR P X.ι cv v := fun hf => by
    obtain ⟨c, u, h1, ⟨o, h2, h3⟩, r⟩ := R.env.free x cv hf
    refine ⟨c, u, h1, ⟨o, h2.imp (fun h2 => ?_) id, h3⟩, r⟩
    rw [frK_out fun q => ?_]
    · exact h2
    · have := (R.off c (List.mem_append_left _ q)).2.1
      rw [h2] at this; (first|subst this|obtain rfl:=sj this|exact n1 this|exact n2 this|exact b1 this|exact b2 this|cases this)
  unfold capV at h
  split at h
  · rename_i hl
    cases hf : ce.free.lookup x with
    | some u => rw [hf] at h; simp at h; subst h; exact fr hf
    | none =>
      rw [hf] at h
      simp only [Option.none_or] at h
      obtain ⟨c, h1, h2⟩ := R.env.cell x hl hf
      obtain ⟨w, ⟨o, e1, e2⟩, hv⟩ := R.cel x c (mem_lookup h2)
      obtain ⟨u, rfl, r⟩ := hv cv h
      refine ⟨c, u, h1, ⟨o, .inl ?_, e2⟩, r⟩
      rw [frK_in (List.mem_cons_of_mem _ (List.mem_map.mpr ⟨_, mem_lookup h2, rfl⟩))]
      exact e1
  · exact fr h
  · (first|subst h|obtain rfl:=sj h|exact n1 h|exact n2 h|exact b1 h|exact b2 h|cases h)

theorem Rel.comp (R : Rel B P K g X ce env st s) {scope : Scope} (hc : CompOk ce st scope) :
    closureFor scope env = pure (closL env.cells scope.names []) ∧
    ∀ s1 : Shared, (∀ b o, s.heap.get? b = some o → s1.heap.get? b = some o) → s1.os = s.os → s1.gens = s.gens → s.heap.objs.size ≤ s1.heap.objs.size →
      Rel B P (frK X.fown s.heap K) g ⟨s1.heap.objs.size, cellsFrom (s1.heap.objs.size + 1) scope.names [], X.ι⟩ (compCE ce st scope)
        { scope := relabel scope env, locals := s1.heap.objs.size, globals := env.globals, cells := cellsFrom (s1.heap.objs.size + 1) scope.names (closL env.cells scope.names []), qual := env.qual, func := none, code := env.code, frame := env.frame, builtins := env.builtins }
        ⟨[], st.store⟩ { s1 with heap := pushCells (s1.heap.push { cls := .type "dict", data := .dict #[] }) scope.names } := by
  have hval : ∀ x, (x, NameKind.free) ∈ scope.names → ∃ cv, capV ce st x = some cv := fun x hx => by
    have := hc.capt
    unfold captOk at this
    rw [List.all_eq_true] at this
    have := this _ hx
    simp only [bne_self_eq_false, Bool.false_or] at this
    exact Option.isSome_iff_exists.mp this
  have hfree : ∀ x, (x, NameKind.free) ∈ scope.names → ∃ c, env.cells.lookup x = some c := fun x hx => by
    obtain ⟨cv, h⟩ := hval x hx
    obtain ⟨c, v, a, _⟩ := R.capt h
    exact ⟨c, a⟩
  refine ⟨closureFor_eq hfree, fun s1 hh hos hgs hsz => ?_⟩
  generalize hown : cellsFrom (s1.heap.objs.size + 1) scope.names [] = own
  have ok := cellsFrom_ok scope.names (s1.heap.push { cls := .type "dict", data := .dict #[] }) (s1.heap.objs.size + 1) [] ⟨fun _ _ hm => (nomatch hm), List.Pairwise.nil⟩ (by rw [Heap.size_push]; exact Nat.le_refl _)
  rw [Heap.size_push, hown] at ok
  have hnm : (own.map (·.1)).Nodup := by rw [← hown]; exact cellsFrom_nodup hc.nodup (by simp) (by simp)
  have hrel : relabel scope env = relabS scope ce.scope := by unfold relabel relabS Env.kindOf; rw [R.env.scope]
  have hkey : ∀ x c, (x, c) ∈ own → (x, NameKind.cell) ∈ scope.names := fun x c hx => by
    rw [← hown] at hx
    rcases cellsFrom_key hx with h | h
    · exact h
    · (first|subst h|obtain rfl:=sj h|exact n1 h|exact n2 h|exact b1 h|exact b2 h|cases h)
  have hlk : ∀ x, (relabS scope ce.scope).names.lookup x = (scope.names.lookup x).map fun k => if (k == .free && ce.scope.kind == .function && ce.scope.names.lookup x == some .cell) then NameKind.cell else k := fun x => relab_look
  refine R.enter (fun b o e => pushCells_keeps _ _ b o (Heap.get?_push_of_some _ (hh b o e))) hos hgs (fun a ha => ?_) ?_ ?_ ?_ ?_
  · rcases List.mem_cons.mp ha with rfl | ha
    · exact hsz
    · obtain ⟨⟨x, c⟩, hx, rfl⟩ := List.mem_map.mp ha
      have := (ok.empty x c hx).2
      exact Nat.le_trans hsz (Nat.le_of_succ_le this)
  · refine List.nodup_cons.mpr ⟨fun hx => ?_, ?_⟩
    · obtain ⟨⟨x, c⟩, hx, e⟩ := List.mem_map.mp hx
      have := (ok.empty x c hx).2
      have e' : c = s1.heap.objs.size := e
      subst e'
      exact Nat.not_succ_le_self _ this
    · exact List.pairwise_map.mpr ok.apart
  · refine ⟨hrel, hc.kind, rfl, R.env.globals, R.env.bui, fun x hx hf => ?_, fun x c hx => ?_, hnm, fun x cv hx => ?_⟩
    · rw [hlk] at hx
      obtain ⟨k, hk, e⟩ := Option.map_eq_some_iff.mp hx
      have hm := mem_lookup hk
      have hkc : k = .cell := by
        split at e
        · rename_i q
          simp only [Bool.and_eq_true, beq_iff_eq] at q
          rw [q.1.1] at hm
          obtain ⟨cv, hv⟩ := hval x hm
          have := capt_has hm (by rw [hv]; rfl)
          rw [hf] at this; (first|subst this|obtain rfl:=sj this|exact n1 this|exact n2 this|exact b1 this|exact b2 this|cases this)
        · exact e
      subst hkc
      obtain ⟨c, hcc⟩ := Option.isSome_iff_exists.mp (cellsFrom_has (m := s1.heap.objs.size + 1) (acc := []) hm)
      rw [hown] at hcc
      refine ⟨c, ?_, hcc⟩
      show (cellsFrom _ _ _).lookup x = _
      rw [cellsFrom_app, hown, lookup_app, hcc]; rfl
    · rw [hlk, lookup_nodup hc.nodup (hkey x c hx)]; rfl
    · obtain ⟨hm, hv⟩ := capt_mem (mem_lookup hx)
      obtain ⟨c, v, a, b, r⟩ := R.capt hv
      refine ⟨c, v, ?_, b, r⟩
      show (cellsFrom _ _ _).lookup x = _
      rw [cellsFrom_app, hown, lookup_app, closL_get hfree hm, a]
      have : own.lookup x = none := by
        cases e : own.lookup x with
        | none => rfl
        | some d =>
          have h1 := lookup_nodup hc.nodup (hkey x d (mem_lookup e))
          have h2 := lookup_nodup hc.nodup hm
          rw [h1] at h2; (first|subst h2|obtain rfl:=sj h2|exact n1 h2|exact n2 h2|exact b1 h2|exact b2 h2|cases h2)
      rw [this]; rfl
  · exact ⟨_, (Heap.Ns.new s1.heap (.type "dict")).keeps (pushCells_keeps _ _), fun x cv _ h => by (first|subst h|obtain rfl:=sj h|exact n1 h|exact n2 h|exact b1 h|exact b2 h|cases h)⟩
  · exact fun x c hx => ⟨_, (ok.empty x c hx).1, fun cv h => by (first|subst h|obtain rfl:=sj h|exact n1 h|exact n2 h|exact b1 h|exact b2 h|cases h)⟩

theorem cellsFrom_ge : ∀ {names : List (Str × NameKind)} {m : Nat} {acc : List (Str × Addr)} {x : Str} {c : Addr}, (x, c) ∈ cellsFrom m names acc → m ≤ c ∨ (x, c) ∈ acc
  | [], m, acc, x, c, h => .inr h
  | (n, k) :: r, m, acc, x, c, h => by
    unfold cellsFrom at h
    split at h
    · rcases cellsFrom_ge h with h | h
      · exact .inl (Nat.le_of_succ_le h)
      · rcases List.mem_cons.mp h with e | h
        · (first|subst e|obtain rfl:=sj e|exact n1 e|exact n2 e|exact b1 e|exact b2 e|cases e); exact .inl (Nat.le_refl _)
        · exact .inr h
    · exact cellsFrom_ge h

structure GensOk (gens : List Comprehension) : Prop where
  ok : ∀ g ∈ gens, g.is_async = 0 ∧ ∀ env x, foldedSetIterable g.iter env x = pure x
theorem GensOk.one {t iter : Expr} {ifs : List Expr} (h : autoParam (∀ env x, foldedSetIterable iter env x = pure x) tRfl2) : GensOk [⟨t, iter, ifs, 0⟩] := ⟨fun g hg => by
  rw [List.mem_singleton] at hg; subst hg; exact ⟨rfl, h⟩⟩
theorem GensOk.two {t iter t' iter' : Expr} {ifs ifs' : List Expr} (h : autoParam (∀ env x, foldedSetIterable iter env x = pure x) tRfl2) (h' : autoParam (∀ env x, foldedSetIterable iter' env x = pure x) tRfl2) : GensOk [⟨t, iter, ifs, 0⟩, ⟨t', iter', ifs', 0⟩] := ⟨fun g hg => by
  rcases List.mem_cons.mp hg with rfl | hg
  · exact ⟨rfl, h⟩
  · rw [List.mem_singleton] at hg; subst hg; exact ⟨rfl, h'⟩⟩

theorem comp_core {A : Around} {elt t iter : Expr} {ifs : List Expr} {gs : List Comprehension} {scope : Scope} {pos : Pos} {ys out : List CV} {st' : LSt} {it : Addr} {RR : Value → Addr → Result → Shared → Prop} {E : Value → Shared → Prop}
    (hA : Room A n) (R : Rel B P K g X ce env st s) (I : ItJ B n it ys P led gl) (hl : LeH led s.heap) (ha : Apart B led P K) (ho : ∀ a ∈ X.own st.store, led a = none) (hgl : GOk gl g s) (hp : pures ys = true)
    (hc : CompOk ce st scope) (hg : GensOk (⟨t, iter, ifs, 0⟩ :: gs)) (L : LpJ B n (compCE ce st scope) elt (⟨t, iter, ifs, 0⟩ :: gs) ys ⟨[], st.store⟩ out st') (hlen : st'.store.length = st.store.length) (hsz : out.length ≤ 16777216)
    (hQ : ∀ P' s' D C m oC acc ep, Le P P' → Rel B P' K g X ce env ⟨st.vars, st'.store⟩ s' → DOk B D (listObj acc ep) P' K (X.own st'.store) s' → DOk B C oC P' K (X.own st'.store) s' → s'.heap.Ns C m → D ≠ C → VRs P' [] out acc → (∀ a ∈ X.fown, ∀ o, s.heap.get? a = some o → s'.heap.get? a = some o) → RR (.ref D) C (.ok .next) s') :
    wpAny (model B.prog B.w) A (newList []) (fun acc s₃ => wpAny (model B.prog B.w) A (newFunctionEnv scope env.globals (closL env.cells scope.names []) [] env.qual none .none (some env)) (fun cenv s₄ =>
      codeAny (model B.prog B.w) A (.compStart (.ListComp elt (⟨t, iter, ifs, 0⟩ :: gs) scope pos) 0 (.ref it) acc { cenv with scope := relabel scope env }) (RR acc cenv.locals) s₄) E s₃) E s := by
  refine wpAny_newObj_type (newComp_ok ?_) (by show 0 ≤ sizeLine; walk_at "o")
  simp only []
  have key := (R.comp hc).2 { s with heap := s.heap.push (listObj [] 0) } (fun b o e => Heap.get?_push_of_some _ e) rfl rfl (by show s.heap.objs.size ≤ (s.heap.push _).objs.size; rw [Heap.size_push]; walk_at "o")
  have hC : ({ s with heap := s.heap.push (listObj [] 0) } : Shared).heap.objs.size = s.heap.objs.size + 1 := Heap.size_push ..
  show codeAny (model B.prog B.w) A (.compStart (.ListComp elt (⟨t, iter, ifs, 0⟩ :: gs) scope pos) 0 (.ref it) (.ref s.heap.objs.size) { scope := relabel scope env, locals := ({ s with heap := s.heap.push (listObj [] 0) } : Shared).heap.objs.size, globals := env.globals, cells := cellsFrom (({ s with heap := s.heap.push (listObj [] 0) } : Shared).heap.objs.size + 1) scope.names (closL env.cells scope.names []), qual := env.qual, func := none, code := env.code, frame := env.frame, builtins := env.builtins }) (RR (.ref s.heap.objs.size) ({ s with heap := s.heap.push (listObj [] 0) } : Shared).heap.objs.size) { s with heap := pushCells ((s.heap.push (listObj [] 0)).push { cls := .type "dict", data := .dict #[] }) scope.names }
  generalize hcenv : ({ scope := relabel scope env, locals := ({ s with heap := s.heap.push (listObj [] 0) } : Shared).heap.objs.size, globals := env.globals, cells := cellsFrom (({ s with heap := s.heap.push (listObj [] 0) } : Shared).heap.objs.size + 1) scope.names (closL env.cells scope.names []), qual := env.qual, func := none, code := env.code, frame := env.frame, builtins := env.builtins } : Env) = cenv at key ⊢
  rw [hC] at key ⊢
  generalize hs4 : ({ s with heap := pushCells ((s.heap.push (listObj [] 0)).push { cls := .type "dict", data := .dict #[] }) scope.names } : Shared) = s4 at key ⊢
  have up : ∀ b o, (s.heap.push (listObj [] 0)).get? b = some o → s4.heap.get? b = some o := fun b o e => by rw [← hs4]; exact pushCells_keeps _ _ b o (Heap.get?_push_of_some _ e)
  have hDf : s.heap.objs.size ∉ X.fown := fun h => absurd (R.below (List.mem_append_left _ h)) (Nat.lt_irrefl _)
  have hDo : s.heap.objs.size ∉ Book.own ⟨s.heap.objs.size + 1, cellsFrom (s.heap.objs.size + 1 + 1) scope.names [], X.ι⟩ st.store := fun h => by
    rcases List.mem_append.mp h with h | h
    · rcases List.mem_cons.mp h with h | h
      · exact absurd h (by show s.heap.objs.size ≠ s.heap.objs.size + 1; walk_at "o")
      · obtain ⟨⟨x, c⟩, hx, e⟩ := List.mem_map.mp h
        rcases cellsFrom_ge hx with h | h
        · have e' : c = s.heap.objs.size := e
          walk_at "o"
        · (first|subst h|obtain rfl:=sj h|exact n1 h|exact n2 h|exact b1 h|exact b2 h|cases h)
    · exact absurd (R.below (List.mem_append_right _ h)) (Nat.lt_irrefl _)
  have D0 : DOk B s.heap.objs.size (listObj [] 0) P (frK X.fown s.heap K) (Book.own ⟨s.heap.objs.size + 1, cellsFrom (s.heap.objs.size + 1 + 1) scope.names [], X.ι⟩ st.store) s4 :=
    ⟨up _ _ (Heap.get?_push_size _ rfl), R.inv.freshP, by rw [frK_out hDf]; exact R.inv.freshK, R.inv.freshT, hDo⟩
  have ledlt : ∀ a o, led a = some o → a < s.heap.objs.size := fun a o e => Heap.lt_size (hl a o e)
  have ledn : ∀ a, s.heap.objs.size ≤ a → led a = none := fun a h => by
    cases e : led a with
    | none => rfl
    | some o => exact absurd (ledlt a o e) (Nat.not_lt.mpr h)
  have ha' : Apart B led P (frK X.fown s.heap K) := fun a o e => by
    obtain ⟨x, y, z⟩ := ha a o e
    refine ⟨x, ?_, z⟩
    rw [frK_out fun q => by rw [ho a (List.mem_append_left _ q)] at e; (first|subst e|obtain rfl:=sj e|exact n1 e|exact n2 e|exact b1 e|exact b2 e|cases e)]; exact y
  have ho' : ∀ a ∈ Book.own ⟨s.heap.objs.size + 1, cellsFrom (s.heap.objs.size + 1 + 1) scope.names [], X.ι⟩ st.store, led a = none := fun a h => by
    rcases List.mem_append.mp h with h | h
    · refine ledn a ?_
      rcases List.mem_cons.mp h with h | h
      · rw [h]; show s.heap.objs.size ≤ s.heap.objs.size + 1; walk_at "o"
      · obtain ⟨⟨x, c⟩, hx, rfl⟩ := List.mem_map.mp h
        rcases cellsFrom_ge hx with h | h
        · show s.heap.objs.size ≤ c; walk_at "o"
        · (first|subst h|obtain rfl:=sj h|exact n1 h|exact n2 h|exact b1 h|exact b2 h|cases h)
    · exact ho a (List.mem_append_right _ h)
  have hl' : LeH led s4.heap := fun a o e => up a o (Heap.get?_push_of_some _ (hl a o e))
  have hgl' : GOk gl g s4 := fun i x e => ⟨by rw [← hs4]; exact (hgl i x e).1, (hgl i x e).2⟩
  have loop : codeAny (model B.prog B.w) A (.compLoop (.ListComp elt (⟨t, iter, ifs, 0⟩ :: gs) scope pos) 0 (.ref it) (.ref s.heap.objs.size) cenv) (RR (.ref s.heap.objs.size) (s.heap.objs.size + 1)) s4 := by
    refine loop_ok L (acc := []) (ep := 0) hA rfl (by simp) hg.ok key I hl' ha' ho' hgl' hp D0 (ledn _ (Nat.le_refl _)) (by simpa using hsz) fun P' X' s' acc' ep' lP lX R2 D2 r => ?_
    obtain ⟨δ, hδ⟩ := lX.ι
    have hι : X'.ι = X.ι := by
      have l1 := R2.sto.length
      have l2 := R.sto.length
      rw [hδ] at l1
      simp only [List.length_append] at l1
      have : δ = [] := List.length_eq_zero_iff.mp (by walk_at "o")
      rw [hδ, this]; simp
    have R3 := R.leave lP R2 hι (fun _ _ e => e)
    have hLn : X'.L = s.heap.objs.size + 1 := lX.L
    obtain ⟨m, ⟨oC, es, ep2, e1, e2⟩, _⟩ := R2.loc
    rw [hLn] at e1
    have hCin : s.heap.objs.size + 1 ∈ X'.own st'.store := by rw [← hLn]; exact List.mem_append_left _ (.head _)
    obtain ⟨c1, c2, c3⟩ := R2.off _ hCin
    refine hQ P' s' s.heap.objs.size (s.heap.objs.size + 1) m oC acc' ep' lP R3 ⟨by simpa using D2.here, D2.P, R.inv.freshK, D2.T, fun h => ?_⟩ ⟨e1, c1, R.inv.newK (Nat.le_succ _), c3, fun h => ?_⟩ ⟨oC, es, ep2, e1, e2⟩ (Nat.ne_of_lt (Nat.lt_succ_self _)) r (fun a ha o e => R2.inv.keep a o (by rw [frK_in ha]; exact e))
    · rcases List.mem_append.mp h with h | h
      · exact hDf h
      · exact D2.own (List.mem_append_right _ (hι ▸ h))
    · rcases List.mem_append.mp h with h | h
      · exact absurd (R.below (List.mem_append_left _ h)) (Nat.not_lt.mpr (Nat.le_succ _))
      · have := (List.nodup_append.mp R2.own).2.2 (s.heap.objs.size + 1) (by rw [← hLn]; exact .head _) (s.heap.objs.size + 1) (hι ▸ h)
        exact this rfl
  exact compStart_ok rfl loop fun E => I.self.self A s4 _ E hA key.inv.perm hl' loop

theorem CompOk.names {scope : Scope} (hc : CompOk ce st scope) : ∀ x ∈ scope.names, x.2 = .local → scope.names.lookup x.1 = some .local := fun x hx e => lookup_nodup hc.nodup (by rw [← e]; exact hx)

theorem pures_app : ∀ {a b : List CV}, pures a = true → pures b = true → pures (a ++ b) = true
  | [], b, _, h2 => h2
  | x :: a, b, h1, h2 => by
    simp only [pures, Bool.and_eq_true, List.cons_append] at h1 ⊢
    exact ⟨h1.1, pures_app h1.2 h2⟩
theorem LpJ.pure {elt : Expr} {gs : List Comprehension} {ys out : List CV} {st st' : LSt} (L : LpJ B n ce elt gs ys st out st') : pures out = true := by
  induction L with
  | nil => rfl
  | skip _ _ _ ih => exact ih
  | take _ _ _ h _ ih => simp [pures, h, ih]
  | deep _ _ _ _ _ _ ih1 ih2 => exact pures_app ih1 ih2
theorem CompOk.clos {scope : Scope} (hc : CompOk ce st1 scope) (R : Rel B P K g X ce env st s) : closureFor scope env = pure (closL env.cells scope.names []) := by
  refine closureFor_eq fun x hx => ?_
  have := hc.capt
  unfold captOk at this
  rw [List.all_eq_true] at this
  have := this _ hx
  simp only [bne_self_eq_false, Bool.false_or] at this
  obtain ⟨cv, h⟩ := Option.isSome_iff_exists.mp this
  unfold capV at h
  split at h
  · rename_i hl
    cases hf : ce.free.lookup x with
    | some u => obtain ⟨c, _, a, _⟩ := R.env.free x u hf; exact ⟨c, a⟩
    | none => obtain ⟨c, a, _⟩ := R.env.cell x hl hf; exact ⟨c, a⟩
  · obtain ⟨c, _, a, _⟩ := R.env.free x cv h; exact ⟨c, a⟩
  · (first|subst h|obtain rfl:=sj h|exact n1 h|exact n2 h|exact b1 h|exact b2 h|cases h)

theorem Ev_comp {elt t iter : Expr} {ifs : List Expr} {gs : List Comprehension} {scope : Scope} {pos : Pos} {ys out : List CV} {st' : LSt} (hi : ItE B n ce iter st ys st1) (hp : pures ys = true)
    (hc : CompOk ce st1 scope) (hg : GensOk (⟨t, iter, ifs, 0⟩ :: gs)) (L : LpJ B n (compCE ce st1 scope) elt (⟨t, iter, ifs, 0⟩ :: gs) ys ⟨[], st1.store⟩ out st') (hlen : st'.store.length = st1.store.length) (hsz : out.length ≤ 16777216) :
    EvJ B n ce (.ListComp elt (⟨t, iter, ifs, 0⟩ :: gs) scope pos) st (.list out) ⟨st1.vars, st'.store⟩ := fun A env P K g X s Q E hA R hQ => by
  show wpAny _ _ (comprehension _ _ env _ (newList []) false (eval iter env)) _ _ _
  refine wpAny_comprehension_free (use := none) rfl (fun x => (hg.ok _ (.head _)).2 env x) (hc.clos R) hc.kind hc.names (hi A env P K g X s _ E hA R fun P1 X1 s1 it led gl lP lX R1 I hl ha ho hgl => ?_)
  refine comp_core (RR := fun acc C => compPost (model B.prog B.w) A E none Q acc C) hA R1 I hl ha ho hgl hp hc hg L hlen hsz fun P2 s2 D C m oC acc ep lP2 R2 D2 C2 hns hDC r _ => ⟨m, hns, fun h' hs' => ?_⟩
  have R3 := R2.poke (tk := s2.toks) C2 hs'
  have D3 : DOk B D (listObj acc ep) P2 K (X1.own st'.store) { s2 with heap := h', toks := s2.toks } := ⟨(hs'.2 D hDC).trans D2.here, D2.P, D2.K, D2.T, D2.own⟩
  obtain ⟨lP3, R4⟩ := R3.putD D3
  exact hQ _ X1 _ _ (lP.trans (lP2.trans lP3)) lX R4 (.list Gh.put_self ⟨rfl, _, rfl⟩ (VRs.pure' L.pure (r.mono lP3 (.refl _))))

theorem swaps_yes {elt : Expr} {gens : List Comprehension} {scope : Scope} {p px : Pos} {x : Str} {line : Nat} (hs : env.scope = ce.scope) (hk : ce.scope.kind = .function) (hx : ce.scope.names.lookup x = some .local) (hl : (px.line == p.line && !(scope.names.any fun (n, k) => n == x && (k == .local || k == .cell))) = true) :
    swapsWith (.ListComp elt gens scope p) (some (.Name x px)) line env = pure true := by
  show (pure (env.blockKind == .function && env.kindOf x == some .local && px.line == p.line && !(scope.names.any fun (n, k) => n == x && (k == .local || k == .cell))) : Sem Bool) = _
  have h1 : env.blockKind = .function := by unfold Env.blockKind; rw [hs, hk]; rfl
  have h2 : env.kindOf x = some .local := by unfold Env.kindOf; rw [hs]; exact hx
  rw [h1, h2, Bool.and_assoc, hl]; rfl
theorem swaps_no {elt : Expr} {gens : List Comprehension} {scope : Scope} {p px : Pos} {x : Str} {line : Nat} (hs : env.scope = ce.scope) (hx : ce.scope.names.lookup x ≠ some .local) :
    swapsWithSole [.Name x px] (.ListComp elt gens scope p) line env = pure false := by
  show (pure (env.blockKind == .function && env.kindOf x == some .local && px.line == p.line && !(scope.names.any fun (n, k) => n == x && (k == .local || k == .cell))) : Sem Bool) = _
  have h2 : (env.kindOf x == some .local) = false := by unfold Env.kindOf; rw [hs]; simpa using hx
  rw [h2]; simp

theorem Ex_comp {elt t iter : Expr} {ifs : List Expr} {gs : List Comprehension} {scope : Scope} {pos px p : Pos} {x : Str} {ys out : List CV} {st' : LSt} (hi : ItE B n ce iter st ys st1) (hp : pures ys = true)
    (hc : CompOk ce st1 scope) (hg : GensOk (⟨t, iter, ifs, 0⟩ :: gs)) (L : LpJ B n (compCE ce st1 scope) elt (⟨t, iter, ifs, 0⟩ :: gs) ys ⟨[], st1.store⟩ out st') (hlen : st'.store.length = st1.store.length) (hsz : out.length ≤ 16777216)
    (hx : ce.scope.names.lookup x = some .local) (hl : (px.line == p.line && !(scope.names.any fun (n, k) => n == x && (k == .local || k == .cell))) = true) :
    ExJ B n ce (.Assign [.Name x px] (.ListComp elt (⟨t, iter, ifs, 0⟩ :: gs) scope p) pos) st .nxt (LSt.set ⟨st1.vars, st'.store⟩ x (.list out)) := fun A env P K g X s Q E hA R hQ => by
  show wpAny _ _ (exec (.Assign [.Name x px] (.ListComp elt (⟨t, iter, ifs, 0⟩ :: gs) scope p) pos) env) _ _ _
  rw [exec_Assign_Name_used _ _ _ _ (swaps_yes R.env.scope R.env.kind hx hl)]
  refine wpAny_bind (wpAny_standAt (wpAny_bind ?_))
  show wpAny _ A (do let _ ← comprehension (.ListComp elt (⟨t, iter, ifs, 0⟩ :: gs) scope p) scope env iter.pos (newList []) false (eval iter env) (some (assign (.Name x px) env))) _ _ s
  refine wpAny_bind ?_
  refine wpAny_comprehension_free (use := some (assign (.Name x px) env)) rfl (fun x => (hg.ok _ (.head _)).2 env x) (hc.clos R) hc.kind hc.names (hi A env P K g X s _ E hA R fun P1 X1 s1 it led gl lP lX R1 I hl ha ho hgl => ?_)
  refine comp_core hA R1 I hl ha ho hgl hp hc hg L hlen hsz fun P2 s2 D C m oC acc ep lP2 R2 D2 C2 hns hDC r _ => ?_
  obtain ⟨lP3, R3⟩ := R2.putD D2
  have C3 : DOk B C oC (P2.put D (listObj acc ep)) K (X1.own st'.store) s2 := ⟨C2.here, (Gh.put_ne (Ne.symm hDC)).trans C2.P, C2.K, C2.T, C2.own⟩
  refine As_name (by unfold stores; rw [hx]) A env _ _ g X1 s2 (.ref D) _ E hA (R3.addD C3) (.list Gh.put_self ⟨rfl, _, rfl⟩ (VRs.pure' L.pure (r.mono lP3 (.refl _)))) fun P4 X4 s4 lP4 lX4 R4 => ?_
  obtain ⟨R5, C5⟩ := R4.dropD ((R3.env.mono lP4 lX4)) C2.K C2.T
  obtain ⟨o, es, ep2, e1, e2⟩ := hns
  rw [C2.here] at e1; cases e1
  refine ⟨m, ⟨oC, es, ep2, C5.here, e2⟩, fun h' hs' => ?_⟩
  exact wpAny_pure (wpAny_pure (hQ _ X4 _ _ (lP.trans (lP2.trans (lP3.trans lP4))) (lX.trans lX4) (R5.poke (tk := s4.toks) C5 hs') .nxt))
end
end Mine

namespace Mine

section
variable {B : Base} {n : Nat} {ce ce' : CEnv} {st st1 st2 st3 st4 st5 : LSt} {v v1 v2 : CV} {P P' K led : Gh} {g gl g' : GG} {X X' : Book} {env env' : Env} {s s' s'' : Shared} {ι : Sto} {S : List CO}

/-- a store that nobody's frame stands over -/
structure StO (B : Base) (P K : Gh) (g : GG) (ι : Sto) (S : List CO) (s : Shared) : Prop where
  inv : InvS B P K g s
  sto : StoR P ι s.heap ι S
  own : (stoOwn ι S).Nodup
  off : ∀ a ∈ stoOwn ι S, P a = none ∧ K a = none ∧ ∀ t ∈ B.tabs, t.P ≠ a
theorem StO.nil (I : InvS B P K g s) : StO B P K g [] [] s := ⟨I, .nil, List.nodup_nil, fun a h => by (first|subst h|obtain rfl:=sj h|exact n1 h|exact n2 h|exact b1 h|exact b2 h|cases h)⟩
theorem Rel.stO (R : Rel B P K g X ce env st s) : StO B P (frK X.fown s.heap K) g X.ι st.store s where
  inv := (R.inv.frame X.fown (fun a ha => (R.off a (List.mem_append_left _ ha)).1) fun a ha => (R.off a (List.mem_append_left _ ha)).2.2).weakG R.inv.gk
  sto := R.sto
  own := (List.nodup_append.mp R.own).2.1
  off := fun a ha => by
    have h := R.off a (List.mem_append_right _ ha)
    refine ⟨h.1, ?_, h.2.2⟩
    rw [frK_out fun q => (List.nodup_append.mp R.own).2.2 a q a ha rfl]
    exact h.2.1
theorem StO.enter (O : StO B P K g ι S s) {C : Addr} {cs : List (Str × Addr)} {vars : List (Str × CV)} (hh : ∀ b o, s.heap.get? b = some o → s'.heap.get? b = some o) (hos : s'.os = s.os) (hgs : s'.gens = s.gens)
    (hC : ∀ a ∈ C :: cs.map (·.2), s.heap.objs.size ≤ a) (hn : (C :: cs.map (·.2)).Nodup)
    (hE : EnvOk P K ⟨C, cs, ι⟩ ce' env')
    (hloc : ∃ m, s'.heap.Ns C m ∧ ∀ x cv, ce'.scope.names.lookup x = some .local → vars.lookup x = some cv → ∃ v, m x = some v ∧ VR P ι cv v)
    (hcel : ∀ x c, (x, c) ∈ cs → ∃ v, s'.heap.IsCell c v ∧ ∀ cv, vars.lookup x = some cv → ∃ u, v = some u ∧ VR P ι cv u) :
    Rel B P K g ⟨C, cs, ι⟩ ce' env' ⟨vars, S⟩ s' where
  inv := O.inv.grow hh hos hgs
  env := hE
  loc := hloc
  cel := hcel
  sto := O.sto.mono (Le.refl P) (.refl _) fun b _ o e => hh b o e
  own := by
    refine List.nodup_append.mpr ⟨hn, O.own, fun a ha b hb q => ?_⟩
    subst q
    obtain ⟨o, e⟩ := O.sto.alive a hb
    exact absurd (Heap.lt_size e) (Nat.not_lt.mpr (hC a ha))
  off := fun a ha => by
    rcases List.mem_append.mp ha with ha | ha
    · exact ⟨O.inv.newP (hC a ha), O.inv.newK (hC a ha), O.inv.newT (hC a ha)⟩
    · exact O.off a ha

structure FreeOk (P : Gh) (ι : Sto) (clo : List (Str × Addr)) (free : List (Str × CV)) (scope : Scope) : Prop where
  ok : ∀ x cv, free.lookup x = some cv → scope.names.lookup x = some .free ∧ ∃ c v o, clo.lookup x = some c ∧ P c = some o ∧ o.data = .cell (some v) ∧ VR P ι cv v
theorem FreeOk.nil {clo : List (Str × Addr)} {scope : Scope} : FreeOk P ι clo [] scope := ⟨fun x cv h => by (first|subst h|obtain rfl:=sj h|exact n1 h|exact n2 h|exact b1 h|exact b2 h|cases h)⟩

theorem Rel.weakF (R : Rel B P K g X ce env st s) {l : List (Str × CV)} (h : ∀ x v, l.lookup x = some v → st.vars.lookup x = some v) : Rel B P K g X ce env ⟨l, st.store⟩ s where
  inv := R.inv
  env := R.env
  loc := let ⟨m, a, b⟩ := R.loc; ⟨m, a, fun x cv hx hc => b x cv hx (h x cv hc)⟩
  cel := fun x c hx => let ⟨v, a, b⟩ := R.cel x c hx; ⟨v, a, fun cv hc => b cv (h x cv hc)⟩
  sto := R.sto
  own := R.own
  off := R.off
theorem lookup_rev {l : List (Str × CV)} (hn : (l.map (·.1)).Nodup) {x : Str} {v : CV} (h : l.lookup x = some v) : l.reverse.lookup x = some v :=
  lookup_nodup (by rw [List.map_reverse]; exact List.pairwise_reverse.mpr (hn.imp Ne.symm)) (List.mem_reverse.mpr (mem_lookup h))

/-- the parameters are bound -/
theorem bind_ok {M : Prop} {A : Around} (f : Str × Value → PUnit → Sem (ForInStep PUnit)) (hf : ∀ x v u, f (x, v) u = (do storeName env x v; pure (.yield ⟨⟩))) {Q : PUnit → Shared → Prop} {E : Value → Shared → Prop} :
    ∀ (ps : List Str) (vs : List CV) (xs : List Value) (l : List (Str × CV)) (s : Shared), Rel B P K g X ce env ⟨l, S⟩ s → VRs P X.ι vs xs → vs.length = ps.length → (∀ x ∈ ps, stores ce x = true) → ps.Nodup → (∀ x ∈ ps, x ∉ l.map (·.1)) →
      (∀ s', Rel B P K g X ce env ⟨(ps.zip vs).reverse ++ l, S⟩ s' → Q ⟨⟩ s') → wpAny (model B.prog B.w) A (forIn (ps.zip xs) ⟨⟩ f) Q E s
  | [], vs, xs, l, s, R, hv, hl, hs, hn, hd, hQ => by
    simp only [List.zip_nil_left, List.forIn_nil]
    exact wpAny_pure (hQ s (by simpa using R))
  | p :: ps, v :: vs, _, l, s, R, hv, hl, hs, hn, hd, hQ => by
    obtain ⟨x, xs, rfl, a, b⟩ := hv.cons_inv
    simp only [List.nodup_cons] at hn
    simp only [List.zip_cons_cons, List.forIn_cons]
    rw [hf]
    refine wpAny_bind (wpAny_bind (store_ok (hs p (.head _)) R a fun s' R' => wpAny_pure ?_))
    refine bind_ok (M := M) f hf ps vs xs ((p, v) :: l) s' R' b (by simpa using hl) (fun x hx => hs x (.tail _ hx)) hn.2 (fun x hx => ?_) fun s'' R'' => hQ s'' (by simpa using R'')
    simp only [List.map_cons, List.mem_cons]
    rintro (rfl | h)
    · exact hn.1 hx
    · exact hd x (.tail _ hx) h
  | p :: ps, [], xs, l, s, R, hv, hl, hs, hn, hd, hQ => by simp at hl

/-- a function's names; to be decided -/
structure FunOk (scope : Scope) (free : List (Str × CV)) (params : List Str) : Prop where
  kind : scope.kind = .function
  nodup : (scope.names.map (·.1)).Nodup
  par : ∀ x ∈ params, stores ⟨scope, free⟩ x = true
  pn : params.Nodup
  co : scope.isCoroutine = false

theorem frame_ok (O : StO B P K g ι S s) {A : Around} {scope : Scope} {free : List (Str × CV)} {clo : List (Str × Addr)} {params : List Str} {vs : List CV} {xs : List Value} {qual : Str} {fn : Option Addr} {code : Value} {Q : Env → Shared → Prop} {E : Value → Shared → Prop}
    (F : FunOk scope free params) (hf : FreeOk P ι clo free scope) (hv : VRs P ι vs xs) (hl : vs.length = params.length)
    (hQ : ∀ env' X' s', X'.ι = ι → (env'.code = code ∧ env'.qual = qual) → Rel B P K g X' ⟨scope, free⟩ env' ⟨params.zip vs, S⟩ s' → Q env' s') :
    wpAny (model B.prog B.w) A (newFunctionEnv scope mainGlobals clo (params.zip xs) qual fn code none builtinsNs) Q E s := by
  simp only [newFunctionEnv, Option.isSome_none, Bool.false_eq_true, if_false]
  refine wpAny_bind (wpAny_alloc ?_)
  refine wpAny_bind (wpAny_layCells _ (fun name kind cells => by cases hkc : kind == NameKind.cell <;> simp [hkc]) _ _ _ _ ?_)
  rw [show ({ s with heap := s.heap.push { cls := .type "frame", data := .dict #[] } } : Shared).heap.objs.size = s.heap.objs.size + 1 from Heap.size_push ..]
  generalize hown : cellsFrom (s.heap.objs.size + 1) scope.names [] = own
  have ok := cellsFrom_ok scope.names (s.heap.push { cls := .type "frame", data := .dict #[] }) (s.heap.objs.size + 1) [] ⟨fun _ _ hm => (nomatch hm), List.Pairwise.nil⟩ (by rw [Heap.size_push]; exact Nat.le_refl _)
  rw [Heap.size_push, hown] at ok
  have hnm : (own.map (·.1)).Nodup := by rw [← hown]; exact cellsFrom_nodup F.nodup (by simp) (by simp)
  have hkey : ∀ x c, (x, c) ∈ own → (x, NameKind.cell) ∈ scope.names := fun x c hx => by
    rw [← hown] at hx
    rcases cellsFrom_key hx with h | h
    · exact h
    · (first|subst h|obtain rfl:=sj h|exact n1 h|exact n2 h|exact b1 h|exact b2 h|cases h)
  rw [cellsFrom_app, hown]
  have key := O.enter (s' := { s with heap := pushCells (s.heap.push { cls := .type "frame", data := .dict #[] }) scope.names }) (C := s.heap.objs.size) (cs := own) (vars := []) (ce' := ⟨scope, free⟩)
    (env' := { scope, locals := s.heap.objs.size, globals := mainGlobals, cells := own ++ clo, qual, func := fn, code, frame := some s.heap.objs.size, builtins := builtinsNs })
    (fun b o e => pushCells_keeps _ _ b o (Heap.get?_push_of_some _ e)) rfl rfl (fun a ha => ?_) ?_ ?_ ?_ ?_
  · refine wpAny_bind (bind_ok (M := True) (S := S) (env := { scope, locals := s.heap.objs.size, globals := mainGlobals, cells := own ++ clo, qual, func := fn, code, frame := some s.heap.objs.size, builtins := builtinsNs }) (ce := ⟨scope, free⟩) _ (fun _ _ _ => rfl) params vs xs [] _ key hv hl F.par F.pn (by simp) fun s' R' => wpAny_pure (hQ _ _ s' rfl ⟨rfl, rfl⟩ (R'.weakF fun x v e => by
      simp only [List.append_nil]
      refine lookup_rev ?_ e
      rw [List.map_fst_zip (by walk_at "o")]
      exact F.pn)))
  · rcases List.mem_cons.mp ha with rfl | ha
    · exact Nat.le_refl _
    · obtain ⟨⟨x, c⟩, hx, rfl⟩ := List.mem_map.mp ha
      exact Nat.le_of_succ_le (ok.empty x c hx).2
  · refine List.nodup_cons.mpr ⟨fun hx => ?_, List.pairwise_map.mpr ok.apart⟩
    obtain ⟨⟨x, c⟩, hx, e⟩ := List.mem_map.mp hx
    have := (ok.empty x c hx).2
    have e' : c = s.heap.objs.size := e
    subst e'
    exact Nat.not_succ_le_self _ this
  · refine ⟨rfl, F.kind, rfl, rfl, rfl, fun x hx hfr => ?_, fun x c hx => lookup_nodup F.nodup (hkey x c hx), hnm, fun x cv hx => ?_⟩
    · obtain ⟨c, hcc⟩ := Option.isSome_iff_exists.mp (cellsFrom_has (m := s.heap.objs.size + 1) (acc := []) (mem_lookup hx))
      rw [hown] at hcc
      exact ⟨c, by show (own ++ clo).lookup x = _; rw [lookup_app, hcc]; rfl, hcc⟩
    · obtain ⟨hk, c, v, o, h1, h2, h3, h4⟩ := hf.ok x cv hx
      refine ⟨c, v, ?_, ⟨o, .inr h2, h3⟩, h4⟩
      show (own ++ clo).lookup x = _
      have : own.lookup x = none := by
        cases e : own.lookup x with
        | none => rfl
        | some d =>
          have h1 := lookup_nodup F.nodup (hkey x d (mem_lookup e))
          rw [hk] at h1; (first|subst h1|obtain rfl:=sj h1|exact n1 h1|exact n2 h1|exact b1 h1|exact b2 h1|cases h1)
      rw [lookup_app, this, h1]; rfl
  · exact ⟨_, (Heap.Ns.new s.heap (.type "frame")).keeps (pushCells_keeps _ _), fun x cv _ h => by (first|subst h|obtain rfl:=sj h|exact n1 h|exact n2 h|exact b1 h|exact b2 h|cases h)⟩
  · exact fun x c hx => ⟨_, (ok.empty x c hx).1, fun cv h => by (first|subst h|obtain rfl:=sj h|exact n1 h|exact n2 h|exact b1 h|exact b2 h|cases h)⟩

theorem Room.deeper {A : Around} {e : Env} (h : Room A (n + 1)) : Room (A.deeper e) n := ⟨h.handled, by have := h.depth; show A.depth + 1 + n < _; walk_at "o", by have := h.units; rw [Around.deeper_units]; walk_at "o"⟩

/-- a function is called: its body runs in a new frame over a store -/
theorem call_ok (O : StO B P K g ι S s) {A : Around} {a : Addr} {o : Obj} {fd : FuncData} {params : List Str} {body : List Stmt} {scope : Scope} {clo : List (Str × Addr)} {free : List (Str × CV)} {vs : List CV} {xs : List Value} {Q : Value → Shared → Prop} {E : Value → Shared → Prop}
    (hA : Room A (n + 1)) (ho : s.heap.get? a = some o) (hd : o.data = .func fd) (D : FnD P fd params (.stmts body) scope clo) (hgen : scope.isGenerator = false) (F : FunOk scope free params) (hf : FreeOk P ι clo free scope) (hv : VRs P ι vs xs) (hl : vs.length = params.length)
    (h : ∀ A' env' X' s' E, Room A' n → X'.ι = ι → (env'.code = fd.code ∧ env'.qual = fd.qualname ++ ".<locals>.") → Rel B P K g X' ⟨scope, free⟩ env' ⟨params.zip vs, S⟩ s' → wpAny (model B.prog B.w) A' (execs body env') (fun f s' => Q (match f with | .ret v => v | _ => .none) s') E s') :
    wpAny (model B.prog B.w) A (call (.ref a) xs) Q E s := by
  refine wpAny_call ?_
  obtain ⟨c, oc, ys, t, h1, h2, h3, h4⟩ := D.code
  refine codeAny_call_function (by have := hA.depth; walk_at "o") ho hd (D.scope ▸ F.co) (D.scope ▸ hgen) D.body ⟨c, oc, ys, t, h1, O.inv.perm _ _ h2, h3, h4⟩ ?_
  rw [D.bind xs (by rw [hv.length, hl]), D.scope, D.glob, D.bui, D.clo]
  refine wpAny_pure (frame_ok O F hf hv hl fun env' X' s' hι hc R' => ⟨R'.inv.nolim, codeAny_func ?_⟩)
  refine wpAny_mono (h _ env' X' s' _ hA.deeper hι hc R') (fun f s' hq => ?_) fun _ _ x => x
  exact hq
end
end Mine

namespace Mine

noncomputable def pickV (vs : List CV) (lo hi st : Option Int) : List CV :=
  (sliceRange (sliceBounds lo hi st vs.length).1 (sliceBounds lo hi st vs.length).2.1 (sliceBounds lo hi st vs.length).2.2).filterMap (vs[·]?)
theorem VRs.places {P : Gh} {ι : Sto} {vs : List CV} {xs : List Value} (h : VRs P ι vs xs) : ∀ js : List Nat, VRs P ι (js.filterMap (vs[·]?)) (js.filterMap (xs[·]?))
  | [] => .nil
  | j :: js => by
    have ih := VRs.places h js
    cases hn : vs[j]? with
    | some n =>
      obtain ⟨x, hv, r⟩ := h.get hn
      simp only [List.filterMap_cons, hn, hv]
      exact .cons r ih
    | none =>
      have hv : xs[j]? = none := by
        rw [List.getElem?_eq_none_iff] at hn ⊢
        rw [h.length]; exact hn
      simp only [List.filterMap_cons, hn, hv]
      exact ih
theorem VRs.pick {P : Gh} {ι : Sto} {vs : List CV} {xs : List Value} (h : VRs P ι vs xs) (lo hi st : Option Int) : VRs P ι (pickV vs lo hi st) (slicePick xs.toArray lo hi st).toList := by
  have e : (slicePick xs.toArray lo hi st).toList = (sliceRange (sliceBounds lo hi st vs.length).1 (sliceBounds lo hi st vs.length).2.1 (sliceBounds lo hi st vs.length).2.2).filterMap (xs[·]?) := by
    simp [slicePick, h.length]
  rw [e]
  exact h.places _
theorem VRs.rep {P : Gh} {ι : Sto} {vs : List CV} {xs : List Value} (h : VRs P ι vs xs) : ∀ k : Nat, VRs P ι (List.replicate k vs).flatten (List.replicate k xs).flatten
  | 0 => by simpa using VRs.nil
  | k + 1 => by
    simp only [List.replicate_succ, List.flatten_cons]
    exact h.append (h.rep k)

section
variable {B : Base} {n : Nat} {ce ce' : CEnv} {st st1 st2 st3 st4 st5 : LSt} {v v1 v2 v3 : CV} {P P' K led : Gh} {g gl g' : GG} {X X' : Book} {env env' : Env} {s s' s'' : Shared} {ι : Sto} {S : List CO}

/-- a fresh list becomes a permanent one -/
theorem Rel.fresh_list (R : Rel B P K g X ce env st s) {vs : List CV} {ys : List Value} {k : Nat} (tk : Nat) (hr : VRs P X.ι vs ys) :
    Le P (P.put s.heap.objs.size (listObj ys k)) ∧ Rel B (P.put s.heap.objs.size (listObj ys k)) K g X ce env st { s with heap := s.heap.push (listObj ys k), toks := tk } ∧ VR (P.put s.heap.objs.size (listObj ys k)) X.ι (.list vs) (.ref s.heap.objs.size) := by
  obtain ⟨a, b⟩ := R.newP (o := listObj ys k) rfl tk
  exact ⟨a, b, .list Gh.put_self ⟨rfl, _, rfl⟩ (hr.mono a (.refl _))⟩

inductive BinS (S : List CO) : Operator → CV → CV → CV → Prop
  | addL {u v : CV} {us vs : List CV} : asL S u = some us → asL S v = some vs → us.length + vs.length ≤ 16777216 → BinS S .Add u v (.list (us ++ vs))
  | addS (a b : Str) : a.length + b.length ≤ 16777216 → BinS S .Add (.str a) (.str b) (.str (a ++ b))
  | mulL {u : CV} {us : List CV} (k : Int) : asL S u = some us → us.length * k.toNat ≤ 16777216 → -(2 ^ 63) ≤ k → k < 2 ^ 63 → BinS S .Mult u (.int k) (.list (List.replicate k.toNat us).flatten)
theorem binS_ok {op : Operator} {a b c : CV} (h : BinS st.store op a b c) {A : Around} {x y : Value} {Q : Value → Shared → Prop} {E : Value → Shared → Prop}
    (R : Rel B P K g X ce env st s) (hx : VR P X.ι a x) (hy : VR P X.ι b y) (hQ : ∀ P' X' s' v', Le P P' → X.Le X' → Rel B P' K g X' ce env st s' → VR P' X'.ι c v' → Q v' s') :
    wpAny (model B.prog B.w) A (binaryOp op x y) Q E s := by
  induction h with
  | addL h1 h2 hl =>
    rename_i us vs
    obtain ⟨l, xs, rfl, e1, r1⟩ := R.asL h1 hx
    obtain ⟨l', xs', rfl, e2, r2⟩ := R.asL h2 hy
    obtain ⟨⟨cls, dd, data, sl⟩, ho, hc, n, hd⟩ := id e1
    obtain ⟨⟨cls2, dd2, data2, sl2⟩, ho2, hc2, n2, hd2⟩ := id e2
    simp only at hc hd hc2 hd2
    subst hc hd hc2 hd2
    have l1 := r1.length
    have l2 := r2.length
    refine concat_meets ⟨_, ho, rfl⟩ ⟨_, ho2, rfl⟩ noFill_list_add seq_list_add PySem.F.slot_list_add PySem.F.entry_list_add (PySem.F.args_list_add_2 _ _) (list_addW l l' xs.toArray xs'.toArray n n2 dd dd2 sl sl2 (by rw [sizeLine_eq]; simp; walk_at "o")) ⟨ho, ho2, ?_⟩
    rw [show xs.toArray ++ xs'.toArray = (xs ++ xs').toArray by simp]
    obtain ⟨q1, q2, q3⟩ := R.fresh_list (k := 0) s.toks (r1.append r2)
    exact hQ _ X _ _ q1 (.refl _) q2 q3
  | addS a b hl =>
    (first|obtain ⟨_, rfl⟩:=hx.inv|subst hx|obtain rfl:=sj hx|exact n1 hx|exact n2 hx|cases hx); (first|obtain ⟨_, rfl⟩:=hy.inv|subst hy|obtain rfl:=sj hy|exact n1 hy|exact n2 hy|cases hy)
    exact PyProof.Rows.add_str (fun t' tk => hQ P X _ _ (.refl _) (.refl _) (R.grow fun _ _ e => e) (.str _ _)) (by rw [sizeLine_eq]; exact hl)
  | mulL k h1 hl h0 h63 =>
    rename_i us
    obtain ⟨l, xs, rfl, e1, r1⟩ := R.asL h1 hx
    obtain ⟨u, rfl⟩ := hy.inv
    have l1 := r1.length
    obtain ⟨⟨cls, d, data, sl⟩, ho, hcl, kk, hd⟩ := id e1
    simp only at hcl hd
    subst hcl hd
    have hsz' : xs.toArray.size * k.toNat ≤ 2 ^ 24 := by show xs.length * _ ≤ _; rw [l1]; exact hl
    refine wpAny_binaryOp_repeat_ref (T := "list") (U := "int") (by decide) ⟨_, ho, rfl⟩ (fun s' => typeIs_int s' k u) noFill_list_mul F.fills_int_mul F.slot_int_rmul repeat_list F.slot_int_index.lookup
      (call_meets F.slot_int_rmul (typeIs_int s k u) F.entry_int_rmul (F.args_int_rmul_2 _ _) (lm_int_rmul_list_any k u l xs.toArray kk d sl)
        ⟨ho, rfl, ⟨_, ho, rfl⟩, call_meets F.slot_list_mul ⟨_, ho, rfl⟩ F.entry_list_mul (F.args_list_mul_2 _ _)
          (lm_list_mul_any l xs.toArray kk d sl k u (by simp [Builtin.List.listFitsIndex]; walk_at "o") (by walk_at "o") (by simp [Builtin.List.listTooLong, sizeLine]; walk_at "o"))
          ⟨ho, ?_⟩⟩)
    rw [listMul_foldl_if]
    obtain ⟨q1, q2, q3⟩ := R.fresh_list (k := 0) s.toks (r1.rep k.toNat)
    exact hQ _ X _ _ q1 (.refl _) q2 q3
theorem Ev_binS {op : Operator} {l r : Expr} {pos : Pos} (h1 : EvJ B n ce l st v1 st1) (h2 : EvJ B n ce r st1 v2 st2) (h : BinS st2.store op v1 v2 v) : EvJ B n ce (.BinOp l op r pos) st v st2 := fun A env P K g X s Q E hA R hQ => by
  refine wpAny_BinOp (h1 A env P K g X s _ E hA R fun P1 X1 s1 a lP lX R1 r1 => h2 A env P1 K g X1 s1 _ E hA R1 fun P2 X2 s2 b lP2 lX2 R2 r2 => ?_)
  exact binS_ok h R2 (r1.mono lP2 lX2.ι) r2 fun P' X' s' v' a1 a2 a3 a4 => hQ P' X' s' v' (lP.trans (lP2.trans a1)) (lX.trans (lX2.trans a2)) a3 a4

/-- an item -/
inductive ItR (S : List CO) : CV → CV → CV → Prop
  | list {u : CV} {vs : List CV} {k : Int} {r : CV} : asL S u = some vs → 0 ≤ k → k < 2 ^ 63 → vs[k.toNat]? = some r → ItR S u (.int k) r
  | listN {u : CV} {vs : List CV} {k : Int} {r : CV} : asL S u = some vs → k < 0 → -(vs.length : Int) ≤ k → -(2 ^ 63) ≤ k → vs[(k + vs.length).toNat]? = some r → ItR S u (.int k) r
  | tup {vs : List CV} {k : Int} {r : CV} : 0 ≤ k → k < 2 ^ 63 → vs[k.toNat]? = some r → ItR S (.tup vs) (.int k) r
  | str (x : Str) (i : Int) : -(x.length : Int) ≤ i → i < x.length → x.length ≤ 16777216 → ItR S (.str x) (.int i) (.str (Txt.item x i))
theorem it_ok {a b c : CV} (h : ItR st.store a b c) {A : Around} {value slice : Expr} {x y : Value} {Q : Value → Shared → Prop} {E : Value → Shared → Prop}
    (R : Rel B P K g X ce env st s) (hx : VR P X.ι a x) (hy : VR P X.ι b y) (hs : subscripted slice false x y = operate [x, y] (getItem x y)) (hQ : ∀ s' v', Rel B P K g X ce env st s' → VR P X.ι c v' → Q v' s') :
    wpAny (model B.prog B.w) A (subscriptTail value slice x y) Q E s := by
  induction h with
  | list h1 h0 hfit hr =>
    obtain ⟨l, xs, rfl, e1, r1⟩ := R.asL h1 hx
    obtain ⟨u, rfl⟩ := hy.inv
    obtain ⟨z, hz, rz⟩ := r1.get hr
    exact tail_any e1.typeIs slot_list_getitem.lookup (wpAny_getItem_list e1 h0 hfit (by simpa using hz) (hQ s z R rz)) hs
  | listN h1 h0 h2 hfit hr =>
    obtain ⟨l, xs, rfl, e1, r1⟩ := R.asL h1 hx
    obtain ⟨u, rfl⟩ := hy.inv
    have hl := r1.length
    obtain ⟨z, hz, rz⟩ := r1.get hr
    exact tail_any e1.typeIs slot_list_getitem.lookup (wpAny_getItem_list_neg e1 h0 (by simpa [hl] using h2) hfit (by simpa [hl] using hz) (hQ s z R rz)) hs
  | @tup vs k r h0 hfit hr =>
    obtain ⟨xs, l, ep, rfl, hp, r1⟩ := hx.inv
    obtain ⟨u, rfl⟩ := hy.inv
    have hl := r1.length
    obtain ⟨z, hz, rz⟩ := r1.get hr
    have hlt : k.toNat < xs.length := (List.getElem?_eq_some_iff.mp hz).1
    have e := isT (R.inv.perm _ _ hp)
    refine tail_any e.typeIs slot_tuple_getitem.lookup (PyProof.Rows.getItem_tuple (j := k.toNat) e (Int.le_trans (by decide) h0) hfit ?_ (by simpa using hz) (hQ s z R rz)) hs
    unfold seqIndex?
    have hk0 : ¬ k < 0 := Int.not_lt.mpr h0
    have hk1 : k < (xs.length : Int) := by rw [← Int.toNat_of_nonneg h0]; exact Int.ofNat_lt.mpr hlt
    simp only [List.size_toArray, if_neg hk0, h0, hk1, decide_true, Bool.and_self, if_true]
  | str z i h1 h2 h3 =>
    (first|obtain ⟨_, rfl⟩:=hx.inv|subst hx|obtain rfl:=sj hx|exact n1 hx|exact n2 hx|cases hx); (first|obtain ⟨_, rfl⟩:=hy.inv|subst hy|obtain rfl:=sj hy|exact n1 hy|exact n2 hy|cases hy)
    obtain ⟨T, id, hl, hT, hg⟩ := SB.item (prog := B.prog) (w := B.w) (A := A) (E := E) (s := s) (Q := Q) (by unfold fitsSsize; simp; walk_at "o") (charAt_isSome h1 h2) (hQ { s with toks := s.toks + 1 } _ (R.grow fun _ _ e => e) (.str _ _))
    exact tail_any hT hl hg hs
theorem Ev_item {value slice : Expr} {pos : Pos} (h1 : EvJ B n ce value st v1 st1) (h2 : EvJ B n ce slice st1 v2 st2) (h : ItR st2.store v1 v2 v) (hs : autoParam (∀ x y, subscripted slice false x y = operate [x, y] (getItem x y)) tRfl2) : EvJ B n ce (.Subscript value slice pos) st v st2 := fun A env P K g X s Q E hA R hQ => by
  refine Subscript_ (h1 A env P K g X s _ E hA R fun P1 X1 s1 a lP lX R1 r1 => h2 A env P1 K g X1 s1 _ E hA R1 fun P2 X2 s2 b lP2 lX2 R2 r2 => ?_)
  exact it_ok h R2 (r1.mono lP2 lX2.ι) r2 (hs a b) fun s' v' a3 a4 => hQ P2 X2 s' v' (lP.trans lP2) (lX.trans lX2) a3 a4

/-- the parts of a slice -/
noncomputable def PtJ (B : Base) (n : Nat) (ce : CEnv) (e : Option Expr) (st : LSt) (i : Option Int) (st' : LSt) : Prop := J B n ce (fun env => evalPart e env) st (fun P ι a => IsPart a i) st'
theorem Pt_none : PtJ B n ce none st none st := fun A env P K g X s Q E hA R hQ => wpAny_pure (hQ P X s _ (.refl _) (.refl _) R .none)
theorem Pt_some {e : Expr} {i : Int} (h : EvJ B n ce e st (.int i) st1) : PtJ B n ce (some e) st (some i) st1 := fun A env P K g X s Q E hA R hQ => h A env P K g X s Q E hA R fun P1 X1 s1 a lP lX R1 r1 => by
  (first|obtain ⟨_, rfl⟩:=r1.inv|subst r1|obtain rfl:=sj r1|exact n1 r1|exact n2 r1|cases r1); exact hQ P1 X1 s1 _ lP lX R1 (.int _ _)
theorem Ev_sliceL {value : Expr} {l u k : Option Expr} {p pos : Pos} {vs : List CV} {lo hi sp : Option Int} {st4 : LSt} (h1 : EvJ B n ce value st v1 st1) (hl : PtJ B n ce l st1 lo st2) (hu : PtJ B n ce u st2 hi st3) (hk : PtJ B n ce k st3 sp st4) (h : asL st4.store v1 = some vs) (hsz : vs.length ≤ 16777216) (h0 : sp ≠ some 0)
    (hs : ∃ f : Value → Value → List Value, ∀ x y, subscripted (.Slice l u k p) false x y = operate (f x y) (getItem x y)) :
    EvJ B n ce (.Subscript value (.Slice l u k p) pos) st (.list (pickV vs lo hi sp)) st4 := fun A env P K g X s Q E hA R hQ => by
  refine Subscript_ (h1 A env P K g X s _ E hA R fun P1 X1 s1 a lP1 lX1 R1 r1 => wpAny_Slice (hl A env P1 K g X1 s1 _ E hA R1 fun P2 X2 s2 vl lP2 lX2 R2 r2 => hu A env P2 K g X2 s2 _ E hA R2 fun P3 X3 s3 vu lP3 lX3 R3 r3 => hk A env P3 K g X3 s3 _ E hA R3 fun P4 X4 s4 vk lP4 lX4 R4 r4 => ?_))
  have r1' := ((r1.mono lP2 lX2.ι).mono lP3 lX3.ι).mono lP4 lX4.ι
  obtain ⟨c, xs, rfl, e1, r⟩ := R4.asL h r1'
  obtain ⟨f, hf⟩ := hs
  have hlen := r.length
  have R5 : Rel B P4 K g X4 ce env st4 { s4 with heap := s4.heap.push { cls := .type "slice", data := .fields #[vl, vu, vk] } } := R4.grow fun b o e => Heap.get?_push_of_some _ e
  refine tail_any (T := "list") (Heap.IsList.typeIs (s := { s4 with heap := s4.heap.push { cls := .type "slice", data := .fields #[vl, vu, vk] } }) (e1.push _)) slot_list_getitem.lookup (wpAny_getItem_list_slice (e1.push _) (Heap.IsSliceOf.new ..) r2 r3 r4 h0 ?_ (by rw [sizeLine_eq]; show xs.length ≤ _; walk_at "o")) (hf _ _)
  obtain ⟨q1, q2, q3⟩ := R5.fresh_list (k := 0) s4.toks (r.pick lo hi sp)
  exact hQ _ X4 _ _ (lP1.trans (lP2.trans (lP3.trans (lP4.trans q1)))) (lX1.trans (lX2.trans (lX3.trans lX4))) q2 q3
theorem Ev_sliceS {value : Expr} {l u : Option Expr} {p pos : Pos} {x : Str} {lo hi : Option Int} (h1 : EvJ B n ce value st (.str x) st1) (hl : PtJ B n ce l st1 lo st2) (hu : PtJ B n ce u st2 hi st3) (hsz : x.length ≤ 16777216) :
    EvJ B n ce (.Subscript value (.Slice l u none p) pos) st (.str (Txt.slice x lo hi)) st3 := fun A env P K g X s Q E hA R hQ => by
  refine Subscript_ (h1 A env P K g X s _ E hA R fun P1 X1 s1 a lP1 lX1 R1 r1 => wpAny_Slice (hl A env P1 K g X1 s1 _ E hA R1 fun P2 X2 s2 vl lP2 lX2 R2 r2 => hu A env P2 K g X2 s2 _ E hA R2 fun P3 X3 s3 vu lP3 lX3 R3 r3 => wpAny_pure ?_))
  obtain ⟨t, rfl⟩ := r1.inv
  have R5 : Rel B P3 K g X3 ce env st3 { s3 with heap := s3.heap.push { cls := .type "slice", data := .fields #[vl, vu, .none] } } := R3.grow fun b o e => Heap.get?_push_of_some _ e
  have kept : KeptH fun h => ∀ b o, (s3.heap.push { cls := .type "slice", data := .fields #[vl, vu, .none] }).get? b = some o → h.get? b = some o := fun h ob hh b o e => Heap.get?_push_of_some _ (hh b o e)
  have fin : ∀ h' t' k, (∀ b o, s3.heap.get? b = some o → h'.get? b = some o) → Q (.str (Txt.slice x lo hi) t') { s3 with heap := h', toks := k } := fun h' t' k hh => hQ P3 X3 _ _ (lP1.trans (lP2.trans lP3)) (lX1.trans (lX2.trans lX3)) (R3.grow hh) (.str _ _)
  have key : ItemOn (model B.prog B.w) A E (.str x t) (.ref s3.heap.objs.size) Q { s3 with heap := s3.heap.push { cls := .type "slice", data := .fields #[vl, vu, .none] } } := by
    have kp : KeptH fun h => ∀ b o, s3.heap.get? b = some o → h.get? b = some o := fun h ob hh b o e => Heap.get?_push_of_some _ (hh b o e)
    have hz : x.length ≤ sizeLine := by rw [sizeLine_eq]; exact hsz
    (first|obtain ⟨_, rfl⟩:=r2.inv|subst r2|obtain rfl:=sj r2|exact n1 r2|exact n2 r2|cases r2) <;> (first|obtain ⟨_, rfl⟩:=r3.inv|subst r3|obtain rfl:=sj r3|exact n1 r3|exact n2 r3|cases r3)
    · exact SBH.sliceItem_nn kp (fun _ _ e => e) fin hz
    · exact SBH.sliceItem_ns kp (fun _ _ e => e) fin hz
    · exact SBH.sliceItem_sn kp (fun _ _ e => e) fin hz
    · exact SBH.sliceItem_ss kp (fun _ _ e => e) fin hz
  obtain ⟨T, id, hl, hT, hg⟩ := key
  exact tail_any hT hl hg rfl
end
end Mine

namespace Mine

section
variable {B : Base} {n : Nat} {ce ce' : CEnv} {st st1 st2 st3 st4 st5 : LSt} {v v1 v2 v3 r : CV} {vs ws : List CV} {P P' K led : Gh} {g gl g' : GG} {X X' : Book} {env env' : Env} {s s' s'' : Shared} {ι : Sto} {S : List CO}

/-- a call of a value -/
noncomputable def CaJ (B : Base) (n : Nat) (ce : CEnv) (f : Value) (vs : List CV) (st : LSt) (r : CV) (st' : LSt) : Prop :=
  ∀ (A : Around) (env : Env) (P K : Gh) (g : GG) (X : Book) (s : Shared) (xs : List Value) (Q : Value → Shared → Prop) (E : Value → Shared → Prop),
    Room A n → Rel B P K g X ce env st s → VRs P X.ι vs xs →
    (∀ P' X' s' a, Le P P' → X.Le X' → Rel B P' K g X' ce env st' s' → VR P' X'.ι r a → Q a s') →
    wpAny (model B.prog B.w) A (call f xs) Q E s
/-- a call that touches nothing of its caller's -/
noncomputable def FnJ (B : Base) (n : Nat) (f : Value) (vs : List CV) (r : CV) : Prop :=
  ∀ (A : Around) (P K : Gh) (g : GG) (s : Shared) (xs : List Value) (Q : Value → Shared → Prop) (E : Value → Shared → Prop),
    Room A n → InvS B P K g s → VRs P [] vs xs →
    (∀ P' s' a, Le P P' → InvS B P' K g s' → VR P' [] r a → Q a s') →
    wpAny (model B.prog B.w) A (call f xs) Q E s
theorem StoLe.nil {ι : Sto} : StoLe [] ι := ⟨ι, rfl⟩
theorem FnJ.ca {f : Value} (h : FnJ B n f vs r) (hp : pures vs = true) : CaJ B n ce f vs st r st := fun A env P K g X s xs Q E hA R hx hQ =>
  h A P _ _ s xs Q E hA R.frame (VRs.pure' hp hx) fun P' s' a lP I' ra => hQ P' X s' a lP (.refl _) (R.back lP I' R.inv.gk) (ra.mono (.refl _) .nil)
theorem FnJ.mono {f : Value} {m : Nat} (h : FnJ B n f vs r) (hm : n ≤ m) : FnJ B m f vs r := fun A P K g s xs Q E hA => h A P K g s xs Q E (hA.mono hm)
theorem CaJ.mono {f : Value} {m : Nat} (h : CaJ B n ce f vs st r st1) (hm : n ≤ m) : CaJ B m ce f vs st r st1 := fun A env P K g X s xs Q E hA => h A env P K g X s xs Q E (hA.mono hm)
theorem J.mono {α : Type} {t : Env → Sem α} {R : Gh → Sto → α → Prop} {m : Nat} (h : J B n ce t st R st1) (hm : n ≤ m) : J B m ce t st R st1 := fun A env P K g X s Q E hA => h A env P K g X s Q E (hA.mono hm)

/-- a permanent function -/
structure FnAt (B : Base) (a : Addr) (params : List Str) (body : List Stmt) (scope : Scope) : Prop where
  ok : ∃ o fd, B.P₀ a = some o ∧ o.data = .func fd ∧ FnD B.P₀ fd params (.stmts body) scope []
noncomputable def retOf : CFl → CV
  | .ret v => v
  | _ => .none
theorem FlR.val : ∀ {f : CFl} {fl : Flow}, FlR P ι f fl → VR P ι (retOf f) (match fl with | .ret v => v | _ => .none) := fun h => by
  cases h with
  | ret h => exact h
  | _ => exact .none
theorem VRs.one {a : CV} {xs : List Value} (h : VRs P ι [a] xs) : ∃ x, xs = [x] ∧ VR P ι a x := by
  obtain ⟨x, _, e, r, t⟩ := h.cons_inv
  exact ⟨x, by rw [e, t.nil_inv], r⟩
theorem VRs.two {a b : CV} {xs : List Value} (h : VRs P ι [a, b] xs) : ∃ x y, xs = [x, y] ∧ VR P ι a x ∧ VR P ι b y := by
  obtain ⟨x, _, e, r, t⟩ := h.cons_inv
  obtain ⟨y, f, r2⟩ := t.one
  exact ⟨x, y, by rw [e, f], r, r2⟩
theorem VRs.three {a b c : CV} {xs : List Value} (h : VRs P ι [a, b, c] xs) : ∃ x y z, xs = [x, y, z] ∧ VR P ι a x ∧ VR P ι b y ∧ VR P ι c z := by
  obtain ⟨x, _, e, r, t⟩ := h.cons_inv
  obtain ⟨y, z, f, r2⟩ := t.two
  exact ⟨x, y, z, by rw [e, f], r, r2⟩
theorem FnJ.mk {a : Addr} {params : List Str} {body : List Stmt} {scope : Scope} {f : CFl} {st' : LSt} (F : FnAt B a params body scope) (hF : FunOk scope [] params) (hgen : scope.isGenerator = false) (hl : vs.length = params.length)
    (h : XsJ B n ⟨scope, []⟩ body ⟨params.zip vs, []⟩ f st') (hr : (retOf f).pure = true) : FnJ B (n + 1) (.ref a) vs (retOf f) := fun A P K g s xs Q E hA I hx hQ => by
  obtain ⟨o, fd, e1, e2, e3⟩ := F.ok
  refine call_ok (StO.nil I) hA (I.h0 _ _ e1) e2 (e3.mono I.base) hgen hF .nil hx hl fun A' env' X' s' E' hA' hι _ R' => ?_
  exact h A' env' P K g X' s' _ E' hA' R' fun P2 X2 s2 fl lP lX R2 rf => hQ P2 s2 _ lP R2.inv (rf.val.pure' hr)
theorem CaJ.mk {a : Addr} {params : List Str} {body : List Stmt} {scope : Scope} {f : CFl} {st' : LSt} (F : FnAt B a params body scope) (hF : FunOk scope [] params) (hgen : scope.isGenerator = false) (hl : vs.length = params.length)
    (h : XsJ B n ⟨scope, []⟩ body ⟨params.zip vs, st.store⟩ f st') (hlen : st'.store.length = st.store.length) : CaJ B (n + 1) ce (.ref a) vs st (retOf f) ⟨st.vars, st'.store⟩ := fun A env P K g X s xs Q E hA R hx hQ => by
  obtain ⟨o, fd, e1, e2, e3⟩ := F.ok
  refine call_ok R.stO hA (R.inv.h0 _ _ e1) e2 (e3.mono R.inv.base) hgen hF .nil hx hl fun A' env' X' s' E' hA' hι _ R' => ?_
  refine h A' env' P _ g X' s' _ E' hA' R' fun P2 X2 s2 fl lP lX R2 rf => ?_
  have hι2 : X2.ι = X.ι := by
    obtain ⟨δ, hδ⟩ := lX.ι
    have l1 := R2.sto.length
    have l2 := R.sto.length
    rw [hδ, hι] at l1
    simp only [List.length_append] at l1
    have : δ = [] := List.length_eq_zero_iff.mp (by walk_at "o")
    rw [hδ, this, hι]; simp
  exact hQ P2 X s2 _ lP (.refl _) (R.leave lP R2 hι2 fun _ _ e => e) (hι2 ▸ rf.val)

theorem evalArgs_any {f : Value} {trees : List (Bool × Sem Value)} {M : Model} {A : Around} {Q : Args → Shared → Prop} {E : Value → Shared → Prop} (hp : trees.any (·.1) = false) (h : wpAny M A (spliced trees) (fun vs s' => Q ⟨vs, []⟩ s') E s) : wpAny M A (evalArgs f true trees []) Q E s := by
  cases trees with
  | nil =>
    unfold evalArgs
    show wpAny M A (spliced [] >>= _) Q E s
    refine wpAny_bind (wpAny_mono h (fun vs s' h' => wpAny_bind (wpAny_pure ?_)) fun _ _ e => e)
    refine wpAny_holding ?_
    exact wpAny_bind (wpAny_pure (wpAny_bind (wpAny_pure (wpAny_pure h'))))
  | cons t r =>
    obtain ⟨b, x⟩ := t
    simp only [List.any_cons, Bool.or_eq_false_iff] at hp
    obtain ⟨hb, _⟩ := hp
    subst hb
    exact evalArgs_plain h

/-- a call by name of a function -/
theorem Ev_callF {x : Str} {p pos : Pos} {es : List Expr} {a : Addr} (hf : EvJ B n ce (.Name x p) st (.cst (.ref a)) st1) (ho : ∃ o fd, B.P₀ a = some o ∧ o.data = .func fd) (he : EsJ B n ce pos es st1 vs st2) (hc : CaJ B n ce (.ref a) vs st2 r st3)
    (hp : autoParam (∀ env, (backTo pos (starEach es env)).any (·.1) = false) tRfl1) : EvJ B n ce (.Call (.Name x p) es [] pos) st r st3 := fun A env P K g X s Q E hA R hQ => by
  obtain ⟨o, fd, e1, e2⟩ := ho
  refine Call_Name rfl (hf A env P K g X s _ E hA R fun P1 X1 s1 f lP1 lX1 R1 r1 => ?_)
  (first|obtain ⟨_, rfl⟩:=r1.inv|subst r1|obtain rfl:=sj r1|exact n1 r1|exact n2 r1|cases r1)
  refine callWith_function (o := o) (fd := fd) (evalArgs_any (hp env) (he A env P1 K g X1 s1 _ E hA R1 fun P2 X2 s2 xs lP2 lX2 R2 r2 => ⟨⟨R2.inv.h0 _ _ e1, e2⟩, ?_⟩))
  exact hc A env P2 K g X2 s2 xs Q E hA R2 r2 fun P3 X3 s3 a lP3 lX3 R3 r3 => hQ P3 X3 s3 a (lP1.trans (lP2.trans lP3)) (lX1.trans (lX2.trans lX3)) R3 r3
theorem Ev_callB {x : Str} {p pos : Pos} {es : List Expr} {id : String} (hf : EvJ B n ce (.Name x p) st (.cst (.builtin id)) st1) (he : EsJ B n ce pos es st1 vs st2) (hc : CaJ B n ce (.builtin id) vs st2 r st3)
    (hp : autoParam (∀ env, (backTo pos (starEach es env)).any (·.1) = false) tRfl1) : EvJ B n ce (.Call (.Name x p) es [] pos) st r st3 := fun A env P K g X s Q E hA R hQ => by
  refine Call_Name rfl (hf A env P K g X s _ E hA R fun P1 X1 s1 f lP1 lX1 R1 r1 => ?_)
  (first|obtain ⟨_, rfl⟩:=r1.inv|subst r1|obtain rfl:=sj r1|exact n1 r1|exact n2 r1|cases r1)
  refine callWith_builtin (hp env) (evalArgs_any (hp env) (he A env P1 K g X1 s1 _ E hA R1 fun P2 X2 s2 xs lP2 lX2 R2 r2 => ?_))
  exact hc A env P2 K g X2 s2 xs Q E hA R2 r2 fun P3 X3 s3 a lP3 lX3 R3 r3 => hQ P3 X3 s3 a (lP1.trans (lP2.trans lP3)) (lX1.trans (lX2.trans lX3)) R3 r3
theorem Ev_callT {x : Str} {p pos : Pos} {es : List Expr} {id : String} (hf : EvJ B n ce (.Name x p) st (.cst (.type id)) st1) (he : EsJ B n ce pos es st1 vs st2) (hc : CaJ B n ce (.type id) vs st2 r st3)
    (hp : autoParam (∀ env, (backTo pos (starEach es env)).any (·.1) = false) tRfl1) : EvJ B n ce (.Call (.Name x p) es [] pos) st r st3 := fun A env P K g X s Q E hA R hQ => by
  refine Call_Name rfl (hf A env P K g X s _ E hA R fun P1 X1 s1 f lP1 lX1 R1 r1 => ?_)
  (first|obtain ⟨_, rfl⟩:=r1.inv|subst r1|obtain rfl:=sj r1|exact n1 r1|exact n2 r1|cases r1)
  refine PyProof.Rows.callWith_type (hp env) (evalArgs_any (hp env) (he A env P1 K g X1 s1 _ E hA R1 fun P2 X2 s2 xs lP2 lX2 R2 r2 => ?_))
  exact hc A env P2 K g X2 s2 xs Q E hA R2 r2 fun P3 X3 s3 a lP3 lX3 R3 r3 => hQ P3 X3 s3 a (lP1.trans (lP2.trans lP3)) (lX1.trans (lX2.trans lX3)) R3 r3

/-- a method of a built-in type -/
inductive MethOn (S : List CO) : CV → String → Prop
  | str (x : Str) : MethOn S (.str x) "str"
  | int (i : Int) : MethOn S (.int i) "int"
  | list {i : Nat} {vs : List CV} : S[i]? = some (.lst vs) → MethOn S (.ref i) "list"
theorem MethOn.ok {T : String} {x : Value} (h : MethOn st.store v T) (R : Rel B P K g X ce env st s) (hx : VR P X.ι v x) : s.TypeIs x T ∧ ∀ a, x = .ref a → ∃ ob, s.heap.get? a = some ob ∧ ob.dict = none := by
  induction h with
  | str => (first|obtain ⟨_, rfl⟩:=hx.inv|subst hx|obtain rfl:=sj hx|exact n1 hx|exact n2 hx|cases hx); exact ⟨typeIs_str _ _ _, fun _ e => nomatch e⟩
  | int => (first|obtain ⟨_, rfl⟩:=hx.inv|subst hx|obtain rfl:=sj hx|exact n1 hx|exact n2 hx|cases hx); exact ⟨typeIs_int _ _ _, fun _ e => nomatch e⟩
  | list e =>
    obtain ⟨_, _, rfl, hi⟩ := hx.inv
    obtain ⟨p, e1, _, ys, ep, e2, _⟩ := R.sto.get e
    rw [hi] at e1; (first|subst e1|obtain rfl:=sj e1|exact n1 e1|exact n2 e1|exact b1 e1|exact b2 e1|cases e1)
    exact ⟨⟨_, e2, rfl⟩, fun a q => by (first|subst q|obtain rfl:=sj q|exact n1 q|exact n2 q|exact b1 q|exact b2 q|cases q); exact ⟨_, e2, rfl⟩⟩
theorem Ev_meth {o : Expr} {name : Str} {apos pos : Pos} {es : List Expr} {T id : String} (pa : PlainAttrs T) (slot : Slot T name id) (hty : typeOf (.builtin id) = pure (.type "method_descriptor"))
    (h1 : EvJ B n ce o st v st1) (hm : MethOn st1.store v T) (he : EsJ B n ce pos es st1 vs st2) (hc : CaJ B n ce (.builtin id) (v :: vs) st2 r st3)
    (hbase : autoParam (∀ env, attributeBase o name env (eval o env) = eval o env) tRfl1)
    (hfew : autoParam (∀ env, ((backTo pos (starEach es env)).all (fun x => !x.1) && (backToKw pos (keywordEach [] env)).all (fun x => x.1.isSome)
      && decide (es.length + ([] : List Keyword).length + (if ([] : List Keyword).isEmpty then 0 else 1) < 30)) = true) tRfl1)
    (hline : autoParam ((apos.endLine == pos.line) = true) tRfl)
    (hp : autoParam (∀ env, (backTo pos (starEach es env)).any (·.1) = false) tRfl1) : EvJ B n ce (.Call (.Attribute o name apos) es [] pos) st r st3 := fun A env P K g X s Q E hA R hQ => by
  refine wpAny_Call_method (hbase env) (hfew env) hline pa slot hty (h1 A env P K g X s _ E hA R fun P1 X1 s1 x lP1 lX1 R1 r1 => ?_)
  obtain ⟨t1, t2⟩ := hm.ok R1 r1
  refine ⟨t1, t2, ?_⟩
  refine callWith_builtin (hp env) (evalArgs_any (hp env) (he A env P1 K g X1 s1 _ E hA R1 fun P2 X2 s2 xs lP2 lX2 R2 r2 => ?_))
  exact hc A env P2 K g X2 s2 (x :: xs) Q E hA R2 (.cons (r1.mono lP2 lX2.ι) r2) fun P3 X3 s3 a lP3 lX3 R3 r3 => hQ P3 X3 s3 a (lP1.trans (lP2.trans lP3)) (lX1.trans (lX2.trans lX3)) R3 r3

/-! ## builtins -/
theorem ca_len {u : CV} {vs : List CV} (h : asL st.store u = some vs) (hl : vs.length ≤ 16777216) : CaJ B n ce (.builtin "len") [u] st (.int vs.length) st := fun A env P K g X s xs Q E hA R hx hQ => by
  obtain ⟨x, rfl, hx1⟩ := hx.one
  obtain ⟨l, ys, rfl, e1, r1⟩ := R.asL h hx1
  have := r1.length
  refine call_len_list e1 (by simp; walk_at "o") ?_
  rw [List.size_toArray, this]
  exact hQ P X _ _ (.refl _) (.refl _) (R.grow fun _ _ e => e) (.int _ _)
theorem ca_range1 {k : Int} : CaJ B n ce (.type "range") [.int k] st (.rng 0 k 1) st := fun A env P K g X s xs Q E hA R hx hQ => by
  obtain ⟨x, rfl, hx1⟩ := hx.one
  (first|obtain ⟨_, rfl⟩:=hx1.inv|subst hx1|obtain rfl:=sj hx1|exact n1 hx1|exact n2 hx1|cases hx1)
  refine call_range_1 ?_
  obtain ⟨a, b⟩ := R.newP (o := { cls := .type "range", data := .fields #[.int 0 s.toks, .int k _, .int 1 (s.toks + 1)] }) rfl (s.toks + 1 + 1)
  exact hQ _ X _ _ a (.refl _) b (.rng Gh.put_self)
theorem ca_range3 {i k d : Int} (hd : 0 < d) (hd' : d < 1073741824) : CaJ B n ce (.type "range") [.int i, .int k, .int d] st (.rng i k d) st := fun A env P K g X s xs Q E hA R hx hQ => by
  obtain ⟨x, y, z, rfl, hx1, hx2, hx3⟩ := hx.three
  obtain ⟨t, rfl⟩ := hx1.inv; obtain ⟨u, rfl⟩ := hx2.inv; obtain ⟨w, rfl⟩ := hx3.inv
  obtain ⟨a, b⟩ := R.newP (o := { cls := .type "range", data := .fields #[.int i t, .int k u, .int d w] }) rfl s.toks
  exact call_range_3 (by walk_at "o") (hQ _ X _ _ a (.refl _) b (.rng Gh.put_self)) (Or.inl (PyProof.noPylong_small (by walk_at "o")))
theorem ca_isint {i : Int} : CaJ B n ce (.builtin "isinstance") [.int i, .cst (.type "int")] st (.bool true) st := fun A env P K g X s xs Q E hA R hx hQ => by
  obtain ⟨x, y, rfl, hx1, hx2⟩ := hx.two
  (first|obtain ⟨_, rfl⟩:=hx1.inv|subst hx1|obtain rfl:=sj hx1|exact n1 hx1|exact n2 hx1|cases hx1); (first|obtain ⟨_, rfl⟩:=hx2.inv|subst hx2|obtain rfl:=sj hx2|exact n1 hx2|exact n2 hx2|cases hx2)
  exact call_isinstance_yes (typeIs_int _ _ _) (by kernel_rfl) (by rw [isSubtype_type]; kernel_rfl) (hQ P X _ _ (.refl _) (.refl _) R (.bool _))
theorem ca_max {i k : Int} : CaJ B n ce (.builtin "max") [.int i, .int k] st (.int (max i k)) st := fun A env P K g X s xs Q E hA R hx hQ => by
  obtain ⟨x, y, rfl, hx1, hx2⟩ := hx.two
  (first|obtain ⟨_, rfl⟩:=hx1.inv|subst hx1|obtain rfl:=sj hx1|exact n1 hx1|exact n2 hx1|cases hx1); (first|obtain ⟨_, rfl⟩:=hx2.inv|subst hx2|obtain rfl:=sj hx2|exact n1 hx2|exact n2 hx2|cases hx2)
  refine max_two_ints hA.handled fun h' tk hk => ?_
  have R' : Rel B P K g X ce env st { s with heap := h', toks := tk } := R.grow hk
  split
  · rw [show max i k = k by walk_at "o"] at hQ
    exact hQ P X _ _ (.refl _) (.refl _) R' (.int _ _)
  · rw [show max i k = i by walk_at "o"] at hQ
    exact hQ P X _ _ (.refl _) (.refl _) R' (.int _ _)
theorem ca_min {i k : Int} : CaJ B n ce (.builtin "min") [.int i, .int k] st (.int (min i k)) st := fun A env P K g X s xs Q E hA R hx hQ => by
  obtain ⟨x, y, rfl, hx1, hx2⟩ := hx.two
  (first|obtain ⟨_, rfl⟩:=hx1.inv|subst hx1|obtain rfl:=sj hx1|exact n1 hx1|exact n2 hx1|cases hx1); (first|obtain ⟨_, rfl⟩:=hx2.inv|subst hx2|obtain rfl:=sj hx2|exact n1 hx2|exact n2 hx2|cases hx2)
  refine min_two_ints hA.handled fun h' tk hk => ?_
  have R' : Rel B P K g X ce env st { s with heap := h', toks := tk } := R.grow hk
  split
  · rw [show min i k = k by walk_at "o"] at hQ
    exact hQ P X _ _ (.refl _) (.refl _) R' (.int _ _)
  · rw [show min i k = i by walk_at "o"] at hQ
    exact hQ P X _ _ (.refl _) (.refl _) R' (.int _ _)
theorem ca_abs {i : Int} : CaJ B n ce (.builtin "abs") [.int i] st (.int i.natAbs) st := fun A env P K g X s xs Q E hA R hx hQ => by
  obtain ⟨x, rfl, hx1⟩ := hx.one
  (first|obtain ⟨_, rfl⟩:=hx1.inv|subst hx1|obtain rfl:=sj hx1|exact n1 hx1|exact n2 hx1|cases hx1)
  refine call_abs_int fun u tk => ?_
  rw [show (i.natAbs : Int) = if i < 0 then -i else i by split <;> walk_at "o"] at hQ
  exact hQ P X _ _ (.refl _) (.refl _) (R.grow fun _ _ e => e) (.int _ _)
theorem ca_sum {u : CV} {ns : List Int} (h : asL st.store u = some (ns.map .int)) : CaJ B n ce (.builtin "sum") [u] st (.int ns.sum) st := fun A env P K g X s xs Q E hA R hx hQ => by
  obtain ⟨x, rfl, hx1⟩ := hx.one
  obtain ⟨l, ys, rfl, e1, r1⟩ := R.asL h hx1
  have hi := ints_are r1
  obtain ⟨zs, hz⟩ := hi.allInts.items
  have hl' : s.heap.IsList l (intItems zs) := hz ▸ e1
  refine sum_intListG hA.handled hl' fun h' tk t' hk => ?_
  have e1 : ns = zs.toList.map (·.1) := by
    rw [← nums_intItems, ← hz]
    exact (show numsOf ys.toArray.toList = ns from hi.numsOf).symm
  have e2 : preSum (numAt zs) zs.size = ns.sum := by
    rw [preSum_eq, List.take_of_length_le (by simp), e1]
  rw [e2]
  exact hQ P X _ _ (.refl _) (.refl _) (R.grow hk) (.int _ _)
theorem ca_divmod {i k : Int} (h1 : 0 < k) (h2 : k < 1073741824) : CaJ B n ce (.builtin "divmod") [.int i, .int k] st (.tup [.int (i / k), .int (i % k)]) st := fun A env P K g X s xs Q E hA R hx hQ => by
  obtain ⟨x, y, rfl, hx1, hx2⟩ := hx.two
  (first|obtain ⟨_, rfl⟩:=hx1.inv|subst hx1|obtain rfl:=sj hx1|exact n1 hx1|exact n2 hx1|cases hx1); (first|obtain ⟨_, rfl⟩:=hx2.inv|subst hx2|obtain rfl:=sj hx2|exact n1 hx2|exact n2 hx2|cases hx2)
  refine divmod_int (by walk_at "o") ?_ (Or.inl (PyProof.noPylong_small (by walk_at "o")))
  rw [Int.fdiv_eq_ediv_of_nonneg i (by walk_at "o"), Int.fmod_eq_emod_of_nonneg i (by walk_at "o")]
  obtain ⟨a, b⟩ := R.newP (o := tupObj [.int (i / k) s.toks, .int (i % k) (s.toks + 1)] 0) rfl (s.toks + 1 + 1)
  exact hQ _ X _ _ a (.refl _) b (.tup Gh.put_self (.cons (.int _ _) (.cons (.int _ _) .nil)))
theorem ca_listL {u : CV} {vs : List CV} (h : asL st.store u = some vs) (hl : vs.length ≤ 16777216) : CaJ B n ce (.type "list") [u] st (.list vs) st := fun A env P K g X s xs Q E hA R hx hQ => by
  obtain ⟨x, rfl, hx1⟩ := hx.one
  obtain ⟨l, ys, rfl, ⟨o, ho, hc, ep, hd⟩, r1⟩ := R.asL h hx1
  have := r1.length
  refine call_list_seq l (.inl rfl) ho hc hd (fun h' c' hk hn => ?_) (by rw [sizeLine_eq]; simp; walk_at "o")
  have R' : Rel B P K g X ce env st { s with heap := h' } := R.grow hk
  have fr : s.heap.objs.size ∉ X.own st.store := R.fresh
  obtain ⟨a, b⟩ := R'.putD (D := s.heap.objs.size) (o := listObj ys c') ⟨hn, R.inv.freshP, R.inv.freshK, R.inv.freshT, fr⟩
  exact hQ _ X _ _ a (.refl _) b (.list Gh.put_self ⟨rfl, _, rfl⟩ (r1.mono a (.refl _)))
end
end Mine

namespace Mine

theorem stoOwn_cons (p : Addr × List Addr) (ι : Sto) (co : CO) (S : List CO) : stoOwn (p :: ι) (co :: S) = co.own p ++ stoOwn ι S := rfl
theorem stoOwn_app : ∀ {ι : Sto} {S : List CO} {p : Addr × List Addr} {co : CO}, ι.length = S.length → stoOwn (ι ++ [p]) (S ++ [co]) = stoOwn ι S ++ co.own p
  | [], [], p, co, _ => by simp [stoOwn_cons, stoOwn]
  | q :: ι, d :: S, p, co, h => by
    rw [List.cons_append, List.cons_append, stoOwn_cons, stoOwn_cons, stoOwn_app (by simpa using h)]; simp
  | [], _ :: _, _, _, h => by simp at h
  | _ :: _, [], _, _, h => by simp at h
theorem stoOwn_set : ∀ {ι : Sto} {S : List CO} {i : Nat} {co co' : CO} {p : Addr × List Addr}, S[i]? = some co → ι[i]? = some p → co.has = true → co'.has = true → stoOwn ι (S.set i co') = stoOwn ι S
  | q :: ι, d :: S, 0, co, co', p, e, e', h, h' => by
    simp at e e'; subst e e'
    rw [List.set_cons_zero, stoOwn_cons, stoOwn_cons]
    rw [CO.own_has h, CO.own_has h']
  | q :: ι, d :: S, i + 1, co, co', p, e, e', h, h' => by
    simp at e e'
    rw [List.set_cons_succ, stoOwn_cons, stoOwn_cons, stoOwn_set e e' h h']
  | [], S, i, co, co', p, e, e', _, _ => by simp at e'
  | _ :: _, [], i, co, co', p, e, e', _, _ => by simp at e
theorem stoOwn_dead : ∀ {ι : Sto} {S : List CO} {i : Nat}, ∀ b ∈ stoOwn ι (S.set i .dead), b ∈ stoOwn ι S
  | q :: ι, d :: S, 0, b, h => by
    rw [List.set_cons_zero, stoOwn_cons] at h
    rw [stoOwn_cons]
    exact List.mem_append_right _ h
  | q :: ι, d :: S, i + 1, b, h => by
    rw [List.set_cons_succ, stoOwn_cons] at h
    rw [stoOwn_cons]
    exact (List.mem_append.mp h).elim (fun h => List.mem_append_left _ h) fun h => List.mem_append_right _ (stoOwn_dead b h)
  | [], S, i, b, h => by cases hS : S.set i .dead <;> rw [hS] at h <;> (first|subst h|obtain rfl:=sj h|exact n1 h|exact n2 h|exact b1 h|exact b2 h|cases h)
  | _ :: _, [], i, b, h => by simp [stoOwn] at h
theorem stoOwn_dead_sub : ∀ {ι : Sto} {S : List CO} {i : Nat}, (stoOwn ι S).Nodup → (stoOwn ι (S.set i .dead)).Nodup
  | q :: ι, d :: S, 0, h => by
    rw [stoOwn_cons] at h
    rw [List.set_cons_zero, stoOwn_cons]
    exact (List.nodup_append.mp h).2.1
  | q :: ι, d :: S, i + 1, h => by
    rw [stoOwn_cons] at h
    rw [List.set_cons_succ, stoOwn_cons]
    obtain ⟨a, b, c⟩ := List.nodup_append.mp h
    exact List.nodup_append.mpr ⟨a, stoOwn_dead_sub b, fun x hx y hy => c x hx y (stoOwn_dead y hy)⟩
  | [], S, i, h => by
    have : stoOwn [] (S.set i .dead) = [] := by cases S.set i .dead <;> rfl
    rw [this]; exact List.nodup_nil
  | _ :: _, [], i, h => by simpa using h
/-- an address in the hands of the object at i is in no other's -/
theorem stoOwn_gone : ∀ {ι : Sto} {S : List CO} {i : Nat} {co : CO} {p : Addr × List Addr}, (stoOwn ι S).Nodup → S[i]? = some co → ι[i]? = some p → ∀ b ∈ co.own p, b ∉ stoOwn ι (S.set i .dead)
  | q :: ι, d :: S, 0, co, p, h, e, e', b, hb => by
    simp at e e'; subst e e'
    rw [stoOwn_cons] at h
    rw [List.set_cons_zero, stoOwn_cons]
    exact fun hx => (List.nodup_append.mp h).2.2 b hb b hx rfl
  | q :: ι, d :: S, i + 1, co, p, h, e, e', b, hb => by
    simp at e e'
    rw [stoOwn_cons] at h
    rw [List.set_cons_succ, stoOwn_cons]
    obtain ⟨x, y, z⟩ := List.nodup_append.mp h
    intro hx
    rcases List.mem_append.mp hx with hx | hx
    · refine z b hx b ?_ rfl
      cases hc : co.has with
      | true => rw [CO.own_has hc] at hb; exact stoOwn_get e e' hc b hb
      | false => rw [CO.own_not hc] at hb; (first|obtain ⟨_, rfl⟩:=hb.inv|subst hb|obtain rfl:=sj hb|exact n1 hb|exact n2 hb|cases hb)
    · exact stoOwn_gone y e e' b hb hx
  | [], S, i, co, p, h, e, e', b, hb => by simp at e'
  | _ :: _, [], i, co, p, h, e, e', b, hb => by simp at e

theorem mapSeq_obj {f : Array Value → Array Value} {xs ys : List Value} {ep : Nat} (h : f xs.toArray = ys.toArray) : ∃ ep', Obj.mapSeq f (listObj xs ep) = listObj ys ep' := by
  refine ⟨if (f xs.toArray).size == xs.toArray.size then ep else ep + 1, ?_⟩
  simp only [Obj.mapSeq, listObj]
  generalize f xs.toArray = zz at h ⊢
  subst h
  rfl

section
variable {B : Base} {n : Nat} {ce ce' : CEnv} {st st1 st2 st3 st4 st5 : LSt} {v v1 v2 v3 r : CV} {vs ws : List CV} {P P' K led : Gh} {g gl g' : GG} {X X' : Book} {env env' : Env} {s s' s'' : Shared} {ι : Sto} {S : List CO}

theorem StoR.app {ι₀ : Sto} {h : Heap} : ∀ {ι : Sto} {S : List CO} {p : Addr × List Addr} {co : CO}, StoR P ι₀ h ι S → COR P ι₀ h p.1 p.2 co → StoR P ι₀ h (ι ++ [p]) (S ++ [co]) := by
  intro ι S p co hs c
  induction hs with
  | nil => exact .cons c .nil
  | cons a r ih => exact .cons a ih
theorem StoR.set {ι₀ : Sto} {h h' : Heap} {co co' : CO} {p : Addr × List Addr} : ∀ {ι : Sto} {S : List CO} {i : Nat}, StoR P ι₀ h ι S → S[i]? = some co → ι[i]? = some p → COR P ι₀ h' p.1 p.2 co' → (∀ b ∈ stoOwn ι (S.set i .dead), ∀ o, h.get? b = some o → h'.get? b = some o) → StoR P ι₀ h' ι (S.set i co') := by
  intro ι S i hs
  induction hs generalizing i with
  | nil => intro e; exact n1 e
  | cons a r ih =>
    intro e e' c k
    cases i with
    | zero =>
      obtain rfl := sj e'
      exact .cons c (r.mono (.refl _) (.refl _) fun b hb o => k b (List.mem_append_right _ hb) o)
    | succ i => exact .cons (a.mono' (.refl _) (.refl _) fun b hb o => k b (List.mem_append_left _ hb) o) (ih e e' c fun b hb o => k b (List.mem_append_right _ hb) o)

/-- a new object of the store -/
theorem Rel.newS (R : Rel B P K g X ce env st s) {a : Addr} {xs : List Addr} {co : CO} (hh : ∀ b o, s.heap.get? b = some o → s'.heap.get? b = some o) (hos : s'.os = s.os) (hgs : s'.gens = s.gens)
    (hC : ∀ b ∈ a :: xs, s.heap.objs.size ≤ b) (hn : (a :: xs).Nodup) (hc : COR P (X.ι ++ [(a, xs)]) s'.heap a xs co) (hd : co.has = true) :
    X.Le { X with ι := X.ι ++ [(a, xs)] } ∧ Rel B P K g { X with ι := X.ι ++ [(a, xs)] } ce env ⟨st.vars, st.store ++ [co]⟩ s' := by
  have hX : X.Le { X with ι := X.ι ++ [(a, xs)] } := ⟨rfl, rfl, ⟨_, rfl⟩⟩
  have hown : co.own (a, xs) = a :: xs := CO.own_has hd
  have eown : Book.own { X with ι := X.ι ++ [(a, xs)] } (st.store ++ [co]) = X.own st.store ++ (a :: xs) := by
    show X.fown ++ stoOwn (X.ι ++ [(a, xs)]) (st.store ++ [co]) = _
    rw [stoOwn_app R.sto.length, hown]; simp
  refine ⟨hX, ⟨R.inv.grow hh hos hgs, R.env.mono (.refl _) hX, ?_, ?_, ?_, ?_, ?_⟩⟩
  · obtain ⟨m, ⟨o, es, ep, e, r⟩, h⟩ := R.loc
    exact ⟨m, ⟨o, es, ep, hh _ _ e, r⟩, fun x cv a b => let ⟨v, c, d⟩ := h x cv a b; ⟨v, c, d.mono (.refl _) hX.ι⟩⟩
  · intro x c hx
    obtain ⟨v, ⟨o, e, r⟩, h⟩ := R.cel x c hx
    exact ⟨v, ⟨o, hh _ _ e, r⟩, fun cv hc => let ⟨u, a, b⟩ := h cv hc; ⟨u, a, b.mono (.refl _) hX.ι⟩⟩
  · exact (R.sto.mono (.refl _) hX.ι fun b _ o e => hh b o e).app hc
  · show (Book.own { X with ι := X.ι ++ [(a, xs)] } (st.store ++ [co])).Nodup
    rw [eown]
    exact List.nodup_append.mpr ⟨R.own, hn, fun x hx y hy q => absurd (R.below hx) (Nat.not_lt.mpr (q ▸ hC y hy))⟩
  · intro b hb
    have hb' : b ∈ X.own st.store ++ (a :: xs) := by rw [← eown]; exact hb
    rcases List.mem_append.mp hb' with h | h
    · exact R.off b h
    · exact ⟨R.inv.newP (hC b h), R.inv.newK (hC b h), R.inv.newT (hC b h)⟩
/-- an object of the store changes -/
theorem Rel.modS (R : Rel B P K g X ce env st s) {i : Nat} {co co' : CO} {p : Addr × List Addr} (e : st.store[i]? = some co) (e' : X.ι[i]? = some p) (hd : co.has = true) (hd' : co'.has = true)
    (hh : ∀ b o, b ∉ p.1 :: p.2 → s.heap.get? b = some o → s'.heap.get? b = some o) (hos : s'.os = s.os) (hgs : s'.gens = s.gens) (hc : COR P X.ι s'.heap p.1 p.2 co') :
    Rel B P K g X ce env ⟨st.vars, st.store.set i co'⟩ s' := by
  have hown : co.own p = p.1 :: p.2 := CO.own_has hd
  have hin : ∀ b ∈ p.1 :: p.2, b ∈ stoOwn X.ι st.store := fun b hb => stoOwn_get e e' hd b hb
  have hf : ∀ b ∈ X.fown, b ∉ p.1 :: p.2 := fun b hb hx => (List.nodup_append.mp R.own).2.2 b hb b (hin b hx) rfl
  refine ⟨R.inv.step (· ∈ p.1 :: p.2) (fun b o hb e => hh b o hb e) (fun b hb => R.off b (List.mem_append_right _ (hin b hb))) hos hgs, R.env, ?_, ?_, ?_, ?_, ?_⟩
  · obtain ⟨m, ⟨o, es, ep, e, r⟩, h⟩ := R.loc
    exact ⟨m, ⟨o, es, ep, hh _ _ (hf _ (by simp)) e, r⟩, h⟩
  · intro x c hx
    obtain ⟨v, ⟨o, e, r⟩, h⟩ := R.cel x c hx
    exact ⟨v, ⟨o, hh _ _ (hf _ (List.mem_cons_of_mem _ (List.mem_map.mpr ⟨_, hx, rfl⟩))) e, r⟩, h⟩
  · exact R.sto.set e e' hc fun b hb o eo => hh b o (fun hx => stoOwn_gone (List.nodup_append.mp R.own).2.1 e e' b (by rw [hown]; exact hx) hb) eo
  · show (X.fown ++ stoOwn X.ι (st.store.set i co')).Nodup
    rw [stoOwn_set e e' hd hd']; exact R.own
  · intro b hb
    refine R.off b ?_
    have : b ∈ X.fown ++ stoOwn X.ι (st.store.set i co') := hb
    rw [stoOwn_set e e' hd hd'] at this; exact this
/-- a list of the store becomes permanent -/
theorem Rel.freeze (R : Rel B P K g X ce env st s) {i : Nat} {vs : List CV} {a : Value} (e : st.store[i]? = some (.lst vs)) (ha : VR P X.ι (.ref i) a) :
    ∃ P', Le P P' ∧ Rel B P' K g X ce env ⟨st.vars, st.store.set i .dead⟩ s ∧ VR P' X.ι (.list vs) a := by
  obtain ⟨l, xs, rfl, hi⟩ := ha.inv
  obtain ⟨p, e1, hxs, ys, ep, e2, r⟩ := R.sto.get e
  rw [hi] at e1; (first|subst e1|obtain rfl:=sj e1|exact n1 e1|exact n2 e1|exact b1 e1|exact b2 e1|cases e1)
  simp only at hxs e2; subst hxs
  have hl : l ∈ stoOwn X.ι st.store := stoOwn_get e hi rfl l (.head _)
  obtain ⟨h1, h2, h3⟩ := R.off l (List.mem_append_right _ hl)
  have hne : ∀ b ∈ Book.own X (st.store.set i .dead), b ≠ l := fun b hb q => by
    subst q
    rcases List.mem_append.mp hb with h | h
    · exact (List.nodup_append.mp R.own).2.2 b h b hl rfl
    · exact stoOwn_gone (List.nodup_append.mp R.own).2.1 e hi b (.head _) h
  refine ⟨P.put l (listObj ys ep), Gh.put_le h1, ⟨R.inv.put e2 h1 h2 h3, R.env.mono (Gh.put_le h1) (.refl X), ?_, ?_, ?_, ?_, ?_⟩, .list Gh.put_self ⟨rfl, _, rfl⟩ (r.mono (Gh.put_le h1) (.refl _))⟩
  · obtain ⟨m, ⟨o, es, ep, e, r⟩, h⟩ := R.loc
    exact ⟨m, ⟨o, es, ep, e, r⟩, fun x cv a b => let ⟨v, c, d⟩ := h x cv a b; ⟨v, c, d.mono (Gh.put_le h1) (.refl _)⟩⟩
  · intro x c hx
    obtain ⟨v, ⟨o, e, r⟩, h⟩ := R.cel x c hx
    exact ⟨v, ⟨o, e, r⟩, fun cv hc => let ⟨u, a, b⟩ := h cv hc; ⟨u, a, b.mono (Gh.put_le h1) (.refl _)⟩⟩
  · exact (R.sto.mono (Gh.put_le h1) (.refl _) fun _ _ _ e => e).set e hi (co' := .dead) trivial fun _ _ _ e => e
  · show (X.fown ++ stoOwn X.ι (st.store.set i .dead)).Nodup
    obtain ⟨a, b, c⟩ := List.nodup_append.mp R.own
    exact List.nodup_append.mpr ⟨a, stoOwn_dead_sub b, fun x hx y hy => c x hx y (stoOwn_dead y hy)⟩
  · intro b hb
    refine ⟨(Gh.put_ne (hne b hb)).trans (R.off b ?_).1, (R.off b ?_).2⟩ <;>
    · rcases List.mem_append.mp hb with h | h
      · exact List.mem_append_left _ h
      · exact List.mem_append_right _ (stoOwn_dead b h)

/-- a display as a new object of the store -/
theorem Ev_listM {es : List Expr} {pos : Pos} {vs : List CV} (h : EsJ B n ce pos es st vs st1) (hsz : vs.length ≤ 16777216) : EvJ B n ce (.List es pos) st (.ref st1.store.length) ⟨st1.vars, st1.store ++ [.lst vs]⟩ := fun A env P K g X s Q E hA R hQ => by
  refine List_ (h A env P K g X s _ E hA R fun P1 X1 s1 a lP lX R1 r1 => ?_)
  refine wpAny_newObj_type ?_ (by show a.toArray.size ≤ sizeLine; have := r1.length; rw [List.size_toArray, sizeLine_eq]; walk_at "o")
  obtain ⟨q1, q2⟩ := R1.newS (s' := { s1 with heap := s1.heap.push (listObj a 0) }) (a := s1.heap.objs.size) (xs := []) (co := .lst vs) (fun b o e => Heap.get?_push_of_some _ e) rfl rfl (fun b hb => by simp at hb; subst hb; exact Nat.le_refl _) (by simp)
    ⟨rfl, a, 0, Heap.get?_push_size _ rfl, r1.mono (.refl _) ⟨_, rfl⟩⟩ rfl
  refine hQ P1 _ _ _ lP (lX.trans q1) q2 (.ref (xs := []) ?_)
  rw [← R1.sto.length]
  simp
/-- a permanent list is handed on as a new object of the store: for a list that was just made -/
theorem Rel.lst (R : Rel B P K g X ce env st s) {i : Nat} {vs : List CV} {a : Value} (e : st.store[i]? = some (.lst vs)) (ha : VR P X.ι (.ref i) a) : ∃ l ys ep, a = .ref l ∧ X.ι[i]? = some (l, []) ∧ s.heap.get? l = some (listObj ys ep) ∧ VRs P X.ι vs ys := by
  obtain ⟨l, xs, rfl, hi⟩ := ha.inv
  obtain ⟨p, e1, hxs, ys, ep, e2, r⟩ := R.sto.get e
  rw [hi] at e1; (first|subst e1|obtain rfl:=sj e1|exact n1 e1|exact n2 e1|exact b1 e1|exact b2 e1|cases e1)
  simp only at hxs; subst hxs
  exact ⟨l, ys, ep, rfl, hi, e2, r⟩

noncomputable abbrev LSt.put (st : LSt) (i : Nat) (co : CO) : LSt := ⟨st.vars, st.store.set i co⟩
theorem ca_append {i : Nat} {vs : List CV} {y : CV} (e : st.store[i]? = some (.lst vs)) (hsz : vs.length ≤ 16777216) : CaJ B n ce (.builtin "list.append") [.ref i, y] st .none (st.put i (.lst (vs ++ [y]))) := fun A env P K g X s xs Q E hA R hx hQ => by
  obtain ⟨x, z, rfl, hx1, hx2⟩ := hx.two
  obtain ⟨l, ys, ep, rfl, hi, e2, r⟩ := R.lst e hx1
  have hl := r.length
  refine wpAny_list_append_plain (items := ys.toArray) ⟨ep, e2⟩ (fun h' hp' hs' => ?_) (by rw [sizeLine_eq]; show ys.length ≤ _; walk_at "o")
  obtain ⟨ep2, hp2⟩ := hp'
  refine hQ P X _ _ (.refl _) (.refl _) (R.modS (s' := { s with heap := h' }) e hi rfl (co' := .lst (vs ++ [y])) rfl (fun b o hb eo => (hs'.2 b (by simpa using hb)).trans eo) rfl rfl ⟨rfl, ys ++ [z], ep2, ?_, r.append (.cons hx2 .nil)⟩) .none
  rw [show ({ s with heap := h' } : Shared).heap = h' from rfl, hp2]
  simp [listObj]
theorem ca_pop0 {i : Nat} {vs : List CV} {y : CV} (e : st.store[i]? = some (.lst (y :: vs))) (hsz : vs.length < 16777216) : CaJ B n ce (.builtin "list.pop") [.ref i, .int 0] st y (st.put i (.lst vs)) := fun A env P K g X s xs Q E hA R hx hQ => by
  obtain ⟨x, z, rfl, hx1, hx2⟩ := hx.two
  obtain ⟨t, rfl⟩ := hx2.inv
  obtain ⟨l, ys, ep, rfl, hi, e2, r⟩ := R.lst e hx1
  cases r with | cons r0 r =>
  rename_i y0 ys
  have hl := r.length
  refine call_meets PySem.F.slot_list_pop ⟨_, e2, rfl⟩ PySem.F.entry_list_pop (PySem.F.args_list_pop_2 _ _) (PySem.MeetsSeq.list_pop_at l (y0 :: ys).toArray ep 0 t 0 y0 (by decide) (by unfold seqIndex?; simp) (by simp) (by rw [sizeLine_eq]; show (y0 :: ys).length ≤ _; simp; walk_at "o")) ⟨e2, ?_⟩
  obtain ⟨ep2, h2⟩ := mapSeq_obj (f := fun xs => xs.eraseIdxIfInBounds 0) (xs := y0 :: ys) (ys := ys) (ep := ep) (by simp [Array.eraseIdxIfInBounds])
  refine hQ P X _ _ (.refl _) (.refl _) (R.modS (s' := { s with heap := s.heap.update l (Obj.mapSeq fun xs => xs.eraseIdxIfInBounds 0) }) e hi rfl (co' := .lst vs) rfl (fun b o hb eo => (Heap.get?_update_other _ _ (by simpa using fun q => hb (by rw [q]; simp))).trans eo) rfl rfl ⟨rfl, ys, ep2, (Heap.get?_update_self _ e2 rfl).trans (congrArg some h2), r⟩) r0
theorem ca_reverse {i : Nat} {vs : List CV} (e : st.store[i]? = some (.lst vs)) (hsz : vs.length ≤ 16777216) : CaJ B n ce (.builtin "list.reverse") [.ref i] st .none (st.put i (.lst vs.reverse)) := fun A env P K g X s xs Q E hA R hx hQ => by
  obtain ⟨x, rfl, hx1⟩ := hx.one
  obtain ⟨l, ys, ep, rfl, hi, e2, r⟩ := R.lst e hx1
  have hl := r.length
  refine call_meets PySem.F.slot_list_reverse ⟨_, e2, rfl⟩ PySem.F.entry_list_reverse (PySem.F.args_list_reverse_1 _) (AutoSeq1.list_reverse_list_0 l ys.toArray ep (by rw [sizeLine_eq]; show ys.length ≤ _; walk_at "o")) ⟨e2, ?_⟩
  obtain ⟨ep2, h2⟩ := mapSeq_obj (f := fun x => x.reverse) (xs := ys) (ys := ys.reverse) (ep := ep) (by simp)
  refine hQ P X _ _ (.refl _) (.refl _) (R.modS (s' := { s with heap := s.heap.update l (Obj.mapSeq fun x => x.reverse) }) e hi rfl (co' := .lst vs.reverse) rfl (fun b o hb eo => (Heap.get?_update_other _ _ (by simpa using fun q => hb (by rw [q]; simp))).trans eo) rfl rfl ⟨rfl, ys.reverse, ep2, (Heap.get?_update_self _ e2 rfl).trans (congrArg some h2), r.reverse⟩) .none
end
end Mine

namespace Mine

section
variable {B : Base} {n : Nat} {ce ce' : CEnv} {st st1 st2 st3 st4 st5 : LSt} {v v1 v2 v3 r : CV} {vs ws : List CV} {P P' K led : Gh} {g gl g' : GG} {X X' : Book} {env env' : Env} {s s' s'' : Shared} {ι : Sto} {S : List CO}

theorem strs_values {P : Gh} {ι : Sto} : ∀ {ss : List Str} {xs : List Value}, VRs P ι (ss.map .str) xs → ∃ l : List (Str × Tok), xs = strValues l ∧ l.map (·.1) = ss
  | [], _, h => ⟨[], h.nil_inv, rfl⟩
  | x :: ss, _, h => by
    obtain ⟨y, ys, rfl, a, b⟩ := h.cons_inv
    obtain ⟨t, rfl⟩ := a.inv
    obtain ⟨l, rfl, h2⟩ := strs_values b
    exact ⟨(x, t) :: l, rfl, by simp [h2]⟩
noncomputable def chars (x : Str) : List CV := x.cps.toList.map fun c => .str ⟨#[c]⟩
theorem chars_len (x : Str) : (chars x).length = x.length := by simp [chars, Str.length]

theorem ca_listS {x : Str} (hl : x.length ≤ 16777216) : CaJ B n ce (.type "list") [.str x] st (.list (chars x)) st := fun A env P K g X s xs Q E hA R hx hQ => by
  obtain ⟨z, rfl, hx1⟩ := hx.one
  obtain ⟨t, rfl⟩ := hx1.inv
  refine call_list_str hA.handled x t (fun h' tk acc c' hk hn hi => ?_) (by rw [sizeLine_eq]; exact hl)
  have R' : Rel B P K g X ce env st { s with heap := h', toks := tk } := R.grow hk
  have e : (listObj acc.toList c') = { cls := .type "list", dict := none, data := .seq acc c', slots := #[] } := by simp [listObj]
  obtain ⟨a, b⟩ := R'.putD (D := s.heap.objs.size) (o := listObj acc.toList c') ⟨by rw [e]; exact hn, R.inv.freshP, R.inv.freshK, R.inv.freshT, R.fresh⟩
  refine hQ _ X _ _ a (.refl _) b (.list Gh.put_self ⟨rfl, _, rfl⟩ ?_)
  obtain ⟨h1, h2⟩ := hi
  have key : ∀ (l : List Nat) (ys : List Value), ys.length = l.length → (∀ (i : Nat) (v : Value), ys[i]? = some v → ∃ c u, l[i]? = some c ∧ v = .str ⟨#[c]⟩ u) → VRs (P.put s.heap.objs.size (listObj acc.toList c')) X.ι (l.map fun c => CV.str ⟨#[c]⟩) ys := by
    intro l
    induction l with
    | nil => intro ys hl _; cases ys with | nil => exact .nil | cons _ _ => simp at hl
    | cons c l ih =>
      intro ys hl hy
      cases ys with
      | nil => simp at hl
      | cons y ys =>
        obtain ⟨c', u, e1, e2⟩ := hy 0 y (by simp)
        simp at e1; subst e1 e2
        exact .cons (.str _ _) (ih ys (by simpa using hl) fun i v e => by simpa using hy (i + 1) v (by simpa using e))
  refine key x.cps.toList acc.toList (by simpa using h1) fun i v e => ?_
  obtain ⟨c, u, e1, e2⟩ := h2 i v (by simpa using e)
  exact ⟨c, u, by simpa using e1, e2⟩
theorem ca_lenS {x : Str} (hl : x.length ≤ 16777216) : CaJ B n ce (.builtin "len") [.str x] st (.int x.length) st := fun A env P K g X s xs Q E hA R hx hQ => by
  obtain ⟨z, rfl, hx1⟩ := hx.one
  obtain ⟨t, rfl⟩ := hx1.inv
  exact PyProof.Rows.len_str (by walk_at "o") (hQ P X _ _ (.refl _) (.refl _) (R.grow fun _ _ e => e) (.int _ _))
theorem ca_join {u : CV} {sep : Str} {ss : List Str} (h : asL st.store u = some (ss.map .str)) (hl : (Txt.join sep ss).length ≤ 16777216) (ht : Builtin.Str.tooLong (ss.toArray.foldl (· + ·.length + sep.length) 0) = false) : CaJ B n ce (.builtin "str.join") [.str sep, u] st (.str (Txt.join sep ss)) st := fun A env P K g X s xs Q E hA R hx hQ => by
  obtain ⟨x, y, rfl, hx1, hx2⟩ := hx.two
  obtain ⟨t, rfl⟩ := hx1.inv
  obtain ⟨l, ys, rfl, e1, r1⟩ := R.asL h hx2
  obtain ⟨zs, rfl, e2⟩ := strs_values r1
  refine call_meets PySem.F.slot_str_join (typeIs_str _ _ _) PySem.F.entry_str_join (PySem.F.args_str_join_2 _ _) (meets_str_join_list sep t l zs (by rw [e2]; exact ht)) ⟨e1, ?_⟩
  refine post_join zs ⟨by rw [e2, sizeLine_eq]; exact hl, fun t' k => ?_⟩
  rw [e2]
  exact hQ P X _ _ (.refl _) (.refl _) (R.grow fun _ _ e => e) (.str _ _)
theorem ca_index {x y : Str} {i : Nat} {rest : List Nat} (h : Builtin.Str.occurrences x y 0 x.length 1 = i :: rest) : CaJ B n ce (.builtin "str.index") [.str x, .str y] st (.int i) st := fun A env P K g X s xs Q E hA R hx hQ => by
  obtain ⟨a, b, rfl, hx1, hx2⟩ := hx.two
  (first|obtain ⟨_, rfl⟩:=hx1.inv|subst hx1|obtain rfl:=sj hx1|exact n1 hx1|exact n2 hx1|cases hx1); (first|obtain ⟨_, rfl⟩:=hx2.inv|subst hx2|obtain rfl:=sj hx2|exact n1 hx2|exact n2 hx2|cases hx2)
  exact call_gives PySem.F.slot_str_index (typeIs_str _ _ _) PySem.F.entry_str_index (PySem.F.args_str_index_2 _ _) (gives_str_index x y _ _ i rest h) (hQ P X _ _ (.refl _) (.refl _) (R.grow fun _ _ e => e) (.int _ _))
theorem ca_count {x y : Str} : CaJ B n ce (.builtin "str.count") [.str x, .str y] st (.int (Builtin.Str.occurrences x y 0 x.length (x.length + 1)).length) st := fun A env P K g X s xs Q E hA R hx hQ => by
  obtain ⟨a, b, rfl, hx1, hx2⟩ := hx.two
  (first|obtain ⟨_, rfl⟩:=hx1.inv|subst hx1|obtain rfl:=sj hx1|exact n1 hx1|exact n2 hx1|cases hx1); (first|obtain ⟨_, rfl⟩:=hx2.inv|subst hx2|obtain rfl:=sj hx2|exact n1 hx2|exact n2 hx2|cases hx2)
  exact call_gives PySem.F.slot_str_count (typeIs_str _ _ _) PySem.F.entry_str_count (PySem.F.args_str_count_2 _ _) (gives_str_count x y _ _) (hQ P X _ _ (.refl _) (.refl _) (R.grow fun _ _ e => e) (.int _ _))
theorem ca_bits {i : Int} : CaJ B n ce (.builtin "int.bit_length") [.int i] st (.int (Builtin.Int.intBits i)) st := fun A env P K g X s xs Q E hA R hx hQ => by
  obtain ⟨a, rfl, hx1⟩ := hx.one
  (first|obtain ⟨_, rfl⟩:=hx1.inv|subst hx1|obtain rfl:=sj hx1|exact n1 hx1|exact n2 hx1|cases hx1)
  exact PyProof.Rows.call_int_bit_length (hQ P X _ _ (.refl _) (.refl _) (R.grow fun _ _ e => e) (.int _ _))

/-- stores at a subscript -/
theorem setitem_ok {i : Nat} {vs : List CV} {k : Int} {a b y : Value} {A : Around} {Q : Unit → Shared → Prop} {E : Value → Shared → Prop} (e : st.store[i]? = some (.lst vs)) (h0 : 0 ≤ k) (hk : k < vs.length) (hfit : k < 2 ^ 63) (R : Rel B P K g X ce env st s) (ha : VR P X.ι (.ref i) a) (hb : VR P X.ι (.int k) b) (hy : VR P X.ι v y)
    (hQ : ∀ s', Rel B P K g X ce env (st.put i (.lst (vs.set k.toNat v))) s' → Q () s') : wpAny (model B.prog B.w) A (setItem a b y) Q E s := by
  obtain ⟨l, ys, ep, rfl, hi, e2, r⟩ := R.lst e ha
  obtain ⟨t, rfl⟩ := hb.inv
  have hl := r.length
  have hP : s.heap.IsList l ys.toArray := isL e2
  obtain ⟨o, ho, hc, ne, hd⟩ := id hP
  unfold setItem
  try with_reducible refine wpAny_holding ?_
  first | refine wpAny_bind (wpAny_pure ?_) | skip
  refine wpAny_bind (wpAny_sequenceKey hP.typeIs (by decide) ?_)
  refine wpAny_bind (wpAny_callSpecial?_slot (name := Str.ofString "__setitem__") hP.typeIs slot_list_setitem
    (wpAny_call_entry slot_list_setitem hP.typeIs entry_list_setitem ?_ (args_list_setitem _ _ _)))
  show wpAny _ _ (Builtin.List.listSubscript? (.int k t) >>= _) _ _ s
  refine wpAny_bind (wpAny_listSubscript_int (fitsIndex_of h0 hfit) ?_)
  clear hfit
  obtain ⟨j, rfl⟩ := Int.eq_ofNat_of_zero_le h0
  have hj : j < ys.toArray.size := by show j < ys.length; walk_at "o"
  have hx' : ys.toArray[j]? = some ys.toArray[j] := Array.getElem?_eq_getElem hj
  rw [ho] at e2
  (first|subst e2|obtain rfl:=sj e2|exact n1 e2|exact n2 e2|exact b1 e2|exact b2 e2|cases e2)
  show wpAny _ _ ((seqItemAt l j >>= fun r => pure (r.map (j, ·))) >>= _) _ _ s
  refine wpAny_bind (wpAny_bind (wpAny_seqItemAt ho rfl (wpAny_pure ?_)))
  rw [hx']
  show wpAny _ _ (setSeqItemAt l j y >>= _) _ _ s
  obtain ⟨ep2, h2⟩ := mapSeq_obj (f := fun x => x.setIfInBounds j y) (xs := ys) (ys := ys.set j y) (ep := ep) (by simp)
  have fin : Q () { s with heap := s.heap.update l (Obj.mapSeq (·.setIfInBounds j y)) } := by
    refine hQ _ (R.modS (s' := { s with heap := s.heap.update l (Obj.mapSeq (·.setIfInBounds j y)) }) e hi rfl (co' := .lst (vs.set j v)) rfl (fun b o hb eo => (Heap.get?_update_other _ _ (by simpa using fun q => hb (by rw [q]; simp))).trans eo) rfl rfl ⟨rfl, ys.set j y, ep2, (Heap.get?_update_self _ ho rfl).trans (congrArg some h2), r.set hy j⟩)
  refine wpAny_bind (wpAny_setSeqItemAt ho rfl ?_)
  first
    | exact wpAny_bind (wpAny_pure (wpAny_pure ⟨.none, rfl, wpAny_pure fin⟩))
    | exact wpAny_pure ⟨.none, rfl, wpAny_pure fin⟩
theorem Ex_augItem {o i e : Expr} {tpos pos : Pos} {op : Operator} {j : Nat} {vs : List CV} {k : Int} (h1 : EvJ B n ce o st (.ref j) st1) (h2 : EvJ B n ce i st1 (.int k) st2) (hi : ItR st2.store (.ref j) (.int k) v1) (h3 : EvJ B n ce e st2 v2 st3) (ho : AugR op v1 v2 v)
    (e4 : st3.store[j]? = some (.lst vs)) (h0 : 0 ≤ k) (hk : k < vs.length) (hfit : k < 2 ^ 63)
    (ha : ∀ ov iv new, augStore i ov iv new = (do holding [new, ov, iv] (setItem ov iv new); release [new, ov, iv] []; pure .next) := by intros; rfl) :
    ExJ B n ce (.AugAssign (.Subscript o i tpos) op e pos) st .nxt (st3.put j (.lst (vs.set k.toNat v))) := fun A env P K g X s Q E hA R hQ => by
  refine wpAny_AugAssign_SubscriptAny (h1 A env P K g X s _ E hA R fun P1 X1 s1 a lP1 lX1 R1 r1 => h2 A env P1 K g X1 s1 _ E hA R1 fun P2 X2 s2 b lP2 lX2 R2 r2 => ?_) ha
  have get : ∀ (Q : Value → Shared → Prop), (∀ s' v', Rel B P2 K g X2 ce env st2 s' → VR P2 X2.ι v1 v' → Q v' s') → wpAny (model B.prog B.w) A (getItem a b) Q E s2 := fun Q hQ => by
    cases hi with
    | list q1 q2 q3 q4 =>
      obtain ⟨l, xs, rfl, e1, r⟩ := R2.asL q1 (r1.mono lP2 lX2.ι)
      obtain ⟨u, rfl⟩ := r2.inv
      obtain ⟨z, hz, rz⟩ := r.get q4
      exact wpAny_getItem_list e1 q2 q3 (by simpa using hz) (hQ s2 z R2 rz)
    | listN q1 q2 => walk_at "o"
  refine get _ fun s3 old R3 r3 => h3 A env P2 K g X2 s3 _ E hA R3 fun P4 X4 s4 c lP4 lX4 R4 r4 => ?_
  refine aug_ok ho R4 (r3.mono lP4 lX4.ι) r4 fun s5 z R5 rz => ?_
  exact setitem_ok e4 h0 hk hfit R5 ((r1.mono lP2 lX2.ι).mono lP4 lX4.ι) (r2.mono lP4 lX4.ι) rz fun s6 R6 => hQ P4 X4 s6 _ (lP1.trans (lP2.trans lP4)) (lX1.trans (lX2.trans lX4)) R6 .nxt
theorem As_item {o i : Expr} {tpos : Pos} {j : Nat} {vs : List CV} {k : Int} (h1 : EvJ B n ce o st (.ref j) st1) (h2 : EvJ B n ce i st1 (.int k) st2) (e4 : st2.store[j]? = some (.lst vs)) (h0 : 0 ≤ k) (hk : k < vs.length) (hfit : k < 2 ^ 63) : AsJ B n ce (.Subscript o i tpos) st v (st2.put j (.lst (vs.set k.toNat v))) := fun A env P K g X s y Q E hA R hy hQ => by
  rw [PySem.assign_Subscript]
  refine wpAny_bind (wpAny_holding (h1 A env P K g X s _ E hA R fun P1 X1 s1 a lP1 lX1 R1 r1 => wpAny_bind (wpAny_holding (h2 A env P1 K g X1 s1 _ E hA R1 fun P2 X2 s2 b lP2 lX2 R2 r2 => ?_))))
  refine wpAny_bind (wpAny_standAt (wpAny_bind (wpAny_holding ?_)))
  refine setitem_ok e4 h0 hk hfit R2 (r1.mono lP2 lX2.ι) r2 ((hy.mono lP1 lX1.ι).mono lP2 lX2.ι) fun s3 R3 => ?_
  exact wpAny_release' (hQ P2 X2 s3 (lP1.trans lP2) (lX1.trans lX2) R3)

/-- to unpack a tuple -/
inductive AssJ (B : Base) (n : Nat) (ce : CEnv) : List Expr → LSt → List CV → LSt → Prop
  | nil {st : LSt} : AssJ B n ce [] st [] st
  | cons {t : Expr} {ts : List Expr} {v : CV} {vs : List CV} {st st1 st2 : LSt} : AsJ B n ce t st v st1 → AssJ B n ce ts st1 vs st2 → AssJ B n ce (t :: ts) st (v :: vs) st2
theorem ass_ok {ts : List Expr} {vs : List CV} {st st' : LSt} (h : AssJ B n ce ts st vs st') : ∀ {A : Around} {env : Env} {P K : Gh} {g : GG} {X : Book} {s : Shared} {xs : List Value} {Q : Unit → Shared → Prop} {E : Value → Shared → Prop}, Room A n → Rel B P K g X ce env st s → VRs P X.ι vs xs →
    (∀ P' X' s', Le P P' → X.Le X' → Rel B P' K g X' ce env st' s' → Q () s') → wpAny (model B.prog B.w) A (assignInOrder (ts.map fun t => assign t env) xs) Q E s := by
  induction h with
  | nil => intro A env P K g X s xs Q E hA R hx hQ; (first|obtain ⟨_, rfl⟩:=hx.inv|subst hx|obtain rfl:=sj hx|exact n1 hx|exact n2 hx|cases hx); exact wpAny_pure (hQ P X s (.refl _) (.refl _) R)
  | cons h1 _ ih =>
    intro A env P K g X s xs Q E hA R hx hQ
    cases hx with | cons a b =>
    show wpAny _ _ (assignInOrder (assign _ env :: _) (_ :: _)) _ _ _
    unfold assignInOrder
    refine wpAny_bind (wpAny_holding (h1 A env P K g X s _ _ E hA R a fun P1 X1 s1 lP1 lX1 R1 => ?_))
    exact ih hA R1 (b.mono lP1 lX1.ι) fun P2 X2 s2 lP2 lX2 R2 => hQ P2 X2 s2 (lP1.trans lP2) (lX1.trans lX2) R2
theorem assignEach_plain {env : Env} : ∀ {ts : List Expr}, (ts.all fun t => match t with | .Starred .. => false | _ => true) = true → assignEach ts env = ts.map fun t => (false, assign t env)
  | [], _ => rfl
  | t :: ts, h => by
    simp only [List.all_cons, Bool.and_eq_true] at h
    have ih := assignEach_plain (env := env) h.2
    cases t with
    | Starred => simp at h
    | _ => exact congrArg (List.cons _) ih
theorem As_tuple {ts : List Expr} {k} {pos : Pos} (h : AssJ B n ce ts st vs st1) (hl : ts.length = vs.length) (hp : autoParam ((ts.all fun t => match t with | .Starred .. => false | _ => true) = true) tRfl) : AsJ B n ce (.Tuple ts k pos) st (.tup vs) st1 := fun A env P K g X s y Q E hA R hy hQ => by
  obtain ⟨ys, l, ep, rfl, hpp, r⟩ := hy.inv
  have hl2 := r.length
  have e := assignEach_plain (env := env) hp
  refine assign_Tuple_tuple (items := ys.toArray) hA.handled (isT (R.inv.perm _ _ hpp)) (by rw [e]; simp; walk_at "o") ?_ fun h' hk => ?_
  · rw [e, List.findIdx?_eq_none_iff]
    intro x hx
    obtain ⟨t, _, rfl⟩ := List.mem_map.mp hx
    rfl
  · rw [e, List.map_map]
    have R1 : Rel B P K g X ce env st { s with heap := h' } := R.grow fun b o eo => hk b o (Nat.ne_of_lt (Heap.lt_size eo)) eo
    exact ass_ok h hA R1 r fun P2 X2 s2 lP2 lX2 R2 => hQ P2 X2 s2 lP2 lX2 R2
end
end Mine

namespace Mine

noncomputable def progAt (k : Nat) : Stmt := (PySem.Challenge.pw_uk0009_01.main.body[k]?).getD (.Pass ⟨0, 0, 0, 0⟩)
noncomputable def bodyOf : Stmt → List Stmt
  | .FunctionDef _ _ body .. => body
  | _ => []
noncomputable def scopeOf : Stmt → Scope
  | .FunctionDef _ _ _ _ _ _ scope .. => scope
  | _ => { kind := .function, names := [], isGenerator := false, isCoroutine := false, more := [] }
theorem len2 {α : Type _} {l : List α} (h : l.length = 2) : ∃ a b, l = [a, b] := by
  cases l with
  | nil => cases h
  | cons a l => cases l with
    | nil => cases h
    | cons b l => cases l with
      | nil => exact ⟨a, b, rfl⟩
      | cons c l => exact absurd h (by simp)
theorem len3 {α : Type _} {l : List α} (h : l.length = 3) : ∃ a b c, l = [a, b, c] := by
  cases l with
  | nil => cases h
  | cons a l => obtain ⟨b, c, rfl⟩ := len2 (Nat.succ.inj h); exact ⟨a, b, c, rfl⟩
structure SP where
  b1 : List Stmt
  b2 : List Stmt
  e1 : Expr
  e2 : Expr
noncomputable def spOf : Option Stmt → SP
  | some (.For t i b o _) => ⟨b, o, i, t⟩
  | some (.While t b o _) => ⟨b, o, t, t⟩
  | some (.If t b o _) => ⟨b, o, t, t⟩
  | some (.Assign _ e _) => ⟨[], [], e, e⟩
  | _ => ⟨[], [], .Constant .none 0 ⟨0, 0, 0, 0⟩, .Constant .none 0 ⟨0, 0, 0, 0⟩⟩
noncomputable def bodyAt (k : Nat) : List Stmt := bodyOf (progAt k)
noncomputable def scopeAt (k : Nat) : Scope := scopeOf (progAt k)
noncomputable abbrev ceAt (k : Nat) : CEnv := ⟨scopeAt k, []⟩

/-- fewer variables -/
inductive VSub : List (Str × CV) → List (Str × CV) → Prop
  | nil {l : List (Str × CV)} : VSub [] l
  | cons {x : Str} {v : CV} {r l : List (Str × CV)} : l.lookup x = some v → VSub r l → VSub ((x, v) :: r) l
theorem VSub.ok {l l' : List (Str × CV)} (h : VSub l l') : ∀ {x : Str} {v : CV}, l.lookup x = some v → l'.lookup x = some v := by
  induction h with
  | nil => intro x v e; (first|subst e|obtain rfl:=sj e|exact n1 e|exact n2 e|exact b1 e|exact b2 e|cases e)
  | cons h1 _ ih =>
    intro x v e
    rw [List.lookup_cons] at e
    split at e
    · rename_i q
      rw [show x = _ by simpa using q]
      (first|subst e|obtain rfl:=sj e|exact n1 e|exact n2 e|exact b1 e|exact b2 e|cases e); exact h1
    · exact ih e

section
variable {B : Base} {n : Nat} {ce ce' : CEnv} {st st1 st2 st3 st4 st5 : LSt} {v v1 v2 v3 r : CV} {vs ws : List CV} {P P' K led : Gh} {g gl g' : GG} {X X' : Book} {env env' : Env} {s s' s'' : Shared} {ι : Sto} {S : List CO}

theorem Rel.weak (R : Rel B P K g X ce env st s) {l : List (Str × CV)} (h : VSub l st.vars) : Rel B P K g X ce env ⟨l, st.store⟩ s where
  inv := R.inv
  env := R.env
  loc := let ⟨m, a, b⟩ := R.loc; ⟨m, a, fun x cv hx hc => b x cv hx (h.ok hc)⟩
  cel := fun x c hx => let ⟨v, a, b⟩ := R.cel x c hx; ⟨v, a, fun cv hc => b cv (h.ok hc)⟩
  sto := R.sto
  own := R.own
  off := R.off
/-- a list of the store that a variable names becomes permanent -/
theorem Rel.freezeV (R : Rel B P K g X ce env st s) {x : Str} {i : Nat} {vs : List CV} (hx : st.vars.lookup x = some (.ref i)) (hs : stores ce x = true) (e : st.store[i]? = some (.lst vs)) :
    ∃ P', Le P P' ∧ Rel B P' K g X ce env ⟨setV x (.list vs) st.vars, st.store.set i .dead⟩ s := by
  unfold stores at hs
  have val : ∀ {y : Str} {cv : CV}, (setV x (.list vs) st.vars).lookup y = some cv → (y = x ∧ cv = .list vs) ∨ (y ≠ x ∧ st.vars.lookup y = some cv) := fun {y cv} h => by
    by_cases q : y = x
    · obtain rfl := q.symm; rw [setV_self] at h; (first|subst h|obtain rfl:=sj h|exact n1 h|exact n2 h|exact b1 h|exact b2 h|cases h); exact .inl ⟨rfl, rfl⟩
    · rw [setV_ne _ q] at h; exact .inr ⟨q, h⟩
  split at hs
  · rename_i hl
    obtain ⟨m, hm, hv⟩ := R.loc
    obtain ⟨u, hu, r⟩ := hv x _ hl hx
    obtain ⟨P', lP, R', r'⟩ := R.freeze e r
    refine ⟨P', lP, ⟨R'.inv, R'.env, ⟨m, hm, fun y cv hy hc => ?_⟩, fun y c hy => ?_, R'.sto, R'.own, R'.off⟩⟩
    · rcases val hc with ⟨rfl, rfl⟩ | ⟨q, hc⟩
      · exact ⟨u, hu, r'⟩
      · obtain ⟨w, a, b⟩ := hv y cv hy hc; exact ⟨w, a, b.mono lP (.refl _)⟩
    · obtain ⟨w, a, b⟩ := R'.cel y c hy
      refine ⟨w, a, fun cv hc => ?_⟩
      rcases val hc with ⟨rfl, rfl⟩ | ⟨q, hc⟩
      · have := R.env.cellk _ c hy; rw [hl] at this; (first|subst this|obtain rfl:=sj this|exact n1 this|exact n2 this|exact b1 this|exact b2 this|cases this)
      · exact b cv hc
  · rename_i hl
    obtain ⟨c, h1, h2⟩ := R.env.cell x hl (by simpa using hs)
    have hxc := mem_lookup h2
    obtain ⟨w, hw, hv⟩ := R.cel x c hxc
    obtain ⟨u, rfl, r⟩ := hv _ hx
    obtain ⟨P', lP, R', r'⟩ := R.freeze e r
    refine ⟨P', lP, ⟨R'.inv, R'.env, ?_, fun y c2 hy => ?_, R'.sto, R'.own, R'.off⟩⟩
    · obtain ⟨m, hm, hv⟩ := R'.loc
      refine ⟨m, hm, fun y cv hy hc => ?_⟩
      rcases val hc with ⟨rfl, rfl⟩ | ⟨q, hc⟩
      · rw [hl] at hy; (first|obtain ⟨_, rfl⟩:=hy.inv|subst hy|obtain rfl:=sj hy|exact n1 hy|exact n2 hy|cases hy)
      · exact hv y cv hy hc
    · obtain ⟨w2, a, b⟩ := R'.cel y c2 hy
      by_cases q : y = x
      · obtain rfl := q.symm
        have := nodup_fst R.env.celln hxc hy
        obtain rfl := this.symm
        exact ⟨some u, hw, fun cv hc => by rw [setV_self] at hc; (first|subst hc|obtain rfl:=sj hc|exact n1 hc|exact n2 hc|exact b1 hc|exact b2 hc|cases hc); exact ⟨u, rfl, r'⟩⟩
      · refine ⟨w2, a, fun cv hc => ?_⟩
        rcases val hc with ⟨rfl, rfl⟩ | ⟨_, hc⟩
        · exact absurd rfl q
        · exact b cv hc
  · (first|subst hs|obtain rfl:=sj hs|exact n1 hs|exact n2 hs|exact b1 hs|exact b2 hs|cases hs)
theorem Xs_freeze {xs : List Stmt} {f : CFl} {i : Nat} {vs : List CV} (x : Str) (hx : st.vars.lookup x = some (.ref i)) (e : st.store[i]? = some (.lst vs)) (h : XsJ B n ce xs ⟨setV x (.list vs) st.vars, st.store.set i .dead⟩ f st1) (hs : stores ce x = true) : XsJ B n ce xs st f st1 := fun A env P K g X s Q E hA R hQ => by
  obtain ⟨P', lP, R'⟩ := R.freezeV hx hs e
  exact h A env P' K g X s Q E hA R' fun P2 X2 s2 a lP2 lX2 R2 r => hQ P2 X2 s2 a (lP.trans lP2) lX2 R2 r

inductive BinO (S : List CO) : Operator → CV → CV → CV → Prop
  | num {op : Operator} {a b c : CV} : BinR op a b c → BinO S op a b c
  | seq {op : Operator} {a b c : CV} : BinS S op a b c → BinO S op a b c
theorem Ev_bo {op : Operator} {l r : Expr} {pos : Pos} (h1 : EvJ B n ce l st v1 st1) (h2 : EvJ B n ce r st1 v2 st2) (h : BinO st2.store op v1 v2 v) : EvJ B n ce (.BinOp l op r pos) st v st2 := by
  induction h with
  | num h => exact Ev_bin h1 h2 h
  | seq h => exact Ev_binS h1 h2 h

theorem J.pre {α : Type} {t : Env → Sem α} {Q : Gh → Sto → α → Prop} {l l0 : List (Str × CV)} (h : J B n ce t ⟨l0, S⟩ Q st1) (hs : VSub l0 l) : J B n ce t ⟨l, S⟩ Q st1 := fun A env P K g X s Q E hA R hQ => h A env P K g X s Q E hA (R.weak hs) hQ
theorem AsJ.pre {t : Expr} {l l0 : List (Str × CV)} (h : AsJ B n ce t ⟨l0, S⟩ v st1) (hs : VSub l0 l) : AsJ B n ce t ⟨l, S⟩ v st1 := fun A env P K g X s y Q E hA R hy hQ => h A env P K g X s y Q E hA (R.weak hs) hy hQ
/-- one turn of a comprehension -/
inductive TurnJ (B : Base) (n : Nat) (ce : CEnv) (t : Expr) (ifs : List Expr) (elt : Expr) (l0 : List (Str × CV)) (S : List CO) : CV → Option CV → Prop
  | skip {y : CV} {st1 st2 : LSt} : AsJ B n ce t ⟨l0, S⟩ y st1 → IfsJ B n ce ifs st1 false st2 → VSub l0 st2.vars → st2.store = S → TurnJ B n ce t ifs elt l0 S y none
  | take {y v : CV} {st1 st2 st3 : LSt} : AsJ B n ce t ⟨l0, S⟩ y st1 → IfsJ B n ce ifs st1 true st2 → EvJ B n ce elt st2 v st3 → v.pure = true → VSub l0 st3.vars → st3.store = S → TurnJ B n ce t ifs elt l0 S y (some v)
/-- the turns of a comprehension over one list, all alike -/
theorem LpJ.all {elt t iter : Expr} {ifs : List Expr} {α : Type} {l0 : List (Str × CV)} {S : List CO} (val : α → CV) (out : α → Option CV) :
    ∀ (as : List α) (l : List (Str × CV)), (∀ a ∈ as, TurnJ B n ce t ifs elt l0 S (val a) (out a)) → VSub l0 l → ∃ l', LpJ B n ce elt [⟨t, iter, ifs, 0⟩] (as.map val) ⟨l, S⟩ (as.filterMap out) ⟨l', S⟩ ∧ VSub l0 l'
  | [], l, _, hl => ⟨l, .nil, hl⟩
  | a :: as, l, turn, hl => by
    have ta := turn a (.head _)
    rw [List.filterMap_cons]
    generalize out a = o at ta
    cases ta with
    | @skip st1 st2 h1 h2 hv hs =>
      obtain ⟨l', h5, h6⟩ := LpJ.all (iter := iter) val out as st2.vars (fun b hb => turn b (.tail _ hb)) hv
      have : st2 = ⟨st2.vars, S⟩ := by rw [← hs]
      exact ⟨l', .skip (AsJ.pre h1 hl) h2 (this ▸ h5), h6⟩
    | @take v st1 st2 st3 h1 h2 h3 hp hv hs =>
      obtain ⟨l', h5, h6⟩ := LpJ.all (iter := iter) val out as st3.vars (fun b hb => turn b (.tail _ hb)) hv
      have : st3 = ⟨st3.vars, S⟩ := by rw [← hs]
      exact ⟨l', .take (AsJ.pre h1 hl) h2 h3 hp (this ▸ h5), h6⟩
/-- two clauses -/
theorem LpJ.all2 {elt t iter t' iter' : Expr} {ifs ifs' : List Expr} {α : Type} {S : List CO} (val : α → CV) (zs : α → List CV) (out : α → List CV) :
    ∀ (as : List α) (l : List (Str × CV)), (∀ a ∈ as, ∃ st1 st2 st3 l', AsJ B n ce t ⟨[], S⟩ (val a) st1 ∧ IfsJ B n ce ifs st1 true st2 ∧ ItE B n ce iter' st2 (zs a) st3 ∧ pures (zs a) = true ∧ LpJ B n ce elt [⟨t', iter', ifs', 0⟩] (zs a) st3 (out a) ⟨l', S⟩) →
      ∃ l', LpJ B n ce elt [⟨t, iter, ifs, 0⟩, ⟨t', iter', ifs', 0⟩] (as.map val) ⟨l, S⟩ (as.flatMap out) ⟨l', S⟩
  | [], l, _ => ⟨l, .nil⟩
  | a :: as, l, turn => by
    obtain ⟨st1, st2, st3, l1, h1, h2, h3, h4, h5⟩ := turn a (.head _)
    obtain ⟨l', h6⟩ := LpJ.all2 (iter := iter) val zs out as l1 fun b hb => turn b (.tail _ hb)
    exact ⟨l', .deep (AsJ.pre h1 .nil) h2 h3 h4 h5 h6⟩
end
end Mine

namespace Mine

/-- the functions that the law reaches -/
structure Law (B : Base) : Prop where
  div2n1n : FnAt B 21 [Str.ofString "a", Str.ofString "b", Str.ofString "n"] (bodyAt 2) (scopeAt 2)
  int2digits : FnAt B 35 [Str.ofString "a", Str.ofString "n"] (bodyAt 4) (scopeAt 4)
  digits2int : FnAt B 42 [Str.ofString "digits", Str.ofString "n"] (bodyAt 5) (scopeAt 5)
  divmod_pos : FnAt B 49 [Str.ofString "a", Str.ofString "b"] (bodyAt 6) (scopeAt 6)
  int_divmod : FnAt B 56 [Str.ofString "a", Str.ofString "b"] (bodyAt 7) (scopeAt 7)
  iter_escaped : FnAt B 63 [Str.ofString "addr"] (bodyAt 9) (scopeAt 9)
  strip_quoted : FnAt B 70 [Str.ofString "addr"] (bodyAt 10) (scopeAt 10)
  check_paren : FnAt B 77 [Str.ofString "addr"] (bodyAt 11) (scopeAt 11)
  iseof : FnAt B 129 [Str.ofString "x"] (bodyAt 66) (scopeAt 66)
  heaps : FnAt B 134 [Str.ofString "script"] (bodyAt 68) (scopeAt 68)
  tree : FnAt B 141 [Str.ofString "letters", Str.ofString "number", Str.ofString "signs"] (bodyAt 69) (scopeAt 69)
  row : FnAt B 148 [Str.ofString "tree", Str.ofString "leaves"] (bodyAt 70) (scopeAt 70)
  truths : FnAt B 153 [Str.ofString "tree"] (bodyAt 71) (scopeAt 71)
  spelled : FnAt B 158 [Str.ofString "word", Str.ofString "mode"] (bodyAt 72) (scopeAt 72)
  lexer : FnAt B 165 [Str.ofString "text"] (bodyAt 73) (scopeAt 73)
  read : FnAt B 170 [Str.ofString "pieces", Str.ofString "tokens", Str.ofString "masks"] (bodyAt 74) (scopeAt 74)
  digits : FnAt B 175 [Str.ofString "number", Str.ofString "cases", Str.ofString "width"] (bodyAt 75) (scopeAt 75)
  divided : FnAt B 182 [Str.ofString "number", Str.ofString "divisor"] (bodyAt 76) (scopeAt 76)
  least : FnAt B 187 [Str.ofString "cases"] (bodyAt 77) (scopeAt 77)
  near : FnAt B 192 [Str.ofString "one", Str.ofString "other", Str.ofString "groups"] (bodyAt 78) (scopeAt 78)
  piles : FnAt B 197 [Str.ofString "letters", Str.ofString "ways", Str.ofString "kind"] (bodyAt 79) (scopeAt 79)
  text : FnAt B 202 [Str.ofString "letters", Str.ofString "ways"] (bodyAt 80) (scopeAt 80)
  once : FnAt B 207 [Str.ofString "ways", Str.ofString "cuts", Str.ofString "used", Str.ofString "masks", Str.ofString "due"] (bodyAt 81) (scopeAt 81)
theorem FnAt.fn {B : Base} {a : Addr} {ps : List Str} {b : List Stmt} {sc : Scope} (h : FnAt B a ps b sc) : ∃ o fd, B.P₀ a = some o ∧ o.data = .func fd := let ⟨o, fd, a, b, _⟩ := h.ok; ⟨o, fd, a, b⟩

section
variable {B : Base} {n : Nat} {ce ce' : CEnv} {st st1 st2 st3 st4 st5 : LSt} {v v1 v2 v3 r : CV} {vs ws : List CV} {P P' K led : Gh} {g gl g' : GG} {X X' : Book} {env env' : Env} {s s' s'' : Shared} {ι : Sto} {S : List CO}

inductive SlR (S : List CO) : CV → Option Int → Option Int → CV → Prop
  | list {u : CV} {vs : List CV} {lo hi : Option Int} : asL S u = some vs → vs.length ≤ 16777216 → SlR S u lo hi (.list (pickV vs lo hi none))
  | str {x : Str} {lo hi : Option Int} : x.length ≤ 16777216 → SlR S (.str x) lo hi (.str (Txt.slice x lo hi))
theorem Ev_slice {value : Expr} {l u : Option Expr} {p pos : Pos} {lo hi : Option Int} (h1 : EvJ B n ce value st v1 st1) (hl : PtJ B n ce l st1 lo st2) (hu : PtJ B n ce u st2 hi st3) (h : SlR st3.store v1 lo hi v) : EvJ B n ce (.Subscript value (.Slice l u none p) pos) st v st3 := by
  induction h with
  | list h hs => exact Ev_sliceL (hs := by first | exact ⟨fun x y => [y, x], fun _ _ => rfl⟩ | exact ⟨fun x y => [x, y], fun _ _ => rfl⟩) h1 hl hu Pt_none h hs (by simp)
  | str h => exact Ev_sliceS h1 hl hu h
theorem Ts_and2 {x y : Expr} {pos : Pos} {b c : Bool} (h1 : TsJ B n ce x st b st) (h2 : b = true → TsJ B n ce y st c st) : TsJ B n ce (.BoolOp .And [x, y] pos) st (b && c) st := by
  cases b with
  | false => exact Ts_and_false h1
  | true =>
    have := h2 rfl
    cases c with
    | false => exact Ts_and_true h1 (Ts_and_false this)
    | true => exact Ts_and_true h1 (Ts_and_true this Ts_and_nil)
theorem Ts_or2 {x y : Expr} {pos : Pos} {b c : Bool} (h1 : TsJ B n ce x st b st) (h2 : b = false → TsJ B n ce y st c st) : TsJ B n ce (.BoolOp .Or [x, y] pos) st (b || c) st := by
  cases b with
  | true => exact Ts_or_true h1
  | false =>
    have := h2 rfl
    cases c with
    | false => exact Ts_or_false h1 (Ts_or_false this Ts_or_nil)
    | true => exact Ts_or_false h1 (Ts_or_true this)
theorem Ts_or3 {x y z : Expr} {pos : Pos} {b c d : Bool} (h1 : TsJ B n ce x st b st) (h2 : b = false → TsJ B n ce y st c st) (h3 : b = false → c = false → TsJ B n ce z st d st) : TsJ B n ce (.BoolOp .Or [x, y, z] pos) st (b || c || d) st := by
  cases b with
  | true => exact Ts_or_true h1
  | false =>
    have h2 := h2 rfl
    cases c with
    | true => exact Ts_or_false h1 (Ts_or_true h2)
    | false =>
      have h3 := h3 rfl rfl
      cases d with
      | false => exact Ts_or_false h1 (Ts_or_false h2 (Ts_or_false h3 Ts_or_nil))
      | true => exact Ts_or_false h1 (Ts_or_false h2 (Ts_or_true h3))
theorem Ev_if2 {t x y : Expr} {pos : Pos} {b : Bool} (h : TsJ B n ce t st b st) (hx : b = true → EvJ B n ce x st v1 st) (hy : b = false → EvJ B n ce y st v2 st) : EvJ B n ce (.IfExp t x y pos) st (if b then v1 else v2) st := by
  cases b with
  | true => exact Ev_if h (hx rfl)
  | false => exact Ev_if h (hy rfl)
theorem FnJ.of_eq {f : Value} {vs ws : List CV} {r q : CV} (h : FnJ B n f vs r) (h1 : vs = ws) (h2 : r = q) : FnJ B n f ws q := h1 ▸ h2 ▸ h
theorem J.eqv {e : Expr} (h : EvJ B n ce e st v st1) (hv : v = v1) : EvJ B n ce e st v1 st1 := hv ▸ h
theorem J.eqb {e : Expr} {b c : Bool} (h : TsJ B n ce e st b st1) (hv : b = c) : TsJ B n ce e st c st1 := hv ▸ h
theorem pures_ints (ns : List Int) : pures (ns.map .int) = true := by induction ns <;> simp [pures, CV.pure, *]
theorem pures_strs (ns : List Str) : pures (ns.map .str) = true := by induction ns <;> simp [pures, CV.pure, *]
theorem pures_map {α : Type} {f : α → CV} (h : ∀ a, (f a).pure = true) (l : List α) : pures (l.map f) = true := by induction l <;> simp [pures, *]
theorem pures_rng (a c : Int) (k : Nat) : pures (rngL a c k) = true := pures_map (fun _ => rfl) _
theorem Ev_compAll {elt t iter : Expr} {ifs : List Expr} {scope : Scope} {pos : Pos} {α : Type} {val : α → CV} {out : α → Option CV} {as : List α} (hi : ItE B n ce iter st (as.map val) st1) (hp : pures (as.map val) = true) (hc : CompOk ce st1 scope)
    (turn : ∀ a ∈ as, TurnJ B n (compCE ce st1 scope) t ifs elt [] st1.store (val a) (out a)) (hsz : as.length ≤ 16777216) (hf : autoParam (∀ env x, foldedSetIterable iter env x = pure x) tRfl2) :
    EvJ B n ce (.ListComp elt [⟨t, iter, ifs, 0⟩] scope pos) st (.list (as.filterMap out)) st1 := by
  obtain ⟨l', L, _⟩ := LpJ.all (iter := iter) val out as [] turn .nil
  exact Ev_comp (st' := ⟨l', st1.store⟩) hi hp hc (.one hf) L rfl (Nat.le_trans (List.length_filterMap_le _ _) hsz)
theorem Ex_compAll {elt t iter : Expr} {ifs : List Expr} {scope : Scope} {pos px p : Pos} {x : Str} {α : Type} {val : α → CV} {out : α → Option CV} {as : List α} (hi : ItE B n ce iter st (as.map val) st1) (hp : pures (as.map val) = true) (hc : CompOk ce st1 scope)
    (turn : ∀ a ∈ as, TurnJ B n (compCE ce st1 scope) t ifs elt [] st1.store (val a) (out a)) (hsz : as.length ≤ 16777216) (hx : ce.scope.names.lookup x = some .local) (hl : (px.line == p.line && !(scope.names.any fun (n, k) => n == x && (k == .local || k == .cell))) = true) (hf : autoParam (∀ env x, foldedSetIterable iter env x = pure x) tRfl2) :
    ExJ B n ce (.Assign [.Name x px] (.ListComp elt [⟨t, iter, ifs, 0⟩] scope p) pos) st .nxt (st1.set x (.list (as.filterMap out))) := by
  obtain ⟨l', L, _⟩ := LpJ.all (iter := iter) val out as [] turn .nil
  exact Ex_comp (st' := ⟨l', st1.store⟩) hi hp hc (.one hf) L rfl (Nat.le_trans (List.length_filterMap_le _ _) hsz) hx hl
theorem Ev_comp2 {elt t iter t' iter' : Expr} {ifs ifs' : List Expr} {scope : Scope} {pos : Pos} {α : Type} {val : α → CV} {zs out : α → List CV} {as : List α} (hi : ItE B n ce iter st (as.map val) st1) (hp : pures (as.map val) = true) (hc : CompOk ce st1 scope)
    (turn : ∀ a ∈ as, ∃ st2 st3 st4 l', AsJ B n (compCE ce st1 scope) t ⟨[], st1.store⟩ (val a) st2 ∧ IfsJ B n (compCE ce st1 scope) ifs st2 true st3 ∧ ItE B n (compCE ce st1 scope) iter' st3 (zs a) st4 ∧ pures (zs a) = true ∧ LpJ B n (compCE ce st1 scope) elt [⟨t', iter', ifs', 0⟩] (zs a) st4 (out a) ⟨l', st1.store⟩)
    (hsz : (as.flatMap out).length ≤ 16777216) (hf : autoParam (∀ env x, foldedSetIterable iter env x = pure x) tRfl2) (hf' : autoParam (∀ env x, foldedSetIterable iter' env x = pure x) tRfl2) :
    EvJ B n ce (.ListComp elt [⟨t, iter, ifs, 0⟩, ⟨t', iter', ifs', 0⟩] scope pos) st (.list (as.flatMap out)) st1 := by
  obtain ⟨l', L⟩ := LpJ.all2 (iter := iter) val zs out as [] turn
  exact Ev_comp (st' := ⟨l', st1.store⟩) hi hp hc (.two hf hf') L rfl hsz
theorem FunOk.mk' {scope : Scope} {params : List Str} (h : (scope.kind == .function && decide ((scope.names.map (·.1)).Nodup) && params.all (fun x => stores ⟨scope, []⟩ x) && decide params.Nodup && !scope.isCoroutine) = true) : FunOk scope [] params := by
  simp only [Bool.and_eq_true, beq_iff_eq, decide_eq_true_eq, List.all_eq_true, Bool.not_eq_true'] at h
  exact ⟨h.1.1.1.1, h.1.1.1.2, h.1.1.2, h.1.2, h.2⟩
theorem CompOk.mk' {scope : Scope} (h : (scope.kind == .function && decide ((scope.names.map (·.1)).Nodup)) = true) (h2 : captOk ce st scope.names = true) : CompOk ce st scope := by
  simp only [Bool.and_eq_true, beq_iff_eq, decide_eq_true_eq] at h
  exact ⟨h.1, h.2, h2⟩
theorem TurnJ.ite {t elt : Expr} {ifs : List Expr} {l0 : List (Str × CV)} {y : CV} {b : Bool} (ha : AsJ B n ce t ⟨l0, S⟩ y st1) (hi : IfsJ B n ce ifs st1 b st1) (he : b = true → EvJ B n ce elt st1 v st1) (hp : b = true → v.pure = true) (hl : VSub l0 st1.vars) (hs : st1.store = S) : TurnJ B n ce t ifs elt l0 S y (if b then some v else none) := by
  cases b with
  | true => exact .take ha hi (he rfl) (hp rfl) hl hs
  | false => exact .skip ha hi hl hs
theorem TurnJ.all {t elt : Expr} {l0 : List (Str × CV)} {y : CV} (ha : AsJ B n ce t ⟨l0, S⟩ y st1) (he : EvJ B n ce elt st1 v st1) (hp : v.pure = true) (hl : VSub l0 st1.vars) (hs : st1.store = S) : TurnJ B n ce t [] elt l0 S y (some v) :=
  .take ha Ifs_nil he hp hl hs
theorem filterMap_if {α β : Type} (p : α → Bool) (f : α → β) (l : List α) : (l.filterMap fun a => if p a then some (f a) else none) = (l.filter p).map f := by
  induction l with
  | nil => rfl
  | cons a l ih => cases h : p a <;> simp [h, ih]
theorem filterMap_all {α β : Type} (f : α → β) (l : List α) : (l.filterMap fun a => some (f a)) = l.map f := by
  induction l with
  | nil => rfl
  | cons a l ih => simp [ih]
/-- a block, its last state untold -/
noncomputable def XsE (B : Base) (n : Nat) (ce : CEnv) (xs : List Stmt) (st : LSt) (f : CFl) : Prop := ∃ st', XsJ B n ce xs st f st'
theorem XsE.cons {x : Stmt} {xs : List Stmt} {f : CFl} (h1 : ExJ B n ce x st .nxt st1) (h2 : XsE B n ce xs st1 f) : XsE B n ce (x :: xs) st f := let ⟨st', h⟩ := h2; ⟨st', Xs_cons h1 h⟩
theorem XsE.stop {x : Stmt} {xs : List Stmt} {f : CFl} (h1 : ExJ B n ce x st f st1) (hf : f ≠ .nxt := by simp) : XsE B n ce (x :: xs) st f := ⟨_, Xs_stop h1 hf⟩
theorem XsE.ret {e : Expr} {pos : Pos} {xs : List Stmt} (h1 : EvJ B n ce e st v st1) : XsE B n ce (.Return (some e) pos :: xs) st (.ret v) := ⟨_, Xs_stop (Ex_ret h1) (by simp)⟩
theorem XsE.retq {e : Expr} {pos : Pos} {xs : List Stmt} (h1 : EvJ B n ce e st v1 st1) (hv : v1 = v) : XsE B n ce (.Return (some e) pos :: xs) st (.ret v) := hv ▸ ⟨_, Xs_stop (Ex_ret h1) (by simp)⟩
theorem XsE.freeze {xs : List Stmt} {f : CFl} {i : Nat} {vs : List CV} (x : Str) (hx : st.vars.lookup x = some (.ref i)) (e : st.store[i]? = some (.lst vs)) (h : XsE B n ce xs ⟨setV x (.list vs) st.vars, st.store.set i .dead⟩ f) (hs : stores ce x = true) : XsE B n ce xs st f := let ⟨st', h⟩ := h; ⟨st', Xs_freeze x hx e h hs⟩
theorem XsE.if_stop {t : Expr} {x y xs : List Stmt} {pos : Pos} {f : CFl} (h : TsJ B n ce t st true st1) (h2 : XsE B n ce x st1 f) (hf : f ≠ .nxt := by simp) : XsE B n ce (.If t x y pos :: xs) st f := let ⟨st', h2⟩ := h2; ⟨st', Xs_stop (Ex_if (b := true) h h2) hf⟩
theorem XsE.else_stop {t : Expr} {x y xs : List Stmt} {pos : Pos} {f : CFl} (h : TsJ B n ce t st false st1) (h2 : XsE B n ce y st1 f) (hf : f ≠ .nxt := by simp) : XsE B n ce (.If t x y pos :: xs) st f := let ⟨st', h2⟩ := h2; ⟨st', Xs_stop (Ex_if (b := false) h h2) hf⟩
theorem XsE.else_go {t : Expr} {x xs : List Stmt} {pos : Pos} {f : CFl} (h : TsJ B n ce t st false st1) (h2 : XsE B n ce xs st1 f) : XsE B n ce (.If t x [] pos :: xs) st f := let ⟨st', h2⟩ := h2; ⟨st', Xs_cons (Ex_if (b := false) h Xs_nil) h2⟩
theorem FnJ.of {a : Addr} {params : List Str} {body : List Stmt} {scope : Scope} (F : FnAt B a params body scope) (hF : FunOk scope [] params) (hgen : scope.isGenerator = false) (hl : vs.length = params.length)
    (h : XsE B n ⟨scope, []⟩ body ⟨params.zip vs, []⟩ (.ret r)) (hr : r.pure = true) : FnJ B (n + 1) (.ref a) vs r := let ⟨st', h⟩ := h; FnJ.mk (f := .ret r) F hF hgen hl h hr
theorem VSub.push {l0 l : List (Str × CV)} {x : Str} {v : CV} (h : VSub l0 l) (hx : (l0.all fun p => !(p.1 == x)) = true) : VSub l0 ((x, v) :: l) := by
  induction h with
  | nil => exact .nil
  | cons h1 _ ih =>
    simp only [List.all_cons, Bool.and_eq_true, Bool.not_eq_true'] at hx
    exact .cons (by rw [List.lookup_cons, hx.1]; exact h1) (ih hx.2)
theorem VSub.over {l0 l : List (Str × CV)} {x : Str} {v : CV} (h : VSub l0 l) (hx : (l0.all fun p => !(p.1 == x)) = true) : VSub ((x, v) :: l0) ((x, v) :: l) := .cons (by simp) (h.push hx)
theorem ForJ.step {body : List Stmt} {x : Str} {p : Pos} {y : CV} {ys : List CV} {l0 l l1 : List (Str × CV)} {S S1 : List CO} {f fl : CFl} {st' : LSt} (hv : VSub l0 l) (hs : stores ce x = true) (hx : (l0.all fun p => !(p.1 == x)) = true) (hb : XsJ B n ce body ⟨(x, y) :: l0, S⟩ f ⟨l1, S1⟩) (hf : f = .nxt ∨ f = .cnt)
    (rest : ForJ B n ce (.Name x p) body ys ⟨l1, S1⟩ fl st') : ForJ B n ce (.Name x p) body (y :: ys) ⟨l, S⟩ fl st' :=
  .cons (st1 := ⟨(x, y) :: l, S⟩) (As_name hs) (J.pre hb (hv.over hx)) hf rest
theorem VSub.refl1 {l : List (Str × CV)} (h : decide ((l.map (·.1)).Nodup) = true) : VSub l l := by
  have h := of_decide_eq_true h
  suffices ∀ r, (∀ p ∈ r, p ∈ l) → VSub r l from this l fun _ h => h
  intro r hr
  induction r with
  | nil => exact .nil
  | cons p r ih => exact .cons (lookup_nodup h (hr p (.head _))) (ih fun q hq => hr q (.tail _ hq))
end
end Mine

namespace Mine
section
variable {B : Base} {n : Nat} {ce ce' : CEnv} {st st1 st2 st3 st4 st5 : LSt} {v v1 v2 v3 r : CV} {vs ws : List CV} {P P' K led : Gh} {g gl g' : GG} {X X' : Book} {env env' : Env} {s s' s'' : Shared} {ι : Sto} {S : List CO}

/-- a function was made: its code is new -/
theorem Rel.madeNew (R : Rel B P K g X ce env st s) {t : Tabl} (ht : t ∈ B.tabs) {h' : Heap} {c' : Addr} {o : Obj} (hx : Heap.ExtBut t.P s.heap h') (hge : s.heap.objs.size ≤ c') (hlt : c' < h'.objs.size) (hrec : h'.CodeRec (.ref c') t.qual)
    (htb : h'.get? t.P = some (tabObj #[rawInt t.line, rawInt t.col, .ref c'])) (hf : o.isFreed = false) (tk : Nat) :
    ∃ P' oc xs tq, Le P P' ∧ Rel B P' K g X ce env st { s with heap := h'.push o, toks := tk } ∧ P' h'.objs.size = some o ∧ P' c' = some oc ∧ oc.data = .fields xs ∧ xs[1]? = some (.str t.qual tq) := by
  obtain ⟨c₂, oc, xs, tq, e2, hoc, hd, hv⟩ := hrec
  (first|subst e2|obtain rfl:=sj e2|exact n1 e2|exact n2 e2|exact b1 e2|exact b2 e2|cases e2)
  have hfne : h'.objs.size ≠ c' := Nat.ne_of_gt hlt
  have hfge : s.heap.objs.size ≤ h'.objs.size := Nat.le_trans hge (Nat.le_of_lt hlt)
  have nP : ∀ a, s.heap.objs.size ≤ a → P a = none := fun a h => R.inv.newP h
  have hle1 : Le P (P.put c' oc) := Gh.put_le (nP _ hge)
  have hle2 : Le (P.put c' oc) ((P.put c' oc).put h'.objs.size o) := Gh.put_le ((Gh.put_ne hfne).trans (nP _ hfge))
  have htP : ∀ a ob, a ≠ t.P → s.heap.get? a = some ob → (h'.push o).get? a = some ob := fun a ob hne e => Heap.get?_push_of_some _ (hx a ob hne e)
  have P2c : ((P.put c' oc).put h'.objs.size o) c' = some oc := (Gh.put_ne (Ne.symm hfne)).trans Gh.put_self
  have P2n : ∀ a, a < s.heap.objs.size → ((P.put c' oc).put h'.objs.size o) a = P a := fun a h =>
    (Gh.put_ne (Nat.ne_of_lt (Nat.lt_of_lt_of_le h hfge))).trans (Gh.put_ne (Nat.ne_of_lt (Nat.lt_of_lt_of_le h hge)))
  have I : InvS B ((P.put c' oc).put h'.objs.size o) K g { s with heap := h'.push o, toks := tk } := by
    refine ⟨fun a ob e => ?_, fun a ob e => htP a ob (fun q => by
        have := (R.inv.tabs t ht).2.1
        rw [← q, e] at this; (first|subst this|obtain rfl:=sj this|exact n1 this|exact n2 this|exact b1 this|exact b2 this|cases this)) (R.inv.keep a ob e), fun a ob e => ?_, R.inv.base.trans (hle1.trans hle2), R.inv.os, R.inv.bare, R.inv.gk, fun t' ht' => ?_⟩
    · by_cases q : a = h'.objs.size
      · obtain rfl := q.symm; rw [Gh.put_self] at e; (first|subst e|obtain rfl:=sj e|exact n1 e|exact n2 e|exact b1 e|exact b2 e|cases e); exact Heap.get?_push_size _ hf
      · rw [Gh.put_ne q] at e
        by_cases q2 : a = c'
        · obtain rfl := q2.symm; rw [Gh.put_self] at e; (first|subst e|obtain rfl:=sj e|exact n1 e|exact n2 e|exact b1 e|exact b2 e|cases e); exact Heap.get?_push_of_some _ hoc
        · rw [Gh.put_ne q2] at e
          exact htP a ob (fun q => by
            have := (R.inv.tabs t ht).1
            rw [← q, e] at this; (first|subst this|obtain rfl:=sj this|exact n1 this|exact n2 this|exact b1 this|exact b2 this|cases this)) (R.inv.perm a ob e)
    · rw [P2n a (Heap.lt_size (R.inv.keep a ob e))]; exact R.inv.apart a ob e
    · obtain ⟨a, b, ps, e, r⟩ := R.inv.tabs t' ht'
      refine ⟨(P2n _ (Heap.lt_size e)).trans a, b, ?_⟩
      by_cases q : t'.P = t.P
      · have := B.tabs_nd t' ht' t ht q
        obtain rfl := this.symm
        exact ⟨_, Heap.get?_push_of_some _ htb, .inr ⟨c', oc, xs, tq, rfl, P2c, hd, hv⟩⟩
      · refine ⟨ps, htP _ _ q e, r.imp id ?_⟩
        rintro ⟨c3, oc3, xs3, tk3, a1, a2, a3⟩
        exact ⟨c3, oc3, xs3, tk3, a1, (hle1.trans hle2) _ _ a2, a3⟩
  refine ⟨_, oc, xs, tq, hle1.trans hle2, R.same (hle1.trans hle2) I (fun a ha ob e => htP a ob (fun q => (R.off a ha).2.2 t ht q.symm) e) (fun a ha => (P2n a (R.below ha)).trans (R.off a ha).1), Gh.put_self, P2c, hd, hv⟩

/-- a def of a def -/
theorem Rel.def_ok (R : Rel B P K g X ce env st s) {t : Tabl} (ht : t ∈ B.tabs) {A : Around} {name : Str} {params : Arguments} {body : List Stmt} {scope : Scope} {clos : List (Str × Addr)} {pos : Pos} {ps : List Str} {Q : Value → Shared → Prop} {E : Value → Shared → Prop}
    (hcode : env.code = .ref t.c) (hl : pos.line = t.line) (hc : pos.col = t.col) (hcl : closureFor scope env = pure clos)
    (hb : ∀ doc pm cv ctv (vs : List Value), vs.length = ps.length → bindArgs (fnX name t.qual params body scope clos .none .none doc pm none cv ctv) ⟨vs, []⟩ = pure (ps.zip vs))
    (hQ : ∀ P' s' f o fd, Le P P' → Rel B P' K g X ce env st s' → P' f = some o → o.cls = .type "function" → o.data = .func fd → FnD P' fd ps (.stmts body) scope clos → Q (.ref f) s') :
    wpAny (model B.prog B.w) A (makeFunction name t.qual params (.stmts body) scope env [] [] [] pos pos.line) Q E s := by
  obtain ⟨hP, hK, tps, he, hor⟩ := R.inv.tabs t ht
  have hge0 : env.globals = mainGlobals := R.env.globals
  have Hd := B.code_hd t ht s.heap R.inv.h0
  have Hb := B.bui_at t ht s.heap R.inv.h0
  rcases hor with rfl | ⟨c', oc, xs, tk, rfl, h1, h2, h3⟩
  · refine makeFunction_K hcl hge0 R.inv.ns_g hcode Hd he trivial rfl (B.tab_g t ht) Hb fun c' ctv doc h' tk hx hge hlt hrec htb => ?_
    obtain ⟨P', oc, xs, tq, lP, R', e1, e2, e3, e4⟩ := R.madeNew (o := fnMade name t.qual params body scope clos doc ((B.mg "__name__").getD .none) c' ctv) ht hx hge hlt hrec (by rw [htb, hl, hc]; rfl) rfl tk
    exact hQ P' _ _ _ _ lP R' e1 rfl rfl ⟨rfl, rfl, rfl, rfl, rfl, hb _ _ _ _, c', oc, xs, tq, rfl, e2, e3, e4⟩
  · refine makeFunction_hit (cv := .ref c') hcl hge0 R.inv.ns_g hcode Hd he trivial ?_ Hb fun ctv doc h' tk2 hk hsz => ?_
    · simp [codeAmong, rawInt, hl, hc]
    · have R1 : Rel B P K g X ce env st { s with heap := h', toks := tk2 } := R.grow hk
      obtain ⟨a, b⟩ := R1.newP (o := { cls := .type "function", data := .func (fnX name t.qual params body scope clos .none .none doc ((B.mg "__name__").getD .none) none (.ref c') ctv) }) rfl tk2
      exact hQ _ _ _ _ _ a b Gh.put_self rfl rfl ⟨rfl, rfl, rfl, rfl, rfl, hb _ _ _ _, c', oc, xs, tk, rfl, a _ _ h1, h2, h3⟩
end
end Mine

namespace Mine
section
variable {B : Base} {n : Nat} {ce ce' : CEnv} {st st1 st2 st3 st4 st5 : LSt} {v v1 v2 v3 r : CV} {vs ws : List CV} {P P' K led : Gh} {g gl g' : GG} {X X' : Book} {env env' : Env} {s s' s'' : Shared} {ι : Sto} {S : List CO}

/-- the frame's cells become permanent: their values will not change any more -/
theorem Rel.seal (R : Rel B P K g X ce env st s) {fr : List (Str × CV)} (hfr : ∀ x cv, fr.lookup x = some cv → ce.scope.names.lookup x = some .cell ∧ st.vars.lookup x = some cv) (hce : ce.free = [])
    (hall : ∀ x, ce.scope.names.lookup x = some .cell → (fr.lookup x).isSome = true) :
    ∃ P', Le P P' ∧ Rel B P' K g ⟨X.L, [], X.ι⟩ ⟨ce.scope, fr⟩ env st s ∧
      (∀ x c, env.cells.lookup x = some c → ∀ cv, fr.lookup x = some cv → ∃ oc v, P' c = some oc ∧ oc.data = .cell (some v) ∧ VR P' X.ι cv v) := by
  have hD : ∀ a ∈ X.cells.map (·.2), P a = none ∧ K a = none ∧ ∀ t ∈ B.tabs, t.P ≠ a := fun a ha => R.off a (List.mem_append_left _ (List.mem_cons_of_mem _ ha))
  have hle : Le P (frK (X.cells.map (·.2)) s.heap P) := fun a o e => by
    rw [frK_out fun q => by rw [(hD a q).1] at e; (first|subst e|obtain rfl:=sj e|exact n1 e|exact n2 e|exact b1 e|exact b2 e|cases e)]; exact e
  have hcell : ∀ x cv, fr.lookup x = some cv → ∃ c v oc, env.cells.lookup x = some c ∧ frK (X.cells.map (·.2)) s.heap P c = some oc ∧ oc.data = .cell (some v) ∧ VR P X.ι cv v := fun x cv h => by
    obtain ⟨h1, h2⟩ := hfr x cv h
    obtain ⟨c, e1, e2⟩ := R.env.cell x h1 (by rw [hce]; rfl)
    obtain ⟨w, ⟨o, e3, e4⟩, hv⟩ := R.cel x c (mem_lookup e2)
    obtain ⟨u, rfl, r⟩ := hv cv h2
    exact ⟨c, u, o, e1, by rw [frK_in (List.mem_map.mpr ⟨_, mem_lookup e2, rfl⟩)]; exact e3, e4, r⟩
  have hnd := R.own
  refine ⟨frK (X.cells.map (·.2)) s.heap P, hle, ⟨⟨fun a o e => ?_, R.inv.keep, fun a o e => ?_, R.inv.base.trans hle, R.inv.os, R.inv.bare, R.inv.gk, fun t ht => ?_⟩, ⟨R.env.scope, R.env.kind, R.env.locals, R.env.globals, R.env.bui, fun x hx hf => ?_, fun x c hx => (nomatch hx), List.nodup_nil, fun x cv hx => ?_⟩, ?_, fun x c hx => (nomatch hx), R.sto.mono hle (.refl _) fun _ _ _ e => e, ?_, fun a ha => ?_⟩, fun x c hx cv hc => ?_⟩
  · by_cases q : a ∈ X.cells.map (·.2)
    · rw [frK_in q] at e; exact e
    · rw [frK_out q] at e; exact R.inv.perm a o e
  · rw [frK_out fun q => by rw [(hD a q).2.1] at e; (first|subst e|obtain rfl:=sj e|exact n1 e|exact n2 e|exact b1 e|exact b2 e|cases e)]; exact R.inv.apart a o e
  · obtain ⟨a, b, c⟩ := R.inv.tabs t ht
    exact ⟨by rw [frK_out fun q => (hD _ q).2.2 t ht rfl]; exact a, b, c.mono hle rfl⟩
  · have := hall x hx
    have hf' : fr.lookup x = none := hf
    rw [hf'] at this; (first|subst this|obtain rfl:=sj this|exact n1 this|exact n2 this|exact b1 this|exact b2 this|cases this)
  · obtain ⟨c, v, oc, a, b, d, r⟩ := hcell x cv hx
    exact ⟨c, v, a, ⟨oc, .inr b, d⟩, r.mono hle (.refl _)⟩
  · obtain ⟨m, hm, h⟩ := R.loc
    exact ⟨m, hm, fun x cv a b => let ⟨v, c, d⟩ := h x cv a b; ⟨v, c, d.mono hle (.refl _)⟩⟩
  · show (X.L :: ([] ++ stoOwn X.ι st.store)).Nodup
    have h1 : (X.L :: (X.cells.map (·.2) ++ stoOwn X.ι st.store)).Nodup := by simpa using hnd
    obtain ⟨a, b⟩ := List.nodup_cons.mp h1
    exact List.nodup_cons.mpr ⟨fun q => a (List.mem_append_right _ (by simpa using q)), (List.nodup_append.mp b).2.1⟩
  · have hm : a ∈ X.L :: stoOwn X.ι st.store := by simpa using ha
    have h1 : (X.L :: (X.cells.map (·.2) ++ stoOwn X.ι st.store)).Nodup := by simpa using hnd
    have hin : a ∈ X.own st.store := by
      rcases List.mem_cons.mp hm with rfl | h
      · exact List.mem_append_left _ (.head _)
      · exact List.mem_append_right _ h
    have hout : a ∉ X.cells.map (·.2) := fun q => by
      obtain ⟨x, y⟩ := List.nodup_cons.mp h1
      rcases List.mem_cons.mp hm with rfl | h
      · exact x (List.mem_append_left _ q)
      · exact (List.nodup_append.mp y).2.2 a q a h rfl
    exact ⟨by rw [frK_out hout]; exact (R.off a hin).1, (R.off a hin).2⟩
  · obtain ⟨c', v, oc, a, b, d, r⟩ := hcell x cv hc
    rw [hx] at a; cases a
    exact ⟨oc, v, b, d, r.mono hle (.refl _)⟩

/-- a permanent function is entered in the store -/
theorem Rel.addClo (R : Rel B P K g X ce env st s) {f : Addr} {o : Obj} {fd : FuncData} {ps : List Str} {body : FuncBody} {scope : Scope} {free : List (Str × CV)} {clo : List (Str × Addr)}
    (h1 : P f = some o) (hc : o.cls = .type "function") (h2 : o.data = .func fd) (h3 : FnD P fd ps body scope clo) (h4 : ∀ x cv, free.lookup x = some cv → scope.names.lookup x = some .free ∧ ∃ c v oc, clo.lookup x = some c ∧ P c = some oc ∧ oc.data = .cell (some v) ∧ VR P (X.ι ++ [(f, [])]) cv v) :
    X.Le { X with ι := X.ι ++ [(f, [])] } ∧ Rel B P K g { X with ι := X.ι ++ [(f, [])] } ce env ⟨st.vars, st.store ++ [.clo ps body scope free]⟩ s ∧ VR P (X.ι ++ [(f, [])]) (.ref st.store.length) (.ref f) := by
  have hX : X.Le { X with ι := X.ι ++ [(f, [])] } := ⟨rfl, rfl, ⟨_, rfl⟩⟩
  have eown : Book.own { X with ι := X.ι ++ [(f, [])] } (st.store ++ [.clo ps body scope free]) = X.own st.store := by
    show X.fown ++ stoOwn (X.ι ++ [(f, [])]) (st.store ++ [_]) = _
    rw [stoOwn_app R.sto.length]; simp [CO.own]
  refine ⟨hX, ⟨R.inv, R.env.mono (.refl _) hX, ?_, ?_, ?_, ?_, fun a ha => R.off a (eown ▸ ha)⟩, .ref (xs := []) (by rw [← R.sto.length]; simp)⟩
  · obtain ⟨m, hm, h⟩ := R.loc
    exact ⟨m, hm, fun x cv a b => let ⟨v, c, d⟩ := h x cv a b; ⟨v, c, d.mono (.refl _) hX.ι⟩⟩
  · intro x c hx
    obtain ⟨v, hv, h⟩ := R.cel x c hx
    exact ⟨v, hv, fun cv hc => let ⟨u, a, b⟩ := h cv hc; ⟨u, a, b.mono (.refl _) hX.ι⟩⟩
  · exact (R.sto.mono (.refl _) hX.ι fun b _ o e => e).app ⟨o, fd, clo, h1, hc, h2, h3, h4⟩
  · show (Book.own { X with ι := X.ι ++ [(f, [])] } _).Nodup
    rw [eown]; exact R.own

/-- a call of a function of the store -/
noncomputable def CaC (B : Base) (n : Nat) (ce : CEnv) (i : Nat) (vs : List CV) (st : LSt) (r : CV) (st' : LSt) : Prop :=
  ∀ (A : Around) (env : Env) (P K : Gh) (g : GG) (X : Book) (s : Shared) (f : Value) (xs : List Value) (Q : Value → Shared → Prop) (E : Value → Shared → Prop),
    Room A n → Rel B P K g X ce env st s → VR P X.ι (.ref i) f → VRs P X.ι vs xs →
    (∀ P' X' s' a, Le P P' → X.Le X' → Rel B P' K g X' ce env st' s' → VR P' X'.ι r a → Q a s') →
    wpAny (model B.prog B.w) A (call f xs) Q E s
theorem CaC.mono {i : Nat} {m : Nat} (h : CaC B n ce i vs st r st1) (hm : n ≤ m) : CaC B m ce i vs st r st1 := fun A env P K g X s f xs Q E hA => h A env P K g X s f xs Q E (hA.mono hm)
theorem CaC.mk {i : Nat} {ps : List Str} {body : List Stmt} {scope : Scope} {free : List (Str × CV)} {f : CFl} {st' : LSt} (e : st.store[i]? = some (.clo ps (.stmts body) scope free)) (hF : FunOk scope free ps) (hgen : scope.isGenerator = false) (hl : vs.length = ps.length)
    (h : XsJ B n ⟨scope, free⟩ body ⟨ps.zip vs, st.store⟩ f st') (hlen : st'.store.length = st.store.length) : CaC B (n + 1) ce i vs st (retOf f) ⟨st.vars, st'.store⟩ := fun A env P K g X s fv xs Q E hA R hf hx hQ => by
  cases hf with | ref hi =>
  obtain ⟨p, e1, o, fd, clo, h1, hc, h2, h3, h4⟩ := R.sto.get e
  rw [hi] at e1; (first|subst e1|obtain rfl:=sj e1|exact n1 e1|exact n2 e1|exact b1 e1|exact b2 e1|cases e1)
  refine call_ok R.stO hA (R.inv.perm _ _ h1) h2 h3 hgen hF ⟨h4⟩ hx hl fun A' env' X' s' E' hA' hι _ R' => ?_
  refine h A' env' P _ g X' s' _ E' hA' R' fun P2 X2 s2 fl lP lX R2 rf => ?_
  have hι2 : X2.ι = X.ι := by
    obtain ⟨δ, hδ⟩ := lX.ι
    have l1 := R2.sto.length
    have l2 := R.sto.length
    rw [hδ, hι] at l1
    simp only [List.length_append] at l1
    have : δ = [] := List.length_eq_zero_iff.mp (by walk_at "o")
    rw [hδ, this, hι]; simp
  exact hQ P2 X s2 _ lP (.refl _) (R.leave lP R2 hι2 fun _ _ e => e) (hι2 ▸ rf.val)
theorem Ev_callC {x : Str} {p pos : Pos} {es : List Expr} {i : Nat} {ps : List Str} {body : FuncBody} {scope : Scope} {free : List (Str × CV)} (hf : EvJ B n ce (.Name x p) st (.ref i) st1) (he : EsJ B n ce pos es st1 vs st2) (e : st2.store[i]? = some (.clo ps body scope free)) (hc : CaC B n ce i vs st2 r st3)
    (hp : autoParam (∀ env, (backTo pos (starEach es env)).any (·.1) = false) tRfl1) : EvJ B n ce (.Call (.Name x p) es [] pos) st r st3 := fun A env P K g X s Q E hA R hQ => by
  refine Call_Name rfl (hf A env P K g X s _ E hA R fun P1 X1 s1 f lP1 lX1 R1 r1 => ?_)
  obtain ⟨fa, rfl⟩ : ∃ fa, f = .ref fa := by (first|obtain ⟨_, rfl⟩:=r1.inv|subst r1|obtain rfl:=sj r1|exact n1 r1|exact n2 r1|cases r1); exact ⟨_, rfl⟩
  have key : ∀ xs s2 P2 X2, Le P1 P2 → X1.Le X2 → Rel B P2 K g X2 ce env st2 s2 → VRs P2 X2.ι vs xs → ∃ o fd, s2.heap.get? fa = some o ∧ o.data = .func fd ∧ P2 fa = some o := fun xs s2 P2 X2 lP lX R2 r2 => by
    have r1' := r1.mono lP lX.ι
    cases r1' with | ref hi =>
    obtain ⟨q, e1, o, fd, clo, h1, hc, h2, h3, h4⟩ := R2.sto.get e
    rw [hi] at e1; (first|subst e1|obtain rfl:=sj e1|exact n1 e1|exact n2 e1|exact b1 e1|exact b2 e1|cases e1)
    exact ⟨o, fd, R2.inv.perm _ _ h1, h2, h1⟩
  have fin : ∀ xs s2 P2 X2, Le P1 P2 → X1.Le X2 → Rel B P2 K g X2 ce env st2 s2 → VRs P2 X2.ι vs xs → wpAny (model B.prog B.w) A (call (.ref fa) xs) Q E s2 := fun xs s2 P2 X2 lP lX R2 r2 =>
    hc A env P2 K g X2 s2 (.ref fa) xs Q E hA R2 (r1.mono lP lX.ι) r2 fun P3 X3 s3 a lP3 lX3 R3 r3 => hQ P3 X3 s3 a (lP1.trans (lP.trans lP3)) (lX1.trans (lX.trans lX3)) R3 r3
  unfold callWith
  refine wpAny_bind (wpAny_holding (evalArgs_any (hp env) (he A env P1 K g X1 s1 _ E hA R1 fun P2 X2 s2 xs lP2 lX2 R2 r2 => ?_)))
  refine wpAny_bind (wpAny_standAt ?_)
  obtain ⟨o, fd, h1, h2, _⟩ := key xs s2 P2 X2 lP2 lX2 R2 r2
  have h₁ := fin xs s2 P2 X2 lP2 lX2 R2 r2
  have tail : ∀ {t : Sem Value}, wpAny (model B.prog B.w) A t Q E s2 → wpAny (model B.prog B.w) A (t >>= fun r => holding [r] point >>= fun _ => pure r) Q E s2 :=
    fun ht => wpAny_bind (wpAny_mono ht (fun r s₂ hr => wpAny_bind (wpAny_holding (wpAny_point (wpAny_pure hr)))) fun _ _ x => x)
  have hs := hp env
  simp only [hs, List.any_nil, Bool.or_false]
  refine wpAny_bind (m := keeperOf (.ref fa)) ?_
  unfold keeperOf
  refine wpAny_bind (wpAny_load h1 ?_)
  rw [h2]
  refine wpAny_pure ?_
  first
    | refine wpAny_ite ?_
    | skip
  split <;> first
    | exact tail h₁
    | exact tail (by unfold callMarked; exact wpAny_keep h₁)
end
end Mine

namespace Mine
section
variable {B : Base} {n : Nat} {ce ce' : CEnv} {st st1 st2 st3 st4 st5 : LSt} {v v1 v2 v3 r : CV} {vs ws : List CV} {P P' K led : Gh} {g gl g' : GG} {X X' : Book} {env env' : Env} {s s' s'' : Shared} {ι : Sto} {S : List CO}

/-- a list times a number, as a new object of the store -/
theorem Ev_mulM {l r : Expr} {pos : Pos} {us : List CV} {k : Int} (h1 : EvJ B n ce l st v1 st1) (h2 : EvJ B n ce r st1 (.int k) st2) (h : asL st2.store v1 = some us) (hl : us.length * k.toNat ≤ 16777216) (h0 : -(2 ^ 63) ≤ k) (h63 : k < 2 ^ 63) :
    EvJ B n ce (.BinOp l .Mult r pos) st (.ref st2.store.length) ⟨st2.vars, st2.store ++ [.lst (List.replicate k.toNat us).flatten]⟩ := fun A env P K g X s Q E hA R hQ => by
  refine wpAny_BinOp (h1 A env P K g X s _ E hA R fun P1 X1 s1 a lP lX R1 r1 => h2 A env P1 K g X1 s1 _ E hA R1 fun P2 X2 s2 b lP2 lX2 R2 r2 => ?_)
  obtain ⟨l, xs, rfl, e1, q1⟩ := R2.asL h (r1.mono lP2 lX2.ι)
  obtain ⟨u, rfl⟩ := r2.inv
  have l1 := q1.length
  obtain ⟨⟨cls, d, data, sl⟩, ho, hcl, kk, hd⟩ := id e1
  simp only at hcl hd
  subst hcl hd
  have hsz' : xs.toArray.size * k.toNat ≤ 2 ^ 24 := by show xs.length * _ ≤ _; rw [l1]; exact hl
  refine wpAny_binaryOp_repeat_ref (T := "list") (U := "int") (by decide) ⟨_, ho, rfl⟩ (fun s' => typeIs_int s' k u) noFill_list_mul F.fills_int_mul F.slot_int_rmul repeat_list F.slot_int_index.lookup
    (call_meets F.slot_int_rmul (typeIs_int s2 k u) F.entry_int_rmul (F.args_int_rmul_2 _ _) (lm_int_rmul_list_any k u l xs.toArray kk d sl)
      ⟨ho, rfl, ⟨_, ho, rfl⟩, call_meets F.slot_list_mul ⟨_, ho, rfl⟩ F.entry_list_mul (F.args_list_mul_2 _ _)
        (lm_list_mul_any l xs.toArray kk d sl k u (by simp [Builtin.List.listFitsIndex]; walk_at "o") (by walk_at "o") (by simp [Builtin.List.listTooLong, sizeLine]; walk_at "o"))
        ⟨ho, ?_⟩⟩)
  rw [listMul_foldl_if]
  obtain ⟨q2, q3⟩ := R2.newS (s' := { s2 with heap := s2.heap.push (listObj (List.replicate k.toNat xs).flatten 0) }) (a := s2.heap.objs.size) (xs := []) (co := .lst (List.replicate k.toNat us).flatten) (fun b o e => Heap.get?_push_of_some _ e) rfl rfl (fun b hb => by simp at hb; subst hb; exact Nat.le_refl _) (by simp)
    ⟨rfl, _, 0, Heap.get?_push_size _ rfl, (q1.rep k.toNat).mono (.refl _) ⟨_, rfl⟩⟩ rfl
  refine hQ P2 _ _ _ (lP.trans lP2) (lX.trans (lX2.trans q2)) q3 (.ref (xs := []) ?_)
  rw [← R2.sto.length]
  simp

theorem exec_step {x : Stmt} {xs : List Stmt} {A : Around} {Q : Flow → Shared → Prop} {E : Value → Shared → Prop} (h1 : ExJ B n ce x st .nxt st1) (hA : Room A n) (R : Rel B P K g X ce env st s)
    (k : ∀ P1 X1 s1, Le P P1 → X.Le X1 → Rel B P1 K g X1 ce env st1 s1 → wpAny (model B.prog B.w) A (execs xs env) Q E s1) : wpAny (model B.prog B.w) A (execs (x :: xs) env) Q E s := by
  refine wpAny_bind (m := exec x env) (h1 A env P K g X s _ E hA R fun P1 X1 s1 a lP lX R1 r => ?_)
  cases r
  exact k P1 X1 s1 lP lX R1
theorem exec_def' {x : Stmt} {xs : List Stmt} {A : Around} {Q : Flow → Shared → Prop} {E : Value → Shared → Prop} (h : wpAny (model B.prog B.w) A (exec x env) (fun f s1 => f = .next ∧ wpAny (model B.prog B.w) A (execs xs env) Q E s1) E s) : wpAny (model B.prog B.w) A (execs (x :: xs) env) Q E s := by
  refine wpAny_bind (m := exec x env) (wpAny_mono h (fun f s1 h1 => ?_) fun _ _ e => e)
  obtain ⟨rfl, h1⟩ := h1
  exact h1

theorem lookup_keys {α β : Type} : ∀ {l : List (Str × α)} {r : List (Str × β)} {x : Str}, l.map (·.1) = r.map (·.1) → l.lookup x = none → r.lookup x = none
  | [], [], _, _, _ => rfl
  | [], _ :: _, _, h, _ => by simp at h
  | _ :: _, [], _, h, _ => by simp at h
  | (a, u) :: l, (b, v) :: r, x, h, hn => by
    simp only [List.map_cons, List.cons.injEq] at h
    obtain ⟨rfl, h⟩ := h
    rw [List.lookup_cons] at hn ⊢
    split at hn
    · (first|subst hn|obtain rfl:=sj hn|exact n1 hn|exact n2 hn|exact b1 hn|exact b2 hn|cases hn)
    · exact lookup_keys h hn
/-- other words for the free values -/
theorem Rel.refree {fr fr' : List (Str × CV)} {sc : Scope} (R : Rel B P K g X ⟨sc, fr⟩ env st s) (h : ∀ x cv, fr'.lookup x = some cv → ∃ cv0, fr.lookup x = some cv0 ∧ ∀ v, VR P X.ι cv0 v → VR P X.ι cv v) (h2 : fr'.map (·.1) = fr.map (·.1)) : Rel B P K g X ⟨sc, fr'⟩ env st s where
  inv := R.inv
  env := ⟨R.env.scope, R.env.kind, R.env.locals, R.env.globals, R.env.bui, fun x hx hf => R.env.cell x hx (lookup_keys h2 hf), R.env.cellk, R.env.celln, fun x cv hx => by
    obtain ⟨cv0, e, k⟩ := h x cv hx
    obtain ⟨c, v, a, b, r⟩ := R.env.free x cv0 e
    exact ⟨c, v, a, b, k v r⟩⟩
  loc := R.loc
  cel := R.cel
  sto := R.sto
  own := R.own
  off := R.off
noncomputable def posOf : Stmt → Pos
  | .FunctionDef _ _ _ _ _ _ _ _ _ pos => pos
  | _ => ⟨0, 0, 0, 0⟩
noncomputable def nameOf : Stmt → Str
  | .FunctionDef name .. => name
  | _ => ⟨#[]⟩
/-- where a function's codes of its own defs are kept -/
structure TabFn (B : Base) (a : Addr) (pos : Pos) (name : Str) : Prop where
  ok : ∃ t ∈ B.tabs, pos.line = t.line ∧ pos.col = t.col ∧ ∀ o fd, B.P₀ a = some o → o.data = .func fd → fd.code = .ref t.c ∧ fd.qualname ++ ".<locals>." ++ name = t.qual
end
end Mine

namespace Mine

theorem wpAny_weak {M : Model} {A A' : Around} {α : Type} {t : Sem α} {Q : α → Shared → Prop} {E : Value → Shared → Prop} {s : Shared} (h : wpAny M A' t Q E s) (h1 : A'.handled = A.handled) (h2 : A.depth ≤ A'.depth) (h3 : A'.frames = none) (h4 : A'.guards = none) (h5 : A.units ≤ A'.units) : wpAny M A t Q E s :=
  fun Γ p hΓ => h Γ p ⟨hΓ.1.trans h1.symm, Nat.le_trans hΓ.2.1 h2, fun l e => (by rw [h3] at e; (first|subst e|obtain rfl:=sj e|exact n1 e|exact n2 e|exact b1 e|exact b2 e|cases e)), fun l e => (by rw [h4] at e; (first|subst e|obtain rfl:=sj e|exact n1 e|exact n2 e|exact b1 e|exact b2 e|cases e)), Nat.le_trans hΓ.2.2.2.2 h5⟩
/-- the widest place with room n -/
noncomputable def Amax (n : Nat) : Around := { handled := none, depth := recursionLimit - 1 - n, frames := none, guards := none, units := cLine - 1 - (8 * n + 80) }
theorem Room.max {A : Around} {n : Nat} (h : Room A n) : Room (Amax n) n := ⟨rfl, sub_lt1 h.depth, by have := h.units; rw [Nat.add_assoc] at this ⊢; exact sub_lt1 this⟩
theorem Room.wide {A : Around} {n : Nat} (h : Room A n) {M : Model} {α : Type} {t : Sem α} {Q : α → Shared → Prop} {E : Value → Shared → Prop} {s : Shared} (w : wpAny M (Amax n) t Q E s) : wpAny M A t Q E s :=
  wpAny_weak w h.handled.symm (sub_le1 h.depth) rfl rfl (by have := h.units; rw [Nat.add_assoc] at this; exact sub_le1 this)

section
variable {M : Model} {A : Around} {R : GenEnd} {Y : Protocol} {n : Nat} {s₀ : Shared} {c : Code} {fs : List Frame} {s : Shared} {env : Env}
  {K : Flow → Sem Fin} {H : Value → Sem Fin} {gd : Bool → Bool} {lv : List Value → List Value}

theorem seg_st {st : Stmt} {rest : List Stmt} (h : wpAny M (A.over c fs) (exec st env) (fun f s' => f = .next ∧ Seg M A R Y n s₀ c ((execs rest env).wrap K H gd lv) fs s') (fun _ _ => False) s) :
    Seg M A R Y n s₀ c ((execs (st :: rest) env).wrap K H gd lv) fs s := by
  refine seg_execs_cons (seg_wrap (wpAny_mono h (fun f s' hf => ?_) fun _ _ e => e.elim))
  obtain ⟨rfl, hf⟩ := hf
  exact hf
theorem seg_If {t : Expr} {x y : List Stmt} {pos : Pos} (h : wpAny M (A.over c fs) (isTrue t env (eval t env)) (fun b s' => Seg M A R Y n s₀ c ((execs (if b then x else y) env).wrap K H gd lv) fs s') (fun _ _ => False) s) :
    Seg M A R Y n s₀ c ((exec (.If t x y pos) env).wrap K H gd lv) fs s := by
  show Seg M A R Y n s₀ c (.at pos fun _ => ((isTrue t env (eval t env) >>= fun b => if b then execs x env else execs y env)).wrap K H gd lv) fs s
  refine seg_at ?_
  rw [Sem.bind_eq_wrap', Sem.wrap_wrap]
  refine seg_wrap (wpAny_mono h (fun b s' hb => ?_) fun _ _ e => e.elim)
  cases b <;> exact hb
noncomputable abbrev ownK (env : Env) (K : Flow → Sem Fin) (H : Value → Sem Fin) (gd : Bool → Bool) (lv : List Value → List Value) : Result → Sem Fin := fun r => ((match r with | .ok f => (.pure f : Sem Flow) | .error e => .raise e).onRaise fun (x : Value) => do
        if (← field x 1) == Value.none then unsupported "frame.own-activation:exception-without-traceback"
        setFlight x env.frame).wrap K H gd lv
theorem seg_For {t iter : Expr} {body : List Stmt} {pos : Pos} (hs : ∀ x, foldedSetIterable iter env x = pure x)
    (h : wpAny M (A.over c fs) (eval iter env) (fun x s1 => wpAny M (A.over c fs) (pyIter x) (fun it s2 => ∀ p, Seg M A R Y n s₀ (.forLoop t it body [] env) (M.den (.forLoop t it body [] env)) (.ret (ownK env K H gd lv) none (gd false) (lv []) c p [] :: fs) s2) (fun _ _ => False) s1) (fun _ _ => False) s) :
    Seg M A R Y n s₀ c ((exec (.For t iter body [] pos) env).wrap K H gd lv) fs s := by
  show Seg M A R Y n s₀ c (.at pos fun _ => ((eval iter env >>= fun v => foldedSetIterable iter env v >>= fun x => standAt iter.pos >>= fun _ => holding [x] (pyIter x) >>= fun it => runOwn (.forLoop t it body [] env) env)).wrap K H gd lv) fs s
  refine seg_at ?_
  rw [Sem.bind_eq_wrap', Sem.wrap_wrap]
  refine seg_wrap (wpAny_mono h (fun x s1 h1 => ?_) fun _ _ e => e.elim)
  rw [hs x]
  show Seg M A R Y n s₀ c (.at iter.pos fun _ => (holding [x] (pyIter x) >>= fun it => runOwn (.forLoop t it body [] env) env).wrap K H gd lv) fs s1
  refine seg_at ?_
  rw [Sem.bind_eq_wrap', Sem.wrap_wrap]
  refine seg_wrap (wpAny_holding (wpAny_mono h1 (fun it s2 h2 => ?_) fun _ _ e => e.elim))
  exact seg_call h2
end
section
variable {prog : Program} {w : World} {A : Around} {R : GenEnd} {Y : Protocol} {n : Nat} {s₀ : Shared} {fs : List Frame} {s : Shared} {env : Env}
noncomputable abbrev loopK (t : Expr) (it : Value) (body : List Stmt) (env : Env) : Flow → Sem Fin := fun f => match f with
            | .next | .cont => .pure (.again (.forLoop t it body [] env))
            | .brk => .pure (.done .next)
            | .ret v => .pure (.done (.ret v))
noncomputable abbrev loopH (env : Env) : Value → Sem Fin := fun e => (do noteFrame e env; theTreesLotGoes e : Sem Unit).wrap (fun _ => .raise e) .raise id id
theorem seg_forLoop {t : Expr} {it : Value} {body : List Stmt}
    (h : wpAny (model prog w) (A.over (.forLoop t it body [] env) fs) (pyNext it) (fun r s1 => match r with
      | none => Seg (model prog w) A R Y n s₀ (.block [] env) ((model prog w).den (.block [] env)) fs s1
      | some v => wpAny (model prog w) (A.over (.forLoop t it body [] env) fs) (letOwnedTupleGo t it v) (fun _ s2 => wpAny (model prog w) (A.over (.forLoop t it body [] env) fs) (assign t env v) (fun _ s3 =>
          Seg (model prog w) A R Y n s₀ (.forLoop t it body [] env) ((execs body env).wrap (loopK t it body env) (loopH env) id id) fs s3) (fun _ _ => False) s2) (fun _ _ => False) s1) (fun _ _ => False) s) :
    Seg (model prog w) A R Y n s₀ (.forLoop t it body [] env) ((model prog w).den (.forLoop t it body [] env)) fs s := by
  show Seg _ A R Y n s₀ _ ((forTurn t it body [] env).onRaise (fun x => do noteFrame x env; theTreesLotGoes x)) fs s
  rw [Sem.onRaise_eq_wrap]
  show Seg _ A R Y n s₀ _ (.at t.pos fun _ => ((pyNext it).onRaise (fun _ => standAt { t.pos with line := 0 }) >>= fun r => match r with
    | none => again (.block [] env)
    | some v => do
      letOwnedTupleGo t it v
      assign t env v
      match ← execs body env with
      | .next | .cont => again (.forLoop t it body [] env)
      | .brk => pure (.done .next)
      | .ret v => pure (.done (.ret v))).wrap .pure _ id id) fs s
  refine seg_at ?_
  rw [Sem.bind_eq_wrap', Sem.wrap_wrap]
  refine seg_wrap (wpAny_onRaise (wpAny_mono h (fun r s1 h1 => ?_) fun _ _ e => e.elim))
  cases r with
  | none => exact seg_again (by rfl) h1
  | some v =>
    show Seg _ A R Y n s₀ _ ((letOwnedTupleGo t it v >>= fun _ => assign t env v >>= fun _ => execs body env >>= fun f => (match f with
      | .next | .cont => again (.forLoop t it body [] env)
      | .brk => pure (.done .next)
      | .ret v => pure (.done (.ret v)) : Sem Fin)).wrap .pure _ id id) fs s1
    rw [Sem.bind_eq_wrap', Sem.wrap_wrap]
    refine seg_wrap (wpAny_mono h1 (fun _ s2 h2 => ?_) fun _ _ e => e.elim)
    rw [Sem.bind_eq_wrap', Sem.wrap_wrap]
    refine seg_wrap (wpAny_mono h2 (fun _ s3 h3 => ?_) fun _ _ e => e.elim)
    rw [Sem.bind_eq_wrap', Sem.wrap_wrap]
    rw [Sem.wrap_congr (execs body env) _ _ (K' := loopK t it body env) (H' := loopH env) (fun f => by cases f <;> rfl)
      (fun e => by first | exact Sem.bind_eq_wrap _ _ | (show (do noteFrame e env; theTreesLotGoes e : Sem Unit).bind (fun _ => .raise e) = _; rw [Sem.bind_eq_wrap]))]
    exact h3
end
end Mine

namespace Mine

section
variable {prog : Program} {w : World} {A : Around} {E : Value → Shared → Prop} {s : Shared}
theorem pyNext_genQ {a : Addr} {g n : Nat} {gs : GenState} {P : Nat → Shared → Shared → Prop} {Y : Protocol} {Q : Option Value → Shared → Prop} (hh : A.handled = none)
    (hl : s.heap.NoLimit) (hroom : A.depth < recursionLimit)
    (hg : s.heap.IsGen a g) (hgs : s.gens[g]? = some gs)
    (hgo : gs.Goes (model prog w) A.in1 (fun n s₀ r s₁ => r = .ok (.ret .none) ∧ P n s₀ s₁) Y n (.send .none) (s.setGen g .running))
    (hY : ∀ v s₁ gs', gs'.bare = true → Y (n - 1) (s.setGen g .running) v s₁ (fun r' s'' => match n with
        | 0 => False
        | m + 1 => gs'.Goes (model prog w) A.in1 (fun n s₀ r s₁ => r = .ok (.ret .none) ∧ P n s₀ s₁) Y m r' s'') → Q (some v) (s₁.setGen g gs'))
    (hP : ∀ s₁, P n (s.setGen g .running) s₁ → ∀ h', (∀ b o, s₁.heap.get? b = some o → h'.get? b = some o) → Q none { s₁.setGen g .finished with heap := h' }) :
    wpAny (model prog w) A (pyNext (.ref a)) Q E s := by
  unfold pyNext
  refine wpAny_bind (wpAny_attempt (wpAny_callSpecial?_slot (name := Str.ofString "__next__") hg.typeIs slot_gen_next
    (wpAny_call_entry slot_gen_next hg.typeIs entry_gen_next ?_ (args_gen_next _))))
  show wpAny _ _ (Builtin.Generator.genWake (.ref a) (.send .none)) _ _ s
  unfold Builtin.Generator.genWake
  refine wpAny_bind (wpAny_holding (wpAny_genNumber hg (wpAny_bind (wpAny_genState hgs ?_))))
  cases gs with
  | running => exact hgo.elim
  | finished => exact hgo.elim
  | _ =>
    refine wpAny_bind (wpAny_roomToWake hl hroom ?_)
    show wpAny _ _ (.resume g (.send .none) [] _) _ _ s
    refine wpAny_resumeQ hgs hgo (fun x s₁ hx => ?_) (fun v s₁ gs' hb hv => ?_)
    · obtain ⟨rfl, hp⟩ := hx
      show wpAny _ _ (newExc (.type "StopIteration") [] >>= _) _ _ _
      refine wpAny_bind ?_
      simp only [newExc, newTuple]
      refine wpAny_bind (wpAny_newObj_type ?_ (by size_fits))
      refine wpAny_bind (m := firstArgMember _ _) (wpAny_of_eq (a := Value.none) (by first | rfl | (simp only [firstArgMember]; rfl)) ?_)
      refine wpAny_newObj_type ?_ (by size_fits)
      simp only [raiseNew]
      refine wpAny_bind (wpAny_bind (wpAny_handled ?_))
      rw [show A.in1.handled = none from hh]
      refine wpAny_throw ?_
      refine wpAny_bind (wpAny_isInstance (T := "StopIteration") (b := true) ⟨_, Heap.get?_push_size _ rfl, rfl⟩ isSubtype_stop ?_)
      exact wpAny_pure (hP s₁ hp _ fun b o hb => Heap.get?_push_of_some _ (Heap.get?_push_of_some _ hb))
    · exact wpAny_pure ⟨v, rfl, wpAny_pure (hY v s₁ gs' hb hv)⟩
end

/-- the same without code tables -/
noncomputable def Base.nt (B : Base) : Base := { B with
  tabs := []
  tabs0 := fun _ h => nomatch h
  code_hd := fun _ h => nomatch h
  bui_at := fun _ h => nomatch h
  tab_g := fun _ h => nomatch h
  tabs_nd := fun _ h => nomatch h }

structure GoodS (B : Base) (s : Shared) : Prop where
  h0 : LeH B.P₀ s.heap
  os : s.os = B.os
  bare : AllBare s.gens
/-- all that stands, but what is in our own hands -/
noncomputable def K0 (B : Base) (D : List Addr) (s₀ : Shared) : Gh := fun a => if a ∈ D ∨ (B.P₀ a).isSome = true then none else s₀.heap.get? a
noncomputable abbrev g0 (s₀ : Shared) : GG := fun i => s₀.gens[i]?
noncomputable def scalC : CV → Bool
  | .none | .bool _ | .int _ | .str _ => true
  | _ => false
theorem VR.scal {P P' : Gh} {ι ι' : Sto} {v : CV} {x : Value} (h : VR P ι v x) (hs : scalC v = true) : VR P' ι' v x := by
  (first|subst h|obtain rfl:=sj h|exact n1 h|exact n2 h|exact b1 h|exact b2 h|cases h) <;> first | (constructor; done) | cases hs
theorem VRs.scal {P P' : Gh} {ι ι' : Sto} {vs : List CV} {xs : List Value} (h : VRs P ι vs xs) : (∀ v ∈ vs, scalC v = true) → VRs P' ι' vs xs :=
  h.ind (N := fun vs xs => (∀ v ∈ vs, scalC v = true) → VRs P' ι' vs xs) (fun _ => .nil) fun a _ f hs => .cons (a.scal (hs _ (.head _))) (f fun v hv => hs v (.tail _ hv))

section
variable {B : Base} {n : Nat} {ce : CEnv} {st st1 st2 st3 : LSt} {v v1 v2 : CV} {P P1 P' K K1 led : Gh} {g g1 gl : GG} {X X' : Book} {env : Env} {s s' s₀ : Shared} {D : List Addr}
theorem InvS.good (I : InvS B P K g s) : GoodS B s := ⟨I.h0, I.os, I.bare⟩
theorem InvS.goodN (I : InvS B.nt P K g s) : GoodS B s := ⟨I.h0, I.os, I.bare⟩
theorem K0_in (h : a ∈ D) : K0 B D s₀ a = none := by simp [K0, h]
theorem K0_out {a : Addr} (h : a ∉ D) (hp : B.P₀ a = none) : K0 B D s₀ a = s₀.heap.get? a := by simp [K0, h, hp]
theorem K0_some {a : Addr} {o : Obj} (h : K0 B D s₀ a = some o) : a ∉ D ∧ B.P₀ a = none ∧ s₀.heap.get? a = some o := by
  unfold K0 at h
  split at h
  · (first|subst h|obtain rfl:=sj h|exact n1 h|exact n2 h|exact b1 h|exact b2 h|cases h)
  · rename_i hn
    have hn := not_or.mp hn
    exact ⟨hn.1, by simpa using hn.2, h⟩
theorem GoodS.inv (G : GoodS B s₀) (hD : ∀ a ∈ D, B.P₀ a = none) (hh : ∀ b o, b ∉ D → s₀.heap.get? b = some o → s.heap.get? b = some o) (ho : s.os = s₀.os) (hg : s.gens = s₀.gens) : InvS B.nt B.P₀ (K0 B D s₀) (g0 s₀) s where
  perm := fun a o e => hh a o (fun q => by have := hD a q; have e' : B.P₀ a = some o := e; rw [this] at e'; cases e') (G.h0 a o e)
  keep := fun a o e => let ⟨x, _, y⟩ := K0_some e; hh a o x y
  apart := fun a o e => (K0_some e).2.1
  base := .refl _
  os := ho.trans G.os
  bare := hg ▸ G.bare
  gk := fun i x e => by rw [hg]; exact e
  tabs := fun _ h => nomatch h
/-- what stood outside of our hands stands -/
theorem frame0 (G : GoodS B s₀) (I : InvS B.nt P (K0 B D s₀) (g0 s₀) s) : ∀ b o, b ∉ D → s₀.heap.get? b = some o → s.heap.get? b = some o := fun b o hb e => by
  cases hp : B.P₀ b with
  | none => exact I.keep b o ((K0_out hb hp).trans e)
  | some o' =>
    have := G.h0 b o' hp
    rw [e] at this; cases this
    exact I.perm b o (I.base b o hp)
theorem back0 (I1 : InvS B P1 K1 g1 s₀) (hD : ∀ a ∈ D, P1 a = none ∧ K1 a = none ∧ ∀ t ∈ B.tabs, t.P ≠ a) (I : InvS B.nt P (K0 B D s₀) (g0 s₀) s) : InvS B P1 K1 g1 s := by
  have hh := frame0 I1.good I
  refine ⟨fun a o e => hh a o (fun q => by rw [(hD a q).1] at e; (first|subst e|obtain rfl:=sj e|exact n1 e|exact n2 e|exact b1 e|exact b2 e|cases e)) (I1.perm a o e), fun a o e => hh a o (fun q => by rw [(hD a q).2.1] at e; (first|subst e|obtain rfl:=sj e|exact n1 e|exact n2 e|exact b1 e|exact b2 e|cases e)) (I1.keep a o e), I1.apart, I1.base, I.os, I.bare, fun i x e => I.gk i x (I1.gk i x e), fun t ht => ?_⟩
  obtain ⟨a, b, c⟩ := I1.tabs t ht
  refine ⟨a, b, c.mono (.refl _) ?_⟩
  obtain ⟨ps, e, _⟩ := c
  rw [e]
  exact hh _ _ (fun q => (hD _ q).2.2 t ht rfl) e
theorem back_tup (I1 : InvS B P1 K1 g1 s₀) (hD : ∀ a ∈ D, P1 a = none ∧ K1 a = none ∧ ∀ t ∈ B.tabs, t.P ≠ a) (I : InvS B.nt P (K0 B D s₀) (g0 s₀) s) {vs : List CV} {x : Value} (hx : VR P [] (.tup vs) x) (hs : ∀ v ∈ vs, scalC v = true) :
    ∃ P2, Le P1 P2 ∧ InvS B P2 K1 g1 s ∧ VR P2 [] (.tup vs) x ∧ ∀ a, P1 a = none → P2 a ≠ none → x = .ref a := by
  have I2 := back0 I1 hD I
  obtain ⟨xs, T, ep, rfl, hp, r⟩ := hx.inv
  have hr : ∀ {P' : Gh}, VRs P' [] vs xs := fun {P'} => r.scal hs
  cases e : P1 T with
  | some o =>
    have h1 := I2.perm T o e
    rw [I.perm T _ hp] at h1
    (first|subst h1|obtain rfl:=sj h1|exact n1 h1|exact n2 h1|exact b1 h1|exact b2 h1|cases h1)
    exact ⟨P1, .refl _, I2, .tup e hr, fun a h h' => absurd h h'⟩
  | none =>
    have h0 : B.P₀ T = none := by
      cases q : B.P₀ T with
      | none => rfl
      | some o => have := I1.base T o q; rw [e] at this; (first|subst this|obtain rfl:=sj this|exact n1 this|exact n2 this|exact b1 this|exact b2 this|cases this)
    have alive : ∀ o, T ∉ D → s₀.heap.get? T = some o → False := fun o hd eo => by
      have := I.apart T o ((K0_out hd h0).trans eo)
      rw [this] at hp; (first|subst hp|obtain rfl:=sj hp|exact n1 hp|exact n2 hp|exact b1 hp|exact b2 hp|cases hp)
    refine ⟨P1.put T (tupObj xs ep), Gh.put_le e, I2.put (I.perm T _ hp) e ?_ ?_, .tup Gh.put_self hr, fun a h h' => ?_⟩
    · cases q : K1 T with
      | none => rfl
      | some o => exact (alive o (fun d => by rw [(hD T d).2.1] at q; (first|subst q|obtain rfl:=sj q|exact n1 q|exact n2 q|exact b1 q|exact b2 q|cases q)) (I1.keep T o q)).elim
    · intro t ht q
      obtain ⟨_, _, ps, e2, _⟩ := I1.tabs t ht
      rw [q] at e2
      exact alive _ (fun d => (hD T d).2.2 t ht q) e2
    · by_cases q : a = T
      · obtain rfl := q.symm; rfl
      · rw [Gh.put_ne q] at h'; exact absurd h h'

/-- a frame of a generator -/
theorem mkG {L : Addr} (G : GoodS B s₀) (hD : ∀ a ∈ D, B.P₀ a = none) (hL : L ∈ D) (hh : ∀ b o, b ∉ D → s₀.heap.get? b = some o → s.heap.get? b = some o) (ho : s.os = s₀.os) (hg : s.gens = s₀.gens)
    (hE : EnvOk P K ⟨L, [], []⟩ ce env) (hf : ce.free = []) {m : Str → Option Value} (hm : s.heap.Ns L m) {vars : List (Str × CV)} (hv : ∀ x cv, ce.scope.names.lookup x = some .local → vars.lookup x = some cv → ∃ v, m x = some v ∧ VR B.P₀ [] cv v) :
    Rel B.nt B.P₀ (K0 B D s₀) (g0 s₀) ⟨L, [], []⟩ ce env ⟨vars, []⟩ s where
  inv := G.inv hD hh ho hg
  env := ⟨hE.scope, hE.kind, hE.locals, hE.globals, hE.bui, fun x hx hfr => (by
    obtain ⟨c, _, h⟩ := hE.cell x hx hfr
    (first|subst h|obtain rfl:=sj h|exact n1 h|exact n2 h|exact b1 h|exact b2 h|cases h)), fun x c h => (nomatch h), List.nodup_nil, fun x cv h => (by rw [hf] at h; (first|subst h|obtain rfl:=sj h|exact n1 h|exact n2 h|exact b1 h|exact b2 h|cases h))⟩
  loc := ⟨m, hm, hv⟩
  cel := fun x c h => nomatch h
  sto := .nil
  own := by simp [stoOwn]
  off := fun a ha => by
    have : a = L := by simpa [stoOwn] using ha
    rw [this]
    exact ⟨hD L hL, K0_in hL, fun _ h => nomatch h⟩
theorem Rel.again {L : Addr} {vars : List (Str × CV)} {s'' : Shared} (R : Rel B.nt P K g ⟨L, [], []⟩ ce env ⟨vars, []⟩ s) (hf : ce.free = []) (hs : (vars.all fun p => scalC p.2) = true) (hD : ∀ a ∈ D, B.P₀ a = none) (hL : L ∈ D) (G : GoodS B s'') (hh : ∀ o, s.heap.get? L = some o → s''.heap.get? L = some o) :
    Rel B.nt B.P₀ (K0 B D s'') (g0 s'') ⟨L, [], []⟩ ce env ⟨vars, []⟩ s'' := by
  obtain ⟨m, hm, hv⟩ := R.loc
  refine mkG G hD hL (fun _ _ _ e => e) rfl rfl R.env hf (hm.at hh) fun x cv hx hc => ?_
  obtain ⟨v, a, b⟩ := hv x cv hx hc
  have := List.all_eq_true.mp hs _ (mem_lookup hc)
  exact ⟨v, a, b.scal this⟩
end
end Mine

namespace Mine
section
variable {prog : Program} {w : World} {A : Around} {E : Value → Shared → Prop} {s : Shared}
/-- the drained iterator of a text is still there -/
noncomputable def EndsAt (prog : Program) (w : World) (it : Addr) (s : Shared) : Prop := ∀ (A : Around) (Q : Value → Shared → Prop) (E : Value → Shared → Prop), A.handled = none →
  (∀ h' e, Heap.ExtBut it s.heap h' → (∃ o, h'.get? it = some o) → (∃ o, h'.get? e = some o ∧ o.cls = .type "StopIteration") → E (.ref e) { s with heap := h' }) → wpAny (model prog w) A (Builtin.SmallTypes.nextOf (.ref it)) Q E s
theorem ends_str {it : Addr} {x : Str} {t : Tok} {i : Nat} (hit : s.heap.IsStrIter it (strIterType x) x t i) (hx : x.cps[i]? = none) : EndsAt prog w it s := fun A Q E hh hE => by
  unfold strIterType at hit
  have fin : ∀ (o : Obj) (f : Array Value → Array Value), s.heap.get? it = some o → (∃ vs, (Obj.mapFields f o).data = .fields vs) → ∀ (o1 o2 : Obj), o2.isFreed = false → o2.cls = .type "StopIteration" →
      E (.ref ((s.heap.update it (Obj.mapFields f)).push o1).objs.size) { s with heap := ((s.heap.update it (Obj.mapFields f)).push o1).push o2 } := fun o f ho hd o1 o2 h1 h2 =>
    hE _ _ ((((Heap.SameBut.update ..).extBut).push _).push _) ⟨_, Heap.get?_push_of_some _ (Heap.get?_push_of_some _ (Heap.get?_update_self _ ho (Obj.isFreed_of_fields hd.choose_spec)))⟩ ⟨_, Heap.get?_push_size _ h1, h2⟩
  cases ha : x.cps.all (· < 128) <;> rw [ha] at hit <;> obtain ⟨o, ho, hc, hd⟩ := id hit <;> unfold Builtin.SmallTypes.nextOf
  · refine wpAny_bind (wpAny_callSpecial?_slot (name := Str.ofString "__next__") hit.typeIs F.slot_str_iterator_next (wpAny_call_entry F.slot_str_iterator_next hit.typeIs F.entry_str_iterator_next ?_ (F.args_str_iterator_next_1 _)))
    show wpAny _ _ (field (.ref it) 0 >>= _) _ _ s
    refine wpAny_bind (wpAny_field ho hd (x := .str x t) rfl ?_)
    show wpAny _ _ (field (.ref it) 1 >>= _) _ _ s
    refine wpAny_bind (wpAny_field ho hd (x := .int i 0) rfl ?_)
    simp only [Int.toNat_natCast, hx]
    refine wpAny_bind (wpAny_rule (wpAny_bind (wpAny_setField ho hd (by simp) (wpAny_bind (wpAny_letGo ?_)))))
    show wpAny _ _ (newExc (.type "StopIteration") [] >>= _) _ _ _
    refine wpAny_bind ?_
    simp only [newExc, newTuple]
    refine wpAny_bind (wpAny_newObj_type ?_ (by size_fits))
    refine wpAny_bind (m := firstArgMember _ _) (wpAny_of_eq (a := Value.none) (by first | rfl | (simp only [firstArgMember]; rfl)) ?_)
    refine wpAny_newObj_type ?_ (by size_fits)
    simp only [raiseNew]
    refine wpAny_bind (wpAny_handled ?_)
    first | rw [show A.in1.handled = none from hh] | rw [hh]
    refine wpAny_bind (wpAny_pure (wpAny_throw ?_))
    exact fin o _ ho ⟨_, Obj.data_mapFields hd _⟩ _ _ rfl rfl
  · refine wpAny_bind (wpAny_callSpecial?_slot (name := Str.ofString "__next__") hit.typeIs F.slot_str_ascii_iterator_next (wpAny_call_entry F.slot_str_ascii_iterator_next hit.typeIs F.entry_str_ascii_iterator_next ?_ (F.args_str_ascii_iterator_next_1 _)))
    show wpAny _ _ (field (.ref it) 0 >>= _) _ _ s
    refine wpAny_bind (wpAny_field ho hd (x := .str x t) rfl ?_)
    show wpAny _ _ (field (.ref it) 1 >>= _) _ _ s
    refine wpAny_bind (wpAny_field ho hd (x := .int i 0) rfl ?_)
    simp only [Int.toNat_natCast, hx]
    refine wpAny_bind (wpAny_rule (wpAny_bind (wpAny_setField ho hd (by simp) (wpAny_bind (wpAny_letGo ?_)))))
    show wpAny _ _ (newExc (.type "StopIteration") [] >>= _) _ _ _
    refine wpAny_bind ?_
    simp only [newExc, newTuple]
    refine wpAny_bind (wpAny_newObj_type ?_ (by size_fits))
    refine wpAny_bind (m := firstArgMember _ _) (wpAny_of_eq (a := Value.none) (by first | rfl | (simp only [firstArgMember]; rfl)) ?_)
    refine wpAny_newObj_type ?_ (by size_fits)
    simp only [raiseNew]
    refine wpAny_bind (wpAny_handled ?_)
    first | rw [show A.in1.handled = none from hh] | rw [hh]
    refine wpAny_bind (wpAny_pure (wpAny_throw ?_))
    exact fin o _ ho ⟨_, Obj.data_mapFields hd _⟩ _ _ rfl rfl
theorem pyNext_enum_end {e it : Addr} {i : Int} {old : Value} {Q : Option Value → Shared → Prop} (hh : A.handled = none) (D : EndsAt prog w it s) (he : IsEnum s.heap e it i old)
    (hQ : ∀ h', Heap.ExtBut it s.heap h' → (∃ o, h'.get? it = some o) → Q none { s with heap := h' }) : wpAny (model prog w) A (pyNext (.ref e)) Q E s := by
  have hT : s.TypeIs (.ref e) "enumerate" := ⟨_, he, rfl⟩
  unfold pyNext
  refine wpAny_bind (wpAny_attempt (wpAny_callSpecial?_slot (name := Str.ofString "__next__") hT F.slot_enumerate_next
    (wpAny_call_entry F.slot_enumerate_next hT F.entry_enumerate_next ?_ (F.args_enumerate_next_1 _))))
  show wpAny _ _ (field (.ref e) 2 >>= _) _ _ _
  refine wpAny_bind (wpAny_field he rfl (x := .ref it) rfl ?_)
  refine wpAny_bind (D _ _ _ hh fun h' x he' hal hx' => ?_)
  obtain ⟨o, ho, hc⟩ := hx'
  refine wpAny_bind (wpAny_isInstance (T := "StopIteration") (b := true) ⟨o, ho, hc⟩ isSubtype_stop ?_)
  exact wpAny_pure (hQ _ he' hal)
end
end Mine

namespace Mine

noncomputable def ownNames : List Str := [Str.ofString "lineno", Str.ofString "instream", Str.ofString "whitespace", Str.ofString "pushback", Str.ofString "read"]
/-- what is asked of the class -/
structure NetC (B : Base) : Prop where
  ga : findIn B.K (.ref 115) "__getattribute__" = some (some (.builtin "object.__getattribute__"))
  gk : findIn B.K (.ref 115) "__getattr__" = some none
  sa : findIn B.K (.ref 115) "__setattr__" = some (some (.builtin "object.__setattr__"))
  hasD : hasDictIn B.K 115 = true
  over : plainOver B.K 115 = true
  makes : makesIn B.K 115 = true
  keep : keepIn B.K (.ref 115) = true
  own : ∀ x, ownNames.contains x = true → findIn B.K (.ref 115) x = some none
  init : findIn B.K (.ref 115) "__init__" = some (some (.ref 91))
  rc : findIn B.K (.ref 115) "_read_char" = some (some (.ref 98))
  gt : findIn B.K (.ref 115) "get_token" = some (some (.ref 105))
  pt : findIn B.K (.ref 115) "push_token" = some (some (.ref 112))
  f91 : typeIn B.K (.ref 91) = some (.type "function")
  f98 : typeIn B.K (.ref 98) = some (.type "function")
  f105 : typeIn B.K (.ref 105) = some (.type "function")
  f112 : typeIn B.K (.ref 112) = some (.type "function")
  g98 : specialIn B.K (.ref 98) "__get__" = some (some (.builtin "function.__get__"))
  t98 : takesIn B.K (.ref 98) = some false

section
variable {P : Gh} {ι : Sto}
theorem isStr_ne {k : Value} {x y : Str} {t : Tok} (hk : k = .str y t) (q : ¬ x = y) : k.isStr x = false := by subst hk; simp [Value.isStr]; exact fun q' => q q'.symm
theorem AttrsR.miss {l : List (Str × CV)} {es : List DictEntry} (hs : AttrsR P ι l es) {x : Str} (h : l.lookup x = Option.none) : es.find? (·.key.isStr x) = Option.none := by
  induction hs with
  | nil => rfl
  | @cons y w r e es t hk hv hr ih =>
    rw [List.lookup_cons] at h
    by_cases q : x = y
    · subst q; rw [beq_self_eq_true] at h; exact n2 h
    · rw [show (x == y) = false by simpa using q] at h
      rw [List.find?_cons_of_neg (by rw [isStr_ne hk q]; simp)]
      exact ih h
theorem AttrsR.norefs {l : List (Str × CV)} {es : List DictEntry} (hs : AttrsR P ι l es) : es.any (·.refKey) = false := by
  induction hs with
  | nil => rfl
  | cons hk hv hr ih =>
    rw [List.any_cons, ih, Bool.or_false]
    unfold DictEntry.refKey
    rw [hk]
theorem AttrsR.find {l : List (Str × CV)} {es : List DictEntry} (hs : AttrsR P ι l es) {x : Str} {cv : CV} (h : l.lookup x = some cv) : ∃ e, es.find? (·.key.isStr x) = some e ∧ VR P ι cv e.val := by
  induction hs with
  | nil => exact n1 h
  | @cons y w r e es t hk hv hr ih =>
    rw [List.lookup_cons] at h
    by_cases q : x = y
    · subst q
      rw [beq_self_eq_true] at h
      rw [sj h]
      exact ⟨e, List.find?_cons_of_pos (by rw [hk]; simp [Value.isStr]), hv⟩
    · rw [show (x == y) = false by simpa using q] at h
      rw [List.find?_cons_of_neg (by rw [isStr_ne hk q]; simp)]
      exact ih h
theorem AttrsR.get {l : List (Str × CV)} {es : List DictEntry} (hs : AttrsR P ι l es) {x : Str} {cv : CV} (h : l.lookup x = some cv) : ∃ v, getL x es = some (some v) ∧ VR P ι cv v := by
  obtain ⟨e, a, b⟩ := hs.find h
  exact ⟨e.val, by unfold getL; rw [a], b⟩
theorem AttrsR.none {l : List (Str × CV)} {es : List DictEntry} (h : AttrsR P ι l es) {x : Str} (hx : l.lookup x = none) : getL x es = some none := by
  unfold getL
  rw [h.miss hx]
  simp only
  rw [h.norefs]; rfl
theorem AttrsR.length {l : List (Str × CV)} {es : List DictEntry} (hs : AttrsR P ι l es) : es.length = l.length := by
  induction hs with
  | nil => rfl
  | cons _ _ _ ih => exact congrArg (· + 1) ih
noncomputable def setA (x : Str) (v : CV) : List (Str × CV) → List (Str × CV)
  | [] => [(x, v)]
  | (y, w) :: r => if y = x then (y, v) :: r else (y, w) :: setA x v r
theorem setA_len (x : Str) (v : CV) : ∀ l, (setA x v l).length ≤ l.length + 1
  | [] => by simp [setA]
  | (y, w) :: r => by
    unfold setA
    split
    · simp
    · simp only [List.length_cons]; have := setA_len x v r; walk_at "o"
theorem AttrsR.put {x : Str} {v : CV} {u : Value} {hsh : Int} {t : Tok} (hu : VR P ι v u) {l : List (Str × CV)} {es : List DictEntry} (hs : AttrsR P ι l es) : AttrsR P ι (setA x v l) (putL x hsh (.str x t) u es) := by
  induction hs with
  | nil => exact .cons (t := t) rfl hu .nil
  | @cons y w r e es t' hk hv hr ih =>
    unfold setA putL
    by_cases q : y = x
    · subst q
      rw [if_pos rfl, if_pos (by rw [hk]; simp [Value.isStr])]
      exact .cons (t := t') hk hu hr
    · rw [if_neg q, if_neg (by rw [isStr_ne hk (Ne.symm q)]; simp)]
      exact .cons (t := t') hk hv ih
end

section
variable {B : Base} {n : Nat} {ce ce' : CEnv} {st st1 st2 st3 : LSt} {v v1 v2 r : CV} {vs : List CV} {P P' K : Gh} {g g' : GG} {X X' : Book} {env env' : Env} {s s' : Shared}

theorem Rel.inst (R : Rel B P K g X ce env st s) {i : Nat} {C : Addr} {attrs : List (Str × CV)} {a : Value} (e : st.store[i]? = some (.inst C attrs)) (ha : VR P X.ι (.ref i) a) :
    ∃ x d es k, a = .ref x ∧ X.ι[i]? = some (x, [d]) ∧ s.heap.get? x = some ⟨.ref C, some d, .plain, #[]⟩ ∧ s.heap.get? d = some (dictOf es k) ∧ AttrsR P X.ι attrs es ∧ InstAt s.heap x ⟨.ref C, some d, .plain, #[]⟩ C (some (dictOf es k)) := by
  obtain ⟨x, xs, rfl, hi⟩ := ha.inv
  obtain ⟨p, e1, d, es, k, e2, e3, e4, e5⟩ := R.sto.get e
  rw [hi] at e1; (first|subst e1|obtain rfl:=sj e1|exact n1 e1|exact n2 e1|exact b1 e1|exact b2 e1|cases e1)
  simp only at e2 e3; subst e2
  exact ⟨x, d, es, k, rfl, hi, e3, e4, e5, ⟨e3, rfl, rfl, e4⟩⟩
noncomputable def handC : CV → Bool
  | .cst _ => false
  | _ => true
theorem VR.handed {ι : Sto} {cv : CV} {x : Value} (h : VR P ι cv x) (hc : handC cv = true) : handedIn x = true := by
  (first|subst h|obtain rfl:=sj h|exact n1 h|exact n2 h|exact b1 h|exact b2 h|cases h) <;> first | rfl | cases hc
/-- an attribute of one's own -/
theorem attr_ok (N : NetC B) {i : Nat} {attrs : List (Str × CV)} {a : Value} {x : Str} {expr : Bool} {A : Around} {Q : Value → Shared → Prop} {E : Value → Shared → Prop} (R : Rel B P K g X ce env st s) (e : st.store[i]? = some (.inst 115 attrs)) (ha : VR P X.ι (.ref i) a)
    (hx : attrs.lookup x = some v) (hn : ownNames.contains x = true) (hc : handC v = true) (hQ : ∀ s' u, Rel B P K g X ce env st s' → VR P X.ι v u → Q u s') : wpAny (model B.prog B.w) A (getAttr a x expr) Q E s := by
  obtain ⟨ax, d, es, k, rfl, hi, e1, e2, e3, I⟩ := R.inst e ha
  obtain ⟨u, h1, h2⟩ := e3.get hx
  refine get_value R.inv.K_in I N.ga (findObj_own N.hasD (N.own x hn) rfl ?_) (h2.handed hc) (hQ _ u (R.grow fun _ _ e => e) h2)
  rw [lookIn_dict]; exact h1
theorem Ev_attr (N : NetC B) {o : Expr} {x : Str} {pos : Pos} {i : Nat} {attrs : List (Str × CV)} (h : EvJ B n ce o st (.ref i) st1) (e : st1.store[i]? = some (.inst 115 attrs)) (hx : attrs.lookup x = some v) (hn : autoParam (ownNames.contains x = true) tRfl) (hc : autoParam (handC v = true) tRfl)
    (he : autoParam (∀ env, eval (.Attribute o x pos) env = (do
      let ov ← eval o env
      standAt pos.atName
      let r ← holding [ov] (getAttr ov x true)
      letTemporaryGo o ov r
      pure r)) tRfl1) : EvJ B n ce (.Attribute o x pos) st v st1 := fun A env P K g X s Q E hA R hQ => by
  refine Attribute_any_ (h A env P K g X s _ E hA R fun P1 X1 s1 a lP lX R1 r1 => ?_) (he env)
  exact attr_ok N R1 e r1 hx hn hc fun s' u R' ru => hQ P1 X1 s' u lP lX R' ru
/-- to set an attribute -/
theorem setattr_ok (N : NetC B) {i : Nat} {attrs : List (Str × CV)} {a y : Value} {x : Str} {A : Around} {Q : Unit → Shared → Prop} {E : Value → Shared → Prop} (R : Rel B P K g X ce env st s) (e : st.store[i]? = some (.inst 115 attrs)) (ha : VR P X.ι (.ref i) a) (hy : VR P X.ι v y)
    (hn : ownNames.contains x = true) (hl : attrs.length ≤ 100) (hQ : ∀ s', Rel B P K g X ce env (st.put i (.inst 115 (setA x v attrs))) s' → Q () s') : wpAny (model B.prog B.w) A (setAttr a x y) Q E s := by
  obtain ⟨ax, d, es, k, rfl, hi, e1, e2, e3, I⟩ := R.inst e ha
  refine set_plain R.inv.K_in I N.sa ?_
  have R0 : Rel B P K g X ce env st { s with toks := s.toks + 1 } := R.grow fun _ _ e => e
  obtain ⟨cd, hc, hd'⟩ := any_some N.hasD
  have ht : takerIn B.K 115 x = some none := by unfold takerIn; rw [N.own x hn]; rfl
  refine osa_open (s := { s with toks := s.toks + 1 }) (ox := ⟨.ref 115, some d, .plain, #[]⟩) (od := some (dictOf es k)) R0.inv.K_in I N.over ht fun b => ?_
  refine wpAny_bind (wpAny_pure (wpAny_bind (wpAny_bind (wpAny_loadPart e1 (wpAny_bind ((looks_clsIn R0.inv.K_in hc).here ?_))))))
  rw [hd']
  refine wpAny_pure (a := some d) (wpAny_bind (wpAny_pure (wpAny_bind ?_)))
  unfold nsSet
  refine wpAny_bind (wpAny_bind (wpAny_askSetting (wpAny_pure (wpAny_bind (wpAny_mkText (wpAny_bind (wpAny_loadPart e2 ?_)))))))
  have c : (!es.toArray.any (·.key.isStr x) && es.toArray.any (·.refKey)) = false := by
    have hr := e3.norefs
    simp only [List.any_toArray, hr, Bool.and_false]
  dsimp only
  rw [aRefKeyMayBeTheName_at, c]
  refine wpAny_updatePart e2 ?_
  have hput := putName_dict x (PyData.keyHash B.w.params x) (.str x (s.toks + 1)) y es k
  have hdx : d ≠ ax := fun q => by rw [q, e1] at e2; (first|subst e2|obtain rfl:=sj e2|exact n1 e2|exact n2 e2|exact b1 e2|exact b2 e2|cases e2)
  have hget : (s.heap.update d (Obj.putName x (PyData.keyHash B.w.params x) (.str x (s.toks + 1)) y)).get? d = some (dictOf (putL x (PyData.keyHash B.w.params x) (.str x (s.toks + 1)) y es) (putN x es k)) := by
    have := Heap.get?_update_self (h := s.heap) (Obj.putName x (PyData.keyHash B.w.params x) (.str x (s.toks + 1)) y) e2 (by rw [hput]; rfl)
    rw [this, hput]
  have hlen : (putL x (PyData.keyHash B.w.params x) (.str x (s.toks + 1)) y es).length ≤ 1000 := by
    have h1 := (e3.put (x := x) (hsh := PyData.keyHash B.w.params x) (t := s.toks + 1) hy).length
    have h2 := setA_len x v attrs
    walk_at "o"
  refine wpAny_bind (wpAny_lookBehind hget (pastItsLine_dict (by rw [List.size_toArray, sizeLine_eq]; walk_at "o")) ?_)
  refine wpAny_pure ?_
  refine hQ _ ?_
  refine R.modS e hi rfl rfl (fun b o hb eo => ?_) rfl rfl ⟨d, _, _, rfl, ?_, hget, e3.put hy⟩
  · exact (Heap.get?_update_other _ _ (fun q => hb (by rw [q]; simp))).trans eo
  · exact (Heap.get?_update_other _ _ (fun q => hdx (by first | exact q | exact q.symm))).trans e1
theorem As_attr (N : NetC B) {o : Expr} {x : Str} {pos : Pos} {i : Nat} {attrs : List (Str × CV)} (h : EvJ B n ce o st (.ref i) st1) (e : st1.store[i]? = some (.inst 115 attrs)) (hn : autoParam (ownNames.contains x = true) tRfl) (hl : attrs.length ≤ 100 := by first | decide | simp) :
    AsJ B n ce (.Attribute o x pos) st v (st1.put i (.inst 115 (setA x v attrs))) := fun A env P K g X s y Q E hA R hy hQ => by
  rw [assign_Attribute]
  refine wpAny_bind (wpAny_holding (h A env P K g X s _ E hA R fun P1 X1 s1 a lP lX R1 r1 => ?_))
  refine wpAny_bind (wpAny_standAt (wpAny_bind (wpAny_holding ?_)))
  exact setattr_ok N R1 e r1 (hy.mono lP lX.ι) hn hl fun s2 R2 => wpAny_release' (hQ P1 X1 s2 lP lX R2)
theorem Ex_augAttr (N : NetC B) {o e : Expr} {x : Str} {tpos pos : Pos} {op : Operator} {i : Nat} {attrs : List (Str × CV)} (h : EvJ B n ce o st (.ref i) st1) (e1 : st1.store[i]? = some (.inst 115 attrs)) (hx : attrs.lookup x = some v1) (h2 : EvJ B n ce e st1 v2 st2) (e2 : st2.store[i]? = some (.inst 115 attrs)) (ho : AugR op v1 v2 v)
    (hn : autoParam (ownNames.contains x = true) tRfl) (hc : autoParam (handC v1 = true) tRfl) (hl : attrs.length ≤ 100 := by first | decide | simp) : ExJ B n ce (.AugAssign (.Attribute o x tpos) op e pos) st .nxt (st2.put i (.inst 115 (setA x v attrs))) := fun A env P K g X s Q E hA R hQ => by
  refine wpAny_AugAssign_AttributeAny (h A env P K g X s _ E hA R fun P1 X1 s1 a lP1 lX1 R1 r1 => ?_)
  refine attr_ok N R1 e1 r1 hx hn hc fun s2 u R2 ru => ?_
  refine h2 A env P1 K g X1 s2 _ E hA R2 fun P3 X3 s3 b lP3 lX3 R3 r3 => ?_
  refine aug_ok ho R3 (ru.mono lP3 lX3.ι) r3 fun s4 z R4 rz => ?_
  exact setattr_ok N R4 e2 (r1.mono lP3 lX3.ι) rz hn hl fun s5 R5 => hQ P3 X3 s5 _ (lP1.trans lP3) (lX1.trans lX3) R5 .nxt
end
end Mine

namespace Mine
section
variable {B : Base} {n : Nat} {ce ce' : CEnv} {st st1 st2 st3 st4 : LSt} {v v1 v2 r : CV} {vs : List CV} {P P' K : Gh} {g g' : GG} {X X' : Book} {env env' : Env} {s s' : Shared} {ι : Sto} {S : List CO}

/-- the code of a function that is called -/
theorem code_ok (O : StO B P K g ι S s) {A : Around} {a : Addr} {o : Obj} {fd : FuncData} {params : List Str} {body : List Stmt} {scope : Scope} {clo : List (Str × Addr)} {free : List (Str × CV)} {vs : List CV} {xs : List Value} {R : Result → Shared → Prop}
    (hA : Room A (n + 1)) (ho : s.heap.get? a = some o) (hd : o.data = .func fd) (D : FnD P fd params (.stmts body) scope clo) (hgen : scope.isGenerator = false) (F : FunOk scope free params) (hf : FreeOk P ι clo free scope) (hv : VRs P ι vs xs) (hl : vs.length = params.length)
    (h : ∀ A' env' X' s' E, Room A' n → X'.ι = ι → (env'.code = fd.code ∧ env'.qual = fd.qualname ++ ".<locals>.") → Rel B P K g X' ⟨scope, free⟩ env' ⟨params.zip vs, S⟩ s' → wpAny (model B.prog B.w) A' (execs body env') (fun f s' => R (.ok (.ret (match f with | .ret v => v | _ => .none))) s') E s') :
    codeAny (model B.prog B.w) A (.call (.ref a) ⟨xs, []⟩) R s := by
  obtain ⟨c, oc, ys, t, h1, h2, h3, h4⟩ := D.code
  refine codeAny_call_function (by have := hA.depth; walk_at "o") ho hd (D.scope ▸ F.co) (D.scope ▸ hgen) D.body ⟨c, oc, ys, t, h1, O.inv.perm _ _ h2, h3, h4⟩ ?_
  rw [D.bind xs (by rw [hv.length, hl]), D.scope, D.glob, D.bui, D.clo]
  refine wpAny_pure (frame_ok O F hf hv hl fun env' X' s' hι hc R' => ⟨R'.inv.nolim, codeAny_func ?_⟩)
  refine wpAny_mono (h _ env' X' s' _ hA.deeper hι hc R') (fun f s' hq => ?_) fun _ _ x => x
  exact hq
/-- to leave a frame; the store may have grown -/
theorem Rel.leaveG (R : Rel B P K g X ce env st s) (hP : Le P P') {X2 : Book} {st2 : LSt} (R2 : Rel B P' (frK X.fown s.heap K) g' X2 ce' env' st2 s') (hι : StoLe X.ι X2.ι) (hg : ∀ i x, g i = some x → g' i = some x) :
    X.Le { X with ι := X2.ι } ∧ Rel B P' K g { X with ι := X2.ι } ce env ⟨st.vars, st2.store⟩ s' := by
  have hX : X.Le { X with ι := X2.ι } := ⟨rfl, rfl, hι⟩
  have hk : ∀ a ∈ X.fown, ∀ o, s.heap.get? a = some o → s'.heap.get? a = some o := fun a ha o e => R2.inv.keep a o (by rw [frK_in ha]; exact e)
  have hnK : ∀ a ∈ X.fown, ∃ o, frK X.fown s.heap K a = some o := fun a ha => by
    rw [frK_in ha]; exact R.alive a (List.mem_append_left _ ha)
  have hdis : ∀ a ∈ X.fown, a ∉ stoOwn X2.ι st2.store := fun a ha hb => by
    obtain ⟨o, e⟩ := hnK a ha
    rw [(R2.off a (List.mem_append_right _ hb)).2.1] at e; (first|subst e|obtain rfl:=sj e|exact n1 e|exact n2 e|exact b1 e|exact b2 e|cases e)
  refine ⟨hX, R2.inv.unframe (fun a ha => (R.off a (List.mem_append_left _ ha)).2.1) hg, R.env.mono hP hX, ?_, ?_, R2.sto, ?_, ?_⟩
  · obtain ⟨m, ⟨o, es, ep, e, r⟩, h⟩ := R.loc
    exact ⟨m, ⟨o, es, ep, hk _ (by simp) _ e, r⟩, fun x cv a b => let ⟨v, c, d⟩ := h x cv a b; ⟨v, c, d.mono hP hι⟩⟩
  · intro x c hx
    obtain ⟨v, ⟨o, e, r⟩, h⟩ := R.cel x c hx
    exact ⟨v, ⟨o, hk c (List.mem_cons_of_mem _ (List.mem_map.mpr ⟨_, hx, rfl⟩)) o e, r⟩, fun cv hc => let ⟨u, a, b⟩ := h cv hc; ⟨u, a, b.mono hP hι⟩⟩
  · refine List.nodup_append.mpr ⟨(List.nodup_append.mp R.own).1, (List.nodup_append.mp R2.own).2.1, fun a ha b hb q => ?_⟩
    subst q; exact hdis a ha hb
  · intro a ha
    rcases List.mem_append.mp ha with ha | ha
    · obtain ⟨o, e⟩ := hnK a ha
      exact ⟨R2.inv.apart a o e, (R.off a (List.mem_append_left _ ha)).2⟩
    · obtain ⟨x, y, z⟩ := R2.off a (List.mem_append_right _ ha)
      refine ⟨x, ?_, z⟩
      rw [frK_out fun q => hdis a q ha] at y; exact y
theorem CaJ.mkG {a : Addr} {params : List Str} {body : List Stmt} {scope : Scope} {f : CFl} {st' : LSt} (F : FnAt B a params body scope) (hF : FunOk scope [] params) (hgen : scope.isGenerator = false) (hl : vs.length = params.length)
    (h : XsJ B n ⟨scope, []⟩ body ⟨params.zip vs, st.store⟩ f st') : CaJ B (n + 1) ce (.ref a) vs st (retOf f) ⟨st.vars, st'.store⟩ := fun A env P K g X s xs Q E hA R hx hQ => by
  obtain ⟨o, fd, e1, e2, e3⟩ := F.ok
  refine call_ok R.stO hA (R.inv.h0 _ _ e1) e2 (e3.mono R.inv.base) hgen hF .nil hx hl fun A' env' X' s' E' hA' hι _ R' => ?_
  refine h A' env' P _ g X' s' _ E' hA' R' fun P2 X2 s2 fl lP lX R2 rf => ?_
  obtain ⟨a, b⟩ := R.leaveG lP R2 (hι ▸ lX.ι) fun _ _ e => e
  exact hQ P2 _ s2 _ lP a b rf.val
/-- a method of an object is called -/
theorem Ev_methI (N : NetC B) {o : Expr} {name : Str} {apos pos : Pos} {es : List Expr} {f : Addr} {i : Nat} {attrs : List (Str × CV)} (hf : findIn B.K (.ref 115) name = some (some (.ref f))) (ht : typeIn B.K (.ref f) = some (.type "function")) (hfn : ∃ o fd, B.P₀ f = some o ∧ o.data = .func fd)
    (h1 : EvJ B n ce o st (.ref i) st1) (e : st1.store[i]? = some (.inst 115 attrs)) (hl : attrs.lookup name = none) (he : EsJ B n ce pos es st1 vs st2) (hc : CaJ B n ce (.ref f) (.ref i :: vs) st2 r st3)
    (hbase : autoParam (∀ env, attributeBase o name env (eval o env) = eval o env) tRfl1)
    (hfew : autoParam (∀ env, methodCallForm (es.length + ([] : List Keyword).length) (backTo pos (starEach es env)) (backToKw pos (keywordEach [] env)) = true) tRfl1)
    (hline : autoParam ((apos.endLine == pos.line) = true) tRfl)
    (hp : autoParam (∀ env, (backTo pos (starEach es env)).any (·.1) = false) tRfl1) : EvJ B n ce (.Call (.Attribute o name apos) es [] pos) st r st3 := fun A env P K g X s Q E hA R hQ => by
  obtain ⟨ob, fd, d1, d2⟩ := hfn
  show wpAny _ _ (eval (.Call (.Attribute o name apos) es [] pos) env) _ _ _
  rw [arm_eval_Call, hbase]
  refine wpAny_bind (h1 A env P K g X s _ E hA R fun P1 X1 s1 x lP1 lX1 R1 r1 => ?_)
  refine wpAny_bind (wpAny_standAt ?_)
  obtain ⟨ax, d, des, k, rfl, hi, e1, e2, e3, I⟩ := R1.inst e r1
  have hpos : methodCallPos true o env apos pos = pure pos := by unfold methodCallPos; simp [hline]
  unfold methodCall
  rw [hfew]
  refine wpAny_bind (wpAny_holding ?_)
  unfold calleeOf
  simp only [if_true]
  refine method_fn R1.inv.K_in I N.ga N.gk hf ht (by show (lookIn name (dictOf des k)).map _ = _; rw [lookIn_dict, e3.none hl]; rfl) ?_
  refine wpAny_bind (wpAny_of_eq hpos ?_)
  refine callWith_function (o := ob) (fd := fd) (evalArgs_any (hp env) (he A env P1 K g X1 s1 _ E hA R1 fun P2 X2 s2 xs lP2 lX2 R2 r2 => ⟨⟨R2.inv.h0 _ _ d1, d2⟩, ?_⟩))
  exact hc A env P2 K g X2 s2 (.ref ax :: xs) Q E hA R2 (.cons (r1.mono lP2 lX2.ι) r2) fun P3 X3 s3 a lP3 lX3 R3 r3 => hQ P3 X3 s3 a (lP1.trans (lP2.trans lP3)) (lX1.trans (lX2.trans lX3)) R3 r3

/-- a function of the store is called -/
theorem callWith_C {pos : Pos} {es : List Expr} {i : Nat} {ps : List Str} {body : FuncBody} {scope : Scope} {free : List (Str × CV)} {f : Value} {A : Around} {Q : Value → Shared → Prop} {E : Value → Shared → Prop} (hA : Room A n) (R1 : Rel B P K g X ce env st1 s) (r1 : VR P X.ι (.ref i) f) (he : EsJ B n ce pos es st1 vs st2) (e : st2.store[i]? = some (.clo ps body scope free)) (hc : CaC B n ce i vs st2 r st3)
    (hQ : ∀ P' X' s' a, Le P P' → X.Le X' → Rel B P' K g X' ce env st3 s' → VR P' X'.ι r a → Q a s') (hp : (backTo pos (starEach es env)).any (·.1) = false) : wpAny (model B.prog B.w) A (callWith pos f [] (backTo pos (starEach es env)) []) Q E s := by
  obtain ⟨fa, rfl⟩ : ∃ fa, f = .ref fa := by (first|obtain ⟨_, rfl⟩:=r1.inv|subst r1|obtain rfl:=sj r1|exact n1 r1|exact n2 r1|cases r1); exact ⟨_, rfl⟩
  have key : ∀ xs s2 P2 X2, Le P P2 → X.Le X2 → Rel B P2 K g X2 ce env st2 s2 → VRs P2 X2.ι vs xs → ∃ o fd, s2.heap.get? fa = some o ∧ o.data = .func fd ∧ P2 fa = some o := fun xs s2 P2 X2 lP lX R2 r2 => by
    have r1' := r1.mono lP lX.ι
    cases r1' with | ref hi =>
    obtain ⟨q, e1, o, fd, clo, h1, hc, h2, h3, h4⟩ := R2.sto.get e
    rw [hi] at e1; (first|subst e1|obtain rfl:=sj e1|exact n1 e1|exact n2 e1|exact b1 e1|exact b2 e1|cases e1)
    exact ⟨o, fd, R2.inv.perm _ _ h1, h2, h1⟩
  have fin : ∀ xs s2 P2 X2, Le P P2 → X.Le X2 → Rel B P2 K g X2 ce env st2 s2 → VRs P2 X2.ι vs xs → wpAny (model B.prog B.w) A (call (.ref fa) xs) Q E s2 := fun xs s2 P2 X2 lP lX R2 r2 =>
    hc A env P2 K g X2 s2 (.ref fa) xs Q E hA R2 (r1.mono lP lX.ι) r2 fun P3 X3 s3 a lP3 lX3 R3 r3 => hQ P3 X3 s3 a (lP.trans lP3) (lX.trans lX3) R3 r3
  unfold callWith
  refine wpAny_bind (wpAny_holding (evalArgs_any hp (he A env P K g X s _ E hA R1 fun P2 X2 s2 xs lP2 lX2 R2 r2 => ?_)))
  refine wpAny_bind (wpAny_standAt ?_)
  obtain ⟨o, fd, h1, h2, _⟩ := key xs s2 P2 X2 lP2 lX2 R2 r2
  have h₁ := fin xs s2 P2 X2 lP2 lX2 R2 r2
  have tail : ∀ {t : Sem Value}, wpAny (model B.prog B.w) A t Q E s2 → wpAny (model B.prog B.w) A (t >>= fun r => holding [r] point >>= fun _ => pure r) Q E s2 :=
    fun ht => wpAny_bind (wpAny_mono ht (fun r s₂ hr => wpAny_bind (wpAny_holding (wpAny_point (wpAny_pure hr)))) fun _ _ x => x)
  have hs := hp
  simp only [hs, List.any_nil, Bool.or_false]
  refine wpAny_bind (m := keeperOf (.ref fa)) ?_
  unfold keeperOf
  refine wpAny_bind (wpAny_load h1 ?_)
  rw [h2]
  refine wpAny_pure ?_
  first
    | refine wpAny_ite ?_
    | skip
  split <;> first
    | exact tail h₁
    | exact tail (by unfold callMarked; exact wpAny_keep h₁)
/-- a function that stands in an object own dict is called -/
theorem Ev_methOwn (N : NetC B) {o : Expr} {name : Str} {apos pos : Pos} {es : List Expr} {i j : Nat} {attrs : List (Str × CV)} {ps : List Str} {body : FuncBody} {scope : Scope} {free : List (Str × CV)}
    (h1 : EvJ B n ce o st (.ref i) st1) (e : st1.store[i]? = some (.inst 115 attrs)) (hl : attrs.lookup name = some (.ref j)) (he : EsJ B n ce pos es st1 vs st2) (e2 : st2.store[j]? = some (.clo ps body scope free)) (hc : CaC B n ce j vs st2 r st3)
    (hn : autoParam (ownNames.contains name = true) tRfl)
    (hbase : autoParam (∀ env, attributeBase o name env (eval o env) = eval o env) tRfl1)
    (hfew : autoParam (∀ env, methodCallForm (es.length + ([] : List Keyword).length) (backTo pos (starEach es env)) (backToKw pos (keywordEach [] env)) = true) tRfl1)
    (hline : autoParam ((apos.endLine == pos.line) = true) tRfl)
    (hp : autoParam (∀ env, (backTo pos (starEach es env)).any (·.1) = false) tRfl1) : EvJ B n ce (.Call (.Attribute o name apos) es [] pos) st r st3 := fun A env P K g X s Q E hA R hQ => by
  show wpAny _ _ (eval (.Call (.Attribute o name apos) es [] pos) env) _ _ _
  rw [arm_eval_Call, hbase]
  refine wpAny_bind (h1 A env P K g X s _ E hA R fun P1 X1 s1 x lP1 lX1 R1 r1 => ?_)
  refine wpAny_bind (wpAny_standAt ?_)
  obtain ⟨ax, d, des, k, rfl, hi, e1, e2', e3, I⟩ := R1.inst e r1
  have hpos : methodCallPos true o env apos pos = pure pos := by unfold methodCallPos; simp [hline]
  unfold methodCall
  rw [hfew]
  refine wpAny_bind (wpAny_holding ?_)
  unfold calleeOf
  simp only [if_true]
  refine method_usual (r := none) R1.inv.K_in I N.ga N.gk (N.own name hn) rfl ?_
  refine attr_ok N R1 e r1 hl hn rfl fun s2 u R2 ru => ?_
  refine wpAny_bind (wpAny_of_eq hpos ?_)
  exact callWith_C hA R2 ru he e2 hc (fun P' X' s' a lP lX R' ra => hQ P' X' s' a (lP1.trans lP) (lX1.trans lX) R' ra) (hp env)
end
end Mine

namespace Mine

noncomputable def clsBody : List Stmt := match progAt 13 with
  | .ClassDef _ _ _ body .. => body
  | _ => []
noncomputable def methAt (k : Nat) : Stmt := (clsBody[k]?).getD (.Pass ⟨0, 0, 0, 0⟩)
noncomputable abbrev mBody (k : Nat) : List Stmt := bodyOf (methAt k)
noncomputable abbrev mScope (k : Nat) : Scope := scopeOf (methAt k)
/-- where the methods stand -/
structure NetF (B : Base) : Prop where
  init : FnAt B 91 [Str.ofString "self", Str.ofString "fp"] (mBody 0) (mScope 0)
  rc : FnAt B 98 [Str.ofString "self"] (mBody 1) (mScope 1)
  gt : FnAt B 105 [Str.ofString "self"] (mBody 2) (mScope 2)
  pt : FnAt B 112 [Str.ofString "self", Str.ofString "token"] (mBody 3) (mScope 3)

section
variable {B : Base} {n : Nat} {ce ce' : CEnv} {st st1 st2 st3 st4 : LSt} {v v1 v2 r : CV} {vs : List CV} {P P' K : Gh} {g g' : GG} {X X' : Book} {env env' : Env} {s s' : Shared} {ι : Sto} {S : List CO}

noncomputable abbrev wsS : Str := Str.ofString "\n\t\x0d "
noncomputable abbrev netAttrs (line : Int) (stream : CV) (pb : Nat) : List (Str × CV) := [(Str.ofString "lineno", .int line), (Str.ofString "instream", stream), (Str.ofString "whitespace", .str wsS), (Str.ofString "pushback", .ref pb)]
theorem init_body (N : NetC B) (fp : CV) (S : List CO) : XsJ B n ⟨mScope 0, []⟩ (mBody 0) ⟨[(Str.ofString "self", .ref S.length), (Str.ofString "fp", fp)], S ++ [.inst 115 []]⟩ .nxt ⟨[(Str.ofString "self", .ref S.length), (Str.ofString "fp", fp)], S ++ [.inst 115 (netAttrs 1 fp (S.length + 1)), .lst []]⟩ := by
  conv in (mBody 0) => whnf
  have hg : ∀ (c : CO) (T : List CO), (S ++ c :: T)[S.length]? = some c := fun c T => by simp
  have hs : ∀ (c d : CO) (T : List CO), (S ++ c :: T).set S.length d = S ++ d :: T := fun c d T => by simp
  refine Xs_cons (Ex_assign Ev_int (As_attr N (Ev_name (v := .ref S.length) (by rfl)) (hg _ _))) ?_
  simp only [LSt.put, hs, setA]
  refine Xs_cons (Ex_assign (Ev_name (v := fp) (by rfl)) (As_attr N (Ev_name (v := .ref S.length) (by rfl)) (hg _ _))) ?_
  simp only [LSt.put, hs, setA, show ¬ (Str.ofString "lineno" = Str.ofString "instream") by decide, if_false]
  refine Xs_cons (Ex_assign Ev_str (As_attr N (Ev_name (v := .ref S.length) (by rfl)) (hg _ _))) ?_
  simp only [LSt.put, hs, setA, show ¬ (Str.ofString "lineno" = Str.ofString "whitespace") by decide, show ¬ (Str.ofString "instream" = Str.ofString "whitespace") by decide, if_false]
  refine Xs_cons (Ex_assign (Ev_listM Es_nil (by decide)) (As_attr N (attrs := [(Str.ofString "lineno", .int 1), (Str.ofString "instream", fp), (Str.ofString "whitespace", .str wsS)]) (Ev_name (v := .ref S.length) (by rfl)) (by simp only [List.append_assoc, List.cons_append, List.nil_append]; exact hg _ _))) ?_
  simp only [LSt.put, List.append_assoc, List.cons_append, List.nil_append, hs, setA, show ¬ (Str.ofString "lineno" = Str.ofString "pushback") by decide, show ¬ (Str.ofString "instream" = Str.ofString "pushback") by decide, show ¬ (Str.ofString "whitespace" = Str.ofString "pushback") by decide, if_false, List.length_append, List.length_cons, List.length_nil]
  exact Xs_nil

theorem room_new {A : Around} {args : List Value} (h : Room A (n + 1)) : Room (A.under (.builtin "type.__call__" ⟨.ref 115 :: args, []⟩)) n := by
  have hw : (Code.builtin "type.__call__" ⟨.ref 115 :: args, []⟩).weight = 1 := by rfl
  have hu : (Code.builtin "type.__call__" ⟨.ref 115 :: args, []⟩).cUnits = 1 := by rfl
  exact ⟨h.handled, by have := h.depth; show A.depth + (Code.builtin "type.__call__" ⟨.ref 115 :: args, []⟩).weight + n < _; rw [hw]; walk_at "o", by have := h.units; show A.units + (Code.builtin "type.__call__" ⟨.ref 115 :: args, []⟩).cUnits + 8 * n + 80 < _; rw [hu]; walk_at "o"⟩
/-- an object of the class is made -/
theorem ca_new (N : NetC B) (F : NetF B) {fp : CV} : CaJ B (n + 2) ce (.ref 115) [fp] st (.ref st.store.length) ⟨st.vars, st.store ++ [.inst 115 (netAttrs 1 fp (st.store.length + 1)), .lst []]⟩ := fun A env P K g X s xs Q E hA R hx hQ => by
  obtain ⟨x, rfl, hx1⟩ := hx.one
  obtain ⟨o, fd, e1, e2, e3⟩ := F.init.ok
  obtain ⟨hh, gg, dd, tt, oo⟩ := s
  refine wpAny_call (make_core (makes_of R.inv.K_in N.makes) (looks_findIn R.inv.K_in N.init) (fun self => bind_fn R.inv.K_in self N.f91) (.inl rfl) ?_)
  have g1 : ∀ b o, hh.get? b = some o → ((hh.push emptyDict).push (instObj 115 hh.objs.size)).get? b = some o := fun b o e => Heap.get?_push_of_some _ (Heap.get?_push_of_some _ e)
  obtain ⟨q1, q2⟩ := R.newS (s' := ⟨(hh.push emptyDict).push (instObj 115 hh.objs.size), gg, dd, tt, oo⟩) (a := hh.objs.size + 1) (xs := [hh.objs.size]) (co := .inst 115 []) g1 rfl rfl
    (fun b hb => by
      simp only [List.mem_cons, List.not_mem_nil, or_false] at hb
      rcases hb with rfl | rfl
      · exact Nat.le_succ _
      · exact Nat.le_refl _) (by simp)
    ⟨hh.objs.size, [], 0, rfl, by
      have := Heap.get?_push_size (hh.push emptyDict) (o := instObj 115 hh.objs.size) rfl
      rw [Heap.size_push] at this; exact this, Heap.get?_push_of_some _ (Heap.get?_push_size _ rfl), .nil⟩ rfl
  have hb := init_body (n := n) N fp st.store
  have hlen := R.sto.length
  refine code_ok q2.stO (n := n) (room_new hA) (q2.inv.h0 _ _ e1) e2 (e3.mono q2.inv.base) (by rfl) (.mk' (by decide +kernel)) .nil (vs := [.ref st.store.length, fp]) (.cons (.ref (xs := [hh.objs.size]) (by simp [← hlen])) (.cons (hx1.mono (.refl _) q1.ι) .nil)) rfl fun A' env' X' s' E' hA' hι _ R' => ?_
  refine hb A' env' P _ g X' s' _ E' hA' R' fun P2 X2 s2 fl lP lX R2 rf => ?_
  cases rf
  obtain ⟨a, b⟩ := q2.leaveG lP R2 (hι ▸ lX.ι) fun _ _ e => e
  refine ⟨rfl, hQ P2 _ s2 _ lP (q1.trans a) b (.ref (xs := [hh.objs.size]) ?_)⟩
  have hι' := lX.ι
  rw [hι] at hι'
  exact hι'.get (by simp [← hlen])
theorem Ev_new (N : NetC B) (F : NetF B) {x : Str} {p pos : Pos} {e : Expr} {fp : CV} (hf : EvJ B (n + 2) ce (.Name x p) st (.cst (.ref 115)) st1) (he : EvJ B (n + 2) ce e st1 fp st2) (hst : autoParam (isStar e = false) tRfl)
    (hp : autoParam (∀ env, (backTo pos (starEach [e] env)).any (·.1) = false) tRfl1) : EvJ B (n + 2) ce (.Call (.Name x p) [e] [] pos) st (.ref st2.store.length) ⟨st2.vars, st2.store ++ [.inst 115 (netAttrs 1 fp (st2.store.length + 1)), .lst []]⟩ := fun A env P K g X s Q E hA R hQ => by
  refine Call_Name rfl (hf A env P K g X s _ E hA R fun P1 X1 s1 f lP1 lX1 R1 r1 => ?_)
  cases r1
  refine callWith_of (P := B.K.In) (by have := hp env; simp only [this, List.any_nil, Bool.or_false]) (keeps_K N.keep) (evalArgs_any (hp env) ((Es_cons he Es_nil hst) A env P1 K g X1 s1 _ E hA R1 fun P2 X2 s2 xs lP2 lX2 R2 r2 => ⟨R2.inv.K_in, ?_⟩))
  exact ca_new N F A env P2 K g X2 s2 xs Q E hA R2 r2 fun P3 X3 s3 a lP3 lX3 R3 r3 => hQ P3 X3 s3 a (lP1.trans (lP2.trans lP3)) (lX1.trans (lX2.trans lX3)) R3 r3
end
end Mine

namespace Mine
namespace CI
theorem owner : Manifest.owners.lookup (String.ofList ['r', 'o', 't', 'a', 'r', 'e', 't', 'i', '_', 'e', 'l', 'b', 'a', 'l', 'l', 'a', 'c'].reverse) = some Manifest.sig_callable_iterator := by kernel_rfl
theorem slot_next : Slot "callable_iterator" "__next__" "callable_iterator.__next__" :=
  .of (owner := "callable_iterator") (n := "__next__") (by rw [typeLookup_type, builtinLookup_eq_fast]; kernel_rfl) (by decide +kernel) (by decide +kernel) (by decide +kernel)
    (by first | exact .inl (by decide +kernel) | exact .inr (by decide +kernel)) (by rw [isSubtype_type]; kernel_rfl)
theorem entry_next : entryFor table "callable_iterator.__next__" = some Builtin.«callable_iterator.__next__» := entryFor_of_tree (by kernel_rfl)
theorem args_next (a : Value) : argsOk "callable_iterator.__next__" ⟨[a], []⟩ := by
  unfold argsOk; rw [signature?_of (id := "callable_iterator.__next__") (n := ['_', '_', 't', 'x', 'e', 'n', '_', '_']) (o := ['r', 'o', 't', 'a', 'r', 'e', 't', 'i', '_', 'e', 'l', 'b', 'a', 'l', 'l', 'a', 'c']) (by kernel_rfl) owner]; kernel_rfl
theorem slot_iter : Slot "callable_iterator" "__iter__" "callable_iterator.__iter__" :=
  .of (owner := "callable_iterator") (n := "__iter__") (by rw [typeLookup_type, builtinLookup_eq_fast]; kernel_rfl) (by decide +kernel) (by decide +kernel) (by decide +kernel)
    (by first | exact .inl (by decide +kernel) | exact .inr (by decide +kernel)) (by rw [isSubtype_type]; kernel_rfl)
theorem args_iter (a : Value) : argsOk "callable_iterator.__iter__" ⟨[a], []⟩ := by
  unfold argsOk; rw [signature?_of (id := "callable_iterator.__iter__") (n := ['_', '_', 'r', 'e', 't', 'i', '_', '_']) (o := ['r', 'o', 't', 'a', 'r', 'e', 't', 'i', '_', 'e', 'l', 'b', 'a', 'l', 'l', 'a', 'c']) (by kernel_rfl) owner]; kernel_rfl
theorem entry_iter : entryFor table "callable_iterator.__iter__" = some Builtin.«dict_keyiterator.__iter__» :=
  entryFor_alias (id' := "dict_keyiterator.__iter__") (by kernel_rfl) (by first | rfl | decide +kernel | (unfold String.splitOn; simp +decide [String.splitOnAux])) (by decide +kernel) (by kernel_rfl)
theorem kind_iter : builtinKind "iter" = none := by decide +kernel
theorem plain_iter : plainId "iter" = true := by decide +kernel
theorem entry_iterB : entryFor table "iter" = some Builtin.«iter» := entryFor_of_tree (by kernel_rfl)
theorem args_iter_2 (a b : Value) : argsOk "iter" ⟨[a, b], []⟩ := by unfold argsOk; kernel_rfl
theorem lookup_mcall : typeLookup (.type "method") "__call__" = pure (some (.builtin "method.__call__")) := by rw [typeLookup_type, builtinLookup_eq_fast]; kernel_rfl
end CI
section
variable {B : Base} {n : Nat} {ce ce' : CEnv} {st st1 st2 st3 st4 : LSt} {v v1 v2 r : CV} {vs : List CV} {P P' K : Gh} {g g' : GG} {X X' : Book} {env env' : Env} {s s' : Shared} {ι : Sto} {S : List CO}

/-- a bound method -/
theorem Ev_bound (N : NetC B) {o : Expr} {pos : Pos} {i : Nat} {attrs : List (Str × CV)} (h : EvJ B n ce o st (.ref i) st1) (e : st1.store[i]? = some (.inst 115 attrs)) (hx : attrs.lookup (Str.ofString "_read_char") = none)
    (he : autoParam (∀ env, eval (.Attribute o (Str.ofString "_read_char") pos) env = (do
      let ov ← eval o env
      standAt pos.atName
      let r ← holding [ov] (getAttr ov (Str.ofString "_read_char") true)
      letTemporaryGo o ov r
      pure r)) tRfl1) : EvJ B n ce (.Attribute o (Str.ofString "_read_char") pos) st (.meth i 98) st1 := fun A env P K g X s Q E hA R hQ => by
  refine Attribute_any_ (h A env P K g X s _ E hA R fun P1 X1 s1 a lP lX R1 r1 => ?_) (he env)
  obtain ⟨ax, d, es, k, rfl, hi, e1, e2, e3, I⟩ := R1.inst e r1
  refine get_bind R1.inv.K_in I N.ga (findObj_fn N.hasD N.rc N.g98 N.t98 (by decide +kernel) (by rw [lookIn_dict]; exact e3.none hx)) N.gk ?_
  have R2 : Rel B P1 K g X1 ce env st1 { s1 with toks := s1.toks + 1 } := R1.grow fun _ _ e => e
  refine wpAny_call (fn_get (s := { s1 with toks := s1.toks + 1 }) R2.inv.K_in N.f98 (handed_on rfl ?_))
  obtain ⟨q1, q2⟩ := R2.newP (o := methodObj (.ref 98) (.ref ax)) rfl (s1.toks + 1)
  exact hQ _ X1 _ _ (lP.trans q1) lX q2 (.meth (r := []) Gh.put_self rfl rfl hi)

theorem code_meth {M : Model} {prog : Program} {w : World} {A : Around} {R : Result → Shared → Prop} {m f : Addr} {x : Value} {xs r : List Value} {o : Obj} (ho : s.heap.get? m = some o) (hc : o.cls = .type "method") (hd : o.data = .fields (.ref f :: x :: r).toArray)
    (h : codeAny (model prog w) A (.call (.ref f) ⟨x :: xs, []⟩) R s) : codeAny (model prog w) A (.call (.ref m) ⟨xs, []⟩) R s := by
  refine codeAny_of_tree ?_
  show wpAny _ _ (callAny (.ref m) _) _ _ s
  unfold callAny
  refine wpAny_bind (wpAny_load ho ?_)
  rw [hd]
  simp only [hc]
  exact wpAny_pure ⟨rfl, h⟩
theorem callBorrowed_ok {M : Model} {A : Around} {f : Value} {xs : List Value} {Q : Value → Shared → Prop} {E : Value → Shared → Prop} (hc : codeAny M A (.call f ⟨xs, []⟩) (fun r s' => match r with | .ok (.ret v) => Q v s' | .ok _ => False | .error e => E e s') s) :
    wpAny M A (callBorrowed f xs) Q E s := fun Γ p hΓ => by
  have h1 : Sem.wp M Γ (call f xs) (fun a _ s' => Q a s') (fun e _ s' => E e s') p s := wpAny_call hc Γ p hΓ
  unfold callBorrowed
  unfold call at h1
  rw [Sem.wp_runValue] at h1
  rw [Sem.wp]
  refine wpCode_mono (fun r s' z => ?_) h1
  rcases r with e | (v | _ | _ | _) <;> simp only [Sem.wp] <;> exact z
/-- iter(method, '') -/
theorem ca_iter {i f : Nat} : CaJ B n ce (.builtin "iter") [.meth i f, .str (Str.ofString "")] st (.ref st.store.length) ⟨st.vars, st.store ++ [.citer i f false]⟩ := fun A env P K g X s xs Q E hA R hx hQ => by
  obtain ⟨x, y, rfl, hx1, hx2⟩ := hx.two
  obtain ⟨t, rfl⟩ := hx2.inv
  have hx1' := hx1
  cases hx1 with | meth hm hc hd hi =>
  rename_i m a xs o r
  have em := R.inv.perm _ _ hm
  refine Calls.call_function_entry CI.kind_iter CI.plain_iter CI.entry_iterB (CI.args_iter_2 _ _) ?_
  unfold Builtin.«iter»
  refine wpAny_bind (wpAny_of_eq (a := [.ref m, .str (Str.ofString "") t]) (by first | rfl | kernel_rfl) ?_)
  dsimp only
  refine wpAny_bind (wpAny_specialOf (T := "method") ⟨_, em, hc⟩ CI.lookup_mcall ?_)
  simp only [Option.isNone_some, Bool.false_eq_true, if_false]
  refine wpAny_bind (wpAny_rule ?_)
  simp only [newFields]
  refine wpAny_bind (wpAny_newObj_type (wpAny_pure ⟨_, rfl, ?_⟩) (by size_fits))
  obtain ⟨q1, q2⟩ := R.newS (s' := { s with heap := s.heap.push { cls := .type "callable_iterator", data := .fields #[.ref m, .str (Str.ofString "") t, .bool false] } }) (a := s.heap.objs.size) (xs := []) (co := .citer i f false) (fun b o e => Heap.get?_push_of_some _ e) rfl rfl (fun b hb => by simp at hb; subst hb; exact Nat.le_refl _) (by simp)
    ⟨rfl, .ref m, t, Heap.get?_push_size _ rfl, fun _ => hx1'.mono (.refl _) ⟨_, rfl⟩⟩ rfl
  refine hQ P _ _ _ (.refl _) q1 q2 (.ref (xs := []) ?_)
  rw [← R.sto.length]
  simp
end
end Mine

namespace Mine
section
variable {B : Base} {n : Nat} {ce ce' : CEnv} {st st1 st2 st3 st4 : LSt} {v v1 v2 r : CV} {vs : List CV} {P P' K : Gh} {g g' : GG} {X X' : Book} {env env' : Env} {s s' : Shared} {ι : Sto} {S : List CO}

theorem room_in {A : Around} (h : Room A (n + 1)) : Room A.in1 n := ⟨h.handled, by have := h.depth; show A.depth + n < _; walk_at "o", by have := h.units; show A.units + 1 + 8 * n + 80 < _; walk_at "o"⟩
theorem Rel.citer (R : Rel B P K g X ce env st s) {i j f : Nat} {b : Bool} {a : Value} (e : st.store[i]? = some (.citer j f b)) (ha : VR P X.ι (.ref i) a) :
    ∃ l mv t, a = .ref l ∧ X.ι[i]? = some (l, []) ∧ s.heap.get? l = some ⟨.type "callable_iterator", none, .fields (if b then #[.none, .none, .bool true] else #[mv, .str (Str.ofString "") t, .bool false]), #[]⟩ ∧ (b = false → VR P X.ι (.meth j f) mv) := by
  obtain ⟨l, xs, rfl, hi⟩ := ha.inv
  obtain ⟨p, e1, hxs, mv, t, e2, r⟩ := R.sto.get e
  rw [hi] at e1; (first|subst e1|obtain rfl:=sj e1|exact n1 e1|exact n2 e1|exact b1 e1|exact b2 e1|cases e1)
  simp only at hxs; subst hxs
  exact ⟨l, mv, t, rfl, hi, e2, r⟩
theorem borrows_meth {M : Model} {A : Around} {m f : Addr} {x : Value} {r : List Value} {o of : Obj} {fd : FuncData} {Q : Bool → Shared → Prop} {E : Value → Shared → Prop} (ho : s.heap.get? m = some o) (hc : o.cls = .type "method") (hd : o.data = .fields (.ref f :: x :: r).toArray) (hf : s.heap.get? f = some of) (hfd : of.data = .func fd)
    (h : Q true s) : wpAny M A (borrowsExactly (.ref m)) Q E s := by
  unfold borrowsExactly
  refine wpAny_bind (wpAny_load ho ?_)
  rw [hd]
  simp only [hc, beq_self_eq_true, if_true]
  refine wpAny_bind (wpAny_load hf ?_)
  rw [hfd]
  exact wpAny_pure h

/-- what the next of a callable_iterator of the store is -/
noncomputable def DrawJ (B : Base) (n : Nat) (ce : CEnv) (i : Nat) (st : LSt) (r : Option CV) (st' : LSt) : Prop :=
  ∀ (A : Around) (env : Env) (P K : Gh) (g : GG) (X : Book) (s : Shared) (a : Value) (Q : Option Value → Shared → Prop) (E : Value → Shared → Prop), Room A n → Rel B P K g X ce env st s → VR P X.ι (.ref i) a →
    (∀ P' X' s' u, Le P P' → X.Le X' → Rel B P' K g X' ce env st' s' → (match r, u with | none, none => True | some v, some x => VR P' X'.ι v x | _, _ => False) → Q u s') → wpAny (model B.prog B.w) A (pyNext a) Q E s
theorem draw_ended {i j f : Nat} (e : st.store[i]? = some (.citer j f true)) : DrawJ B n ce i st none st := fun A env P K g X s a Q E hA R ha hQ => by
  obtain ⟨l, mv, t, rfl, hi, e1, _⟩ := R.citer e ha
  simp only [if_true] at e1
  have hT : s.TypeIs (.ref l) "callable_iterator" := ⟨_, e1, rfl⟩
  unfold pyNext
  refine wpAny_bind (wpAny_attempt (wpAny_callSpecial?_slot (name := Str.ofString "__next__") hT CI.slot_next (wpAny_call_entry CI.slot_next hT CI.entry_next ?_ (CI.args_next _))))
  unfold Builtin.«callable_iterator.__next__»
  refine wpAny_bind (wpAny_of_eq (a := (Value.ref l, [])) rfl ?_)
  dsimp only
  refine wpAny_bind (wpAny_field e1 rfl (x := .bool true) rfl ?_)
  rw [if_pos (by simp)]
  refine wpAny_bind (wpAny_rule ?_)
  show wpAny _ _ ((newExc (.type "StopIteration") [] >>= raiseNew) >>= _) _ _ _
  refine wpAny_bind (wpAny_bind ?_)
  simp only [newExc, newTuple]
  refine wpAny_bind (wpAny_newObj_type ?_ (by size_fits))
  refine wpAny_bind (m := firstArgMember _ _) (wpAny_of_eq (a := Value.none) (by first | rfl | (simp only [firstArgMember]; rfl)) ?_)
  refine wpAny_newObj_type ?_ (by size_fits)
  simp only [raiseNew]
  refine wpAny_bind (wpAny_handled ?_)
  first | rw [show A.in1.handled = none from hA.handled] | rw [hA.handled]
  refine wpAny_bind (wpAny_pure (wpAny_throw ?_))
  refine wpAny_bind (wpAny_isInstance (T := "StopIteration") (b := true) ⟨_, Heap.get?_push_size _ rfl, rfl⟩ isSubtype_stop ?_)
  exact wpAny_pure (hQ P X _ none (.refl _) (.refl _) (R.grow fun b o hb => Heap.get?_push_of_some _ (Heap.get?_push_of_some _ hb)) trivial)
/-- the method is asked -/
theorem draw_ask (F : NetF B) {i j : Nat} {ch : Str} {S' : List CO} {l' : List (Str × CV)} (e : st.store[i]? = some (.citer j 98 false)) (hb : XsJ B n ⟨mScope 1, []⟩ (mBody 1) ⟨[(Str.ofString "self", .ref j)], st.store⟩ (.ret (.str ch)) ⟨l', S'⟩) (e' : S'[i]? = some (.citer j 98 false)) :
    DrawJ B (n + 2) ce i st (if ch = Str.ofString "" then none else some (.str ch)) ⟨st.vars, if ch = Str.ofString "" then S'.set i (.citer j 98 true) else S'⟩ := fun A env P K g X s a Q E hA R ha hQ => by
  obtain ⟨l, mv, t, rfl, hi, e1, hm⟩ := R.citer e ha
  simp only [Bool.false_eq_true, if_false] at e1
  obtain ⟨o, fd, d1, d2, d3⟩ := F.rc.ok
  have hT : s.TypeIs (.ref l) "callable_iterator" := ⟨_, e1, rfl⟩
  have hmv := hm rfl
  obtain ⟨m, x, xs, om, rr, rfl, m1, m2, m3, m4⟩ : ∃ m x xs om rr, mv = .ref m ∧ P m = some om ∧ om.cls = .type "method" ∧ om.data = .fields (.ref 98 :: .ref x :: rr).toArray ∧ X.ι[j]? = some (x, xs) := by
    exact hmv.inv
  unfold pyNext
  refine wpAny_bind (wpAny_attempt (wpAny_callSpecial?_slot (name := Str.ofString "__next__") hT CI.slot_next (wpAny_call_entry CI.slot_next hT CI.entry_next ?_ (CI.args_next _))))
  unfold Builtin.«callable_iterator.__next__»
  refine wpAny_bind (wpAny_of_eq (a := (Value.ref l, [])) rfl ?_)
  dsimp only
  refine wpAny_bind (wpAny_field e1 rfl (x := .bool false) rfl ?_)
  rw [if_neg (by simp)]
  refine wpAny_bind (wpAny_field e1 rfl (x := .ref m) rfl ?_)
  refine wpAny_bind (wpAny_attempt ?_)
  unfold callOutOfASlot
  refine wpAny_bind (borrows_meth (R.inv.perm _ _ m1) m2 m3 (R.inv.h0 _ _ d1) d2 ?_)
  simp only [if_true]
  refine callBorrowed_ok (code_meth (M := model B.prog B.w) (R.inv.perm _ _ m1) m2 m3 ?_)
  refine code_ok R.stO (n := n) (room_in hA) (R.inv.h0 _ _ d1) d2 (d3.mono R.inv.base) (by rfl) (.mk' (by decide +kernel)) .nil (vs := [.ref j]) (.cons (.ref m4) .nil) rfl fun A' env' X' s' E' hA' hι _ R' => ?_
  refine hb A' env' P _ g X' s' _ E' hA' R' fun P2 X2 s2 fl lP lX R2 rf => ?_
  obtain ⟨_, rfl, rv⟩ := rf.ret_inv
  obtain ⟨tc, rfl⟩ := rv.inv
  obtain ⟨hX, R3⟩ := R.leaveG lP R2 (hι ▸ lX.ι) fun _ _ e => e
  obtain ⟨l2, mv2, t2, el, hi2, e3, hm2⟩ := R3.citer (st := ⟨st.vars, S'⟩) e' (ha.mono lP hX.ι)
  (first|subst el|obtain rfl:=sj el|exact n1 el|exact n2 el|exact b1 el|exact b2 el|cases el)
  simp only [Bool.false_eq_true, if_false] at e3
  dsimp only
  refine wpAny_bind (wpAny_field e3 rfl (x := .bool false) rfl ?_)
  rw [if_neg (by simp)]
  refine wpAny_bind (wpAny_field e3 rfl (x := .str (Str.ofString "") t2) rfl ?_)
  refine wpAny_bind (wpAny_holding (wpAny_eqBool_str ?_))
  by_cases hc : ch = Str.ofString ""
  · subst hc
    simp only [decide_true, Bool.not_true, Bool.false_eq_true, if_false]
    refine wpAny_bind (wpAny_rule ?_)
    have hmv2 := hm2 rfl
    obtain ⟨m', x', xs', om', rr', rfl, n1, n2, n3, n4⟩ : ∃ m x xs om rr, mv2 = .ref m ∧ P2 m = some om ∧ om.cls = .type "method" ∧ om.data = .fields (.ref 98 :: .ref x :: rr).toArray ∧ X2.ι[j]? = some (x, xs) := by
      exact hmv2.inv
    show wpAny _ _ ((field (.ref l) 0 >>= fun v => slotLetsGo "callable_iterator.__next__" v _ >>= fun _ => setField (.ref l) 0 .none >>= fun _ => setField (.ref l) 1 .none >>= fun _ => setField (.ref l) 2 (.bool true)) >>= _) _ _ s2
    refine wpAny_bind (wpAny_bind (wpAny_field e3 rfl (x := .ref m') rfl ?_))
    refine wpAny_bind (m := slotLetsGo _ _ _) ?_
    unfold slotLetsGo
    dsimp only
    refine wpAny_bind (borrows_meth (R3.inv.perm _ _ n1) n2 n3 (R3.inv.h0 _ _ d1) d2 ?_)
    simp only [if_true]
    refine wpAny_pure ?_
    refine wpAny_bind (wpAny_setField_rec e3 (by simp) fun h5 g5 k5 => ?_)
    refine wpAny_bind (wpAny_setField_rec (s := { s2 with heap := h5 }) g5 (by simp) fun h6 g6 k6 => ?_)
    refine wpAny_setField_rec (s := { s2 with heap := h6 }) g6 (by simp) fun h7 g7 k7 => ?_
    replace k5 : Heap.SameBut l s2.heap h5 := k5
    replace k6 : Heap.SameBut l h5 h6 := k6
    replace k7 : Heap.SameBut l h6 h7 := k7
    have R4 : Rel B P2 K g { X with ι := X2.ι } ce env ⟨st.vars, S'.set i (.citer j 98 true)⟩ { s2 with heap := h7 } :=
      R3.modS (st := ⟨st.vars, S'⟩) (s' := { s2 with heap := h7 }) (co' := .citer j 98 true) e' hi2 rfl rfl (fun b o hb eo => by
        have hb' : b ≠ l := fun q => hb (by simp [q])
        exact (k7.2 b hb').trans ((k6.2 b hb').trans ((k5.2 b hb').trans eo))) rfl rfl ⟨rfl, .none, t2, g7, fun h => nomatch h⟩
    show wpAny _ _ ((newExc (.type "StopIteration") [] >>= raiseNew)) _ _ _
    refine wpAny_bind ?_
    simp only [newExc, newTuple]
    refine wpAny_bind (wpAny_newObj_type ?_ (by size_fits))
    refine wpAny_bind (m := firstArgMember _ _) (wpAny_of_eq (a := Value.none) (by first | rfl | (simp only [firstArgMember]; rfl)) ?_)
    refine wpAny_newObj_type ?_ (by size_fits)
    simp only [raiseNew]
    refine wpAny_bind (wpAny_handled ?_)
    first | rw [show A.in1.handled = none from hA.handled] | rw [hA.handled]
    refine wpAny_bind (wpAny_pure (wpAny_throw ?_))
    refine wpAny_bind (wpAny_isInstance (T := "StopIteration") (b := true) ⟨_, Heap.get?_push_size _ rfl, rfl⟩ isSubtype_stop ?_)
    refine wpAny_pure (hQ P2 _ _ none lP hX ?_ trivial)
    rw [if_pos rfl]
    exact R4.grow fun b o hb => Heap.get?_push_of_some _ (Heap.get?_push_of_some _ hb)
  · have hne : decide (Str.ofString "" = ch) = false := decide_eq_false fun q => hc q.symm
    rw [hne]
    simp only [Bool.not_false, if_true]
    refine wpAny_pure ⟨_, rfl, wpAny_pure ?_⟩
    refine hQ P2 _ s2 (some (.str ch tc)) lP hX ?_ ?_
    · rw [if_neg hc]; exact R3
    · rw [if_neg hc]; exact .str _ _
end
end Mine

namespace Mine
section
variable {B : Base} {n : Nat} {ce ce' : CEnv} {st st1 st2 st3 st4 : LSt} {v v1 v2 r : CV} {vs : List CV} {P P' K : Gh} {g g' : GG} {X X' : Book} {env env' : Env} {s s' : Shared} {ι : Sto} {S : List CO}

/-- a loop over a callable_iterator of the store -/
inductive ForC (B : Base) (n : Nat) (ce : CEnv) (i : Nat) (t : Expr) (body : List Stmt) : LSt → CFl → LSt → Prop
  | stop {st st1 : LSt} : DrawJ B n ce i st none st1 → ForC B n ce i t body st .nxt st1
  | turn {st st1 st2 st3 st4 : LSt} {v : CV} {f fl : CFl} {j b : Nat} {q : Bool} : DrawJ B n ce i st (some v) st1 → st1.store[i]? = some (.citer j b q) → AsJ B n ce t st1 v st2 → XsJ B n ce body st2 f st3 → (f = .nxt ∨ f = .cnt) → ForC B n ce i t body st3 fl st4 → ForC B n ce i t body st fl st4
  | ret {st st1 st2 st3 : LSt} {v r : CV} {j b : Nat} {q : Bool} : DrawJ B n ce i st (some v) st1 → st1.store[i]? = some (.citer j b q) → AsJ B n ce t st1 v st2 → XsJ B n ce body st2 (.ret r) st3 → ForC B n ce i t body st (.ret r) st3
theorem forC_ok {i : Nat} {t : Expr} {body : List Stmt} {fl : CFl} {st st' : LSt} (F : ForC B n ce i t body st fl st') : ∀ {A : Around} {env : Env} {P K : Gh} {g : GG} {X : Book} {s : Shared} {R : Result → Shared → Prop} {it : Addr}, Room A n → Rel B P K g X ce env st s → VR P X.ι (.ref i) (.ref it) →
    (∀ P' X' s' f, Le P P' → X.Le X' → Rel B P' K g X' ce env st' s' → FlR P' X'.ι fl f → R (.ok f) s') → codeAny (model B.prog B.w) A (.forLoop t (.ref it) body [] env) R s := by
  induction F with
  | stop h =>
    intro A env P K g X s R it hA Rl hi hQ
    refine for_step fun E => h A env P K g X s _ _ E hA Rl hi fun P1 X1 s1 u lP lX R1 hu => ?_
    cases u with
    | none => exact hQ P1 X1 s1 _ lP lX R1 .nxt
    | some x => exact hu.elim
  | turn h he h1 h2 hf _ ih =>
    intro A env P K g X s R it hA Rl hi hQ
    refine for_step fun E => h A env P K g X s _ _ E hA Rl hi fun P1 X1 s1 u lP lX R1 hu => ?_
    cases u with
    | none => exact hu.elim
    | some x =>
      obtain ⟨l, mv, tk, el, hi1, e1, _⟩ := R1.citer he (hi.mono lP lX.ι)
      (first|subst el|obtain rfl:=sj el|exact n1 el|exact n2 el|exact b1 el|exact b2 el|cases el)
      refine ⟨⟨_, _, e1, rfl, by decide⟩, fun E => ?_⟩
      refine h1 A env P1 K g X1 s1 x _ E hA R1 hu fun P2 X2 s2 lP2 lX2 R2 E => ?_
      refine h2 A env P2 K g X2 s2 _ E hA R2 fun P3 X3 s3 f lP3 lX3 R3 rf => ?_
      have z := ih (R := R) hA R3 (((hi.mono lP lX.ι).mono lP2 lX2.ι).mono lP3 lX3.ι) fun P5 X5 s5 f lP5 lX5 R5 rf => hQ P5 X5 s5 f (lP.trans (lP2.trans (lP3.trans lP5))) (lX.trans (lX2.trans (lX3.trans lX5))) R5 rf
      rcases hf with rfl | rfl <;> cases rf <;> exact z
  | ret h he h1 h2 =>
    intro A env P K g X s R it hA Rl hi hQ
    refine for_step fun E => h A env P K g X s _ _ E hA Rl hi fun P1 X1 s1 u lP lX R1 hu => ?_
    cases u with
    | none => exact hu.elim
    | some x =>
      obtain ⟨l, mv, tk, el, hi1, e1, _⟩ := R1.citer he (hi.mono lP lX.ι)
      (first|subst el|obtain rfl:=sj el|exact n1 el|exact n2 el|exact b1 el|exact b2 el|cases el)
      refine ⟨⟨_, _, e1, rfl, by decide⟩, fun E => ?_⟩
      refine h1 A env P1 K g X1 s1 x _ E hA R1 hu fun P2 X2 s2 lP2 lX2 R2 E => ?_
      refine h2 A env P2 K g X2 s2 _ E hA R2 fun P3 X3 s3 f lP3 lX3 R3 rf => ?_
      cases rf with | ret rf =>
      exact hQ P3 X3 s3 _ (lP.trans (lP2.trans lP3)) (lX.trans (lX2.trans lX3)) R3 (.ret rf)
theorem Ex_forC {t e : Expr} {body : List Stmt} {pos : Pos} {i j b : Nat} {q : Bool} {fl : CFl} {st' : LSt} (h : EvJ B n ce e st (.ref i) st1) (e1 : st1.store[i]? = some (.citer j b q)) (F : ForC B n ce i t body st1 fl st') (hs : autoParam (∀ env x, foldedSetIterable e env x = pure x) tRfl2) : ExJ B n ce (.For t e body [] pos) st fl st' := fun A env P K g X s Q E hA R hQ => by
  refine wpAny_For (h A env P K g X s _ E hA R fun P1 X1 s1 a lP lX R1 r1 => ?_) (hs env)
  obtain ⟨l, mv, tk, rfl, hi1, e2, _⟩ := R1.citer e1 r1
  have hT : s1.TypeIs (.ref l) "callable_iterator" := ⟨_, e2, rfl⟩
  refine wpAny_pyIter_slot hT CI.slot_iter (wpAny_call_entry CI.slot_iter hT CI.entry_iter ?_ (CI.args_iter _))
  show wpAny _ _ (ret (.ref l)) _ _ s1
  refine wpAny_pure ⟨_, rfl, "callable_iterator", _, hT, CI.slot_next.lookup, ?_⟩
  exact forC_ok F hA R1 r1 fun P2 X2 s2 f lP2 lX2 R2 rf => hQ P2 X2 s2 f (lP.trans lP2) (lX.trans lX2) R2 rf
end
end Mine

namespace Mine
noncomputable def eraseP (l : Addr) (P : Gh) : Gh := fun b => if b = l then none else P b
theorem eraseP_ne {l b : Addr} {P : Gh} (h : b ≠ l) : eraseP l P b = P b := by simp [eraseP, h]
theorem eraseP_some {l b : Addr} {P : Gh} {o : Obj} (h : eraseP l P b = some o) : b ≠ l ∧ P b = some o := by
  unfold eraseP at h
  split at h
  · (first|subst h|obtain rfl:=sj h|exact n1 h|exact n2 h|exact b1 h|exact b2 h|cases h)
  · exact ⟨‹_›, h⟩
section
variable {B : Base} {n : Nat} {ce ce' : CEnv} {st st1 st2 st3 st4 : LSt} {v v1 v2 r : CV} {vs : List CV} {P P' P4 K : Gh} {g g' : GG} {X X' : Book} {env env' : Env} {s s' : Shared} {ι : Sto} {S : List CO}

theorem Rel.restore {l : Addr} {ys : List Value} {ep : Nat} {S4 : List CO} (R : Rel B P K g X ce env st s) (R4 : Rel B P4 K g X ce env ⟨st.vars, S4⟩ s') (lP : Le P P4) (hl : P4 l = some (listObj ys ep)) (h0 : P l = none) (hs : s.heap.get? l = some (listObj ys ep))
    (hF : ∀ a ∈ X.fown, ∀ o, s.heap.get? a = some o → s'.heap.get? a = some o) (ho : ∀ a ∈ stoOwn X.ι st.store, a = l) : Le P (eraseP l P4) ∧ Rel B (eraseP l P4) K g X ce env st s' := by
  have le : Le P (eraseP l P4) := fun a o e => by
    have : a ≠ l := fun q => by rw [q, h0] at e; (first|subst e|obtain rfl:=sj e|exact n1 e|exact n2 e|exact b1 e|exact b2 e|cases e)
    rw [eraseP_ne this]; exact lP a o e
  refine ⟨le, ⟨⟨fun a o e => R4.inv.perm a o (eraseP_some e).2, R4.inv.keep, fun a o e => ?_, R.inv.base.trans le, R4.inv.os, R4.inv.bare, R4.inv.gk, fun t ht => ?_⟩, R.env.mono le (.refl X), ?_, ?_, ?_, R.own, fun a ha => ?_⟩⟩
  · have := R4.inv.apart a o e
    unfold eraseP; split
    · rfl
    · exact this
  · obtain ⟨a, b, ps, e, q⟩ := R4.inv.tabs t ht
    refine ⟨?_, b, ps, e, q.imp id ?_⟩
    · unfold eraseP; split
      · rfl
      · exact a
    · rintro ⟨c', oc, xs, tk, a1, a2, a3⟩
      have : c' ≠ l := fun q => by rw [q, hl] at a2; cases a2; simp at a3
      exact ⟨c', oc, xs, tk, a1, by rw [eraseP_ne this]; exact a2, a3⟩
  · obtain ⟨m, ⟨o, es, ep, e, r⟩, h⟩ := R.loc
    exact ⟨m, ⟨o, es, ep, hF _ (by simp) _ e, r⟩, fun x cv a b => let ⟨v, c, d⟩ := h x cv a b; ⟨v, c, d.mono le (.refl _)⟩⟩
  · intro x c hx
    obtain ⟨v, ⟨o, e, r⟩, h⟩ := R.cel x c hx
    exact ⟨v, ⟨o, hF c (List.mem_cons_of_mem _ (List.mem_map.mpr ⟨_, hx, rfl⟩)) o e, r⟩, fun cv hc => let ⟨u, a, b⟩ := h cv hc; ⟨u, a, b.mono le (.refl _)⟩⟩
  · refine R.sto.mono le (.refl _) fun b hb o e => ?_
    rw [ho b hb] at e ⊢
    rw [hs] at e; (first|subst e|obtain rfl:=sj e|exact n1 e|exact n2 e|exact b1 e|exact b2 e|cases e)
    exact R4.inv.perm _ _ hl
  · obtain ⟨x, y, z⟩ := R.off a ha
    refine ⟨?_, y, z⟩
    rcases List.mem_append.mp ha with h | h
    · have := (R4.off a (List.mem_append_left _ h)).1
      unfold eraseP; split
      · rfl
      · exact this
    · rw [ho a h]; simp [eraseP]
theorem stoOwn_only : ∀ {ι : Sto} {S : List CO} {i : Nat} {p : Addr × List Addr}, ι[i]? = some p → p.2 = [] → (∀ j co, j ≠ i → S[j]? = some co → co.has = false) → ∀ a ∈ stoOwn ι S, a = p.1
  | [], S, i, p, e, _, _, a, ha => by simp at e
  | q :: ι, [], i, p, e, _, _, a, ha => by (first|obtain ⟨_, rfl⟩:=ha.inv|subst ha|obtain rfl:=sj ha|exact n1 ha|exact n2 ha|cases ha)
  | q :: ι, co :: S, 0, p, e, hp, h, a, ha => by
    simp at e; subst e
    unfold stoOwn at ha
    rcases List.mem_append.mp ha with ha | ha
    · have : a ∈ q.1 :: q.2 := by cases co <;> first | exact ha | (first|obtain ⟨_, rfl⟩:=ha.inv|subst ha|obtain rfl:=sj ha|exact n1 ha|exact n2 ha|cases ha)
      rw [hp] at this
      simpa using this
    · have : ∀ (ι : Sto) (S : List CO), (∀ co ∈ S, co.has = false) → stoOwn ι S = [] := by
        intro ι
        induction ι with
        | nil => intro S _; rfl
        | cons q ι ih =>
          intro S hS
          cases S with
          | nil => rfl
          | cons co S => unfold stoOwn; rw [CO.own_not (hS co (.head _)), ih S fun c hc => hS c (.tail _ hc)]; rfl
      rw [this ι S fun co hco => by
        obtain ⟨j, hj, e⟩ := List.mem_iff_getElem.mp hco
        exact h (j + 1) co (by walk_at "o") (by simp [hj, e])] at ha
      (first|obtain ⟨_, rfl⟩:=ha.inv|subst ha|obtain rfl:=sj ha|exact n1 ha|exact n2 ha|cases ha)
  | q :: ι, co :: S, i + 1, p, e, hp, h, a, ha => by
    unfold stoOwn at ha
    rw [CO.own_not (h 0 co (by walk_at "o") (by simp))] at ha
    exact stoOwn_only (by simpa using e) hp (fun j co hj e => h (j + 1) co (by walk_at "o") (by simpa using e)) a (by simpa using ha)

/-- a comprehension over a list of the store that is only looked at -/
theorem Ev_compB {elt t : Expr} {x : Str} {px pos : Pos} {ifs : List Expr} {gs : List Comprehension} {scope : Scope} {i : Nat} {out : List CV} {l' : List (Str × CV)} (h1 : EvJ B n ce (.Name x px) st (.ref i) st) (e : st.store[i]? = some (.lst vs)) (hp : pures vs = true) (hoth : ∀ j co, j ≠ i → st.store[j]? = some co → co.has = false)
    (hc : CompOk ce ⟨st.vars, st.store.set i .dead⟩ scope) (hg : GensOk (⟨t, .Name x px, ifs, 0⟩ :: gs)) (L : LpJ B n (compCE ce ⟨st.vars, st.store.set i .dead⟩ scope) elt (⟨t, .Name x px, ifs, 0⟩ :: gs) vs ⟨[], st.store.set i .dead⟩ out ⟨l', st.store.set i .dead⟩) (hout : ∀ v ∈ out, scalC v = true) (hsz : out.length ≤ 16777216) :
    EvJ B n ce (.ListComp elt (⟨t, .Name x px, ifs, 0⟩ :: gs) scope pos) st (.list out) st := fun A env P K g X s Q E hA R hQ => by
  show wpAny _ _ (comprehension _ _ env _ (newList []) false (eval (.Name x px) env)) _ _ _
  obtain ⟨p0, hp0, _⟩ := R.sto.get e
  obtain ⟨P0, _, Rf0, _⟩ := R.freeze e (.ref (a := p0.1) (xs := p0.2) hp0)
  refine wpAny_comprehension_free (use := none) rfl (fun x => (hg.ok _ (.head _)).2 env x) (hc.clos Rf0) hc.kind hc.names (h1 A env P K g X s _ E hA R fun P1 X1 s1 a lP1 lX1 R1 r1 => ?_)
  obtain ⟨l, ys, ep, rfl, hi, e2, r2⟩ := R1.lst e r1
  obtain ⟨Pf, lPf, Rf, rf⟩ := R1.freeze e r1
  have hPl : P1 l = none := (R1.off l (List.mem_append_right _ (stoOwn_get e hi rfl l (.head _)))).1
  have hfl : Pf l = some (listObj ys ep) := by
    cases rf with | list q1 q2 q3 =>
    rename_i xs o
    have := Rf.inv.perm _ _ q1
    rw [e2] at this; (first|subst this|obtain rfl:=sj this|exact n1 this|exact n2 this|exact b1 this|exact b2 this|cases this)
    exact q1
  refine (IterOk.list (B := B) (n := n) hp) hA Rf.inv rf fun o s2 g1 g2 g3 hfo I => ?_
  have grow : ∀ b ob, s1.heap.get? b = some ob → s2.heap.get? b = some ob := fun b ob e => by rw [g1]; exact Heap.get?_push_of_some _ e
  have R2 := Rf.grow grow g2 g3
  refine comp_core (RR := fun acc C => compPost (model B.prog B.w) A E none Q acc C) (led := one s1.heap.objs.size o) (gl := noG) hA R2 (I Pf (.refl _)) (fun a ob e => ?_) (fun a ob e => ?_) (fun a ha => ?_) (fun i x e => by (first|subst e|obtain rfl:=sj e|exact n1 e|exact n2 e|exact b1 e|exact b2 e|cases e)) hp hc hg L rfl hsz fun P2 s3 D C m oC acc ep2 lP2 R3 D3 C3 hns hDC r hF => ⟨m, hns, fun h' hs' => ?_⟩
  · obtain ⟨rfl, rfl⟩ := one_some e; rw [g1]; exact Heap.get?_push_size _ hfo
  · obtain ⟨rfl, rfl⟩ := one_some e; exact ⟨Rf.inv.freshP, Rf.inv.freshK, Rf.inv.freshT⟩
  · unfold one
    by_cases q : a = s1.heap.objs.size
    · subst q; exact absurd ha Rf.fresh
    · simp [q]
  have R4 := R3.poke (tk := s3.toks) C3 hs'
  have D4 : DOk B D (listObj acc ep2) P2 K (X1.own (st.store.set i .dead)) { s3 with heap := h', toks := s3.toks } := ⟨(hs'.2 D hDC).trans D3.here, D3.P, D3.K, D3.T, D3.own⟩
  obtain ⟨lP3, R5⟩ := R4.putD D4
  have hDl : D ≠ l := fun q => by have := lP2 l _ hfl; rw [← q, D3.P] at this; (first|subst this|obtain rfl:=sj this|exact n1 this|exact n2 this|exact b1 this|exact b2 this|cases this)
  obtain ⟨le, R6⟩ := R1.restore (S4 := st.store.set i .dead) R5 (lPf.trans (lP2.trans lP3)) (lP3 _ _ (lP2 _ _ hfl)) hPl e2 (fun a ha ob eo => by
    have hne : a ≠ C := fun q => C3.own (q ▸ List.mem_append_left _ ha)
    exact (hs'.2 a hne).trans (hF a ha ob (grow a ob eo))) (stoOwn_only hi rfl hoth)
  refine hQ _ X1 _ _ (lP1.trans le) lX1 R6 (.list (by rw [eraseP_ne hDl]; exact Gh.put_self) ⟨rfl, _, rfl⟩ (r.scal hout))
end
end Mine

namespace Mine
noncomputable def okC (m : Nat) (cv : CV) : Bool := cv.pure || (match cv with | .ref i => decide (i < m) | _ => false)
noncomputable def okCO : CO → Bool
  | .lst vs => pures vs
  | .dead => true
  | _ => false
theorem stoOwn_app2 : ∀ {a b : Sto} {S T : List CO}, a.length = S.length → stoOwn (a ++ b) (S ++ T) = stoOwn a S ++ stoOwn b T
  | [], b, [], T, _ => rfl
  | p :: a, b, co :: S, T, h => by
    simp only [List.cons_append, stoOwn]
    rw [stoOwn_app2 (by simpa using h), List.append_assoc]
  | [], b, _ :: _, T, h => by simp at h
  | _ :: _, b, [], T, h => by simp at h
theorem VR.okC {P : Gh} {ι δ : Sto} {cv : CV} {v : Value} (h : VR P (ι ++ δ) cv v) (hc : Mine.okC ι.length cv = true) : VR P ι cv v := by
  unfold Mine.okC at hc
  by_cases hp : cv.pure = true
  · exact h.pure' hp
  · have hp' : cv.pure = false := by simpa using hp
    rw [hp', Bool.false_or] at hc
    cases h with
    | ref hi =>
      rename_i i a xs
      have : i < ι.length := by simpa using hc
      exact .ref (by rwa [List.getElem?_append_left this] at hi)
    | _ => simp at hc
theorem StoR.cut {P : Gh} {h : Heap} {δ : Sto} {ι : Sto} {T : List CO} {δ1 : Sto} : ∀ {ι1 : Sto} {S1 : List CO}, StoR P (ι ++ δ) h (ι1 ++ δ1) (S1 ++ T) → ι1.length = S1.length → S1.all okCO = true → StoR P ι h ι1 S1 := by
  intro ι1
  induction ι1 with
  | nil =>
    intro S1 _ hl _
    rw [List.length_eq_zero_iff.mp hl.symm]; exact .nil
  | cons p ι1 ih =>
    intro S1 hs hl hok
    cases S1 with
    | nil => cases hl
    | cons co S1 =>
      rw [List.all_cons, Bool.and_eq_true] at hok
      cases hs with
      | cons a r =>
        refine .cons ?_ (ih r (Nat.succ.inj hl) hok.2)
        cases co with
        | dead => trivial
        | lst vs => obtain ⟨e, ys, ep, x, y⟩ := a; exact ⟨e, ys, ep, x, y.pure' hok.1⟩
        | _ => exact b1 hok.1
section
variable {B : Base} {n : Nat} {ce ce' : CEnv} {st st1 st2 st3 st4 : LSt} {v v1 v2 r : CV} {vs : List CV} {P P' P4 K : Gh} {g g' : GG} {X X' : Book} {env env' : Env} {s s' : Shared} {ι : Sto} {S : List CO}
/-- what the store got behind its end is let go -/
theorem Xs_trunc {xs : List Stmt} {l0 l1 l2 : List (Str × CV)} {S0 S1 D : List CO} (h : XsJ B n ce xs ⟨l0, S0⟩ .nxt ⟨l1, S1 ++ D⟩) (hm : S1.length = S0.length) (hv : VSub l2 l1) (h2 : l2.all (fun p => okC S0.length p.2) = true) (hS : S1.all okCO = true) (hf : ce.free = []) : XsJ B n ce xs ⟨l0, S0⟩ .nxt ⟨l2, S1⟩ := fun A env P K g X s Q E hA R hQ => by
  refine h A env P K g X s Q E hA R fun P' X' s' a lP lX R' ra => ?_
  obtain ⟨δ, hδ⟩ := lX.ι
  have hl0 : X.ι.length = S0.length := R.sto.length
  have hl1 : X.ι.length = S1.length := by rw [hl0, hm]
  have hown : stoOwn X'.ι (S1 ++ D) = stoOwn X.ι S1 ++ stoOwn δ D := by rw [hδ, stoOwn_app2 hl1]
  have hsub : ∀ b, b ∈ Book.own { X' with ι := X.ι } S1 → b ∈ X'.own (S1 ++ D) := fun b hb => by
    rcases List.mem_append.mp hb with h | h
    · exact List.mem_append_left _ h
    · exact List.mem_append_right _ (by rw [hown]; exact List.mem_append_left _ h)
  have ok2 : ∀ {x : Str} {cv : CV}, l2.lookup x = some cv → okC X.ι.length cv = true := fun {x cv} e => by
    have := List.all_eq_true.mp h2 _ (mem_lookup e)
    rw [hl0]; exact this
  refine hQ P' { X' with ι := X.ι } s' a lP ⟨lX.L, lX.cells, .refl _⟩ ⟨R'.inv, ⟨R'.env.scope, R'.env.kind, R'.env.locals, R'.env.globals, R'.env.bui, R'.env.cell, R'.env.cellk, R'.env.celln, fun x cv e => (by rw [hf] at e; (first|subst e|obtain rfl:=sj e|exact n1 e|exact n2 e|exact b1 e|exact b2 e|cases e))⟩, ?_, ?_, ?_, ?_, fun b hb => R'.off b (hsub b hb)⟩ ?_
  · obtain ⟨m, hm, hh⟩ := R'.loc
    refine ⟨m, hm, fun x cv hx hc => ?_⟩
    obtain ⟨v, a1, a2⟩ := hh x cv hx (hv.ok hc)
    rw [hδ] at a2
    exact ⟨v, a1, a2.okC (ok2 hc)⟩
  · intro x c hx
    obtain ⟨v, a1, a2⟩ := R'.cel x c hx
    refine ⟨v, a1, fun cv hc => ?_⟩
    obtain ⟨u, b1, b2⟩ := a2 cv (hv.ok hc)
    rw [hδ] at b2
    exact ⟨u, b1, b2.okC (ok2 hc)⟩
  · have := R'.sto
    rw [hδ] at this
    exact this.cut hl1 hS
  · have hn := R'.own
    have e : X'.own (S1 ++ D) = X'.fown ++ (stoOwn X.ι S1 ++ stoOwn δ D) := by show X'.fown ++ stoOwn X'.ι (S1 ++ D) = _; rw [hown]
    rw [e] at hn
    obtain ⟨a1, a2, a3⟩ := List.nodup_append.mp hn
    exact List.nodup_append.mpr ⟨a1, (List.nodup_append.mp a2).1, fun x hx y hy => a3 x hx y (List.mem_append_left _ hy)⟩
  · (first|obtain ⟨_, rfl⟩:=ra.inv|subst ra|obtain rfl:=sj ra|exact n1 ra|exact n2 ra|cases ra); exact .nxt
end
end Mine

namespace Mine
section
variable {B : Base} {n : Nat} {ce : CEnv} {st st1 st2 st3 : LSt}
theorem Ev_and2 {x y : Expr} {pos : Pos} {b c : Bool} (h1 : EvJ B n ce x st (.bool b) st) (h2 : b = true → EvJ B n ce y st (.bool c) st) : EvJ B n ce (.BoolOp .And [x, y] pos) st (.bool (b && c)) st := by
  cases b with
  | false => exact Ev_and_false h1 (.bool false)
  | true => exact Ev_and_true h1 (.bool true) (Ev_one (h2 rfl))
theorem Ev_comp2N {elt iter t' iter' : Expr} {ifs' : List Expr} {scope : Scope} {pos p : Pos} {x : Str} {α β : Type} {val : α → CV} {val' : β → CV} {bs : α → List β} {out : α → β → Option CV} {as : List α} (hi : ItE B n ce iter st (as.map val) st1) (hp : pures (as.map val) = true) (hc : CompOk ce st1 scope)
    (hx : stores (compCE ce st1 scope) x = true)
    (hit : ∀ a ∈ as, ItE B n (compCE ce st1 scope) iter' ⟨[(x, val a)], st1.store⟩ ((bs a).map val') ⟨[(x, val a)], st1.store⟩) (hps : ∀ a ∈ as, pures ((bs a).map val') = true)
    (turn : ∀ a ∈ as, ∀ b ∈ bs a, TurnJ B n (compCE ce st1 scope) t' ifs' elt [(x, val a)] st1.store (val' b) (out a b))
    (hsz : (as.flatMap fun a => (bs a).filterMap (out a)).length ≤ 16777216) (hf : autoParam (∀ env x, foldedSetIterable iter env x = pure x) tRfl2) (hf' : autoParam (∀ env x, foldedSetIterable iter' env x = pure x) tRfl2) :
    EvJ B n ce (.ListComp elt [⟨.Name x p, iter, [], 0⟩, ⟨t', iter', ifs', 0⟩] scope pos) st (.list (as.flatMap fun a => (bs a).filterMap (out a))) st1 := by
  refine Ev_comp2 (val := val) (zs := fun a => (bs a).map val') (out := fun a => (bs a).filterMap (out a)) hi hp hc (fun a ha => ?_) hsz hf hf'
  obtain ⟨l', L, _⟩ := LpJ.all (iter := iter') val' (out a) (bs a) [(x, val a)] (turn a ha) (.cons (by simp) .nil)
  exact ⟨_, _, _, l', As_name hx, Ifs_nil, hit a ha, hps a ha, L⟩
end
end Mine

namespace Mine
section
variable {B : Base} {n : Nat} {ce ce' : CEnv} {st st1 st2 st3 : LSt} {v v1 v2 r : CV} {vs ws : List CV} {P P' K led : Gh} {g gl g' : GG} {X X' : Book} {env env' : Env} {s s' s'' : Shared} {ι : Sto} {S : List CO}
/-- an object in nobody's hands becomes one of the store -/
theorem Rel.addS (R : Rel B P K g X ce env st s) {D : Addr} {o : Obj} {co : CO} (d : DOk B D o P K (X.own st.store) s) (hc : COR P (X.ι ++ [(D, [])]) s.heap D [] co) (hd : co.has = true) :
    X.Le { X with ι := X.ι ++ [(D, [])] } ∧ Rel B P K g { X with ι := X.ι ++ [(D, [])] } ce env ⟨st.vars, st.store ++ [co]⟩ s := by
  have hX : X.Le { X with ι := X.ι ++ [(D, [])] } := ⟨rfl, rfl, ⟨_, rfl⟩⟩
  have hown : co.own (D, []) = [D] := CO.own_has hd
  have eown : Book.own { X with ι := X.ι ++ [(D, [])] } (st.store ++ [co]) = X.own st.store ++ [D] := by
    show X.fown ++ stoOwn (X.ι ++ [(D, [])]) (st.store ++ [co]) = _
    rw [stoOwn_app R.sto.length, hown]; simp
  refine ⟨hX, ⟨R.inv, R.env.mono (.refl _) hX, ?_, ?_, ?_, ?_, ?_⟩⟩
  · obtain ⟨m, hm, h⟩ := R.loc
    exact ⟨m, hm, fun x cv a b => let ⟨v, c, d⟩ := h x cv a b; ⟨v, c, d.mono (.refl _) hX.ι⟩⟩
  · intro x c hx
    obtain ⟨v, hv, h⟩ := R.cel x c hx
    exact ⟨v, hv, fun cv hc => let ⟨u, a, b⟩ := h cv hc; ⟨u, a, b.mono (.refl _) hX.ι⟩⟩
  · exact (R.sto.mono (.refl _) hX.ι fun b _ o e => e).app hc
  · show (Book.own { X with ι := X.ι ++ [(D, [])] } (st.store ++ [co])).Nodup
    rw [eown]
    exact List.nodup_append.mpr ⟨R.own, by simp, fun x hx y hy q => by
      rw [List.mem_singleton] at hy
      subst q hy
      exact d.own hx⟩
  · intro b hb
    have hb' : b ∈ X.own st.store ++ [D] := by rw [← eown]; exact hb
    rcases List.mem_append.mp hb' with h | h
    · exact R.off b h
    · rw [List.mem_singleton] at h; obtain rfl := h.symm
      exact ⟨d.P, d.K, d.T⟩
theorem refS (R : Rel B P K g X ce env st s) (D : Addr) : VR P (X.ι ++ [(D, [])]) (.ref st.store.length) (.ref D) := .ref (xs := []) (by rw [← R.sto.length]; simp)
/-- a list is made of a list, as an object of the store -/
theorem ca_listLM {u : CV} {vs : List CV} (h : asL st.store u = some vs) (hl : vs.length ≤ 16777216) : CaJ B n ce (.type "list") [u] st (.ref st.store.length) ⟨st.vars, st.store ++ [.lst vs]⟩ := fun A env P K g X s xs Q E hA R hx hQ => by
  obtain ⟨x, rfl, hx1⟩ := hx.one
  obtain ⟨l, ys, rfl, ⟨o, ho, hc, ep, hd⟩, r1⟩ := R.asL h hx1
  have := r1.length
  refine call_list_seq l (.inl rfl) ho hc hd (fun h' c' hk hn => ?_) (by rw [sizeLine_eq]; simp; walk_at "o")
  have R' : Rel B P K g X ce env st { s with heap := h' } := R.grow hk
  obtain ⟨a, b⟩ := R'.addS (D := s.heap.objs.size) (o := listObj ys c') (co := .lst vs) ⟨hn, R.inv.freshP, R.inv.freshK, R.inv.freshT, R.fresh⟩ ⟨rfl, ys, c', hn, r1.mono (.refl _) ⟨_, rfl⟩⟩ rfl
  exact hQ _ _ _ _ (.refl _) a b (refS R _)
/-- a list is made of a text, as an object of the store -/
theorem ca_listSM {x : Str} (hl : x.length ≤ 16777216) : CaJ B n ce (.type "list") [.str x] st (.ref st.store.length) ⟨st.vars, st.store ++ [.lst (chars x)]⟩ := fun A env P K g X s xs Q E hA R hx hQ => by
  obtain ⟨z, rfl, hx1⟩ := hx.one
  obtain ⟨t, rfl⟩ := hx1.inv
  refine call_list_str hA.handled x t (fun h' tk acc c' hk hn hi => ?_) (by rw [sizeLine_eq]; exact hl)
  have R' : Rel B P K g X ce env st { s with heap := h', toks := tk } := R.grow hk
  have e : (listObj acc.toList c') = { cls := .type "list", dict := none, data := .seq acc c', slots := #[] } := by simp [listObj]
  obtain ⟨h1, h2⟩ := hi
  have key : ∀ (l : List Nat) (ys : List Value), ys.length = l.length → (∀ (i : Nat) (v : Value), ys[i]? = some v → ∃ c u, l[i]? = some c ∧ v = .str ⟨#[c]⟩ u) → VRs P (X.ι ++ [(s.heap.objs.size, [])]) (l.map fun c => CV.str ⟨#[c]⟩) ys := by
    intro l
    induction l with
    | nil => intro ys hl _; cases ys with | nil => exact .nil | cons _ _ => simp at hl
    | cons c l ih =>
      intro ys hl hy
      cases ys with
      | nil => simp at hl
      | cons y ys =>
        obtain ⟨c', u, e1, e2⟩ := hy 0 y (by simp)
        simp at e1; subst e1 e2
        exact .cons (.str _ _) (ih ys (by simpa using hl) fun i v e => by simpa using hy (i + 1) v (by simpa using e))
  obtain ⟨a, b⟩ := R'.addS (D := s.heap.objs.size) (o := listObj acc.toList c') (co := .lst (chars x)) ⟨by rw [e]; exact hn, R.inv.freshP, R.inv.freshK, R.inv.freshT, R.fresh⟩ ⟨rfl, acc.toList, c', by rw [e]; exact hn, by
    refine key x.cps.toList acc.toList (by simpa using h1) fun i v e => ?_
    obtain ⟨c, u, e1, e2⟩ := h2 i v (by simpa using e)
    exact ⟨c, u, by simpa using e1, e2⟩⟩ rfl
  exact hQ _ _ _ _ (.refl _) a b (refS R _)
/-- a comprehension's list as an object of the store -/
theorem Ev_compM {elt t iter : Expr} {ifs : List Expr} {gs : List Comprehension} {scope : Scope} {pos : Pos} {ys out : List CV} {st' : LSt} (hi : ItE B n ce iter st ys st1) (hp : pures ys = true)
    (hc : CompOk ce st1 scope) (hg : GensOk (⟨t, iter, ifs, 0⟩ :: gs)) (L : LpJ B n (compCE ce st1 scope) elt (⟨t, iter, ifs, 0⟩ :: gs) ys ⟨[], st1.store⟩ out st') (hlen : st'.store.length = st1.store.length) (hsz : out.length ≤ 16777216) :
    EvJ B n ce (.ListComp elt (⟨t, iter, ifs, 0⟩ :: gs) scope pos) st (.ref st'.store.length) ⟨st1.vars, st'.store ++ [.lst out]⟩ := fun A env P K g X s Q E hA R hQ => by
  show wpAny _ _ (comprehension _ _ env _ (newList []) false (eval iter env)) _ _ _
  refine wpAny_comprehension_free (use := none) rfl (fun x => (hg.ok _ (.head _)).2 env x) (hc.clos R) hc.kind hc.names (hi A env P K g X s _ E hA R fun P1 X1 s1 it led gl lP lX R1 I hl ha ho hgl => ?_)
  refine comp_core (RR := fun acc C => compPost (model B.prog B.w) A E none Q acc C) hA R1 I hl ha ho hgl hp hc hg L hlen hsz fun P2 s2 D C m oC acc ep lP2 R2 D2 C2 hns hDC r _ => ⟨m, hns, fun h' hs' => ?_⟩
  have R3 := R2.poke (tk := s2.toks) C2 hs'
  have D3 : DOk B D (listObj acc ep) P2 K (X1.own st'.store) { s2 with heap := h', toks := s2.toks } := ⟨(hs'.2 D hDC).trans D2.here, D2.P, D2.K, D2.T, D2.own⟩
  obtain ⟨a, b⟩ := R3.addS (co := .lst out) D3 ⟨rfl, acc, ep, D3.here, r.mono (.refl _) ⟨_, rfl⟩⟩ rfl
  exact hQ _ _ _ _ (lP.trans lP2) (lX.trans a) b (refS R3 _)
theorem Ev_compAllM {elt t iter : Expr} {ifs : List Expr} {scope : Scope} {pos : Pos} {α : Type} {val : α → CV} {out : α → Option CV} {as : List α} (hi : ItE B n ce iter st (as.map val) st1) (hp : pures (as.map val) = true) (hc : CompOk ce st1 scope)
    (turn : ∀ a ∈ as, TurnJ B n (compCE ce st1 scope) t ifs elt [] st1.store (val a) (out a)) (hsz : as.length ≤ 16777216) (hf : autoParam (∀ env x, foldedSetIterable iter env x = pure x) tRfl2) :
    EvJ B n ce (.ListComp elt [⟨t, iter, ifs, 0⟩] scope pos) st (.ref st1.store.length) ⟨st1.vars, st1.store ++ [.lst (as.filterMap out)]⟩ := by
  obtain ⟨l', L, _⟩ := LpJ.all (iter := iter) val out as [] turn .nil
  exact Ev_compM (st' := ⟨l', st1.store⟩) hi hp hc (.one hf) L rfl (Nat.le_trans (List.length_filterMap_le _ _) hsz)

/-! ## a function whose body is an expression -/
theorem call_okE (O : StO B P K g ι S s) {A : Around} {a : Addr} {o : Obj} {fd : FuncData} {params : List Str} {body : Expr} {scope : Scope} {clo : List (Str × Addr)} {free : List (Str × CV)} {vs : List CV} {xs : List Value} {Q : Value → Shared → Prop} {E : Value → Shared → Prop}
    (hA : Room A (n + 1)) (ho : s.heap.get? a = some o) (hd : o.data = .func fd) (D : FnD P fd params (.expr body) scope clo) (hgen : scope.isGenerator = false) (F : FunOk scope free params) (hf : FreeOk P ι clo free scope) (hv : VRs P ι vs xs) (hl : vs.length = params.length)
    (h : ∀ A' env' X' s' E, Room A' n → X'.ι = ι → Rel B P K g X' ⟨scope, free⟩ env' ⟨params.zip vs, S⟩ s' → wpAny (model B.prog B.w) A' (eval body env') (fun v s' => Q v s') E s') :
    wpAny (model B.prog B.w) A (call (.ref a) xs) Q E s := by
  refine wpAny_call ?_
  obtain ⟨c, oc, ys, t, h1, h2, h3, h4⟩ := D.code
  refine kla_callFunE (by have := hA.depth; walk_at "o") ho hd (D.scope ▸ F.co) (D.scope ▸ hgen) D.body ⟨c, oc, ys, t, h1, O.inv.perm _ _ h2, h3, h4⟩ ?_
  rw [D.bind xs (by rw [hv.length, hl]), D.scope, D.glob, D.bui, D.clo]
  refine wpAny_pure (frame_ok O F hf hv hl fun env' X' s' hι hc R' => ⟨R'.inv.nolim, kla_codeExpr ?_⟩)
  refine wpAny_mono (h _ env' X' s' _ hA.deeper hι R') (fun f s' hq => ?_) fun _ _ x => x
  exact hq
theorem CaC.mkE {i : Nat} {ps : List Str} {body : Expr} {scope : Scope} {free : List (Str × CV)} {st' : LSt} (e : st.store[i]? = some (.clo ps (.expr body) scope free)) (hF : FunOk scope free ps) (hgen : scope.isGenerator = false) (hl : vs.length = ps.length)
    (h : EvJ B n ⟨scope, free⟩ body ⟨ps.zip vs, st.store⟩ r st') : CaC B (n + 1) ce i vs st r ⟨st.vars, st'.store⟩ := fun A env P K g X s fv xs Q E hA R hf hx hQ => by
  obtain ⟨_, _, rfl, hi⟩ := hf.inv
  obtain ⟨p, e1, o, fd, clo, h1, hc, h2, h3, h4⟩ := R.sto.get e
  rw [hi] at e1; (first|subst e1|obtain rfl:=sj e1|exact n1 e1|exact n2 e1|exact b1 e1|exact b2 e1|cases e1)
  refine call_okE R.stO hA (R.inv.perm _ _ h1) h2 h3 hgen hF ⟨fun x cv hx => let ⟨a, c, v, oc, b1, b2, b3, b4⟩ := h4 x cv hx; ⟨a, c, v, oc, b1, b2, b3, b4⟩⟩ hx hl fun A' env' X' s' E' hA' hι R' => ?_
  refine h A' env' P _ g X' s' _ E' hA' R' fun P2 X2 s2 fl lP lX R2 rf => ?_
  obtain ⟨a, b⟩ := R.leaveG lP R2 (hι ▸ lX.ι) fun _ _ e => e
  exact hQ P2 _ s2 _ lP a b rf
/-- a lambda of a function's body is made -/
theorem Rel.lam_ok (R : Rel B P K g X ce env st s) {t : Tabl} (ht : t ∈ B.tabs) {A : Around} {name : Str} {params : Arguments} {body : Expr} {scope : Scope} {clos : List (Str × Addr)} {pos : Pos} {ps : List Str} {Q : Value → Shared → Prop} {E : Value → Shared → Prop}
    (hcode : env.code = .ref t.c) (hl : pos.line = t.line) (hc : pos.col = t.col) (hcl : closureFor scope env = pure clos)
    (hb : ∀ pm cv ctv (vs : List Value), vs.length = ps.length → bindArgs (kla_fn name t.qual params body scope clos pm cv ctv) ⟨vs, []⟩ = pure (ps.zip vs))
    (hQ : ∀ P' s' f o fd, Le P P' → Rel B P' K g X ce env st s' → P' f = some o → o.cls = .type "function" → o.data = .func fd → FnD P' fd ps (.expr body) scope clos → Q (.ref f) s') :
    wpAny (model B.prog B.w) A (makeFunction name t.qual params (.expr body) scope env [] [] [] pos pos.line) Q E s := by
  obtain ⟨hP, hK, tps, he, hor⟩ := R.inv.tabs t ht
  have hge0 : env.globals = mainGlobals := R.env.globals
  have Hd := B.code_hd t ht s.heap R.inv.h0
  have Hb := B.bui_at t ht s.heap R.inv.h0
  rcases hor with rfl | ⟨c', oc, xs, tk, rfl, h1, h2, h3⟩
  · refine kla_makeFunction hcl hge0 R.inv.ns_g hcode Hd he trivial rfl (B.tab_g t ht) Hb fun c' ctv h' tk hx hge hlt hrec htb => ?_
    obtain ⟨P', oc, xs, tq, lP, R', e1, e2, e3, e4⟩ := R.madeNew (o := kla_obj name t.qual params body scope clos ((B.mg "__name__").getD .none) c' ctv) ht hx hge hlt hrec (by rw [htb, hl, hc]; rfl) rfl tk
    exact hQ P' _ _ _ _ lP R' e1 rfl rfl ⟨rfl, rfl, rfl, rfl, rfl, hb _ _ _, c', oc, xs, tq, rfl, e2, e3, e4⟩
  · refine kla_makeFunctionHit (cv := .ref c') hcl hge0 R.inv.ns_g hcode Hd he trivial ?_ Hb fun ctv h' tk2 hk hsz => ?_
    · simp [codeAmong, rawInt, hl, hc]
    · have R1 : Rel B P K g X ce env st { s with heap := h', toks := tk2 } := R.grow hk
      obtain ⟨a, b⟩ := R1.newP (o := { cls := .type "function", data := .func (kla_fn name t.qual params body scope clos ((B.mg "__name__").getD .none) (.ref c') ctv) }) rfl tk2
      exact hQ _ _ _ _ _ a b Gh.put_self rfl rfl ⟨rfl, rfl, rfl, rfl, rfl, hb _ _ _, c', oc, xs, tk, rfl, a _ _ h1, h2, h3⟩
/-- an assignment whose value is shown by hand -/
theorem exec_assign_raw {t e : Expr} {pos : Pos} {xs : List Stmt} {A : Around} {Q : Flow → Shared → Prop} {E : Value → Shared → Prop} (h1 : swapsWithSole [t] e pos.line env = pure false) (h2 : swappedStores [t] e env = pure none) (h3 : (assignEach [t] env).map (·.2) = [assign t env])
    (h : wpAny (model B.prog B.w) A (eval e env) (fun a s1 => wpAny (model B.prog B.w) A (assign t env a) (fun _ s2 => wpAny (model B.prog B.w) A (execs xs env) Q E s2) E s1) E s) : wpAny (model B.prog B.w) A (execs (.Assign [t] e pos :: xs) env) Q E s := by
  refine wpAny_bind (m := exec (.Assign [t] e pos) env) ?_
  have e0 : exec (.Assign [t] e pos) env = (do
      standAt pos
      if ← swapsWithSole [t] e pos.line env then do
        evalThenUse e env fun v => assignAll v ((assignEach [t] env).map (·.2))
        pure .next
      else do
        let v ← eval e env
        assignStores env v (← swappedStores [t] e env) ((assignEach [t] env).map (·.2))) := rfl
  rw [e0, h1, h2, h3]
  refine wpAny_bind (wpAny_standAt (wpAny_bind (wpAny_pure ?_)))
  show wpAny _ _ (eval e env >>= fun v => pure none >>= fun x => assignStores env v x [assign t env]) _ _ _
  refine wpAny_bind (wpAny_mono h (fun a s1 h1 => ?_) fun _ _ e => e)
  refine wpAny_bind (wpAny_pure ?_)
  show wpAny _ _ (assignAll a [assign t env] >>= fun _ => pure Flow.next) _ _ _
  refine wpAny_bind ?_
  show wpAny _ _ (assign t env a) _ _ _
  exact wpAny_mono h1 (fun _ s2 h2 => wpAny_pure h2) fun _ _ e => e
end
end Mine

namespace Mine
section
variable {B : Base} {n : Nat}
theorem fn_iseof (H : Law B) (x : Int) : FnJ B (n + 1) (.ref 129) [.int x] (.bool (decide (x = 0))) := by
  refine FnJ.of H.iseof (.mk' (by decide +kernel)) (by rfl) rfl ?_ rfl
  conv in (bodyAt 66) => whnf
  exact .ret (Ev_cmp (Ev_name (by rfl)) (Ev_name (by rfl)) (.eqI _ _))

noncomputable def bit (g k : Int) : Bool := decide (Builtin.bitAnd (g / 2 ^ k.toNat) 1 = 1)
noncomputable def pNear (one other : Int) (gs : List Int) : Bool := gs.any fun g => bit g one && bit g other
theorem fn_near (H : Law B) (one other : Int) (gs : List Int) (h1 : 0 ≤ one) (h2 : 0 ≤ other) (hl : gs.length ≤ 16777216) : FnJ B (n + 1) (.ref 192) [.int one, .int other, cI gs] (.bool (pNear one other gs)) := by
  refine FnJ.of H.near (.mk' (by decide +kernel)) (by rfl) rfl ?_ rfl
  conv in (bodyAt 78) => whnf
  refine .retq (Ev_cmp (Ev_compAll (val := .int) (out := fun g => if bit g one && bit g other then some (.int g) else none) (ItE.ok (Ev_name (by rfl)) (IterOk.list (pures_ints _))) (pures_ints _) (.mk' (by decide +kernel) (by rfl)) (fun g hg => ?_) hl) (Ev_list Es_nil (by decide)) (.neL (ns := gs.filter fun g => bit g one && bit g other) (ms := []) ?_ (by rfl))) ?_
  · exact .ite (As_name (by rfl)) (Ifs_one (Ts_and2 (Ts_cmp (Ev_bo (Ev_bo (Ev_name (by rfl)) (Ev_name (by rfl)) (.num (.shr _ _ h1))) Ev_int (.num (.and _ _))) Ev_int (.eqI _ _)) (fun _ => (Ts_cmp (Ev_bo (Ev_bo (Ev_name (by rfl)) (Ev_name (by rfl)) (.num (.shr _ _ h2))) Ev_int (.num (.and _ _))) Ev_int (.eqI _ _))))) (fun _ => Ev_name (by rfl)) (fun _ => rfl) .nil rfl
  · rw [filterMap_if (fun g => bit g one && bit g other)]; rfl
  · unfold pNear
    congr 1
    induction gs with
    | nil => rfl
    | cons g gs ih =>
      have ih := ih (by simp at hl; walk_at "o")
      cases hb : (bit g one && bit g other)
      · simp only [List.filter_cons, hb, List.any_cons, Bool.false_or, Bool.false_eq_true, if_false]; exact ih
      · simp [hb]
end
end Mine

namespace Mine

theorem pickV_eq (vs : List CV) (lo hi : Option Int) : pickV vs lo hi none = (vs.drop (lo.elim 0 (clipAt vs.length))).take (hi.elim vs.length (clipAt vs.length) - lo.elim 0 (clipAt vs.length)) := by
  unfold pickV
  rw [sliceBounds_plain]
  simp only [sliceRange_one]
  have := pick_run vs.toArray (lo.elim 0 (clipAt vs.length)) (hi.elim vs.length (clipAt vs.length) - lo.elim 0 (clipAt vs.length))
  simpa using this
theorem pickV_upto (vs : List CV) (b : Nat) : pickV vs none (some b) none = vs.take b := by
  rw [pickV_eq]
  simp only [Option.elim, clipAt_nat, List.drop_zero, Nat.sub_zero]
  rcases Nat.le_total b vs.length with h | h
  · rw [Nat.min_eq_left h]
  · rw [Nat.min_eq_right h, List.take_of_length_le (Nat.le_refl _), List.take_of_length_le h]
theorem pickV_from (vs : List CV) (a : Nat) : pickV vs (some a) none none = vs.drop a := by
  rw [pickV_eq]
  simp only [Option.elim, clipAt_nat]
  rcases Nat.le_total a vs.length with h | h
  · rw [Nat.min_eq_left h, List.take_of_length_le (by simp)]
  · rw [Nat.min_eq_right h, List.drop_of_length_le (Nat.le_refl _), List.drop_of_length_le h]; simp
theorem pickV_mid (vs : List CV) (a b : Nat) : pickV vs (some a) (some b) none = (vs.drop a).take (b - a) := by
  rw [pickV_eq]
  simp only [Option.elim, clipAt_nat]
  rcases Nat.le_total a vs.length with h | h
  · rw [Nat.min_eq_left h]
    rcases Nat.le_total b vs.length with h' | h'
    · rw [Nat.min_eq_left h']
    · rw [Nat.min_eq_right h', List.take_of_length_le (by simp), List.take_of_length_le (by simp; walk_at "o")]
  · rw [Nat.min_eq_right h, List.drop_of_length_le (Nat.le_refl _), List.drop_of_length_le h]; simp
theorem pickV_last (vs : List CV) (a : Nat) : pickV vs (some a) (some (-1)) none = (vs.drop a).take (vs.length - 1 - a) := by
  rw [pickV_eq]
  have e : clipAt vs.length (-1) = vs.length - 1 := clipAt_neg vs.length 1 (by walk_at "o")
  simp only [Option.elim, clipAt_nat, e]
  rcases Nat.le_total a vs.length with h | h
  · rw [Nat.min_eq_left h]
  · rw [Nat.min_eq_right h, List.drop_of_length_le (Nat.le_refl _), List.drop_of_length_le h]; simp

inductive Tr where
  | leaf (i : Nat)
  | node (s : Str) (l r : Tr)
noncomputable def Tr.cv : Tr → CV
  | .leaf i => .int i
  | .node s l r => .list [.str s, l.cv, r.cv]
theorem Tr.pure : ∀ t : Tr, t.cv.pure = true
  | .leaf _ => rfl
  | .node s l r => by simp [Tr.cv, CV.pure, pures, l.pure, r.pure]
noncomputable def Tr.leaves : Tr → List Nat
  | .leaf i => [i]
  | .node _ l r => l.leaves ++ r.leaves
noncomputable def Tr.size : Tr → Nat
  | .leaf _ => 1
  | .node _ l r => l.size + r.size
theorem Tr.size_pos : ∀ t : Tr, 0 < t.size
  | .leaf _ => by simp [Tr.size]
  | .node _ l r => by have := l.size_pos; simp only [Tr.size]; walk_at "o"
theorem Tr.leaves_len : ∀ t : Tr, t.leaves.length = t.size
  | .leaf _ => rfl
  | .node _ l r => by simp [Tr.leaves, Tr.size, l.leaves_len, r.leaves_len]
noncomputable def Tr.signs : Tr → List Str
  | .leaf _ => []
  | .node s l r => s :: (l.signs ++ r.signs)
theorem pures_trs (ts : List Tr) : pures (ts.map Tr.cv) = true := pures_map Tr.pure ts

noncomputable abbrev forBody (k : Nat) (i : Nat) : List Stmt := (spOf (bodyAt k)[i]?).b1
section
variable {B : Base} {n : Nat}

/-- the heaps -/
theorem fn_heaps (H : Law B) (ns : List Int) (hl : ns.length ≤ 1048576) : ∃ a b c : Int, (0 ≤ a ∧ 0 ≤ b ∧ 0 ≤ c) ∧ FnJ B (n + 1) (.ref 134) [cI ns] (cI [a, b, c]) := by
  have loop : ∀ (ks : List Nat) (hs : List Int) (l : List (Str × CV)), hs.length = 3 → (∀ k ∈ ks, k < ns.length) → VSub [(Str.ofString "heaps", .ref 0), (Str.ofString "script", cI ns)] l → ∃ (hs' : List Int) (l' : List (Str × CV)), hs'.length = 3 ∧ VSub [(Str.ofString "heaps", .ref 0), (Str.ofString "script", cI ns)] l' ∧
      ForJ B n (ceAt 68) (.Name (Str.ofString "k") ⟨220, 8, 220, 9⟩) (forBody 68 1) (ks.map fun (k : Nat) => CV.int (0 + k * 1)) ⟨l, [.lst (hs.map .int)]⟩ .nxt ⟨l', [.lst (hs'.map .int)]⟩ := by
    intro ks
    induction ks with
    | nil => intro hs l h3 _ hl; exact ⟨hs, l, h3, hl, .nil⟩
    | cons k ks ih =>
      intro hs l h3 hk hl
      have hk0 := hk k (.head _)
      have e0 : 0 + (k : Int) * 1 = k := by rw [Int.zero_add, Int.mul_one]
      have hj : k % 3 < hs.length := by rw [h3]; exact Nat.mod_lt _ (by decide)
      have hi : (((k % 3 : Nat) : Int)).toNat = k % 3 := rfl
      have hb : XsJ B n (ceAt 68) (forBody 68 1) ⟨[(Str.ofString "k", .int k), (Str.ofString "heaps", .ref 0), (Str.ofString "script", cI ns)], [.lst (hs.map .int)]⟩ .nxt ⟨[(Str.ofString "k", .int k), (Str.ofString "heaps", .ref 0), (Str.ofString "script", cI ns)], [.lst ((hs.set (k % 3) (hs[k % 3] + ns[k])).map .int)]⟩ := by
        rw [List.map_set]
        exact Xs_cons (Ex_augItem (vs := hs.map .int) (k := ((k % 3 : Nat) : Int)) (v1 := .int hs[k % 3]) (Ev_name (by rfl)) (J.eqv (v1 := .int ((k : Int) % 3)) (Ev_bo (Ev_name (v := .int k) (by rfl)) Ev_int (.num (.mod _ _ (by decide)))) (by rfl)) (.list (by rfl) (Int.natCast_nonneg _) (by walk_at "o") (by rw [hi, List.getElem?_map, List.getElem?_eq_getElem hj]; rfl)) (Ev_item (Ev_name (by rfl)) (Ev_name (by rfl)) (.list (by rfl) (Int.natCast_nonneg _) (by walk_at "o") (by rw [Int.toNat_natCast, List.getElem?_map, List.getElem?_eq_getElem hk0]; rfl))) (.add _ _) (by rfl) (Int.natCast_nonneg _) (by rw [List.length_map]; walk_at "o") (by walk_at "o")) Xs_nil
      obtain ⟨hs2, l2, g3, h2, h4⟩ := ih (hs.set (k % 3) (hs[k % 3] + ns[k])) _ (by rw [List.length_set, h3]) (fun k hk' => hk k (.tail _ hk')) (.cons (by rfl) (.cons (by rfl) .nil) : VSub [(Str.ofString "heaps", .ref 0), (Str.ofString "script", cI ns)] [(Str.ofString "k", .int k), (Str.ofString "heaps", .ref 0), (Str.ofString "script", cI ns)])
      rw [List.map_cons, e0]
      exact ⟨hs2, l2, g3, h2, .cons (AsJ.pre (As_name (by rfl)) hl) hb (.inl rfl) h4⟩
  obtain ⟨hs, l, h3, hv, F⟩ := loop (List.range ns.length) [1379, 10084, 13740] [(Str.ofString "heaps", .ref 0), (Str.ofString "script", cI ns)] rfl (fun k hk => List.mem_range.mp hk) (.cons (by rfl) (.cons (by rfl) .nil))
  obtain ⟨a, b, c, rfl⟩ := len3 h3
  refine ⟨a % 10 ^ 12, b % 10 ^ 12, c % 10 ^ 12, ⟨Int.emod_nonneg _ (by decide), Int.emod_nonneg _ (by decide), Int.emod_nonneg _ (by decide)⟩, ?_⟩
  refine FnJ.of H.heaps (.mk' (by decide +kernel)) (by rfl) rfl ?_ rfl
  have F' : ForJ B n (ceAt 68) (.Name (Str.ofString "k") ⟨220, 8, 220, 9⟩) (forBody 68 1) _ _ _ _ := F
  conv in (bodyAt 68) => whnf
  refine .cons (Ex_assign (Ev_listM (Es_cons Ev_int (Es_cons Ev_int (Es_cons Ev_int Es_nil))) (by decide)) (As_name (by rfl))) ?_
  refine .cons (Ex_for (ItE.ok (Ev_callT (Ev_name (by rfl)) (Es_cons (Ev_callB (Ev_name (by rfl)) (Es_cons (Ev_name (by rfl)) Es_nil) (ca_len (by rfl) ?_)) Es_nil) ca_range1) (IterOk.rng (k := ns.length) ?_ ?_)) (pures_rng _ _ _) F') ?_
  · simp; walk_at "o"
  · simp only [List.length_map]; exact small_one (by decide) (by decide) (by walk_at "o") (by walk_at "o")
  · simp only [List.length_map]; rw [rangeSize_one]; split <;> walk_at "o"
  refine .freeze (Str.ofString "heaps") (by exact hv.ok (by rfl)) (by rfl) ?_ (by rfl)
  refine .retq (Ev_compAll (val := .int) (as := [a, b, c]) (out := fun h => some (.int (h % 10 ^ 12))) (ItE.ok (Ev_name (by rfl)) (IterOk.list (by rfl))) (by rfl) (.mk' (by decide +kernel) (by rfl)) (fun h _ => .all (As_name (by rfl)) (Ev_bo (Ev_name (by rfl)) (Ev_bo Ev_int Ev_int (.num (.pow _ _ (by decide) (by decide) (by decide)))) (.num (.mod _ _ (by decide)))) rfl .nil rfl) (by simp)) (by rfl)
end
end Mine

namespace Mine
section
variable {B : Base} {n : Nat}

noncomputable def lv (ts : List Tr) : List Nat := ts.flatMap Tr.leaves
theorem lv_app (a b : List Tr) : lv (a ++ b) = lv a ++ lv b := by simp [lv]
noncomputable abbrev forVar (k : Nat) (i : Nat) : Expr := (spOf (bodyAt k)[i]?).e2

theorem tree_turn (s : Str) (ts : List Tr) (number : Int) (h2 : 2 ≤ ts.length) (hl : ts.length ≤ 5) (hn : 0 ≤ number) : ∃ ts' number' l', ts'.length + 1 = ts.length ∧ lv ts' = lv ts ∧ (∀ t' ∈ ts', ∀ x ∈ t'.signs, x = s ∨ ∃ t ∈ ts, x ∈ t.signs) ∧ 0 ≤ number' ∧ VSub [(Str.ofString "parts", .list (ts'.map Tr.cv)), (Str.ofString "number", .int number')] l' ∧
    XsJ B n (ceAt 69) (forBody 69 1) ⟨[(Str.ofString "sign", .str s), (Str.ofString "parts", .list (ts.map Tr.cv)), (Str.ofString "number", .int number)], []⟩ .nxt ⟨l', []⟩ := by
  have hm : ((ts.map Tr.cv).length : Int) - 1 = (ts.length : Int) - 1 := by simp
  have hk0 : 0 ≤ number % ((ts.map Tr.cv).length - 1 : Int) := Int.emod_nonneg _ (by rw [hm]; walk_at "o")
  have hk1 : number % ((ts.map Tr.cv).length - 1 : Int) < ts.length - 1 := by
    have := Int.emod_lt_of_pos number (show 0 < ((ts.map Tr.cv).length - 1 : Int) by rw [hm]; walk_at "o")
    walk_at "o"
  generalize hkd : number % ((ts.map Tr.cv).length - 1 : Int) = k at hk0 hk1
  obtain ⟨kn, rfl⟩ := Int.eq_ofNat_of_zero_le hk0
  have hkn : kn + 1 < ts.length := by walk_at "o"
  obtain ⟨a, ha⟩ : ∃ a, ts[kn]? = some a := ⟨_, List.getElem?_eq_getElem (by walk_at "o")⟩
  obtain ⟨b, hb⟩ : ∃ b, ts[kn + 1]? = some b := ⟨_, List.getElem?_eq_getElem hkn⟩
  have hsplit : ts = ts.take kn ++ [a, b] ++ ts.drop (kn + 2) := by
    have e1 : ts.drop kn = a :: ts.drop (kn + 1) := by
      rw [List.drop_eq_getElem_cons (by walk_at "o")]
      rw [List.getElem?_eq_getElem (by walk_at "o")] at ha
      (first|obtain ⟨_, rfl⟩:=ha.inv|subst ha|obtain rfl:=sj ha|exact n1 ha|exact n2 ha|cases ha); rfl
    have e2 : ts.drop (kn + 1) = b :: ts.drop (kn + 2) := by
      rw [List.drop_eq_getElem_cons hkn]
      rw [List.getElem?_eq_getElem hkn] at hb
      (first|obtain ⟨_, rfl⟩:=hb.inv|subst hb|obtain rfl:=sj hb|exact n1 hb|exact n2 hb|cases hb); rfl
    conv => lhs; rw [← List.take_append_drop kn ts, e1, e2]
    simp
  refine ⟨ts.take kn ++ [Tr.node s a b] ++ ts.drop (kn + 2), number / ((ts.map Tr.cv).length - 1 : Int), [(Str.ofString "parts", .list ((ts.take kn ++ [Tr.node s a b] ++ ts.drop (kn + 2)).map Tr.cv)), (Str.ofString "number", .int (number / ((ts.map Tr.cv).length - 1 : Int))), (Str.ofString "k", .int kn), (Str.ofString "sign", .str s), (Str.ofString "parts", .list (ts.map Tr.cv)), (Str.ofString "number", .int number)], ?_, ?_, ?_, Int.ediv_nonneg hn (by rw [hm]; walk_at "o"), .cons (by rfl) (.cons (by rfl) .nil), ?_⟩
  · simp; walk_at "o"
  · conv => rhs; rw [hsplit]
    simp [lv, Tr.leaves]
  · intro t' ht' x hx
    simp only [List.mem_append, List.mem_singleton] at ht'
    rcases ht' with (h | h) | h
    · exact .inr ⟨t', List.mem_of_mem_take h, hx⟩
    · subst h
      simp only [Tr.signs, List.mem_cons, List.mem_append] at hx
      rcases hx with h | h | h
      · exact .inl h
      · exact .inr ⟨a, List.mem_of_getElem? ha, h⟩
      · exact .inr ⟨b, List.mem_of_getElem? hb, h⟩
    · exact .inr ⟨t', List.mem_of_mem_drop h, hx⟩
  · conv in (forBody 69 1) => whnf
    refine Xs_cons (Ex_assign (J.eqv (Ev_bo (Ev_name (by rfl)) (Ev_bo (Ev_callB (Ev_name (by rfl)) (Es_cons (Ev_name (by rfl)) Es_nil) (ca_len (by rfl) ?_)) Ev_int (.num (.sub _ _))) (.num (.mod _ _ ?_))) (congrArg CV.int hkd)) (As_name (by rfl))) ?_
    · simp; walk_at "o"
    · rw [hm]; walk_at "o"
    refine Xs_cons (Ex_assign (Ev_bo (Ev_name (by rfl)) (Ev_bo (Ev_callB (Ev_name (by rfl)) (Es_cons (Ev_name (by rfl)) Es_nil) (ca_len (by rfl) ?_)) Ev_int (.num (.sub _ _))) (.num (.div _ _ ?_ ?_))) (As_name (by rfl))) ?_
    · simp; walk_at "o"
    · rw [hm]; walk_at "o"
    · rw [hm]; walk_at "o"
    refine Xs_cons (Ex_assign (v := .list ((ts.take kn ++ [Tr.node s a b] ++ ts.drop (kn + 2)).map Tr.cv)) (J.eqv (Ev_bo (Ev_bo (Ev_slice (Ev_name (by rfl)) Pt_none (Pt_some (Ev_name (by rfl))) (.list (by rfl) ?_)) (Ev_list (Es_cons (Ev_list (Es_cons (Ev_name (by rfl)) (Es_cons (Ev_item (v := a.cv) (Ev_name (by rfl)) (Ev_name (by rfl)) (.list (by rfl) ?_ ?_ ?_)) (Es_cons (Ev_item (v := b.cv) (Ev_name (by rfl)) (Ev_bo (Ev_name (by rfl)) Ev_int (.num (.add _ _))) (.list (by rfl) ?_ ?_ ?_)) Es_nil))) ?_) Es_nil) ?_) (.seq (.addL (by rfl) (by rfl) ?_))) (Ev_slice (Ev_name (by rfl)) (Pt_some (Ev_bo (Ev_name (by rfl)) Ev_int (.num (.add _ _)))) Pt_none (.list (by rfl) ?_)) (.seq (.addL (by rfl) (by rfl) ?_))) ?_) (As_name (by rfl))) Xs_nil
    · simp; walk_at "o"
    · walk_at "o"
    · walk_at "o"
    · simp [ha]
    · walk_at "o"
    · walk_at "o"
    · rw [show ((kn : Int) + 1).toNat = kn + 1 by walk_at "o"]; simp [hb]
    · simp
    · simp
    · rw [pickV_upto]; simp; walk_at "o"
    · simp; walk_at "o"
    · rw [pickV_upto, show ((kn : Int) + 2) = ((kn + 2 : Nat) : Int) by walk_at "o", pickV_from]; simp; walk_at "o"
    · rw [pickV_upto, show ((kn : Int) + 2) = ((kn + 2 : Nat) : Int) by walk_at "o", pickV_from]
      simp [Tr.cv]

theorem tree_loop : ∀ (sg : List Str) (ts : List Tr) (number : Int) (l : List (Str × CV)), sg.length + 1 ≤ ts.length → ts.length ≤ 5 → 0 ≤ number → VSub [(Str.ofString "parts", .list (ts.map Tr.cv)), (Str.ofString "number", .int number)] l →
    ∃ ts' number' l', ts'.length + sg.length = ts.length ∧ lv ts' = lv ts ∧ (∀ t' ∈ ts', ∀ x ∈ t'.signs, x ∈ sg ∨ ∃ t ∈ ts, x ∈ t.signs) ∧ VSub [(Str.ofString "parts", .list (ts'.map Tr.cv)), (Str.ofString "number", .int number')] l' ∧
      ForJ B n (ceAt 69) (forVar 69 1) (forBody 69 1) (sg.map .str) ⟨l, []⟩ .nxt ⟨l', []⟩
  | [], ts, number, l, h1, h2, h3, hv => ⟨ts, number, l, rfl, rfl, fun t ht x hx => .inr ⟨t, ht, hx⟩, hv, .nil⟩
  | s :: sg, ts, number, l, h1, h2, h3, hv => by
    simp only [List.length_cons] at h1
    obtain ⟨ts1, n1, l1, e1, e2, e3, e4, e5, e6⟩ := tree_turn (B := B) (n := n) s ts number (by walk_at "o") h2 h3
    obtain ⟨ts2, n2, l2, f1, f2, f3, f4, f5⟩ := tree_loop sg ts1 n1 l1 (by walk_at "o") (by walk_at "o") e4 e5
    refine ⟨ts2, n2, l2, by simp only [List.length_cons]; walk_at "o", f2.trans e2, fun t ht x hx => ?_, f4, .step hv (by rfl) (by rfl) e6 (.inl rfl) f5⟩
    rcases f3 t ht x hx with h | ⟨t1, h, hx1⟩
    · exact .inl (.tail _ h)
    · rcases e3 t1 h x hx1 with h | h
      · exact .inl (h ▸ .head _)
      · exact .inr h
theorem lv_leaves (l : List Nat) : lv (l.map Tr.leaf) = l := by
  unfold lv
  induction l with
  | nil => rfl
  | cons a l ih => simp only [List.map_cons, List.flatMap_cons, Tr.leaves, ih]; rfl
theorem fn_tree (H : Law B) (letters : List Nat) (number : Int) (signs : List Str) (h1 : letters.length = 5) (h2 : signs.length = 4) (h3 : 0 ≤ number) : ∃ t : Tr, t.leaves = letters ∧ (∀ x ∈ t.signs, x ∈ signs) ∧ FnJ B (n + 1) (.ref 141) [cI (letters.map Int.ofNat), .int number, cS signs] t.cv := by
  have e : cI (letters.map Int.ofNat) = .list ((letters.map Tr.leaf).map Tr.cv) := by
    simp only [cI, List.map_map]
    rfl
  rw [e]
  obtain ⟨ts', n', l', a, b, c, d, f⟩ := tree_loop (B := B) (n := n) signs (letters.map .leaf) number [(Str.ofString "parts", .list ((letters.map Tr.leaf).map Tr.cv)), (Str.ofString "letters", .list ((letters.map Tr.leaf).map Tr.cv)), (Str.ofString "number", .int number), (Str.ofString "signs", cS signs)] (by simp; walk_at "o") (by simp; walk_at "o") h3 (.cons (by rfl) (.cons (by rfl) .nil))
  have hl : ts'.length = 1 := by simp at a; walk_at "o"
  obtain ⟨t, rfl⟩ := List.length_eq_one_iff.mp hl
  refine ⟨t, ?_, fun x hx => ?_, ?_⟩
  · have := b.trans (lv_leaves letters)
    simpa [lv] using this
  · rcases c t (.head _) x hx with h | ⟨t1, h, hx1⟩
    · exact h
    · obtain ⟨i, _, rfl⟩ := List.mem_map.mp h
      (first|obtain ⟨_, rfl⟩:=hx1.inv|subst hx1|obtain rfl:=sj hx1|exact n1 hx1|exact n2 hx1|cases hx1)
  · refine FnJ.of H.tree (.mk' (by decide +kernel)) (by rfl) rfl ?_ t.pure
    have f' := f
    conv at f' in (forBody 69 1) => whnf
    conv at f' in (forVar 69 1) => whnf
    conv in (bodyAt 69) => whnf
    refine .cons (Ex_assign (Ev_callT (Ev_name (by rfl)) (Es_cons (Ev_name (by rfl)) Es_nil) (ca_listL (by rfl) ?_)) (As_name (by rfl))) ?_
    · simp; walk_at "o"
    refine .cons (Ex_for (ItE.ok (Ev_name (by rfl)) (IterOk.list (pures_strs _))) (pures_strs _) f') ?_
    refine .ret (Ev_item (v1 := .list [t.cv]) (Ev_name (d.ok (by rfl))) Ev_int (.list (by rfl) (by decide) (by decide) (by rfl)))
end
end Mine

namespace Mine
section
variable {B : Base} {n : Nat} {ce : CEnv} {st : LSt}

theorem ca_isintL {u : CV} {vs : List CV} (h : asL st.store u = some vs) : CaJ B n ce (.builtin "isinstance") [u, .cst (.type "int")] st (.bool false) st := fun A env P K g X s xs Q E hA R hx hQ => by
  obtain ⟨x, y, rfl, hx1, hx2⟩ := hx.two
  obtain ⟨l, ys, rfl, ⟨o, ho, hc, _⟩, r1⟩ := R.asL h hx1
  (first|obtain ⟨_, rfl⟩:=hx2.inv|subst hx2|obtain rfl:=sj hx2|exact n1 hx2|exact n2 hx2|cases hx2)
  exact PySem.IsiPair.list_int ho hc (hQ P X _ _ (.refl _) (.refl _) (R.grow fun _ _ e => e) (.bool _))

noncomputable abbrev lpar : Str := Str.ofString "("
noncomputable abbrev rpar : Str := Str.ofString ")"
noncomputable def rowOf : Tr → List Str → List Str
  | .leaf _, xs => xs.take 1
  | .node s l r, xs => [lpar] ++ rowOf l (xs.take l.size) ++ [s] ++ rowOf r (xs.drop l.size) ++ [rpar]
theorem rowOf_len : ∀ (t : Tr) (xs : List Str), xs.length = t.size → (rowOf t xs).length + 3 ≤ 4 * t.size
  | .leaf _, xs, h => by simp [rowOf, Tr.size] at *; walk_at "o"
  | .node s l r, xs, h => by
    simp only [Tr.size] at h
    have h1 := rowOf_len l (xs.take l.size) (by simp; walk_at "o")
    have h2 := rowOf_len r (xs.drop l.size) (by simp; walk_at "o")
    simp only [rowOf, Tr.size, List.length_append, List.length_cons, List.length_nil]
    walk_at "o"
theorem ca_row (H : Law B) : ∀ (t : Tr) {n : Nat} {ce : CEnv} {st : LSt} {i : Nat} {xs rest : List Str}, st.store[i]? = some (.lst ((xs ++ rest).map .str)) → xs.length = t.size → (xs ++ rest).length ≤ 100 →
    CaJ B (n + t.size) ce (.ref 148) [t.cv, .ref i] st (cS (rowOf t xs)) (st.put i (.lst (rest.map .str)))
  | .leaf k, n, ce, st, i, xs, rest, hi, hx, hl => by
    obtain ⟨x, rfl⟩ := List.length_eq_one_iff.mp hx
    have key : XsJ B n (ceAt 70) (bodyAt 70) ⟨[(Str.ofString "tree", .int k), (Str.ofString "leaves", .ref i)], st.store⟩ (.ret (cS [x])) ⟨[(Str.ofString "tree", .int k), (Str.ofString "leaves", .ref i)], st.store.set i (.lst (rest.map .str))⟩ := by
      conv in (bodyAt 70) => whnf
      exact Xs_stop (Ex_if (b := true) (Ts_plain (Ev_callB (Ev_name (by rfl)) (Es_cons (Ev_name (by rfl)) (Es_cons (Ev_name (by rfl)) Es_nil)) ca_isint) (.bool true)) (Xs_stop (Ex_ret (Ev_list (Es_cons (Ev_meth PySem.F.plainAttrs_list PySem.F.slot_list_pop PySem.F.type_list_pop (Ev_name (by rfl)) (.list hi) (Es_cons Ev_int Es_nil) (ca_pop0 hi (by simp at hl ⊢; walk_at "o"))) Es_nil) (by simp))) (by simp))) (by simp)
    exact CaJ.mk (ce := ce) (st := st) (f := .ret _) (vs := [.int k, .ref i]) H.row (.mk' (by decide +kernel)) (by rfl) rfl key (by simp)
  | .node s l r, n, ce, st, i, xs, rest, hi, hx, hl => by
    simp only [Tr.size] at hx
    have hlp := l.size_pos
    have hrp := r.size_pos
    have e1 : st.store[i]? = some (.lst ((xs.take l.size ++ (xs.drop l.size ++ rest)).map .str)) := by rw [hi, ← List.append_assoc, List.take_append_drop]
    have hll : (xs ++ rest).length = xs.length + rest.length := by simp
    have len1 := rowOf_len l (xs.take l.size) (by simp; walk_at "o")
    have len2 := rowOf_len r (xs.drop l.size) (by simp; walk_at "o")
    have hlt : i < st.store.length := (List.getElem?_eq_some_iff.mp hi).1
    obtain ⟨m, hm⟩ : ∃ m, n + (l.size + r.size) = m + 1 := ⟨n + (l.size + r.size) - 1, by walk_at "o"⟩
    have c1 : CaJ B m (ceAt 70) (.ref 148) [l.cv, .ref i] ⟨[(Str.ofString "tree", (Tr.node s l r).cv), (Str.ofString "leaves", .ref i)], st.store⟩ _ _ := CaJ.mono (ca_row H l (n := n) (rest := xs.drop l.size ++ rest) e1 (by simp; walk_at "o") (by simp; walk_at "o")) (by walk_at "o")
    have c2 : CaJ B m (ceAt 70) (.ref 148) [r.cv, .ref i] ⟨[(Str.ofString "left", cS (rowOf l (xs.take l.size))), (Str.ofString "tree", (Tr.node s l r).cv), (Str.ofString "leaves", .ref i)], st.store.set i (.lst ((xs.drop l.size ++ rest).map .str))⟩ _ _ := CaJ.mono (ca_row H r (n := n) (xs := xs.drop l.size) (rest := rest) (by simp [hlt]) (by simp; walk_at "o") (by simp; walk_at "o")) (by walk_at "o")
    have key : XsJ B m (ceAt 70) (bodyAt 70) ⟨[(Str.ofString "tree", (Tr.node s l r).cv), (Str.ofString "leaves", .ref i)], st.store⟩ (.ret (cS (rowOf (.node s l r) xs))) ⟨[(Str.ofString "left", cS (rowOf l (xs.take l.size))), (Str.ofString "tree", (Tr.node s l r).cv), (Str.ofString "leaves", .ref i)], (st.store.set i (.lst ((xs.drop l.size ++ rest).map .str))).set i (.lst (rest.map .str))⟩ := by
      conv in (bodyAt 70) => whnf
      refine Xs_cons (Ex_if (b := false) (Ts_plain (Ev_callB (Ev_name (by rfl)) (Es_cons (Ev_name (by rfl)) (Es_cons (Ev_name (by rfl)) Es_nil)) (ca_isintL (by rfl))) (.bool false)) Xs_nil) ?_
      refine Xs_cons (Ex_assign (Ev_callF (Ev_name (by rfl)) H.row.fn (Es_cons (Ev_item (v := l.cv) (Ev_name (by rfl)) Ev_int (.list (by rfl) (by decide) (by decide) (by rfl))) (Es_cons (Ev_name (by rfl)) Es_nil)) c1) (As_name (by rfl))) ?_
      refine Xs_stop (Ex_ret (J.eqv (Ev_bo (Ev_bo (Ev_bo (Ev_bo (Ev_list (Es_cons Ev_str Es_nil) (by decide)) (Ev_name (by rfl)) (.seq (.addL (by rfl) (by rfl) ?_))) (Ev_list (Es_cons (Ev_item (v := .str s) (Ev_name (by rfl)) Ev_int (.list (by rfl) (by decide) (by decide) (by rfl))) Es_nil) (by simp)) (.seq (.addL (by rfl) (by rfl) ?_))) (Ev_callF (Ev_name (by rfl)) H.row.fn (Es_cons (Ev_item (v := r.cv) (Ev_name (by rfl)) Ev_int (.list (by rfl) (by decide) (by decide) (by rfl))) (Es_cons (Ev_name (by rfl)) Es_nil)) c2) (.seq (.addL (by rfl) (by rfl) ?_))) (Ev_list (Es_cons Ev_str Es_nil) (by decide)) (.seq (.addL (by rfl) (by rfl) ?_))) ?_)) (by simp)
      · simp; walk_at "o"
      · simp; walk_at "o"
      · simp; walk_at "o"
      · simp; walk_at "o"
      · simp [rowOf]
    have hfin : (st.store.set i (.lst ((xs.drop l.size ++ rest).map .str))).set i (.lst (rest.map .str)) = st.store.set i (.lst (rest.map .str)) := List.set_set ..
    rw [hfin] at key
    have := CaJ.mk (ce := ce) (st := st) (f := .ret _) (vs := [(Tr.node s l r).cv, .ref i]) H.row (.mk' (by decide +kernel)) (by rfl) rfl key (by simp)
    simp only [Tr.size, hm]
    exact this
end
end Mine

namespace Mine
section
variable {B : Base} {n : Nat} {ce : CEnv} {st : LSt}

noncomputable abbrev amp : Str := Str.ofString "&"
noncomputable abbrev vbar : Str := Str.ofString "|"
noncomputable def Tr.ev : Tr → Nat → Bool
  | .leaf i, c => c.testBit i
  | .node s l r, c => if s == amp then l.ev c && r.ev c else l.ev c || r.ev c
noncomputable def b2i (b : Bool) : Int := if b then 1 else 0
noncomputable abbrev rv16 : Nat → CV := fun i => .int (0 + (i : Int) * 1)
theorem fn_truths (H : Law B) : ∀ (t : Tr) {n : Nat}, (∀ x ∈ t.leaves, x < 4) → FnJ B (n + t.size) (.ref 153) [t.cv] (cI ((List.range 16).map fun c => b2i (t.ev c)))
  | .leaf i, n, hx => by
    have hi : i < 4 := hx i (by simp [Tr.leaves])
    refine FnJ.of H.truths (.mk' (by decide +kernel)) (by rfl) rfl ?_ (pures_ints _)
    conv in (bodyAt 71) => whnf
    refine .if_stop (Ts_plain (Ev_callB (Ev_name (by rfl)) (Es_cons (Ev_name (by rfl)) (Es_cons (Ev_name (by rfl)) Es_nil)) ca_isint) (.bool true)) ?_
    refine .retq (Ev_compAll (val := rv16) (as := List.range 16) (out := fun c => some (.int (Builtin.bitAnd ((0 + (c : Int) * 1) / 2 ^ (i : Int).toNat) 1))) (ItE.ok (Ev_callT (Ev_name (by rfl)) (Es_cons Ev_int Es_nil) ca_range1) (IterOk.rng (k := 16) (by decide) (by decide))) (pures_rng 0 1 16) (.mk' (by decide +kernel) (by rfl))
      (fun c hc => .all (As_name (by rfl)) (Ev_bo (Ev_bo (Ev_name (by rfl)) (Ev_name (by rfl)) (.num (.shr _ _ (by walk_at "o")))) Ev_int (.num (.and _ _))) rfl .nil rfl) (by decide)) ?_
    rw [filterMap_all, cI, List.map_map]
    congr 1
    refine List.map_congr_left fun c hc => ?_
    have hc := List.mem_range.mp hc
    show CV.int _ = CV.int _
    congr 1
    have : ∀ c < 16, ∀ i < 4, Builtin.bitAnd ((0 + ((c : Nat) : Int) * 1) / 2 ^ ((i : Nat) : Int).toNat) 1 = b2i ((Tr.leaf i).ev c) := by decide +kernel
    exact this c hc i hi
  | .node s l r, n, hx => by
    have hlp := l.size_pos
    have hrp := r.size_pos
    obtain ⟨m, hm⟩ : ∃ m, n + (l.size + r.size) = m + 1 := ⟨n + (l.size + r.size) - 1, by walk_at "o"⟩
    have c1 : FnJ B m _ _ _ := (fn_truths H l (n := n) (fun x h => hx x (by simp [Tr.leaves, h]))).mono (by walk_at "o")
    have c2 : FnJ B m _ _ _ := (fn_truths H r (n := n) (fun x h => hx x (by simp [Tr.leaves, h]))).mono (by walk_at "o")
    simp only [Tr.size, hm]
    refine FnJ.of H.truths (.mk' (by decide +kernel)) (by rfl) rfl ?_ (pures_ints _)
    conv in (bodyAt 71) => whnf
    refine .else_go (Ts_plain (Ev_callB (Ev_name (by rfl)) (Es_cons (Ev_name (by rfl)) (Es_cons (Ev_name (by rfl)) Es_nil)) (ca_isintL (by rfl))) (.bool false)) ?_
    refine .cons (Ex_assign (Ev_callF (Ev_name (by rfl)) H.truths.fn (Es_cons (Ev_item (v := l.cv) (Ev_name (by rfl)) Ev_int (.list (by rfl) (by decide) (by decide) (by rfl))) Es_nil) (c1.ca (by simp [pures, l.pure]))) (As_name (by rfl))) ?_
    refine .cons (Ex_assign (Ev_callF (Ev_name (by rfl)) H.truths.fn (Es_cons (Ev_item (v := r.cv) (Ev_name (by rfl)) Ev_int (.list (by rfl) (by decide) (by decide) (by rfl))) Es_nil) (c2.ca (by simp [pures, r.pure]))) (As_name (by rfl))) ?_
    have gL : ∀ (t : Tr) (c : Nat), c < 16 → (((List.range 16).map fun c => b2i (t.ev c)).map CV.int)[(0 + (c : Int) * 1).toNat]? = some (.int (b2i (t.ev c))) := fun t c hc => by
      have : (0 + (c : Int) * 1).toNat = c := by walk_at "o"
      rw [this]; simp [hc]
    refine .retq (Ev_compAll (val := rv16) (as := List.range 16) (out := fun c => some (if s == amp then .int (b2i (l.ev c) * b2i (r.ev c)) else .int (max (b2i (l.ev c)) (b2i (r.ev c))))) (ItE.ok (Ev_callT (Ev_name (by rfl)) (Es_cons Ev_int Es_nil) ca_range1) (IterOk.rng (k := 16) (by decide) (by decide))) (pures_rng 0 1 16) (.mk' (by decide +kernel) (by rfl))
      (fun c hc => .all (As_name (by rfl)) (Ev_if2 (b := s == amp) (Ts_cmp (Ev_item (v := .str s) (Ev_name (by rfl)) Ev_int (.list (by rfl) (by decide) (by decide) (by rfl))) Ev_str (.eqS _ _)) (fun _ => (Ev_bo (Ev_item (Ev_name (by rfl)) (Ev_name (by rfl)) (.list (by rfl) ?_ ?_ (gL l c (List.mem_range.mp hc)))) (Ev_item (Ev_name (by rfl)) (Ev_name (by rfl)) (.list (by rfl) ?_ ?_ (gL r c (List.mem_range.mp hc)))) (.num (.mul _ _ ?_)))) (fun _ => (Ev_callB (Ev_name (by rfl)) (Es_cons (Ev_item (Ev_name (by rfl)) (Ev_name (by rfl)) (.list (by rfl) ?_ ?_ (gL l c (List.mem_range.mp hc)))) (Es_cons (Ev_item (Ev_name (by rfl)) (Ev_name (by rfl)) (.list (by rfl) ?_ ?_ (gL r c (List.mem_range.mp hc)))) Es_nil)) ca_max))) ?_ .nil rfl) (by decide)) ?_
    all_goals first
      | (have := List.mem_range.mp hc; walk_at "o")
      | (unfold b2i; split <;> decide)
      | (split <;> rfl)
      | skip
    rw [filterMap_all, cI, List.map_map]
    congr 1
    refine List.map_congr_left fun c hc => ?_
    simp only [Tr.ev, Function.comp]
    split <;> rename_i h <;> congr 1 <;> cases l.ev c <;> cases r.ev c <;> decide
end
end Mine

namespace Mine

/-! ## strings as lists of code points -/
noncomputable abbrev mkS (l : List Nat) : Str := ⟨l.toArray⟩
theorem mkS_app (a b : List Nat) : mkS a ++ mkS b = mkS (a ++ b) := by
  show Str.append _ _ = _
  simp [Str.append, mkS]
theorem mkS_len (a : List Nat) : (mkS a).length = a.length := by simp [Str.length, mkS]
theorem mkS_inj {a b : List Nat} : mkS a = mkS b ↔ a = b := by simp [mkS]
theorem mkS_eta (x : Str) : x = mkS x.cps.toList := by simp [mkS]
theorem chars_mkS (l : List Nat) : chars (mkS l) = l.map fun c => CV.str (mkS [c]) := by simp [chars, mkS]
theorem glued_nil : ∀ (ls : List (List Nat)) (acc : Array Nat), (ls.map mkS).foldl (fun acc p => acc ++ (mkS []).cps ++ p.cps) acc = acc ++ ls.flatten.toArray
  | [], acc => by simp
  | l :: ls, acc => by
    simp only [List.map_cons, List.foldl_cons]
    rw [glued_nil ls]
    simp [mkS]
theorem join_mkS (ls : List (List Nat)) : Txt.join (mkS []) (ls.map mkS) = mkS ls.flatten := by
  unfold Txt.join Builtin.Str.glued
  cases ls with
  | nil => simp [mkS, Str.empty]
  | cons l ls =>
    simp only [List.map_cons, List.drop_one, List.tail_cons, List.headD_cons]
    rw [glued_nil ls]
    simp [mkS]
theorem join_fits (ls : List (List Nat)) (h : ls.flatten.length ≤ 16777216) : Builtin.Str.tooLong ((ls.map mkS).toArray.foldl (· + ·.length + (mkS []).length) 0) = false := by
  have key : ∀ (ls : List (List Nat)) (k : Nat), (ls.map mkS).foldl (fun x1 x2 => x1 + x2.length + (mkS []).length) k = k + ls.flatten.length := by
    intro ls
    induction ls with
    | nil => intro k; simp
    | cons l ls ih =>
      intro k
      simp only [List.map_cons, List.foldl_cons, List.flatten_cons, List.length_append]
      rw [ih, mkS_len, mkS_len]
      simp; walk_at "o"
  unfold Builtin.Str.tooLong
  rw [List.foldl_toArray' _ _ _ (by simp), key, sizeLine_eq]
  simpa using h
theorem slice_mkS (l : List Nat) (lo hi : Option Int) : Txt.slice (mkS l) lo hi = mkS ((l.drop (lo.elim 0 (clipAt l.length))).take (hi.elim l.length (clipAt l.length) - lo.elim 0 (clipAt l.length))) := by
  have e : Builtin.Str.strSliceIndices lo hi 1 l.length = (List.range (hi.elim l.length (clipAt l.length) - lo.elim 0 (clipAt l.length))).map (lo.elim 0 (clipAt l.length) + ·) := by
    rw [← sliceRange_one]
    unfold Builtin.Str.strSliceIndices
    cases lo <;> (first|subst hi|obtain rfl:=sj hi|exact n1 hi|exact n2 hi|exact b1 hi|exact b2 hi|cases hi) <;> simp [clipAt_cast]
  have f : ((Builtin.Str.strSliceIndices lo hi 1 l.length).filterMap (l.toArray[·]?)) = (l.drop (lo.elim 0 (clipAt l.length))).take (hi.elim l.length (clipAt l.length) - lo.elim 0 (clipAt l.length)) := by
    rw [e, pick_run]
  unfold Txt.slice
  have hlen : (mkS l).length = l.length := mkS_len l
  rw [hlen]
  split
  · rename_i h
    simp only [beq_self_eq_true, Bool.true_and, beq_iff_eq] at h
    rw [← f]
    have h2 : ∀ a k, (List.range k).map (a + ·) = Builtin.Str.strSliceIndices lo hi 1 l.length → k = l.length → a + k ≤ l.length ∨ l.length = 0 → (((List.range k).map (a + ·)).filterMap (l.toArray[·]?)) = l := by
      intro a k _ hk ha
      rw [pick_run]
      rcases ha with ha | ha
      · have : a = 0 := by walk_at "o"
        subst this; simp [hk]
      · have : l = [] := List.length_eq_zero_iff.mp ha
        subst this; simp
    have hk : hi.elim l.length (clipAt l.length) - lo.elim 0 (clipAt l.length) = l.length := by rw [e] at h; simpa using h
    have hb : hi.elim l.length (clipAt l.length) ≤ l.length := by
      cases hi with
      | none => exact Nat.le_refl _
      | some i => exact Int.ofNat_le.mp (by rw [Option.elim, clipAt_cast]; exact Int.max_le.mpr ⟨Int.natCast_nonneg _, Int.min_le_right _ _⟩)
    rw [e, h2 _ _ e.symm hk (by walk_at "o")]
  · rw [show (mkS l).cps = l.toArray from rfl, f]
theorem slice_from (l : List Nat) (a : Nat) : Txt.slice (mkS l) (some a) none = mkS (l.drop a) := by
  rw [slice_mkS]
  simp only [Option.elim, clipAt_nat]
  rcases Nat.le_total a l.length with h | h
  · rw [Nat.min_eq_left h, List.take_of_length_le (by simp)]
  · rw [Nat.min_eq_right h, List.drop_of_length_le (Nat.le_refl _), List.drop_of_length_le h]; simp
theorem slice_mid (l : List Nat) (a b : Nat) : Txt.slice (mkS l) (some a) (some b) = mkS ((l.drop a).take (b - a)) := by
  rw [slice_mkS]
  simp only [Option.elim, clipAt_nat]
  rcases Nat.le_total a l.length with h | h
  · rw [Nat.min_eq_left h]
    rcases Nat.le_total b l.length with h' | h'
    · rw [Nat.min_eq_left h']
    · rw [Nat.min_eq_right h', List.take_of_length_le (by simp), List.take_of_length_le (by simp; walk_at "o")]
  · rw [Nat.min_eq_right h, List.drop_of_length_le (Nat.le_refl _), List.drop_of_length_le h]; simp
theorem slice_last (l : List Nat) (a : Nat) : Txt.slice (mkS l) (some a) (some (-1)) = mkS ((l.drop a).take (l.length - 1 - a)) := by
  have e : clipAt l.length (-1) = l.length - 1 := clipAt_neg l.length 1 (by walk_at "o")
  rw [slice_mkS]
  simp only [Option.elim, clipAt_nat, e]
  rcases Nat.le_total a l.length with h | h
  · rw [Nat.min_eq_left h]
  · rw [Nat.min_eq_right h, List.drop_of_length_le (Nat.le_refl _), List.drop_of_length_le h]; simp
theorem slice_init (l : List Nat) : Txt.slice (mkS l) none (some (-1)) = mkS (l.take (l.length - 1)) := by
  have e : clipAt l.length (-1) = l.length - 1 := clipAt_neg l.length 1 (by walk_at "o")
  rw [slice_mkS]
  simp only [Option.elim, e, List.drop_zero, Nat.sub_zero]
theorem item_mkS (l : List Nat) (i : Nat) (c : Nat) (h : l[i]? = some c) : Txt.item (mkS l) i = mkS [c] := by
  unfold Txt.item Txt.charAt seqIndex?
  have hl := (List.getElem?_eq_some_iff.mp h).1
  rw [mkS_len]
  have h0 : ¬ ((i : Int) < 0) := by walk_at "o"
  simp only [h0, if_false]
  rw [if_pos (by simp; walk_at "o")]
  simp [mkS, h]
end Mine

namespace Mine
section
variable {B : Base} {n : Nat} {ce : CEnv} {st : LSt}

noncomputable def spMark (m : Nat) : List Nat := if m = 0 then [34] else []
noncomputable def spEsc (w : List Nat) (m : Nat) : List Nat := if m = 0 then [92, 34] else if m = 1 then [92, 32, 10] else w
noncomputable def spSign (w : List Nat) (m : Nat) (c : Nat) : List Nat := if decide (c ∈ spEsc w m) then [92, c] else [c]
noncomputable def spell (w : List Nat) (m : Nat) : List Nat := spMark m ++ (w.flatMap (spSign w m)) ++ spMark m
theorem spSign_len (w : List Nat) (m c : Nat) : (spSign w m c).length ≤ 2 := by unfold spSign; split <;> simp
theorem flatMap_len {f : Nat → List Nat} (h : ∀ c, (f c).length ≤ 2) : ∀ l : List Nat, (l.flatMap f).length ≤ 2 * l.length
  | [] => by simp
  | c :: l => by
    have := flatMap_len h l
    have := h c
    simp only [List.flatMap_cons, List.length_append, List.length_cons]
    walk_at "o"
theorem fn_spelled (H : Law B) (w : List Nat) (m : Nat) (hm : m < 3) (hw : w.length ≤ 1000) : FnJ B (n + 1) (.ref 158) [.str (mkS w), .int m] (.str (mkS (spell w m))) := by
  have hmk : (spMark m).length ≤ 1 := by unfold spMark; split <;> simp
  have hfl := flatMap_len (spSign_len w m) w
  refine FnJ.of H.spelled (.mk' (by decide +kernel)) (by rfl) rfl ?_ rfl
  conv in (bodyAt 72) => whnf
  refine .cons (Ex_assign (v := .str (mkS (spMark m))) (Ev_item (Ev_list (Es_cons Ev_str (Es_cons Ev_str (Es_cons Ev_str Es_nil))) (by decide)) (Ev_name (by rfl)) (.list (by rfl) (by walk_at "o") (by walk_at "o") ?_)) (As_name (by rfl))) ?_
  · rcases (show m = 0 ∨ m = 1 ∨ m = 2 by walk_at "o") with rfl | rfl | rfl <;> rfl
  refine .retq (Ev_bo (Ev_bo (Ev_name (by rfl)) (Ev_meth (v := .str (mkS [])) PySem.F.plainAttrs_str PySem.F.slot_str_join PySem.F.type_str_join Ev_str (.str _) (Es_cons (Ev_compAll (val := fun c => .str (mkS [c])) (as := w) (out := fun c => some (if decide (c ∈ spEsc w m) then .str (mkS [92] ++ mkS [c]) else .str (mkS [c]))) (ItE.ok (Ev_name (v := .str (mkS w)) (by rfl)) IterOk.str) (pures_map (fun _ => rfl) _) (.mk' (by decide +kernel) (by rfl)) (fun c hc => .all (As_name (by rfl)) (Ev_if2 (b := decide (c ∈ spEsc w m)) (v1 := .str (mkS [92] ++ mkS [c])) (v2 := .str (mkS [c])) (J.eqb (Ts_cmp (v1 := .str ⟨#[c]⟩) (Ev_name (by rfl)) (Ev_item (v := .str (mkS (spEsc w m))) (Ev_list (Es_cons Ev_str (Es_cons Ev_str (Es_cons (Ev_name (by rfl)) Es_nil))) (by simp)) (Ev_name (by rfl)) (.list (by rfl) (by walk_at "o") (by walk_at "o") ?_)) (.inS _ _)) ?_) (fun _ => Ev_bo (v1 := .str (mkS [92])) Ev_str (Ev_name (by rfl)) (.seq (.addS _ _ ?_))) (fun _ => Ev_name (by rfl))) ?_ .nil rfl) (by walk_at "o")) Es_nil) (ca_join (ss := (w.map (spSign w m)).map mkS) ?_ ?_ ?_)) (.seq (.addS _ _ ?_))) (Ev_name (by rfl)) (.seq (.addS _ _ ?_))) ?_
  · rcases (show m = 0 ∨ m = 1 ∨ m = 2 by walk_at "o") with rfl | rfl | rfl
    · simp only [spEsc, if_true]
      show some (CV.str _) = some (CV.str _)
      congr 2
    · show some (CV.str _) = some (CV.str _)
      congr 2
    · rfl
  · simp [mkS]
  · simp [mkS_len]
  · split <;> rfl
  · rw [filterMap_all]
    show some (List.map _ _) = some (List.map _ (List.map _ (List.map _ _)))
    rw [List.map_map, List.map_map]
    congr 1
    refine List.map_congr_left fun c _ => ?_
    simp only [Function.comp, spSign]
    split <;> rename_i h <;> simp only [h, if_true, if_false, mkS_app] <;> rfl
  · rw [join_mkS, mkS_len]; simp only [← List.flatMap_def]; walk_at "o"
  · exact join_fits _ (by simp only [← List.flatMap_def]; walk_at "o")
  · rw [join_mkS, mkS_len, mkS_len]; simp only [← List.flatMap_def, List.length_append]; walk_at "o"
  · rw [join_mkS, mkS_app, mkS_len, mkS_len]; simp only [← List.flatMap_def, List.length_append]; walk_at "o"
  · rw [join_mkS, mkS_app, mkS_app]; simp only [← List.flatMap_def]; rfl
end
end Mine

namespace Mine

theorem band_nat (a b : Nat) : Builtin.bitAnd (a : Int) (b : Int) = ((a &&& b : Nat) : Int) := by
  unfold Builtin.bitAnd
  have h1 : decide (0 ≤ (a : Int)) = true := by simp
  have h2 : decide (0 ≤ (b : Int)) = true := by simp
  rw [h1, h2]
  simp
theorem bor_nat (a b : Nat) : Builtin.bitOr (a : Int) (b : Int) = ((a ||| b : Nat) : Int) := by
  unfold Builtin.bitOr
  have e : Builtin.bitAnd (Builtin.bitNot (a : Int)) (Builtin.bitNot (b : Int)) = Builtin.bitNot ((a ||| b : Nat) : Int) := by
    unfold Builtin.bitAnd
    have h1 : decide (0 ≤ Builtin.bitNot (a : Int)) = false := by unfold Builtin.bitNot; simp; walk_at "o"
    have h2 : decide (0 ≤ Builtin.bitNot (b : Int)) = false := by unfold Builtin.bitNot; simp; walk_at "o"
    have g1 : (Builtin.bitNot (Builtin.bitNot (a : Int))).toNat = a := by unfold Builtin.bitNot; walk_at "o"
    have g2 : (Builtin.bitNot (Builtin.bitNot (b : Int))).toNat = b := by unfold Builtin.bitNot; walk_at "o"
    rw [h1, h2, g1, g2]
  rw [e]
  unfold Builtin.bitNot
  walk_at "o"
theorem bxor_low (x s : Nat) : Builtin.bitXor (x : Int) ((x / 2 ^ s * 2 ^ s : Nat) : Int) = ((x % 2 ^ s : Nat) : Int) := by
  unfold Builtin.bitXor
  rw [bor_nat, band_nat]
  have e1 : x / 2 ^ s * 2 ^ s = (x >>> s) <<< s := by rw [Nat.shiftRight_eq_div_pow, Nat.shiftLeft_eq]
  have e2 : x ||| (x / 2 ^ s * 2 ^ s) = x := by
    rw [e1]
    refine Nat.eq_of_testBit_eq fun i => ?_
    rw [Nat.testBit_or, Nat.testBit_shiftLeft, Nat.testBit_shiftRight]
    by_cases h : s ≤ i
    · have : s + (i - s) = i := by walk_at "o"
      simp [h, this]
    · simp [h]
  have e3 : x &&& (x / 2 ^ s * 2 ^ s) = x / 2 ^ s * 2 ^ s := by
    rw [e1]
    refine Nat.eq_of_testBit_eq fun i => ?_
    rw [Nat.testBit_and, Nat.testBit_shiftLeft, Nat.testBit_shiftRight]
    by_cases h : s ≤ i
    · have : s + (i - s) = i := by walk_at "o"
      simp [h, this]
    · simp [h]
  rw [e2, e3]
  have := Nat.div_add_mod x (2 ^ s)
  have h2 : 2 ^ s * (x / 2 ^ s) = x / 2 ^ s * 2 ^ s := Nat.mul_comm _ _
  walk_at "o"

/-- the digits of a number, the lowest first -/
noncomputable def digs (w x : Nat) : Nat → List Nat
  | 0 => []
  | k + 1 => x % 2 ^ w :: digs w (x / 2 ^ w) k
theorem digs_len (w : Nat) : ∀ (k x : Nat), (digs w x k).length = k
  | 0, _ => rfl
  | k + 1, x => by simp [digs, digs_len w k]
theorem digs_app (w : Nat) : ∀ (a b x : Nat), digs w x (a + b) = digs w (x % 2 ^ (w * a)) a ++ digs w (x / 2 ^ (w * a)) b
  | 0, b, x => by simp [digs]
  | a + 1, b, x => by
    have e0 : 2 ^ (w * (a + 1)) = 2 ^ w * 2 ^ (w * a) := by rw [← Nat.pow_add]; congr 1; rw [Nat.mul_add]; walk_at "o"
    rw [show a + 1 + b = (a + b) + 1 by walk_at "o"]
    simp only [digs, List.cons_append]
    rw [digs_app w a b]
    have e1 : x % 2 ^ (w * (a + 1)) % 2 ^ w = x % 2 ^ w := by rw [e0]; exact Nat.mod_mul_right_mod _ _ _
    have e2 : x % 2 ^ (w * (a + 1)) / 2 ^ w = x / 2 ^ w % 2 ^ (w * a) := by rw [e0]; exact Nat.mod_mul_right_div_self _ _ _
    have e3 : x / 2 ^ (w * (a + 1)) = x / 2 ^ w / 2 ^ (w * a) := by rw [e0, Nat.div_div_eq_div_mul]
    rw [e1, e2, e3]

section
variable {B : Base} {n : Nat} {ce : CEnv} {st : LSt}

noncomputable def innerDef : Stmt := ((bodyAt 4)[1]?).getD (.Pass ⟨0, 0, 0, 0⟩)
noncomputable abbrev ci (l : List Nat) : List CV := l.map fun (k : Nat) => CV.int k
noncomputable abbrev inFree (w : Nat) : List (Str × CV) := [(Str.ofString "a_digits", .ref 0), (Str.ofString "inner", .ref 1), (Str.ofString "n", .int w)]
noncomputable abbrev inClo (w : Nat) : CO := .clo [Str.ofString "x", Str.ofString "L", Str.ofString "R"] (.stmts (bodyOf innerDef)) (scopeOf innerDef) (inFree w)
theorem halves {L k len m n : Nat} (h1 : 2 ≤ k) (h2 : L + k ≤ len) (h3 : n + k = m + 1) : k = k / 2 + (k - k / 2) ∧ 1 ≤ k / 2 ∧ 1 ≤ k - k / 2 ∧ k / 2 < k ∧ k - k / 2 < k ∧ n + k / 2 ≤ m ∧ n + (k - k / 2) ≤ m ∧ L + k / 2 ≤ len ∧ L + k / 2 + (k - k / 2) = L + k ∧ L + k / 2 + (k - k / 2) ≤ len ∧ L + k / 2 + (L + k - (L + k / 2)) = L + k := by
  have e : k / 2 + (k - k / 2) = k := Nat.add_sub_cancel' (Nat.div_le_self _ _)
  have ha : 0 < k / 2 := Nat.div_pos h1 (by decide)
  have hb : 0 < k - k / 2 := Nat.sub_pos_of_lt (Nat.div_lt_self (Nat.le_trans (by decide) h1) (by decide))
  generalize k / 2 = a at *
  generalize k - a = b at *
  subst e
  exact ⟨rfl, ha, hb, Nat.lt_add_of_pos_right hb, Nat.lt_add_of_pos_left ha, Nat.le_of_lt_succ (Nat.lt_of_lt_of_eq (Nat.add_lt_add_left (Nat.lt_add_of_pos_right hb) n) h3), Nat.le_of_lt_succ (Nat.lt_of_lt_of_eq (Nat.add_lt_add_left (Nat.lt_add_of_pos_left ha) n) h3),
    Nat.le_trans (Nat.add_le_add_left (Nat.le_add_right a b) L) h2, Nat.add_assoc .., (Nat.add_assoc L a b).symm ▸ h2, Nat.add_sub_cancel' (Nat.add_le_add_left (Nat.le_add_right a b) L)⟩
theorem ca_inner (w : Nat) (hw : w ≤ 16) : ∀ (k : Nat) {n : Nat} {ce : CEnv} {vars : List (Str × CV)} (x L : Nat) (ds : List Nat), 1 ≤ k → L + k ≤ ds.length → ds.length ≤ 1000 → x < 2 ^ (w * k) → x < 2 ^ 32 →
    CaC B (n + k) ce 1 [.int x, .int L, .int ((L + k : Nat) : Int)] ⟨vars, [.lst (ci ds), inClo w]⟩ .none ⟨vars, [.lst (ci (ds.take L ++ digs w x k ++ ds.drop (L + k))), inClo w]⟩ := by
  intro k
  induction k using Nat.strongRecOn with
  | _ k ih =>
    intro n ce vars x L ds hk hL hds hx hx32
    have F : FunOk (scopeOf innerDef) (inFree w) [Str.ofString "x", Str.ofString "L", Str.ofString "R"] := ⟨by decide +kernel, by decide +kernel, by
      intro y hy
      simp only [List.mem_cons, List.not_mem_nil, or_false] at hy
      rcases hy with rfl | rfl | rfl <;> rfl, by decide +kernel, by decide +kernel⟩
    obtain ⟨m, hm⟩ : ∃ m, n + k = m + 1 := ⟨n + k - 1, by walk_at "o"⟩
    rw [hm]
    by_cases h1 : k = 1
    · subst h1
      have key : XsJ B m ⟨scopeOf innerDef, inFree w⟩ (bodyOf innerDef) ⟨[(Str.ofString "x", .int x), (Str.ofString "L", .int L), (Str.ofString "R", .int ((L + 1 : Nat) : Int))], [.lst (ci ds), inClo w]⟩ (.ret .none)
          ⟨[(Str.ofString "x", .int x), (Str.ofString "L", .int L), (Str.ofString "R", .int ((L + 1 : Nat) : Int))], [.lst ((ci ds).set (L : Int).toNat (.int x)), inClo w]⟩ := by
        conv in (bodyOf innerDef) => whnf
        exact Xs_stop (Ex_if (b := true) (J.eqb (Ts_cmp (Ev_bo (Ev_name (by rfl)) Ev_int (.num (.add _ _))) (Ev_name (by rfl)) (.eqI _ _)) (by simp)) (Xs_cons (Ex_assign (Ev_name (by rfl)) (As_item (Ev_name (by rfl)) (Ev_name (by rfl)) (by rfl) (by walk_at "o") (by simp; walk_at "o") (by walk_at "o"))) (Xs_stop Ex_ret_none (by simp)))) (by simp)
      have e : (ci ds).set (L : Int).toNat (.int x) = ci (ds.take L ++ digs w x 1 ++ ds.drop (L + 1)) := by
        have hxm : x % 2 ^ w = x := Nat.mod_eq_of_lt (by simpa using hx)
        simp only [digs, hxm, Int.toNat_natCast, List.map_append, List.map_cons, List.map_nil, ← List.map_take, ← List.map_drop]
        rw [List.set_eq_take_append_cons_drop]
        simp [show L < ds.length by walk_at "o"]
      rw [e] at key
      exact CaC.mk (ce := ce) (st := ⟨vars, [.lst (ci ds), inClo w]⟩) (f := .ret .none) (vs := [.int x, .int L, .int ((L + 1 : Nat) : Int)]) (by rfl) F (by rfl) rfl key rfl
    · have hk2 : 2 ≤ k := by walk_at "o"
      obtain ⟨hsplit, g1, g2, g3, g4, g5, g6, g7, g8, g9, g10⟩ := halves hk2 hL hm
      have hs : 2 ^ (w * k) = 2 ^ (w * (k / 2)) * 2 ^ (w * (k - k / 2)) := by rw [← Nat.pow_add, ← Nat.mul_add, ← hsplit]
      have hup : x / 2 ^ (w * (k / 2)) < 2 ^ (w * (k - k / 2)) := Nat.div_lt_of_lt_mul (by rw [← hs]; exact hx)
      have hup32 : x / 2 ^ (w * (k / 2)) < 2 ^ 32 := Nat.lt_of_le_of_lt (Nat.div_le_self _ _) hx32
      have hlo : x % 2 ^ (w * (k / 2)) < 2 ^ (w * (k / 2)) := Nat.mod_lt _ (Nat.two_pow_pos _)
      have hlo32 : x % 2 ^ (w * (k / 2)) < 2 ^ 32 := Nat.lt_of_le_of_lt (Nat.mod_le _ _) hx32
      have c1 := fun vars => CaC.mono (m := m) (ih (k / 2) (by walk_at "o") (n := n) (ce := ⟨scopeOf innerDef, inFree w⟩) (vars := vars) (x % 2 ^ (w * (k / 2))) L ds (by walk_at "o") (by walk_at "o") hds hlo hlo32) (by walk_at "o")
      have hl1 : (ds.take L ++ digs w (x % 2 ^ (w * (k / 2))) (k / 2) ++ ds.drop (L + k / 2)).length = ds.length := by simp [digs_len]; walk_at "o"
      have c2 := fun vars => CaC.mono (m := m) (ih (k - k / 2) (by walk_at "o") (n := n) (ce := ⟨scopeOf innerDef, inFree w⟩) (vars := vars) (x / 2 ^ (w * (k / 2))) (L + k / 2) (ds.take L ++ digs w (x % 2 ^ (w * (k / 2))) (k / 2) ++ ds.drop (L + k / 2)) (by walk_at "o") (by walk_at "o") (by walk_at "o") hup hup32) (by walk_at "o")
      rw [show L + k / 2 + (k - k / 2) = L + k by walk_at "o"] at c2
      have hfin : (ds.take L ++ digs w (x % 2 ^ (w * (k / 2))) (k / 2) ++ ds.drop (L + k / 2)).take (L + k / 2) ++ digs w (x / 2 ^ (w * (k / 2))) (k - k / 2) ++ (ds.take L ++ digs w (x % 2 ^ (w * (k / 2))) (k / 2) ++ ds.drop (L + k / 2)).drop (L + k) = ds.take L ++ digs w x k ++ ds.drop (L + k) := by
        have hA : (ds.take L ++ digs w (x % 2 ^ (w * (k / 2))) (k / 2)).length = L + k / 2 := by simp [digs_len]; walk_at "o"
        rw [List.take_append_of_le_length (by walk_at "o"), List.take_of_length_le (by walk_at "o")]
        rw [List.drop_append, List.drop_of_length_le (by walk_at "o"), List.nil_append, List.drop_drop, hA]
        rw [show L + k / 2 + (L + k - (L + k / 2)) = L + k by walk_at "o"]
        conv => rhs; rw [hsplit, digs_app]
        simp only [← hsplit, List.append_assoc]
      rw [hfin] at c2
      have key : XsJ B m ⟨scopeOf innerDef, inFree w⟩ (bodyOf innerDef) ⟨[(Str.ofString "x", .int x), (Str.ofString "L", .int L), (Str.ofString "R", .int ((L + k : Nat) : Int))], [.lst (ci ds), inClo w]⟩ .nxt
          ⟨[(Str.ofString "lower", .int ((x % 2 ^ (w * (k / 2)) : Nat) : Int)), (Str.ofString "upper", .int ((x / 2 ^ (w * (k / 2)) : Nat) : Int)), (Str.ofString "shift", .int ((w * (k / 2) : Nat) : Int)), (Str.ofString "mid", .int ((L + k / 2 : Nat) : Int)), (Str.ofString "x", .int x), (Str.ofString "L", .int L), (Str.ofString "R", .int ((L + k : Nat) : Int))], [.lst (ci (ds.take L ++ digs w x k ++ ds.drop (L + k))), inClo w]⟩ := by
        conv in (bodyOf innerDef) => whnf
        refine Xs_cons (Ex_if (b := false) (J.eqb (Ts_cmp (Ev_bo (Ev_name (by rfl)) Ev_int (.num (.add _ _))) (Ev_name (by rfl)) (.eqI _ _)) (by simp; walk_at "o")) Xs_nil) ?_
        refine Xs_cons (Ex_assign (v := .int ((L + k / 2 : Nat) : Int)) (J.eqv (Ev_bo (Ev_bo (Ev_name (by rfl)) (Ev_name (by rfl)) (.num (.add _ _))) Ev_int (.num (.shr _ _ (by decide)))) ?_) (As_name (by rfl))) ?_
        · congr 1
          show ((L : Int) + ((L + k : Nat) : Int)) / 2 = _
          walk_at "o"
        refine Xs_cons (Ex_assign (v := .int ((w * (k / 2) : Nat) : Int)) (J.eqv (Ev_bo (Ev_bo (Ev_name (by rfl)) (Ev_name (by rfl)) (.num (.sub _ _))) (Ev_name (by rfl)) (.num (.mul _ _ (by walk_at "o")))) ?_) (As_name (by rfl))) ?_
        · congr 1
          rw [show ((L + k / 2 : Nat) : Int) - (L : Int) = ((k / 2 : Nat) : Int) by walk_at "o", ← Int.natCast_mul, Nat.mul_comm]
        refine Xs_cons (Ex_assign (v := .int ((x / 2 ^ (w * (k / 2)) : Nat) : Int)) (J.eqv (Ev_bo (Ev_name (by rfl)) (Ev_name (by rfl)) (.num (.shr _ _ (by walk_at "o")))) ?_) (As_name (by rfl))) ?_
        · congr 1
        refine Xs_cons (Ex_assign (v := .int ((x % 2 ^ (w * (k / 2)) : Nat) : Int)) (J.eqv (Ev_bo (Ev_name (by rfl)) (J.eqv (v1 := .int ((x / 2 ^ (w * (k / 2)) * 2 ^ (w * (k / 2)) : Nat) : Int)) (Ev_bo (Ev_name (by rfl)) (Ev_name (by rfl)) (.num (.shl _ _ (by walk_at "o") ?_ ?_))) ?_) (.num (.xor _ _))) ?_) (As_name (by rfl))) ?_
        · have : w * (k / 2) ≤ 16 * 1000 := Nat.mul_le_mul hw (by walk_at "o")
          walk_at "o"
        · have := hup32
          simp only [Int.natAbs_natCast]
          exact Nat.lt_of_lt_of_le hup32 (by decide)
        · congr 1
        · congr 1
          exact bxor_low x _
        refine Xs_cons (Ex_expr (hi := by rfl) (Ev_callC (Ev_name (by rfl)) (Es_cons (Ev_name (by rfl)) (Es_cons (Ev_name (by rfl)) (Es_cons (Ev_name (by rfl)) Es_nil))) (by rfl) (c1 _))) ?_
        exact Xs_cons (Ex_expr (hi := by rfl) (Ev_callC (Ev_name (by rfl)) (Es_cons (Ev_name (by rfl)) (Es_cons (Ev_name (by rfl)) (Es_cons (Ev_name (by rfl)) Es_nil))) (by rfl) (c2 _))) Xs_nil
      exact CaC.mk (ce := ce) (st := ⟨vars, [.lst (ci ds), inClo w]⟩) (f := .nxt) (vs := [.int x, .int L, .int ((L + k : Nat) : Int)]) (by rfl) F (by rfl) rfl key rfl
theorem look3 {a b c : Str} {u v w : CV} {M : Str → CV → Prop} (h1 : M a u) (h2 : M b v) (h3 : M c w) {x : Str} {cv : CV} (h : [(a, u), (b, v), (c, w)].lookup x = some cv) : M x cv := by
  have := mem_lookup h
  simp only [List.mem_cons, Prod.mk.injEq, List.not_mem_nil, or_false] at this
  rcases this with ⟨rfl, rfl⟩ | ⟨rfl, rfl⟩ | ⟨rfl, rfl⟩
  · exact h1
  · exact h2
  · exact h3
theorem all_kind {names : List (Str × NameKind)} {k : NameKind} {M : Str → Bool} (h : names.all (fun p => !decide (p.2 = k) || M p.1) = true) {x : Str} (hx : (x, k) ∈ names) : M x = true := by
  have := List.all_eq_true.mp h _ hx
  simpa using this
end
end Mine

namespace Mine
section
variable {B : Base} {n : Nat} {ce : CEnv} {st : LSt}

/-- how many digits -/
noncomputable def ndig (a w : Nat) : Nat := (Builtin.Int.intBits (a : Int) + w - 1) / w
noncomputable def int2digits (a w : Nat) : List Nat := digs w a (ndig a w)
theorem bits_lt (a : Nat) : a < 2 ^ Builtin.Int.intBits (a : Int) := by
  unfold Builtin.Int.intBits
  by_cases h : a = 0
  · subst h; simp
  · have : ((a : Int) == 0) = false := by simpa using h
    rw [this]
    simp only [Bool.false_eq_true, if_false, Int.natAbs_natCast]
    exact Nat.lt_log2_self
theorem ndig_ok (a w : Nat) (hw : 1 ≤ w) : a < 2 ^ (w * ndig a w) := by
  refine Nat.lt_of_lt_of_le (bits_lt a) (Nat.pow_le_pow_right (by decide) ?_)
  unfold ndig
  have := Nat.div_add_mod (Builtin.Int.intBits (a : Int) + w - 1) w
  have := Nat.mod_lt (Builtin.Int.intBits (a : Int) + w - 1) (show 0 < w by walk_at "o")
  walk_at "o"
theorem bits_le (a : Nat) (h : a < 2 ^ 32) : Builtin.Int.intBits (a : Int) ≤ 32 := by
  unfold Builtin.Int.intBits
  split
  · walk_at "o"
  · simp only [Int.natAbs_natCast]
    rename_i h0
    have h0' : a ≠ 0 := fun q => h0 (by subst q; rfl)
    have := (Nat.log2_lt h0').mpr h
    walk_at "o"
theorem ndig_le (a w : Nat) (hw : 1 ≤ w) (h : a < 2 ^ 32) : ndig a w ≤ 32 := by
  unfold ndig
  have := bits_le a h
  rw [Nat.div_le_iff_le_mul_add_pred (by walk_at "o")]
  have : 32 ≤ w * 32 := Nat.le_mul_of_pos_left _ (by walk_at "o")
  walk_at "o"

theorem fn_int2digits (H : Law B) (T : TabFn B 35 (posOf innerDef) (nameOf innerDef)) (a w : Nat) (hw : 1 ≤ w) (hw2 : w ≤ 16) (ha : a < 2 ^ 32) : FnJ B (n + 33) (.ref 35) [.int a, .int w] (.list (ci (int2digits a w))) := fun A P K g s xs Q E hA I hx hQ => by
  have hnd := ndig_le a w hw ha
  obtain ⟨o, fd, e1, e2, e3⟩ := H.int2digits.ok
  obtain ⟨t, ht, hl, hc, hcode⟩ := T.ok
  obtain ⟨hc1, hc2⟩ := hcode o fd e1 e2
  refine call_ok (StO.nil I) (n := n + 32) hA (I.h0 _ _ e1) e2 (e3.mono I.base) (by rfl) (.mk' (by decide +kernel)) .nil hx rfl fun A' env' X' s' E' hA' hι hcq R' => ?_
  obtain ⟨q1, q2⟩ := hcq
  rw [hc1] at q1
  conv in (bodyAt 4) => whnf
  have hbits := bits_le a ha
  have hz : (List.replicate ((ndig a w : Nat) : Int).toNat [CV.int 0]).flatten = ci (List.replicate (ndig a w) 0) := by
    rw [Int.toNat_natCast]
    generalize ndig a w = k
    induction k with
    | zero => rfl
    | succ k ih => simp only [List.replicate_succ, List.flatten_cons, ih, List.map_cons]; rfl
  have hnE : ((Builtin.Int.intBits (a : Int) : Int) + (w : Int) - 1) / (w : Int) = ((ndig a w : Nat) : Int) := by
    unfold ndig
    rw [Int.natCast_ediv]
    congr 1
    walk_at "o"
  refine exec_step (Ex_assign (Ev_mulM (k := ((ndig a w : Nat) : Int)) (Ev_list (Es_cons Ev_int Es_nil) (by decide)) (J.eqv (Ev_bo (Ev_bo (Ev_bo (Ev_meth PySem.F.plainAttrs_int PySem.F.slot_int_bit_length PySem.F.type_int_bit_length (Ev_name (v := .int a) (by rfl)) (.int _) Es_nil ca_bits) (Ev_name (v := .int w) (by rfl)) (.num (.add _ _))) Ev_int (.num (.sub _ _))) (Ev_name (v := .int w) (by rfl)) (.num (.div _ _ (by walk_at "o") (by walk_at "o")))) (congrArg CV.int hnE)) (by rfl) (by simp; walk_at "o") (by walk_at "o") (by walk_at "o")) (As_name (by rfl))) hA' R' fun P1 X1 s1 lP1 lX1 R1 => ?_
  have hq : qualnameIn env' (nameOf innerDef) (nameOf innerDef) = t.qual := by
    unfold qualnameIn
    have : env'.kindOf (nameOf innerDef) = some .cell := by unfold Env.kindOf; rw [R'.env.scope]; rfl
    rw [this, q2]
    exact hc2
  have hks : ∀ x, (x, NameKind.free) ∈ (scopeOf innerDef).names → (scopeAt 4).names.lookup x = some .cell := fun x hx => of_decide_eq_true (all_kind (M := fun x => decide ((scopeAt 4).names.lookup x = some .cell)) (by kernel_rfl) hx)
  have hkc : ∀ x, (x, NameKind.free) ∈ (scopeOf innerDef).names → ∃ c, env'.cells.lookup x = some c := fun x hx => let ⟨c, h, _⟩ := R1.env.cell x (hks x hx) rfl; ⟨c, h⟩
  have hcl : closureFor (scopeOf innerDef) env' = pure (closL env'.cells (scopeOf innerDef).names []) := closureFor_eq hkc
  refine exec_def' (nestDef_K rfl rfl rfl ?_)
  show wpAny _ _ (makeFunction (nameOf innerDef) (qualnameIn env' (nameOf innerDef) (nameOf innerDef)) _ (.stmts (bodyOf innerDef)) (scopeOf innerDef) env' [] [] [] (posOf innerDef) (posOf innerDef).line) _ _ _
  rw [hq]
  refine R1.def_ok ht (ps := [Str.ofString "x", Str.ofString "L", Str.ofString "R"]) (q1 : env'.code = .ref t.c) hl hc hcl (fun doc pm cv ctv vs hvs => ?_) fun P2 s2 f o2 fd2 lP2 R2 f1 f2 f3 f4 => ?_
  · obtain ⟨x, y, z, rfl⟩ := len3 hvs
    rfl
  refine store_ok (v := .cst (.ref f)) (by rfl) R2 (.cst _) fun s3 R3 => ⟨rfl, ?_⟩
  obtain ⟨P3, lP3, R4, hseal⟩ := R3.seal (fr := [(Str.ofString "a_digits", .ref 0), (Str.ofString "inner", .cst (.ref f)), (Str.ofString "n", .int w)])
    (fun x cv hx => by refine look3 (M := fun x cv => (scopeAt 4).names.lookup x = some .cell ∧ List.lookup x _ = some cv) ?_ ?_ ?_ hx <;> exact ⟨rfl, rfl⟩) rfl (fun x hx => all_kind (M := fun x => (List.lookup x ([(Str.ofString "a_digits", CV.ref 0), (Str.ofString "inner", CV.cst (.ref f)), (Str.ofString "n", CV.int w)] : List (Str × CV))).isSome) (by kernel_rfl) (mem_lookup hx))
  have hιl : X1.ι.length = 1 := R4.sto.length
  have hclg : ∀ x c, (x, NameKind.free) ∈ (scopeOf innerDef).names → env'.cells.lookup x = some c → (closL env'.cells (scopeOf innerDef).names []).lookup x = some c := fun x c hx hc => (closL_get hkc hx).trans hc
  have hcellOf : ∀ x cv, [(Str.ofString "a_digits", CV.ref 0), (Str.ofString "inner", CV.cst (.ref f)), (Str.ofString "n", CV.int w)].lookup x = some cv → ∃ c oc v, env'.cells.lookup x = some c ∧ P3 c = some oc ∧ oc.data = .cell (some v) ∧ VR P3 X1.ι cv v := fun x cv hx => by
    have hk : (scopeAt 4).names.lookup x = some .cell := look3 (M := fun x _ => (scopeAt 4).names.lookup x = some .cell) rfl rfl rfl hx
    obtain ⟨c, h, _⟩ := R1.env.cell x hk rfl
    obtain ⟨oc, v, a1, a2, a3⟩ := hseal x c h cv hx
    exact ⟨c, oc, v, h, a1, a2, a3⟩
  obtain ⟨hX5, R5, hv5⟩ := R4.addClo (free := inFree w) (lP3 _ _ f1) f2 f3 (f4.mono lP3) (fun x cv hx => by
    refine look3 (M := fun x cv => (scopeOf innerDef).names.lookup x = some .free ∧ ∃ c v oc, List.lookup x _ = some c ∧ P3 c = some oc ∧ oc.data = .cell (some v) ∧ VR P3 _ cv v) ?_ ?_ ?_ hx
    · obtain ⟨c, oc, v, a1, a2, a3, a4⟩ := hcellOf (Str.ofString "a_digits") (.ref 0) (by rfl)
      exact ⟨by rfl, c, v, oc, hclg _ c (mem_lookup (by rfl)) a1, a2, a3, a4.mono (.refl _) ⟨_, rfl⟩⟩
    · obtain ⟨c, oc, v, a1, a2, a3, a4⟩ := hcellOf (Str.ofString "inner") (.cst (.ref f)) (by rfl)
      obtain ⟨_, rfl⟩ := a4.inv
      exact ⟨by rfl, c, _, oc, hclg _ c (mem_lookup (by rfl)) a1, a2, a3, .ref (xs := []) (by
        show (X1.ι ++ [(f, [])])[1]? = _
        rw [List.getElem?_append_right (by walk_at "o")]; simp [hιl])⟩
    · obtain ⟨c, oc, v, a1, a2, a3, a4⟩ := hcellOf (Str.ofString "n") (.int w) (by rfl)
      exact ⟨by rfl, c, v, oc, hclg _ c (mem_lookup (by rfl)) a1, a2, a3, a4.mono (.refl _) ⟨_, rfl⟩⟩)
  have R6 := R5.refree (fr' := inFree w) (fun x cv hx => by
    refine look3 (M := fun x cv => ∃ cv0, List.lookup x _ = some cv0 ∧ ∀ v, VR P3 _ cv0 v → VR P3 _ cv v) ?_ ?_ ?_ hx
    · exact ⟨.ref 0, by rfl, fun v h => h⟩
    · exact ⟨.cst (.ref f), by rfl, fun v h => by obtain ⟨_, rfl⟩ := h.inv; exact hv5⟩
    · exact ⟨.int w, by rfl, fun v h => h⟩) rfl
  have hz' : ∀ k : Nat, (ci (List.replicate k 0)).length = k := fun k => by simp
  have fin : ∀ P7 X7 s7 vars, Le P3 P7 → Rel B P7 K g X7 ⟨scopeAt 4, inFree w⟩ env' ⟨vars, [.lst (ci (int2digits a w)), inClo w]⟩ s7 → ∀ av, VR P7 X7.ι (.ref 0) av → Q av s7 := fun P7 X7 s7 vars lP7 R7 av hav => by
    obtain ⟨P8, lP8, R8, hr⟩ := R7.freeze (i := 0) (vs := ci (int2digits a w)) (by rfl) hav
    exact hQ P8 s7 av (lP1.trans (lP2.trans (lP3.trans (lP7.trans lP8)))) R8.inv (hr.pure' (by simp only [CV.pure]; exact pures_map (fun _ => rfl) _))
  have hndeq : (ci (List.replicate (ndig a w) 0)) = (List.replicate ((ndig a w : Nat) : Int).toNat [CV.int 0]).flatten := hz.symm
  have R7 : Rel B P3 K g ⟨X1.L, [], X1.ι ++ [(f, [])]⟩ ⟨scopeAt 4, inFree w⟩ env' ⟨[(Str.ofString "inner", .cst (.ref f)), (Str.ofString "a_digits", .ref 0), (Str.ofString "a", .int a), (Str.ofString "n", .int w)], [.lst (ci (List.replicate (ndig a w) 0)), inClo w]⟩ s3 := by
    rw [hndeq]; exact R6
  by_cases h0 : a = 0
  · have e0 : int2digits a w = List.replicate (ndig a w) 0 := by
      subst h0
      have : ndig 0 w = 0 := by
        unfold ndig
        rw [Nat.div_eq_zero_iff]
        simp [Builtin.Int.intBits]; walk_at "o"
      unfold int2digits
      rw [this]; rfl
    rw [← e0] at R7
    refine exec_step (Ex_if (b := false) (Ts_plain (Ev_name (v := .int a) (by rfl)) (by rw [show false = ((a : Int) != 0) by simp [h0]]; exact .int _)) Xs_nil) hA' R7 fun P8 X8 s8 lP8 lX8 R8 => ?_
    refine (Xs_stop (Ex_ret (Ev_name (v := .ref 0) (by rfl))) (by simp)) A' env' P8 K g X8 s8 _ E' hA' R8 fun P9 X9 s9 fl lP9 lX9 R9 rf => ?_
    obtain ⟨_, rfl, rv⟩ := rf.ret_inv; exact fin P9 X9 s9 _ (lP8.trans lP9) R9 _ rv
  · have hk1 : 1 ≤ ndig a w := by
      rcases Nat.eq_zero_or_pos (ndig a w) with h | h
      · have := ndig_ok a w hw
        rw [h] at this; simp at this; walk_at "o"
      · exact h
    have c := fun vars => CaC.mono (m := n + 32) (ca_inner (B := B) w hw2 (ndig a w) (n := 0) (ce := ⟨scopeAt 4, inFree w⟩) (vars := vars) a 0 (List.replicate (ndig a w) 0) hk1 (by simp) (by simp; walk_at "o") (ndig_ok a w hw) ha) (by walk_at "o")
    have e0 : (List.replicate (ndig a w) 0).take 0 ++ digs w a (ndig a w) ++ (List.replicate (ndig a w) 0).drop (0 + ndig a w) = int2digits a w := by simp [int2digits]
    rw [e0] at c
    refine exec_step (Ex_if (b := true) (Ts_plain (Ev_name (v := .int a) (by rfl)) (by rw [show true = ((a : Int) != 0) by simp [h0]]; exact .int _)) (Xs_cons (Ex_expr (hi := by rfl) (Ev_callC (Ev_name (by rfl)) (Es_cons (Ev_name (v := .int a) (by rfl)) (Es_cons (J.eqv (v1 := .int ((0 : Nat) : Int)) Ev_int rfl) (Es_cons (J.eqv (v1 := .int ((0 + ndig a w : Nat) : Int)) (Ev_callB (Ev_name (by rfl)) (Es_cons (Ev_name (v := .ref 0) (by rfl)) Es_nil) (ca_len (vs := ci (List.replicate (ndig a w) 0)) (by rfl) (by simp; walk_at "o"))) (by simp)) Es_nil))) (by rfl) (c _))) Xs_nil)) hA' R7 fun P8 X8 s8 lP8 lX8 R8 => ?_
    refine (Xs_stop (Ex_ret (Ev_name (v := .ref 0) (by rfl))) (by simp)) A' env' P8 K g X8 s8 _ E' hA' R8 fun P9 X9 s9 fl lP9 lX9 R9 rf => ?_
    obtain ⟨_, rfl, rv⟩ := rf.ret_inv; exact fin P9 X9 s9 _ (lP8.trans lP9) R9 _ rv
end
end Mine

namespace Mine
section
variable {B : Base} {n : Nat} {ce : CEnv} {st : LSt}

noncomputable def undig (w : Nat) : List Nat → Nat
  | [] => 0
  | d :: ds => d + 2 ^ w * undig w ds
theorem undig_app (w : Nat) : ∀ (a b : List Nat), undig w (a ++ b) = undig w a + 2 ^ (w * a.length) * undig w b
  | [], b => by simp [undig]
  | d :: a, b => by
    simp only [List.cons_append, undig, undig_app w a b, List.length_cons]
    rw [show w * (a.length + 1) = w + w * a.length by rw [Nat.mul_add]; walk_at "o", Nat.pow_add, Nat.mul_add, Nat.mul_assoc]
    walk_at "o"
theorem undig_lt (w : Nat) : ∀ (a : List Nat), (∀ d ∈ a, d < 2 ^ w) → undig w a < 2 ^ (w * a.length)
  | [], _ => by simp [undig]
  | d :: a, h => by
    have h1 := h d (.head _)
    have h2 := undig_lt w a fun x hx => h x (.tail _ hx)
    simp only [undig, List.length_cons]
    rw [show w * (a.length + 1) = w + w * a.length by rw [Nat.mul_add]; walk_at "o", Nat.pow_add]
    calc d + 2 ^ w * undig w a < 2 ^ w + 2 ^ w * undig w a := by walk_at "o"
      _ = 2 ^ w * (undig w a + 1) := by rw [Nat.mul_add]; walk_at "o"
      _ ≤ 2 ^ w * 2 ^ (w * a.length) := Nat.mul_le_mul_left _ h2

noncomputable def innerDef2 : Stmt := ((bodyAt 5)[0]?).getD (.Pass ⟨0, 0, 0, 0⟩)
noncomputable abbrev inFree2 (w : Nat) (ds : List Nat) : List (Str × CV) := [(Str.ofString "digits", .list (ci ds)), (Str.ofString "inner", .ref 0), (Str.ofString "n", .int w)]
noncomputable abbrev inClo2 (w : Nat) (ds : List Nat) : CO := .clo [Str.ofString "L", Str.ofString "R"] (.stmts (bodyOf innerDef2)) (scopeOf innerDef2) (inFree2 w ds)
theorem ca_inner2 (w : Nat) (hw : w ≤ 64) (ds : List Nat) (hds : ds.length ≤ 1000) (hd : ∀ d ∈ ds, d < 2 ^ w) (hb : w * ds.length ≤ 64) : ∀ (k : Nat) {n : Nat} {ce : CEnv} {vars : List (Str × CV)} (L : Nat), 1 ≤ k → L + k ≤ ds.length →
    CaC B (n + k) ce 0 [.int L, .int ((L + k : Nat) : Int)] ⟨vars, [inClo2 w ds]⟩ (.int (undig w ((ds.drop L).take k) : Nat)) ⟨vars, [inClo2 w ds]⟩ := by
  intro k
  induction k using Nat.strongRecOn with
  | _ k ih =>
    intro n ce vars L hk hL
    have F : FunOk (scopeOf innerDef2) (inFree2 w ds) [Str.ofString "L", Str.ofString "R"] := ⟨by decide +kernel, by decide +kernel, by
      intro y hy
      simp only [List.mem_cons, List.not_mem_nil, or_false] at hy
      rcases hy with rfl | rfl <;> rfl, by decide +kernel, by decide +kernel⟩
    obtain ⟨m, hm⟩ : ∃ m, n + k = m + 1 := ⟨n + k - 1, by walk_at "o"⟩
    rw [hm]
    by_cases h1 : k = 1
    · subst h1
      obtain ⟨d, hdL⟩ : ∃ d, ds[L]? = some d := ⟨_, List.getElem?_eq_getElem (by walk_at "o")⟩
      have e : undig w ((ds.drop L).take 1) = d := by
        have e1 : ds.drop L = ds[L] :: ds.drop (L + 1) := List.drop_eq_getElem_cons (by walk_at "o")
        rw [List.getElem?_eq_getElem (by walk_at "o")] at hdL
        rw [e1]
        have e2 : (ds[L] :: ds.drop (L + 1)).take 1 = [ds[L]] := by simp only [List.take_succ_cons, List.take_zero]
        rw [e2]
        simp only [undig, Nat.mul_zero, Nat.add_zero]
        exact Option.some.inj hdL
      rw [e]
      have key : XsJ B m ⟨scopeOf innerDef2, inFree2 w ds⟩ (bodyOf innerDef2) ⟨[(Str.ofString "L", .int L), (Str.ofString "R", .int ((L + 1 : Nat) : Int))], [inClo2 w ds]⟩ (.ret (.int d))
          ⟨[(Str.ofString "L", .int L), (Str.ofString "R", .int ((L + 1 : Nat) : Int))], [inClo2 w ds]⟩ := by
        conv in (bodyOf innerDef2) => whnf
        exact Xs_stop (Ex_if (b := true) (J.eqb (Ts_cmp (Ev_bo (Ev_name (by rfl)) Ev_int (.num (.add _ _))) (Ev_name (by rfl)) (.eqI _ _)) (by simp)) (Xs_stop (Ex_ret (Ev_item (v := .int d) (Ev_name (v := .list (ci ds)) (by rfl)) (Ev_name (v := .int L) (by rfl)) (.list (by rfl) (by walk_at "o") (by walk_at "o") (by simp [hdL])))) (by simp))) (by simp)
      exact CaC.mk (ce := ce) (st := ⟨vars, [inClo2 w ds]⟩) (f := .ret _) (vs := [.int L, .int ((L + 1 : Nat) : Int)]) (by rfl) F (by rfl) rfl key rfl
    · have hk2 : 2 ≤ k := by walk_at "o"
      obtain ⟨hsplit, g1, g2, g3, g4, g5, g6, g7, g8, g9, g10⟩ := halves hk2 hL hm
      have c1 := fun vars => CaC.mono (m := m) (ih (k / 2) (by walk_at "o") (n := n) (ce := ⟨scopeOf innerDef2, inFree2 w ds⟩) (vars := vars) L (by walk_at "o") (by walk_at "o")) (by walk_at "o")
      have c2 := fun vars => CaC.mono (m := m) (ih (k - k / 2) (by walk_at "o") (n := n) (ce := ⟨scopeOf innerDef2, inFree2 w ds⟩) (vars := vars) (L + k / 2) (by walk_at "o") (by walk_at "o")) (by walk_at "o")
      rw [show L + k / 2 + (k - k / 2) = L + k by walk_at "o"] at c2
      have hlen1 : ((ds.drop L).take (k / 2)).length = k / 2 := by simp; walk_at "o"
      have hlen2 : ((ds.drop (L + k / 2)).take (k - k / 2)).length = k - k / 2 := by simp; walk_at "o"
      have hval : undig w ((ds.drop L).take k) = undig w ((ds.drop (L + k / 2)).take (k - k / 2)) * 2 ^ (w * (k / 2)) + undig w ((ds.drop L).take (k / 2)) := by
        have : (ds.drop L).take k = (ds.drop L).take (k / 2) ++ (ds.drop (L + k / 2)).take (k - k / 2) := by
          conv => lhs; rw [hsplit]
          rw [List.take_add, List.drop_drop]
        rw [this, undig_app, hlen1, Nat.mul_comm, Nat.add_comm]
      have hbig : undig w ((ds.drop (L + k / 2)).take (k - k / 2)) < 2 ^ 64 := by
        have := undig_lt w ((ds.drop (L + k / 2)).take (k - k / 2)) fun d h => hd d (List.mem_of_mem_drop (List.mem_of_mem_take h))
        rw [hlen2] at this
        refine Nat.lt_of_lt_of_le this (Nat.pow_le_pow_right (by decide) ?_)
        exact Nat.le_trans (Nat.mul_le_mul_left w (show k - k / 2 ≤ ds.length by walk_at "o")) hb
      have key : XsJ B m ⟨scopeOf innerDef2, inFree2 w ds⟩ (bodyOf innerDef2) ⟨[(Str.ofString "L", .int L), (Str.ofString "R", .int ((L + k : Nat) : Int))], [inClo2 w ds]⟩ (.ret (.int (undig w ((ds.drop L).take k) : Nat)))
          ⟨[(Str.ofString "shift", .int ((w * (k / 2) : Nat) : Int)), (Str.ofString "mid", .int ((L + k / 2 : Nat) : Int)), (Str.ofString "L", .int L), (Str.ofString "R", .int ((L + k : Nat) : Int))], [inClo2 w ds]⟩ := by
        conv in (bodyOf innerDef2) => whnf
        refine Xs_cons (Ex_if (b := false) (J.eqb (Ts_cmp (Ev_bo (Ev_name (by rfl)) Ev_int (.num (.add _ _))) (Ev_name (by rfl)) (.eqI _ _)) (by simp; walk_at "o")) Xs_nil) ?_
        refine Xs_cons (Ex_assign (v := .int ((L + k / 2 : Nat) : Int)) (J.eqv (Ev_bo (Ev_bo (Ev_name (by rfl)) (Ev_name (by rfl)) (.num (.add _ _))) Ev_int (.num (.shr _ _ (by decide)))) ?_) (As_name (by rfl))) ?_
        · congr 1
          show ((L : Int) + ((L + k : Nat) : Int)) / 2 = _
          walk_at "o"
        refine Xs_cons (Ex_assign (v := .int ((w * (k / 2) : Nat) : Int)) (J.eqv (Ev_bo (Ev_bo (Ev_name (by rfl)) (Ev_name (by rfl)) (.num (.sub _ _))) (Ev_name (by rfl)) (.num (.mul _ _ (by walk_at "o")))) ?_) (As_name (by rfl))) ?_
        · congr 1
          rw [show ((L + k / 2 : Nat) : Int) - (L : Int) = ((k / 2 : Nat) : Int) by walk_at "o", ← Int.natCast_mul, Nat.mul_comm]
        refine Xs_stop (Ex_ret (J.eqv (Ev_bo (J.eqv (v1 := .int ((undig w ((ds.drop (L + k / 2)).take (k - k / 2)) * 2 ^ (w * (k / 2)) : Nat) : Int)) (Ev_bo (Ev_callC (Ev_name (by rfl)) (Es_cons (Ev_name (by rfl)) (Es_cons (Ev_name (by rfl)) Es_nil)) (by rfl) (c2 _)) (Ev_name (by rfl)) (.num (.shl _ _ (by walk_at "o") ?_ ?_))) ?_) (Ev_callC (Ev_name (by rfl)) (Es_cons (Ev_name (by rfl)) (Es_cons (Ev_name (by rfl)) Es_nil)) (by rfl) (c1 _)) (.num (.add _ _))) ?_)) (by simp)
        · have : w * (k / 2) ≤ 64 * 1000 := Nat.mul_le_mul hw (by walk_at "o")
          walk_at "o"
        · simpa using hbig
        · congr 1
        · rw [hval]; congr 1
      exact CaC.mk (ce := ce) (st := ⟨vars, [inClo2 w ds]⟩) (f := .ret _) (vs := [.int L, .int ((L + k : Nat) : Int)]) (by rfl) F (by rfl) rfl key rfl
end
end Mine

namespace Mine
section
variable {B : Base} {n : Nat} {ce : CEnv} {st : LSt}

theorem fn_digits2int (H : Law B) (T : TabFn B 42 (posOf innerDef2) (nameOf innerDef2)) (w : Nat) (hw : w ≤ 64) (ds : List Nat) (hds : ds.length ≤ 1000) (hd : ∀ d ∈ ds, d < 2 ^ w) (hb : w * ds.length ≤ 64) : FnJ B (n + ds.length + 1) (.ref 42) [.list (ci ds), .int w] (.int (undig w ds : Nat)) := fun A P K g s xs Q E hA I hx hQ => by
  obtain ⟨o, fd, e1, e2, e3⟩ := H.digits2int.ok
  obtain ⟨t, ht, hl, hc, hcode⟩ := T.ok
  obtain ⟨hc1, hc2⟩ := hcode o fd e1 e2
  refine call_ok (StO.nil I) (n := n + ds.length) hA (I.h0 _ _ e1) e2 (e3.mono I.base) (by rfl) (.mk' (by decide +kernel)) .nil hx rfl fun A' env' X' s' E' hA' hι hcq R1 => ?_
  obtain ⟨q1, q2⟩ := hcq
  rw [hc1] at q1
  conv in (bodyAt 5) => whnf
  have hq : qualnameIn env' (nameOf innerDef2) (nameOf innerDef2) = t.qual := by
    unfold qualnameIn
    have : env'.kindOf (nameOf innerDef2) = some .cell := by unfold Env.kindOf; rw [R1.env.scope]; rfl
    rw [this, q2]
    exact hc2
  have hks : ∀ x, (x, NameKind.free) ∈ (scopeOf innerDef2).names → (scopeAt 5).names.lookup x = some .cell := fun x hx => of_decide_eq_true (all_kind (M := fun x => decide ((scopeAt 5).names.lookup x = some .cell)) (by kernel_rfl) hx)
  have hkc : ∀ x, (x, NameKind.free) ∈ (scopeOf innerDef2).names → ∃ c, env'.cells.lookup x = some c := fun x hx => let ⟨c, h, _⟩ := R1.env.cell x (hks x hx) rfl; ⟨c, h⟩
  have hcl : closureFor (scopeOf innerDef2) env' = pure (closL env'.cells (scopeOf innerDef2).names []) := closureFor_eq hkc
  refine exec_def' (nestDef_K rfl rfl rfl ?_)
  show wpAny _ _ (makeFunction (nameOf innerDef2) (qualnameIn env' (nameOf innerDef2) (nameOf innerDef2)) _ (.stmts (bodyOf innerDef2)) (scopeOf innerDef2) env' [] [] [] (posOf innerDef2) (posOf innerDef2).line) _ _ _
  rw [hq]
  refine R1.def_ok ht (ps := [Str.ofString "L", Str.ofString "R"]) (q1 : env'.code = .ref t.c) hl hc hcl (fun doc pm cv ctv vs hvs => ?_) fun P2 s2 f o2 fd2 lP2 R2 f1 f2 f3 f4 => ?_
  · obtain ⟨x, y, rfl⟩ := len2 hvs
    rfl
  refine store_ok (v := .cst (.ref f)) (by rfl) R2 (.cst _) fun s3 R3 => ⟨rfl, ?_⟩
  obtain ⟨P3, lP3, R4, hseal⟩ := R3.seal (fr := [(Str.ofString "digits", .list (ci ds)), (Str.ofString "inner", .cst (.ref f)), (Str.ofString "n", .int w)])
    (fun x cv hx => by refine look3 (M := fun x cv => (scopeAt 5).names.lookup x = some .cell ∧ List.lookup x _ = some cv) ?_ ?_ ?_ hx <;> exact ⟨rfl, rfl⟩) rfl (fun x hx => all_kind (M := fun x => (List.lookup x ([(Str.ofString "digits", CV.list (ci ds)), (Str.ofString "inner", CV.cst (.ref f)), (Str.ofString "n", CV.int w)] : List (Str × CV))).isSome) (by kernel_rfl) (mem_lookup hx))
  have hιl : X'.ι.length = 0 := R4.sto.length
  have hclg : ∀ x c, (x, NameKind.free) ∈ (scopeOf innerDef2).names → env'.cells.lookup x = some c → (closL env'.cells (scopeOf innerDef2).names []).lookup x = some c := fun x c hx hc => (closL_get hkc hx).trans hc
  have hcellOf : ∀ x cv, [(Str.ofString "digits", CV.list (ci ds)), (Str.ofString "inner", CV.cst (.ref f)), (Str.ofString "n", CV.int w)].lookup x = some cv → ∃ c oc v, env'.cells.lookup x = some c ∧ P3 c = some oc ∧ oc.data = .cell (some v) ∧ VR P3 X'.ι cv v := fun x cv hx => by
    have hk : (scopeAt 5).names.lookup x = some .cell := look3 (M := fun x _ => (scopeAt 5).names.lookup x = some .cell) rfl rfl rfl hx
    obtain ⟨c, h, _⟩ := R1.env.cell x hk rfl
    obtain ⟨oc, v, a1, a2, a3⟩ := hseal x c h cv hx
    exact ⟨c, oc, v, h, a1, a2, a3⟩
  obtain ⟨hX5, R5, hv5⟩ := R4.addClo (free := inFree2 w ds) (lP3 _ _ f1) f2 f3 (f4.mono lP3) (fun x cv hx => by
    refine look3 (M := fun x cv => (scopeOf innerDef2).names.lookup x = some .free ∧ ∃ c v oc, List.lookup x _ = some c ∧ P3 c = some oc ∧ oc.data = .cell (some v) ∧ VR P3 _ cv v) ?_ ?_ ?_ hx
    · obtain ⟨c, oc, v, a1, a2, a3, a4⟩ := hcellOf (Str.ofString "digits") (.list (ci ds)) (by rfl)
      exact ⟨by rfl, c, v, oc, hclg _ c (mem_lookup (by rfl)) a1, a2, a3, a4.mono (.refl _) ⟨_, rfl⟩⟩
    · obtain ⟨c, oc, v, a1, a2, a3, a4⟩ := hcellOf (Str.ofString "inner") (.cst (.ref f)) (by rfl)
      obtain ⟨_, rfl⟩ := a4.inv
      exact ⟨by rfl, c, _, oc, hclg _ c (mem_lookup (by rfl)) a1, a2, a3, .ref (xs := []) (by
        show (X'.ι ++ [(f, [])])[0]? = _
        rw [List.getElem?_append_right (by walk_at "o")]; simp [hιl])⟩
    · obtain ⟨c, oc, v, a1, a2, a3, a4⟩ := hcellOf (Str.ofString "n") (.int w) (by rfl)
      exact ⟨by rfl, c, v, oc, hclg _ c (mem_lookup (by rfl)) a1, a2, a3, a4.mono (.refl _) ⟨_, rfl⟩⟩)
  have R6 := R5.refree (fr' := inFree2 w ds) (fun x cv hx => by
    refine look3 (M := fun x cv => ∃ cv0, List.lookup x _ = some cv0 ∧ ∀ v, VR P3 _ cv0 v → VR P3 _ cv v) ?_ ?_ ?_ hx
    · exact ⟨.list (ci ds), by rfl, fun v h => h⟩
    · exact ⟨.cst (.ref f), by rfl, fun v h => by obtain ⟨_, rfl⟩ := h.inv; exact hv5⟩
    · exact ⟨.int w, by rfl, fun v h => h⟩) rfl
  by_cases h0 : ds = []
  · subst h0
    refine (Xs_stop (Ex_ret (v := .int 0) (Ev_if (b := false) (Ts_plain (Ev_name (v := .list []) (by rfl)) (.list (vs := []) rfl (by decide))) Ev_int)) (by simp)) A' env' P3 _ g _ s3 _ E' hA' R6 fun P9 X9 s9 fl lP9 lX9 R9 rf => ?_
    obtain ⟨_, rfl, rv⟩ := rf.ret_inv
    exact hQ P9 s9 _ (lP2.trans (lP3.trans lP9)) R9.inv (rv.pure' (by rfl))
  · have hlen : 1 ≤ ds.length := by cases ds <;> simp_all
    have c := fun vars => (ca_inner2 (B := B) w hw ds hds hd hb ds.length (n := n) (ce := ⟨scopeAt 5, inFree2 w ds⟩) (vars := vars) 0 hlen (by walk_at "o"))
    rw [List.drop_zero, List.take_length] at c
    refine (Xs_stop (Ex_ret (v := .int (undig w ds : Nat)) (Ev_if (b := true) (Ts_plain (Ev_name (v := .list (ci ds)) (by rfl)) (by
        have : true = !(ci ds).isEmpty := by cases ds <;> simp_all
        rw [this]; exact .list rfl (by simp; walk_at "o"))) (Ev_callC (Ev_name (by rfl)) (Es_cons (J.eqv (v1 := .int ((0 : Nat) : Int)) Ev_int rfl) (Es_cons (J.eqv (v1 := .int ((0 + ds.length : Nat) : Int)) (Ev_callB (Ev_name (by rfl)) (Es_cons (Ev_name (v := .list (ci ds)) (by rfl)) Es_nil) (ca_len (vs := ci ds) (by rfl) (by simp; walk_at "o"))) (by simp [ci])) Es_nil)) (by rfl) (c _)))) (by simp)) A' env' P3 _ g _ s3 _ E' hA' R6 fun P9 X9 s9 fl lP9 lX9 R9 rf => ?_
    obtain ⟨_, rfl, rv⟩ := rf.ret_inv
    exact hQ P9 s9 _ (lP2.trans (lP3.trans lP9)) R9.inv (rv.pure' (by rfl))
end
end Mine

namespace Mine
section
variable {B : Base} {n : Nat} {ce : CEnv} {st st1 st2 : LSt}

theorem J.eqs {α : Type} {t : Env → Sem α} {R : Gh → Sto → α → Prop} (h : J B n ce t st R st1) (e : st1 = st2) : J B n ce t st R st2 := e ▸ h
theorem ItE.rev {x : Str} {p pos : Pos} {e : Expr} {us : List CV} (hf : EvJ B n ce (.Name x p) st (.cst (.type "reversed")) st1) (he : EvJ B n ce e st1 (.list us) st2) (hp : pures us = true) (hst : autoParam (isStar e = false) tRfl)
    (hq : autoParam (∀ env, (backTo pos (starEach [e] env)).any (·.1) = false) tRfl1) : ItE B n ce (.Call (.Name x p) [e] [] pos) st us.reverse st2 := fun A env P K g X s Q E hA R hQ => by
  refine Call_Name rfl (hf A env P K g X s _ E hA R fun P1 X1 s1 f lP1 lX1 R1 r1 => ?_)
  (first|obtain ⟨_, rfl⟩:=r1.inv|subst r1|obtain rfl:=sj r1|exact n1 r1|exact n2 r1|cases r1)
  refine PyProof.Rows.callWith_type (hq env) (evalArgs_any (hq env) ((Es_cons he Es_nil hst) A env P1 K g X1 s1 _ E hA R1 fun P2 X2 s2 xs lP2 lX2 R2 r2 => ?_))
  obtain ⟨z, rfl, hz⟩ := r2.one
  obtain ⟨ys, l, ol, rfl, hl, q, r⟩ := hz.inv
  have eo := R2.inv.perm _ _ hl
  have hlen := r.length
  refine call_reversed_list ⟨_, eo, q⟩ ?_
  have hne : l ≠ s2.heap.objs.size := Nat.ne_of_lt (Heap.lt_size eo)
  have hsz : ((ys.toArray.size : Nat) : Int) - 1 = (us.length : Int) - 1 := by simp; walk_at "o"
  refine wpAny_pyIter_revIter ⟨_, Heap.get?_push_size _ rfl, rfl, rfl⟩ ?_
  have grow : ∀ b ob, s2.heap.get? b = some ob → (s2.heap.push (revObj l ((ys.toArray.size : Int) - 1))).get? b = some ob := fun b ob e => Heap.get?_push_of_some _ e
  refine hQ P2 X2 _ _ (one s2.heap.objs.size (revObj l ((ys.toArray.size : Int) - 1))) noG (lP1.trans lP2) (lX1.trans lX2) (R2.grow grow rfl rfl) ?_ (fun a ob e => ?_) (fun a ob e => ?_) (fun a ha => ?_) (fun i x e => by (first|subst e|obtain rfl:=sj e|exact n1 e|exact n2 e|exact b1 e|exact b2 e|cases e))
  · refine ItJ.of_walks (B := B) (I := s2.heap.objs.size) (fp := [s2.heap.objs.size, l]) (Val := fun i v => ys.toArray[ys.toArray.size - 1 - i]? = some v) (St := fun i h => i ≤ ys.toArray.size ∧ h.IsRevIter s2.heap.objs.size l ((ys.toArray.size : Int) - 1 - (i : Int)) ∧ h.IsList l ys.toArray) (ys := us.reverse)
      (fun A hh => by have := Walks.listRev (prog := B.prog) (w := B.w) hh s2.heap.objs.size l hne ys.toArray; rw [show us.reverse.length = ys.toArray.size by simp; walk_at "o"]; exact this) (fun i h hs => ?_) us.reverse.length 0 P2 _ (by simp) (fun b hb hb' => ?_) (fun i v hi e => ?_) (fun h hP he => ⟨Nat.zero_le _, ⟨_, he, rfl, by simp [revObj]⟩, ⟨_, hP _ _ hl, q⟩⟩) ⟨_, rfl, by decide⟩
    · obtain ⟨_, ⟨o, a, b, _⟩, _⟩ := hs; exact ⟨o, _, a, b, by decide⟩
    · simp at hb; rcases hb with rfl | rfl
      · exact absurd rfl hb'
      · exact ⟨_, hl⟩
    · simp only [List.length_reverse] at hi
      simp only [List.size_toArray, List.getElem?_toArray] at e
      obtain ⟨y, a, b⟩ := r.at hp (i := ys.length - 1 - i) (by walk_at "o") e
      refine ⟨y, ?_, b⟩
      rw [List.getElem?_reverse (by walk_at "o"), ← a, hlen]
  · obtain ⟨rfl, rfl⟩ := one_some e; exact Heap.get?_push_size _ rfl
  · obtain ⟨rfl, rfl⟩ := one_some e; exact ⟨R2.inv.freshP, R2.inv.freshK, R2.inv.freshT⟩
  · unfold one
    by_cases q : a = s2.heap.objs.size
    · subst q; exact absurd ha R2.fresh
    · simp [q]

theorem intBits_eq (a : Nat) : ∃ k : Nat, Builtin.Int.intBits (a : Int) = k := ⟨_, rfl⟩
theorem bits_pos (b : Nat) (h : 0 < b) : 1 ≤ Builtin.Int.intBits (b : Int) := by
  unfold Builtin.Int.intBits
  have : ((b : Int) == 0) = false := by simpa using by walk_at "o"
  rw [this]; simp
theorem bits_le' (a k : Nat) (hk : 1 ≤ k) (h : a < 2 ^ k) : Builtin.Int.intBits (a : Int) ≤ k := by
  unfold Builtin.Int.intBits
  split
  · walk_at "o"
  · simp only [Int.natAbs_natCast]
    rename_i h0
    have h0' : a ≠ 0 := fun q => h0 (by subst q; rfl)
    have := (Nat.log2_lt h0').mpr h
    walk_at "o"

theorem fn_div2n1n (H : Law B) (a b w : Nat) (hb : 0 < b) (hb2 : b < 1073741824) (ha : a < 2 ^ 64) : FnJ B (n + 1) (.ref 21) [.int a, .int b, .int w] (.tup [.int ((a / b : Nat) : Int), .int ((a % b : Nat) : Int)]) := by
  have hbits := bits_le' a 64 (by decide) ha
  refine FnJ.of H.div2n1n (.mk' (by decide +kernel)) (by rfl) rfl ?_ (by rfl)
  conv in (bodyAt 2) => whnf
  refine .if_stop (Ts_cmp (Ev_bo (Ev_meth PySem.F.plainAttrs_int PySem.F.slot_int_bit_length PySem.F.type_int_bit_length (Ev_name (v := .int a) (by rfl)) (.int _) Es_nil ca_bits) (Ev_name (v := .int w) (by rfl)) (.num (.sub _ _))) (Ev_name (v := .int 4000) (by rfl)) (?_)) (.retq (Ev_callB (Ev_name (by rfl)) (Es_cons (Ev_name (v := .int a) (by rfl)) (Es_cons (Ev_name (v := .int b) (by rfl)) Es_nil)) (ca_divmod (by walk_at "o") (by walk_at "o"))) ?_)
  · have := CmpR.le (S := []) ((Builtin.Int.intBits (a : Int) : Int) - (w : Int)) 4000
    rw [decide_eq_true (by walk_at "o")] at this
    exact this
  · rfl

/-- long division -/
noncomputable def ldiv (b w : Nat) : List Nat → List Nat × Nat
  | [] => ([], 0)
  | d :: ds => let (q, r) := ldiv b w ds; ((r * 2 ^ w + d) / b :: q, (r * 2 ^ w + d) % b)
theorem ldiv_ok (b w : Nat) (hb : 0 < b) : ∀ ds : List Nat, (∀ d ∈ ds, d < 2 ^ w) → undig w (ldiv b w ds).1 = undig w ds / b ∧ (ldiv b w ds).2 = undig w ds % b ∧ (∀ d ∈ (ldiv b w ds).1, d < 2 ^ w) ∧ (ldiv b w ds).1.length = ds.length
  | [], _ => by simp [ldiv, undig]
  | d :: ds, h => by
    obtain ⟨h1, h2, h3, h4⟩ := ldiv_ok b w hb ds fun x hx => h x (.tail _ hx)
    have hd := h d (.head _)
    simp only [ldiv, undig]
    generalize hU : undig w ds = U at *
    generalize ldiv b w ds = QR at *
    obtain ⟨q, r⟩ := QR
    simp only at h1 h2 h3 h4
    have hr : r < b := h2 ▸ Nat.mod_lt _ hb
    have eU : U = b * (U / b) + r := by rw [h2]; exact (Nat.div_add_mod U b).symm
    have e1 : d + 2 ^ w * U = (r * 2 ^ w + d) + b * (2 ^ w * (U / b)) := by
      conv => lhs; rw [eU]
      rw [Nat.mul_add, Nat.mul_comm r, Nat.mul_left_comm]; walk_at "o"
    refine ⟨?_, ?_, ?_, by simp [h4]⟩
    · rw [h1, e1, Nat.add_mul_div_left _ _ hb]
    · rw [e1, Nat.add_mul_mod_self_left]
    · intro x hx
      rcases List.mem_cons.mp hx with rfl | hx
      · rw [Nat.div_lt_iff_lt_mul hb]
        calc r * 2 ^ w + d < r * 2 ^ w + 2 ^ w := by walk_at "o"
          _ = (r + 1) * 2 ^ w := by rw [Nat.add_mul]; walk_at "o"
          _ ≤ b * 2 ^ w := Nat.mul_le_mul_right _ hr
          _ = 2 ^ w * b := Nat.mul_comm _ _
      · exact h3 x hx
/-- the same from the top digit on -/
noncomputable def lstep (b w : Nat) (s : List Nat × Nat) (d : Nat) : List Nat × Nat := ((s.2 * 2 ^ w + d) / b :: s.1, (s.2 * 2 ^ w + d) % b)
theorem ldiv_foldl (b w : Nat) (ds : List Nat) : ds.reverse.foldl (lstep b w) ([], 0) = ldiv b w ds := by
  rw [List.foldl_reverse]
  induction ds with
  | nil => rfl
  | cons d ds ih => rw [List.foldr_cons, ih]; rfl
theorem digs_lt (w : Nat) : ∀ (k x : Nat), ∀ d ∈ digs w x k, d < 2 ^ w := by
  intro k
  induction k with
  | zero => intro x d h; simp [digs] at h
  | succ k ih =>
    intro x d h
    simp only [digs, List.mem_cons] at h
    rcases h with rfl | h
    · exact Nat.mod_lt _ (Nat.two_pow_pos w)
    · exact ih _ d h
theorem undig_digs (w : Nat) : ∀ (k x : Nat), undig w (digs w x k) = x % 2 ^ (w * k) := by
  intro k
  induction k with
  | zero => intro x; simp [digs, undig, Nat.mod_one]
  | succ k ih =>
    intro x
    simp only [digs, undig, ih]
    rw [Nat.mul_add, Nat.mul_one, Nat.add_comm (w * k), Nat.pow_add, Nat.mod_mul]

theorem pos_turn (H : Law B) (b w : Nat) (hb : 0 < b) (hb2 : b < 65536) (hw : w ≤ 16) (s : List Nat × Nat) (d : Nat) (hs : s.2 < b) (hd : d < 2 ^ w) (hl : s.1.length < 10000) :
    ∃ l1, XsJ B (n + 1) (ceAt 6) (forBody 6 4) ⟨(Str.ofString "a_digit", .int d) :: [(Str.ofString "b", .int b), (Str.ofString "n", .int w), (Str.ofString "q_digits", .ref 0), (Str.ofString "r", .int s.2)], [.lst (ci s.1.reverse)]⟩ .nxt ⟨l1, [.lst (ci (lstep b w s d).1.reverse)]⟩ ∧
      VSub [(Str.ofString "b", .int b), (Str.ofString "n", .int w), (Str.ofString "q_digits", .ref 0), (Str.ofString "r", .int (lstep b w s d).2)] l1 := by
  have hw' : 2 ^ w ≤ 2 ^ 16 := Nat.pow_le_pow_right (by decide) hw
  have hbig : s.2 * 2 ^ w + d < 2 ^ 64 := by
    have : s.2 * 2 ^ w ≤ 65536 * 2 ^ 16 := Nat.mul_le_mul (by walk_at "o") hw'
    walk_at "o"
  conv in (forBody 6 4) => whnf
  have est : ci (lstep b w s d).1.reverse = ci s.1.reverse ++ [.int ((s.2 * 2 ^ w + d) / b : Nat)] := by simp [lstep, ci]
  rw [est]
  refine ⟨_, Xs_cons (Ex_assign (Ev_callF (Ev_name (by rfl)) H.div2n1n.fn (Es_cons (J.eqv (v1 := .int ((s.2 * 2 ^ w + d : Nat) : Int)) (Ev_bo (Ev_bo (Ev_name (v := .int s.2) (by rfl)) (Ev_name (v := .int w) (by rfl)) (.num (.shl _ _ ?_ ?_ ?_))) (Ev_name (v := .int d) (by rfl)) (.num (.add _ _))) ?_) (Es_cons (Ev_name (v := .int b) (by rfl)) (Es_cons (Ev_name (v := .int w) (by rfl)) Es_nil))) (FnJ.ca (fn_div2n1n H (s.2 * 2 ^ w + d) b w hb (by walk_at "o") hbig) (by rfl))) (As_tuple (.cons (As_name (by rfl)) (.cons (As_name (by rfl)) .nil)) rfl))
    (Xs_cons (Ex_expr (Ev_meth PySem.F.plainAttrs_list PySem.F.slot_list_append PySem.F.type_list_append (Ev_name (v := .ref 0) (by rfl)) (.list (by rfl)) (Es_cons (Ev_name (v := .int ((s.2 * 2 ^ w + d) / b : Nat)) (by rfl)) Es_nil) (ca_append (vs := ci s.1.reverse) (by rfl) ?_))) Xs_nil), ?_⟩
  · walk_at "o"
  · walk_at "o"
  · simp; walk_at "o"
  · congr 1
  · simp; walk_at "o"
  · exact .cons (by rfl) (.cons (by rfl) (.cons (by rfl) (.cons (by rfl) .nil)))
end
end Mine

namespace Mine
section
variable {B : Base} {n : Nat} {ce : CEnv} {st st1 st2 : LSt}

theorem pos_loop (H : Law B) (b w : Nat) (hb : 0 < b) (hb2 : b < 65536) (hw : w ≤ 16) : ∀ (ds : List Nat) (s : List Nat × Nat) (l : List (Str × CV)), s.2 < b → (∀ d ∈ ds, d < 2 ^ w) → s.1.length + ds.length < 1000 →
    VSub [(Str.ofString "b", .int b), (Str.ofString "n", .int w), (Str.ofString "q_digits", .ref 0), (Str.ofString "r", .int s.2)] l →
    ∃ l', ForJ B (n + 1) (ceAt 6) (forVar 6 4) (forBody 6 4) (ci ds) ⟨l, [.lst (ci s.1.reverse)]⟩ .nxt ⟨l', [.lst (ci (ds.foldl (lstep b w) s).1.reverse)]⟩ ∧
      VSub [(Str.ofString "b", .int b), (Str.ofString "n", .int w), (Str.ofString "q_digits", .ref 0), (Str.ofString "r", .int (ds.foldl (lstep b w) s).2)] l'
  | [], s, l, _, _, _, hv => ⟨l, .nil, hv⟩
  | d :: ds, s, l, h1, h2, h3, hv => by
    simp only [List.length_cons] at h3
    obtain ⟨l1, a1, a2⟩ := pos_turn (n := n) H b w hb hb2 hw s d h1 (h2 d (.head _)) (by walk_at "o")
    obtain ⟨l2, b1, b2⟩ := pos_loop H b w hb hb2 hw ds (lstep b w s d) l1 (Nat.mod_lt _ hb) (fun x hx => h2 x (.tail _ hx)) (by simp [lstep]; walk_at "o") a2
    exact ⟨l2, .step hv (by rfl) (by rfl) a1 (.inl rfl) b1, b2⟩
theorem int2digits_bits (a w : Nat) (hw : 1 ≤ w) (hw2 : w ≤ 16) (ha : a < 2 ^ 32) : w * (int2digits a w).length ≤ 64 := by
  rw [int2digits, digs_len]
  have := bits_le a ha
  have h := Nat.mul_div_le (Builtin.Int.intBits (a : Int) + w - 1) w
  unfold ndig
  walk_at "o"
theorem undig_int2digits (a w : Nat) (hw : 1 ≤ w) : undig w (int2digits a w) = a := by
  rw [int2digits, undig_digs, Nat.mod_eq_of_lt (ndig_ok a w hw)]
theorem ci_rev (ds : List Nat) : (ci ds).reverse = ci ds.reverse := by simp [ci]
theorem pures_ci (ds : List Nat) : pures (ci ds) = true := pures_map (fun _ => rfl) _

theorem fn_divmod_pos (H : Law B) (T : TabFn B 35 (posOf innerDef) (nameOf innerDef)) (T2 : TabFn B 42 (posOf innerDef2) (nameOf innerDef2)) (a b : Nat) (hb : 0 < b) (hb2 : b < 65536) (ha : a < 2 ^ 32) :
    FnJ B (n + 40) (.ref 49) [.int a, .int b] (.tup [.int ((a / b : Nat) : Int), .int ((a % b : Nat) : Int)]) := by
  have hw1 := bits_pos b hb
  have hw2 := bits_le' b 16 (by decide) hb2
  obtain ⟨w, hw⟩ := intBits_eq b
  rw [hw] at hw1 hw2
  have hlt := digs_lt w (ndig a w) a
  have hlen : (int2digits a w).length ≤ 32 := by rw [int2digits, digs_len]; exact ndig_le a w hw1 ha
  have hbits := int2digits_bits a w hw1 hw2 ha
  have hun := undig_int2digits a w hw1
  obtain ⟨o1, o2, o3, o4⟩ := ldiv_ok b w hb (int2digits a w) hlt
  have hfl := ldiv_foldl b w (int2digits a w)
  rw [hun] at o1 o2
  obtain ⟨l', lp, lv⟩ := pos_loop (n := n + 38) H b w hb hb2 hw2 (int2digits a w).reverse ([], 0) [(Str.ofString "q_digits", .ref 0), (Str.ofString "r", .int (0 : Nat)), (Str.ofString "a_digits", .list (ci (int2digits a w))), (Str.ofString "n", .int w), (Str.ofString "a", .int a), (Str.ofString "b", .int b)] hb
    (fun d hd => hlt d (List.mem_reverse.mp hd)) (by simp; walk_at "o") (.cons (by rfl) (.cons (by rfl) (.cons (by rfl) (.cons (by rfl) .nil))))
  rw [hfl] at lp lv
  conv at lp in (forBody 6 4) => whnf
  conv at lp in (forVar 6 4) => whnf
  refine FnJ.of H.divmod_pos (.mk' (by decide +kernel)) (by rfl) rfl ?_ (by rfl)
  conv in (bodyAt 6) => whnf
  refine .cons (Ex_assign (v := .int (w : Int)) (J.eqv (Ev_meth PySem.F.plainAttrs_int PySem.F.slot_int_bit_length PySem.F.type_int_bit_length (Ev_name (v := .int b) (by rfl)) (.int _) Es_nil ca_bits) (by rw [hw])) (As_name (by rfl))) ?_
  refine .cons (Ex_assign (v := .list (ci (int2digits a w))) (Ev_callF (Ev_name (by rfl)) H.int2digits.fn (Es_cons (Ev_name (v := .int a) (by rfl)) (Es_cons (Ev_name (v := .int w) (by rfl)) Es_nil)) (FnJ.ca (FnJ.mono (fn_int2digits (n := 0) H T a w hw1 hw2 ha) (by walk_at "o")) (by rfl))) (As_name (by rfl))) ?_
  refine .cons (Ex_assign (v := .int (0 : Nat)) Ev_int (As_name (by rfl))) ?_
  refine .cons (Ex_assign (Ev_listM Es_nil (by decide)) (As_name (by rfl))) ?_
  refine .cons (Ex_for (ys := ci (int2digits a w).reverse) (by rw [← ci_rev]; exact ItE.rev (Ev_name (by rfl)) (Ev_name (by rfl)) (pures_ci _)) (pures_ci _) lp) ?_
  refine .cons (Ex_expr (Ev_meth PySem.F.plainAttrs_list PySem.F.slot_list_reverse PySem.F.type_list_reverse (Ev_name (v := .ref 0) (lv.ok (by rfl))) (.list (by rfl)) Es_nil (ca_reverse (vs := ci (ldiv b w (int2digits a w)).1.reverse) (by rfl) (by simp; walk_at "o")))) ?_
  refine .freeze (Str.ofString "q_digits") (i := 0) (vs := ci (ldiv b w (int2digits a w)).1) (lv.ok (by rfl)) (by show ([CO.lst (ci (ldiv b w (int2digits a w)).1.reverse).reverse])[0]? = _; rw [ci_rev, List.reverse_reverse]; rfl) ?_ (by rfl)
  refine .cons (Ex_assign (v := .int ((a / b : Nat) : Int)) (Ev_callF (Ev_name (by rfl)) H.digits2int.fn (Es_cons (Ev_name (v := .list (ci (ldiv b w (int2digits a w)).1)) (by rfl)) (Es_cons (Ev_name (v := .int w) ?_) Es_nil)) (FnJ.ca (FnJ.mono (o1 ▸ fn_digits2int (n := 0) H T2 w (by walk_at "o") (ldiv b w (int2digits a w)).1 (by walk_at "o") o3 (by rw [o4]; exact hbits)) (by walk_at "o")) (by simp [pures, CV.pure, pures_ci]))) (As_name (by rfl))) ?_
  · exact lv.ok (x := Str.ofString "n") (by rfl)
  · refine .ret (Ev_tuple (Es_cons (Ev_name (by rfl)) (Es_cons (Ev_name ?_) Es_nil)) (by simp))
    rw [← o2]
    exact lv.ok (x := Str.ofString "r") (by rfl)

theorem fn_int_divmod (H : Law B) (T : TabFn B 35 (posOf innerDef) (nameOf innerDef)) (T2 : TabFn B 42 (posOf innerDef2) (nameOf innerDef2)) (a b : Nat) (hb : 0 < b) (hb2 : b < 65536) (ha : a < 2 ^ 32) :
    FnJ B (n + 41) (.ref 56) [.int a, .int b] (.tup [.int ((a / b : Nat) : Int), .int ((a % b : Nat) : Int)]) := by
  refine FnJ.of H.int_divmod (.mk' (by decide +kernel)) (by rfl) rfl ?_ (by rfl)
  conv in (bodyAt 7) => whnf
  refine .else_stop (Ts_cmp (Ev_name (v := .int b) (by rfl)) Ev_int (by rw [show false = decide ((b : Int) = 0) by simp; walk_at "o"]; exact .eqI _ _)) ?_
  refine .else_stop (Ts_cmp (Ev_name (v := .int b) (by rfl)) Ev_int (by rw [show false = decide ((b : Int) < 0) by simp]; exact .lt _ _)) ?_
  refine .else_stop (Ts_cmp (Ev_name (v := .int a) (by rfl)) Ev_int (by rw [show false = decide ((a : Int) < 0) by simp]; exact .lt _ _)) ?_
  exact .ret (Ev_callF (Ev_name (by rfl)) H.divmod_pos.fn (Es_cons (Ev_name (v := .int a) (by rfl)) (Es_cons (Ev_name (v := .int b) (by rfl)) Es_nil)) (FnJ.ca (fn_divmod_pos H T T2 a b hb hb2 ha) (by rfl)))
end
end Mine

namespace Mine
section
variable {B : Base} {n : Nat} {ce : CEnv} {st st1 st2 : LSt}

theorem bitNot_eq (a : Int) : Builtin.bitNot a = -a - 1 := by
  unfold Builtin.bitNot
  walk_at "o"
theorem fn_int_divmod_low (H : Law B) (T : TabFn B 35 (posOf innerDef) (nameOf innerDef)) (T2 : TabFn B 42 (posOf innerDef2) (nameOf innerDef2)) (a b : Nat) (hb : 0 < b) (hb2 : b < 65536) (ha : a < 2 ^ 32) (h0 : 0 < a) :
    FnJ B (n + 42) (.ref 56) [.int (-(a : Int)), .int b] (.tup [.int (-(a : Int) / b), .int (-(a : Int) % b)]) := by
  have c := fn_int_divmod (n := n) H T T2 (a - 1) b hb hb2 (by walk_at "o")
  have e1 : -(a : Int) / b = -(((a - 1) / b : Nat) : Int) - 1 := by
    obtain ⟨m, rfl⟩ : ∃ m, a = m + 1 := ⟨a - 1, by walk_at "o"⟩
    rw [show -((m + 1 : Nat) : Int) = Int.negSucc m from rfl, Int.negSucc_ediv _ (by walk_at "o")]
    show -((m : Int) / (b : Int) + 1) = -(((m + 1 - 1 : Nat) / b : Nat) : Int) - 1
    rw [Nat.add_sub_cancel, Int.natCast_ediv]
    walk_at "o"
  have e2 : -(a : Int) % b = (b : Int) + (-(((a - 1) % b : Nat) : Int) - 1) := by
    rw [Int.emod_def, e1, Int.mul_sub, Int.mul_one, Int.mul_neg]
    have h := Nat.div_add_mod (a - 1) b
    have h' : (b : Int) * (((a - 1) / b : Nat) : Int) + (((a - 1) % b : Nat) : Int) = ((a - 1 : Nat) : Int) := by exact_mod_cast h
    walk_at "o"
  refine FnJ.of H.int_divmod (.mk' (by decide +kernel)) (by rfl) rfl ?_ (by rfl)
  conv in (bodyAt 7) => whnf
  refine .else_stop (Ts_cmp (Ev_name (v := .int b) (by rfl)) Ev_int (by rw [show false = decide ((b : Int) = 0) by simp; walk_at "o"]; exact .eqI _ _)) ?_
  refine .else_stop (Ts_cmp (Ev_name (v := .int b) (by rfl)) Ev_int (by rw [show false = decide ((b : Int) < 0) by simp]; exact .lt _ _)) ?_
  refine .if_stop (Ts_cmp (Ev_name (v := .int (-(a : Int))) (by rfl)) Ev_int (by rw [show true = decide (-(a : Int) < 0) by simp; walk_at "o"]; exact .lt _ _)) ?_
  refine .cons (Ex_assign (Ev_callF (Ev_name (by rfl)) H.int_divmod.fn (Es_cons (J.eqv (v1 := .int ((a - 1 : Nat) : Int)) (Ev_un (Ev_name (v := .int (-(a : Int))) (by rfl)) (.inv _)) ?_) (Es_cons (Ev_name (v := .int b) (by rfl)) Es_nil)) (FnJ.ca c (by rfl))) (As_tuple (.cons (As_name (by rfl)) (.cons (As_name (by rfl)) .nil)) rfl)) ?_
  · rw [bitNot_eq]; congr 1; walk_at "o"
  refine .retq (Ev_tuple (Es_cons (Ev_un (Ev_name (by rfl)) (.inv _)) (Es_cons (Ev_bo (Ev_name (v := .int b) (by rfl)) (Ev_un (Ev_name (by rfl)) (.inv _)) (.num (.add _ _))) Es_nil)) (by simp)) ?_
  rw [bitNot_eq, bitNot_eq, e1, e2]
theorem fn_int_divmod_neg (H : Law B) (T : TabFn B 35 (posOf innerDef) (nameOf innerDef)) (T2 : TabFn B 42 (posOf innerDef2) (nameOf innerDef2)) (a b : Nat) (hb : 0 < b) (hb2 : b < 65536) (ha : a < 2 ^ 32) (h0 : 0 < a) :
    FnJ B (n + 43) (.ref 56) [.int a, .int (-(b : Int))] (.tup [.int (-(a : Int) / b), .int (-(-(a : Int) % b))]) := by
  have c := fn_int_divmod_low (n := n) H T T2 a b hb hb2 ha h0
  refine FnJ.of H.int_divmod (.mk' (by decide +kernel)) (by rfl) rfl ?_ (by rfl)
  conv in (bodyAt 7) => whnf
  refine .else_stop (Ts_cmp (Ev_name (v := .int (-(b : Int))) (by rfl)) Ev_int (by rw [show false = decide (-(b : Int) = 0) by simp; walk_at "o"]; exact .eqI _ _)) ?_
  refine .if_stop (Ts_cmp (Ev_name (v := .int (-(b : Int))) (by rfl)) Ev_int (by rw [show true = decide (-(b : Int) < 0) by simp; walk_at "o"]; exact .lt _ _)) ?_
  refine .cons (Ex_assign (Ev_callF (Ev_name (by rfl)) H.int_divmod.fn (Es_cons (Ev_un (Ev_name (v := .int (a : Int)) (by rfl)) (.neg _)) (Es_cons (J.eqv (v1 := .int b) (Ev_un (Ev_name (v := .int (-(b : Int))) (by rfl)) (.neg _)) (by simp)) Es_nil)) (FnJ.ca c (by rfl))) (As_tuple (.cons (As_name (by rfl)) (.cons (As_name (by rfl)) .nil)) rfl)) ?_
  exact .ret (Ev_tuple (Es_cons (Ev_name (by rfl)) (Es_cons (Ev_un (Ev_name (by rfl)) (.neg _)) Es_nil)) (by simp))

theorem div_turn (a b c : Nat) (one whole rest : Int) (hb : 0 < b) (hb2 : b < 65536) (hc : b = c) (h1 : one.natAbs < 65536) (h2 : whole * one + rest = a) (h3 : 0 ≤ rest * one) (h4 : rest.natAbs < b)
    (fn : FnJ B (n + 43) (.ref 56) [.int a, .int one] (.tup [.int whole, .int rest])) (H : Law B) : ∃ l1, XsJ B (n + 43) (ceAt 76) (forBody 76 0) ⟨(Str.ofString "one", .int one) :: [(Str.ofString "number", .int a), (Str.ofString "divisor", .int b)], []⟩ .nxt ⟨l1, []⟩ ∧ VSub [(Str.ofString "number", .int a), (Str.ofString "divisor", .int b)] l1 := by
  conv in (forBody 76 0) => whnf
  refine ⟨_, Xs_cons (Ex_assign (Ev_callF (Ev_name (by rfl)) H.int_divmod.fn (Es_cons (Ev_name (v := .int (a : Int)) (by rfl)) (Es_cons (Ev_name (v := .int one) (by rfl)) Es_nil)) (FnJ.ca fn (by rfl))) (As_tuple (.cons (As_name (by rfl)) (.cons (As_name (by rfl)) .nil)) rfl))
    (Xs_cons (Ex_if (b := false) (J.eqb (Ts_or3 (Ts_cmp (Ev_bo (Ev_bo (Ev_name (v := .int whole) (by rfl)) (Ev_name (v := .int one) (by rfl)) (.num (.mul _ _ (by walk_at "o")))) (Ev_name (v := .int rest) (by rfl)) (.num (.add _ _))) (Ev_name (v := .int a) (by rfl)) (.neI _ _)) (fun hb8 => (Ts_cmp (Ev_bo (Ev_name (v := .int rest) (by rfl)) (Ev_name (v := .int one) (by rfl)) (.num (.mul _ _ (by walk_at "o")))) Ev_int (.lt _ _))) (fun _ hb9 => (Ts_cmp (Ev_callB (Ev_name (by rfl)) (Es_cons (Ev_name (v := .int rest) (by rfl)) Es_nil) ca_abs) (Ev_name (v := .int b) (by rfl)) (.ge _ _)))) ?_) Xs_nil) Xs_nil), ?_⟩
  · simp only [h2, decide_true, Bool.not_true, Bool.false_or]
    rw [decide_eq_false (by walk_at "o"), decide_eq_false (by walk_at "o")]; rfl
  · exact .cons (by rfl) (.cons (by rfl) .nil)

/-- _law_divided -/
theorem fn_divided (H : Law B) (T : TabFn B 35 (posOf innerDef) (nameOf innerDef)) (T2 : TabFn B 42 (posOf innerDef2) (nameOf innerDef2)) (a b : Nat) (hb : 0 < b) (hb2 : b < 65536) (ha : a < 2 ^ 32) (h0 : 0 < a) :
    FnJ B (n + 44) (.ref 182) [.int a, .int b] (.bool true) := by
  have hm := Int.emod_nonneg (-(a : Int)) (show (b : Int) ≠ 0 by walk_at "o")
  have hm2 := Int.emod_lt_of_pos (-(a : Int)) (show (0 : Int) < (b : Int) by walk_at "o")
  have hdm := Int.mul_ediv_add_emod (-(a : Int)) b
  obtain ⟨l1, p1, q1⟩ := div_turn (n := n) a b b b ((a / b : Nat) : Int) ((a % b : Nat) : Int) hb hb2 rfl (by walk_at "o") (by
    have := Nat.div_add_mod a b
    rw [Int.mul_comm]
    exact_mod_cast this) (by exact_mod_cast Nat.zero_le _) (by have := Nat.mod_lt a hb; walk_at "o") ((fn_int_divmod (n := n) H T T2 a b hb hb2 ha).mono (by walk_at "o")) H
  obtain ⟨l2, p2, q2⟩ := div_turn (n := n) a b b (-(b : Int)) (-(a : Int) / b) (-(-(a : Int) % b)) hb hb2 rfl (by walk_at "o") (by
    rw [Int.mul_neg, Int.mul_comm]; walk_at "o") (by rw [Int.neg_mul_neg]; exact Int.mul_nonneg hm (by walk_at "o")) (by walk_at "o") (fn_int_divmod_neg H T T2 a b hb hb2 ha h0) H
  have lp : ForJ B (n + 43) (ceAt 76) (forVar 76 0) (forBody 76 0) [.int b, .int (-(b : Int))] ⟨[(Str.ofString "number", .int a), (Str.ofString "divisor", .int b)], []⟩ .nxt ⟨l2, []⟩ :=
    .step (.cons (by rfl) (.cons (by rfl) .nil)) (by rfl) (by rfl) p1 (.inl rfl) (.step q1 (by rfl) (by rfl) p2 (.inl rfl) .nil)
  conv at lp in (forBody 76 0) => whnf
  conv at lp in (forVar 76 0) => whnf
  refine FnJ.of H.divided (.mk' (by decide +kernel)) (by rfl) rfl ?_ (by rfl)
  conv in (bodyAt 76) => whnf
  refine .cons (Ex_for (ItE.ok (Ev_tuple (Es_cons (Ev_name (by rfl)) (Es_cons (Ev_un (Ev_name (by rfl)) (.neg _)) Es_nil)) (by simp)) (IterOk.tup (by rfl))) (by rfl) lp) ?_
  exact .ret Ev_bool
end
end Mine

namespace Mine

/-- what _iter_escaped_chars hands on -/
noncomputable def escOuts : Bool → Nat → List Nat → List CV
  | b, i, [] => if b then [.tup [.int ((i : Int) - 1), .str (mkS [92])]] else []
  | true, i, c :: cs => .tup [.int i, .str (mkS [92, c])] :: escOuts false (i + 1) cs
  | false, i, c :: cs => if c = 92 then escOuts true (i + 1) cs else .tup [.int i, .str (mkS [c])] :: escOuts false (i + 1) cs

noncomputable def genY (B : Base) (D : List Addr) (outs : List CV) : Protocol := fun n s₀ v s' kap => ∃ P y, outs[outs.length - 1 - n]? = some y ∧ (∃ k z, y = .tup [.int k, .str z]) ∧ InvS B.nt P (K0 B D s₀) (g0 s₀) s' ∧ (∀ a ∈ D, P a = none ∧ ∃ o, s'.heap.get? a = some o) ∧ VR P [] y v ∧
  ∀ s'', GoodS B s'' → (∀ a ∈ D, ∀ o, s'.heap.get? a = some o → s''.heap.get? a = some o) → kap (.send .none) s''
noncomputable def genP (B : Base) (D : List Addr) : Nat → Shared → Shared → Prop := fun n s₀ s' => n = 0 ∧ ∃ P, InvS B.nt P (K0 B D s₀) (g0 s₀) s'
noncomputable abbrev genR (B : Base) (D : List Addr) : GenEnd := fun n s₀ r s₁ => r = .ok (.ret .none) ∧ genP B D n s₀ s₁

section
variable {B : Base} {n m : Nat} {ce : CEnv} {P P' K : Gh} {env : Env} {s s₀ : Shared} {L e it : Addr} {vars vars' : List (Str × CV)} {A : Around}

noncomputable abbrev ledG (e it : Addr) (s : Shared) : Gh := fun a => if a = e ∨ a = it then s.heap.get? a else none
theorem orGG_no {g : GG} : orGG noG g = g := rfl
theorem jinG (Rl : Rel B.nt P (K0 B [L, e, it] s₀) (g0 s₀) ⟨L, [], []⟩ ce env ⟨vars, []⟩ s) (he : P e = none) (hi : P it = none) (hLe : L ≠ e) (hLi : L ≠ it) :
    Rel B.nt P (orG (ledG e it s) (K0 B [L, e, it] s₀)) (orGG noG (g0 s₀)) ⟨L, [], []⟩ ce env ⟨vars, []⟩ s ∧ Apart B.nt (ledG e it s) P (K0 B [L, e, it] s₀) := by
  have ha : Apart B.nt (ledG e it s) P (K0 B [L, e, it] s₀) := fun a o h => by
    unfold ledG at h
    split at h
    · rename_i q
      refine ⟨?_, K0_in (by rcases q with q | q <;> rw [q] <;> simp), fun _ h => nomatch h⟩
      rcases q with q | q <;> rw [q] <;> assumption
    · (first|subst h|obtain rfl:=sj h|exact n1 h|exact n2 h|exact b1 h|exact b2 h|cases h)
  refine ⟨Rl.addK (fun a o h => ?_) ha (fun a h => ?_) (fun i x h => by (first|subst h|obtain rfl:=sj h|exact n1 h|exact n2 h|exact b1 h|exact b2 h|cases h)), ha⟩
  · unfold ledG at h
    split at h
    · exact h
    · (first|subst h|obtain rfl:=sj h|exact n1 h|exact n2 h|exact b1 h|exact b2 h|cases h)
  · have : a = L := by simpa [stoOwn] using h
    rw [this]
    simp [ledG, hLe, hLi]
theorem joutG {P' : Gh} {X' : Book} {s' : Shared} (Rl : Rel B.nt P (K0 B [L, e, it] s₀) (g0 s₀) ⟨L, [], []⟩ ce env ⟨vars, []⟩ s) (ha : Apart B.nt (ledG e it s) P (K0 B [L, e, it] s₀)) (ae : ∃ o, s.heap.get? e = some o) (ai : ∃ o, s.heap.get? it = some o)
    (lP : Le P P') (lX : (⟨L, [], []⟩ : Book).Le X') (R' : Rel B.nt P' (orG (ledG e it s) (K0 B [L, e, it] s₀)) (orGG noG (g0 s₀)) X' ce env ⟨vars', []⟩ s') :
    X' = ⟨L, [], []⟩ ∧ Rel B.nt P' (K0 B [L, e, it] s₀) (g0 s₀) ⟨L, [], []⟩ ce env ⟨vars', []⟩ s' ∧ P' e = none ∧ P' it = none ∧ (∀ o, s.heap.get? e = some o → s'.heap.get? e = some o) ∧ (∀ o, s.heap.get? it = some o → s'.heap.get? it = some o) := by
  have eX : X' = ⟨L, [], []⟩ := by
    obtain ⟨a, b, c⟩ := X'
    have h1 := lX.L
    have h2 := lX.cells
    have h3 := R'.sto.length
    simp only at h1 h2 h3
    subst h1 h2
    have : c = [] := List.length_eq_zero_iff.mp h3
    subst this; rfl
  subst eX
  obtain ⟨R2, hl, ha2, _, _⟩ := R'.dropK (Rl.env.mono lP lX) ha (fun i x h => by (first|subst h|obtain rfl:=sj h|exact n1 h|exact n2 h|exact b1 h|exact b2 h|cases h))
  refine ⟨rfl, R2, ?_, ?_, fun o h => hl e o (by simp [ledG, h]), fun o h => hl it o (by simp [ledG, h])⟩
  · obtain ⟨o, h⟩ := ae; exact (ha2 e o (by simp [ledG, h])).1
  · obtain ⟨o, h⟩ := ai; exact (ha2 it o (by simp [ledG, h])).1
theorem jrunG {α : Type} {t : Env → Sem α} {R' : Gh → Sto → α → Prop} {Q : α → Shared → Prop} {E : Value → Shared → Prop} (h : J B.nt n ce t ⟨vars, []⟩ R' ⟨vars', []⟩) (hA : Room A n)
    (Rl : Rel B.nt P (K0 B [L, e, it] s₀) (g0 s₀) ⟨L, [], []⟩ ce env ⟨vars, []⟩ s) (he : P e = none) (hi : P it = none) (hLe : L ≠ e) (hLi : L ≠ it) (ae : ∃ o, s.heap.get? e = some o) (ai : ∃ o, s.heap.get? it = some o)
    (k : ∀ P' s' a, Le P P' → Rel B.nt P' (K0 B [L, e, it] s₀) (g0 s₀) ⟨L, [], []⟩ ce env ⟨vars', []⟩ s' → P' e = none → P' it = none → (∀ o, s.heap.get? e = some o → s'.heap.get? e = some o) → (∀ o, s.heap.get? it = some o → s'.heap.get? it = some o) → R' P' [] a → Q a s') :
    wpAny (model B.prog B.w) A (t env) Q E s := by
  obtain ⟨R1, ha⟩ := jinG Rl he hi hLe hLi
  refine h A env P _ _ _ s Q E hA R1 fun P' X' s' a lP lX R2 ra => ?_
  obtain ⟨rfl, a1, a2, a3, a4, a5⟩ := joutG Rl ha ae ai lP lX R2
  exact k P' s' a lP a1 a2 a3 a4 a5 ra
theorem jrunGA {t : Expr} {v : CV} {y : Value} {Q : Unit → Shared → Prop} {E : Value → Shared → Prop} (h : AsJ B.nt n ce t ⟨vars, []⟩ v ⟨vars', []⟩) (hA : Room A n)
    (Rl : Rel B.nt P (K0 B [L, e, it] s₀) (g0 s₀) ⟨L, [], []⟩ ce env ⟨vars, []⟩ s) (hy : VR P [] v y) (he : P e = none) (hi : P it = none) (hLe : L ≠ e) (hLi : L ≠ it) (ae : ∃ o, s.heap.get? e = some o) (ai : ∃ o, s.heap.get? it = some o)
    (k : ∀ P' s', Le P P' → Rel B.nt P' (K0 B [L, e, it] s₀) (g0 s₀) ⟨L, [], []⟩ ce env ⟨vars', []⟩ s' → P' e = none → P' it = none → (∀ o, s.heap.get? e = some o → s'.heap.get? e = some o) → (∀ o, s.heap.get? it = some o → s'.heap.get? it = some o) → Q () s') :
    wpAny (model B.prog B.w) A (assign t env y) Q E s := by
  obtain ⟨R1, ha⟩ := jinG Rl he hi hLe hLi
  refine h A env P _ _ _ s y Q E hA R1 hy fun P' X' s' lP lX R2 => ?_
  obtain ⟨rfl, a1, a2, a3, a4, a5⟩ := joutG Rl ha ae ai lP lX R2
  exact k P' s' lP a1 a2 a3 a4 a5

theorem draws_str {prog : Program} {w : World} {A : Around} (hh : A.handled = none) (it : Addr) (x : Str) (t : Tok) :
    Draws prog w A it [it] x.cps.size (fun i v => ∃ c u, x.cps[i]? = some c ∧ v = .str ⟨#[c]⟩ u) (fun i h => h.IsStrIter it (strIterType x) x t i) := by
  unfold strIterType
  cases h : x.cps.all (· < 128)
  · exact Draws.strWide hh it x t
  · exact Draws.strAscii hh it x t
end
end Mine

namespace Mine
section
variable {B : Base} {n m : Nat} {P P' : Gh} {env : Env} {s s₀ : Shared} {L e it : Addr} {vars vars' : List (Str × CV)} {A : Around} {outs : List CV}

noncomputable abbrev escL (esc : Bool) (p0 : Int) : List (Str × CV) := [(Str.ofString "escape", .bool esc), (Str.ofString "pos", .int p0)]
theorem seg_yieldG {fs : List Frame} {c : Code} {K : Flow → Sem Fin} {H : Value → Sem Fin} {ex : Expr} {ypos pos : Pos} {y : CV} (h : EvJ B.nt n (ceAt 9) ex ⟨vars, []⟩ y ⟨vars, []⟩) (ho : outs[outs.length - 1 - m]? = some y) (hy : ∃ k z, y = .tup [.int k, .str z])
    (hA : Room (A.over c fs) n) (hfs : splitAtGen fs = none) (hfg : fs.any Frame.guarded = false) (hs : (vars.all fun p => scalC p.2) = true) (hD : ∀ a ∈ [L, e, it], B.P₀ a = none)
    (Rl : Rel B.nt P (K0 B [L, e, it] s₀) (g0 s₀) ⟨L, [], []⟩ (ceAt 9) env ⟨vars, []⟩ s) (he : P e = none) (hi : P it = none) (hLe : L ≠ e) (hLi : L ≠ it) (ae : ∃ o, s.heap.get? e = some o) (ai : ∃ o, s.heap.get? it = some o)
    (k : ∀ s'', GoodS B s'' → Rel B.nt B.P₀ (K0 B [L, e, it] s'') (g0 s'') ⟨L, [], []⟩ (ceAt 9) env ⟨vars, []⟩ s'' → (∀ o, s.heap.get? e = some o → s''.heap.get? e = some o) → (∀ o, s.heap.get? it = some o → s''.heap.get? it = some o) →
      Seg (model B.prog B.w) A (genR B [L, e, it]) (genY B [L, e, it] outs) m s'' c (K .next) fs s'') :
    Seg (model B.prog B.w) A (genR B [L, e, it]) (genY B [L, e, it] outs) (m + 1) s₀ c ((exec (.Expr (.Yield (some ex) ypos) pos) env).wrap K H id id) fs s := by
  have hsc : env.scope = scopeAt 9 := Rl.env.scope
  refine seg_Expr_Yield hfs rfl hfg ?_ (by rw [hsc]; rfl) (by unfold interactive; rw [hsc]; rfl)
  refine jrunG h hA Rl he hi hLe hLi ae ai fun P' s' v lP R' e1 e2 e3 e4 rv => ?_
  intro kap hk
  have hL : P' L = none := (R'.off L (by simp)).1
  refine ⟨P', y, ho, hy, R'.inv, fun a ha => ?_, rv, fun s'' G hag => hk .none s'' ?_⟩
  · simp only [List.mem_cons, List.not_mem_nil, or_false] at ha
    rcases ha with q | q | q <;> rw [q]
    · exact ⟨hL, R'.alive _ (by simp)⟩
    · exact ⟨e1, let ⟨o, h⟩ := ae; ⟨o, e3 o h⟩⟩
    · exact ⟨e2, let ⟨o, h⟩ := ai; ⟨o, e4 o h⟩⟩
  · exact k s'' G (R'.again rfl hs hD (by simp) G (hag L (by simp))) (fun o h => hag e (by simp) o (e3 o h)) (fun o h => hag it (by simp) o (e4 o h))

noncomputable abbrev escKf : Flow → Sem Fin := fun f => .pure (.done (.ret (match f with | .ret v => v | _ => .none)))
noncomputable abbrev escHf (env : Env) : Value → Sem Fin := fun e => (leaving env e).wrap (fun _ => .raise e) .raise id id
/-- behind the loop -/
theorem esc_tail (esc : Bool) (p0 : Int) (hA : Room (A.over (.func (bodyAt 9) env) []) n) (hD : ∀ a ∈ [L, e, it], B.P₀ a = none)
    (Rl : Rel B.nt P (K0 B [L, e, it] s₀) (g0 s₀) ⟨L, [], []⟩ (ceAt 9) env ⟨escL esc p0, []⟩ s) (he : P e = none) (hi : P it = none) (hLe : L ≠ e) (hLi : L ≠ it) (ae : ∃ o, s.heap.get? e = some o) (ai : ∃ o, s.heap.get? it = some o)
    (ho : outs.drop (outs.length - (if esc then 1 else 0)) = if esc then [.tup [.int p0, .str (mkS [92])]] else []) :
    Seg (model B.prog B.w) A (genR B [L, e, it]) (genY B [L, e, it] outs) (if esc then 1 else 0) s₀ (.func (bodyAt 9) env) ((execs ((bodyAt 9).drop 3) env).wrap escKf (escHf env) id id) [] s := by
  conv in ((bodyAt 9).drop 3) => whnf
  refine seg_execs_cons (seg_If ?_)
  refine jrunG (vars' := escL esc p0) (Ts_plain (Ev_name (v := .bool esc) (by rfl)) (.bool esc)) hA Rl he hi hLe hLi ae ai fun P' s' b lP R' e1 e2 e3 e4 rb => ?_
  subst rb
  cases b with
  | false => exact seg_end (.ok (.ret .none)) ⟨rfl, rfl, P', R'.inv⟩
  | true =>
    simp only [if_true] at ho ⊢
    refine seg_execs_cons (seg_yieldG (y := .tup [.int p0, .str (mkS [92])]) (vars := escL true p0) (Ev_tuple (Es_cons (Ev_name (by rfl)) (Es_cons (J.eqv (v1 := .str (mkS [92])) Ev_str (by rfl)) Es_nil)) (by simp)) ?_ ⟨_, _, rfl⟩ hA rfl rfl (by rfl) hD R' e1 e2 hLe hLi (let ⟨o, h⟩ := ae; ⟨o, e3 o h⟩) (let ⟨o, h⟩ := ai; ⟨o, e4 o h⟩) fun s'' G R2 h1 h2 => ?_)
    · have h1 : (outs.drop (outs.length - 1))[0]? = some (.tup [.int p0, .str (mkS [92])]) := by rw [ho]; rfl
      rw [List.getElem?_drop] at h1
      simpa using h1
    · exact seg_end (.ok (.ret .none)) ⟨rfl, rfl, _, R2.inv⟩
end
end Mine

namespace Mine
section
variable {B : Base} {n m : Nat} {P P' : Gh} {env : Env} {s s₀ : Shared} {L e it : Addr} {vars vars' : List (Str × CV)} {A : Around} {outs : List CV}

noncomputable abbrev escKt (env : Env) : Flow → Sem Fin := fun f => match f with | .next => (execs ((bodyAt 9).drop 3) env).wrap escKf (escHf env) id id | f => escKf f
noncomputable abbrev escFs (env : Env) (p : Pos) : List Frame := [.ret (ownK env (escKt env) (escHf env) id id) none (id false) (id []) (.func (bodyAt 9) env) p []]
noncomputable abbrev escC (env : Env) (e : Addr) : Code := .forLoop (forVar 9 2) (.ref e) (forBody 9 2) [] env
theorem drop_at {α : Type} {l : List α} {N : Nat} {y : α} {ys : List α} (h : l.drop (l.length - (N + 1)) = y :: ys) : l[l.length - 1 - N]? = some y := by
  have h1 : (l.drop (l.length - (N + 1)))[0]? = some y := by rw [h]; rfl
  rw [List.getElem?_drop] at h1
  rw [show l.length - 1 - N = l.length - (N + 1) + 0 by walk_at "o"]; exact h1
theorem drop_next {α : Type} {l : List α} {N : Nat} {y : α} {ys : List α} (hl : N + 1 ≤ l.length) (h : l.drop (l.length - (N + 1)) = y :: ys) : l.drop (l.length - N) = ys := by
  have : l.drop (l.length - N) = (l.drop (l.length - (N + 1))).drop 1 := by
    rw [List.drop_drop]; congr 1; walk_at "o"
  rw [this, h]; rfl

theorem esc_loop {x : Str} {tk : Tok} (hA : Room A n) (hx : x.length ≤ 16777216) (hD : ∀ a ∈ [L, e, it], B.P₀ a = none) (hLe : L ≠ e) (hLi : L ≠ it) (hei : e ≠ it)
    (hF : ∀ p, Room (A.over (escC env e) (escFs env p)) n) (hG : Room (A.over (.func (bodyAt 9) env) []) n) (p : Pos) :
    ∀ (cs : List Nat) (i : Nat) (esc : Bool) (s₀ s : Shared) (P : Gh) (p0 : Int), x.cps.toList.drop i = cs → i ≤ x.cps.size → (esc = true → p0 = (i : Int) - 1) → Rel B.nt P (K0 B [L, e, it] s₀) (g0 s₀) ⟨L, [], []⟩ (ceAt 9) env ⟨escL esc p0, []⟩ s → P e = none → P it = none →
      (∃ old, IsEnum s.heap e it i old) → s.heap.IsStrIter it (strIterType x) x tk i → (escOuts esc i cs).length ≤ outs.length → outs.drop (outs.length - (escOuts esc i cs).length) = escOuts esc i cs →
      Seg (model B.prog B.w) A (genR B [L, e, it]) (genY B [L, e, it] outs) (escOuts esc i cs).length s₀ (escC env e) ((model B.prog B.w).den (escC env e)) (escFs env p) s
  | [], i, esc, s₀, s, P, p0, hcs, hix, hp, Rl, he, hi, hen, hst, hlen, ho => by
    obtain ⟨old, hen⟩ := hen
    have ae : ∃ o, s.heap.get? e = some o := ⟨_, hen⟩
    have ai : ∃ o, s.heap.get? it = some o := let ⟨o, h, _⟩ := hst; ⟨o, h⟩
    have hsz : i = x.cps.size := by
      have := List.drop_eq_nil_iff.mp hcs
      simp at this; walk_at "o"
    have hst' : s.heap.IsStrIter it (strIterType x) x tk x.cps.size := hsz ▸ hst
    refine seg_forLoop ?_
    refine pyNext_enum_end (hF p).handled (ends_str hst' (by simp)) hen fun h' hx' hal => ?_
    show Seg _ _ _ _ _ _ _ (leafOf (.ok .next)) _ _
    refine seg_leaf (.ok .next) ?_
    have Rl' : Rel B.nt P (K0 B [L, e, it] s₀) (g0 s₀) ⟨L, [], []⟩ (ceAt 9) env ⟨escL esc p0, []⟩ { s with heap := h' } :=
      Rl.same (.refl P) (Rl.inv.step (s' := { s with heap := h' }) (· = it) (fun b o hb eo => hx' b o hb eo) (fun b hb => ⟨hb ▸ hi, hb ▸ K0_in (by simp), fun _ h => nomatch h⟩) rfl rfl) (fun a ha o eo => hx' a o (by
        have : a = L := by simpa [stoOwn] using ha
        rw [this]; exact hLi) eo) fun a ha => (Rl.off a ha).1
    have hlen' : (escOuts esc i []).length = if esc then 1 else 0 := by cases esc <;> rfl
    rw [hlen'] at ho ⊢
    have ho' : outs.drop (outs.length - (if esc then 1 else 0)) = if esc then [.tup [.int p0, .str (mkS [92])]] else [] := by
      rw [ho]
      cases esc with
      | false => rfl
      | true => rw [hp rfl]; rfl
    exact esc_tail esc p0 hG hD Rl' he hi hLe hLi ⟨_, hx' e _ hei hen⟩ hal ho'
  | c :: cs, i, esc, s₀, s, P, p0, hcs, hix, hp, Rl, he, hi, hen, hst, hlen, ho => by
    obtain ⟨old, hen⟩ := hen
    have ae : ∃ o, s.heap.get? e = some o := ⟨_, hen⟩
    have ai : ∃ o, s.heap.get? it = some o := let ⟨o, h, _⟩ := hst; ⟨o, h⟩
    have hlt : i < x.cps.size := by
      rcases Nat.lt_or_ge i x.cps.size with h | h
      · exact h
      · rw [List.drop_eq_nil_of_le (by simpa using h)] at hcs; (first|subst hcs|obtain rfl:=sj hcs|exact n1 hcs|exact n2 hcs|exact b1 hcs|exact b2 hcs|cases hcs)
    have hget : x.cps[i]? = some c := by
      have h1 : (x.cps.toList.drop i)[0]? = some c := by rw [hcs]; rfl
      rw [List.getElem?_drop] at h1
      simpa using h1
    have hcs' : x.cps.toList.drop (i + 1) = cs := by
      have : x.cps.toList.drop (i + 1) = (x.cps.toList.drop i).drop 1 := by rw [List.drop_drop]
      rw [this, hcs]; rfl
    have hD' := draws_str (prog := B.prog) (w := B.w) (A := (A.over (escC env e) (escFs env p)).in1) (hF p).handled it x tk
    have ih := fun esc s₀ s P p0 => esc_loop (x := x) (tk := tk) hA hx hD hLe hLi hei hF hG p cs (i + 1) esc s₀ s P p0 hcs' hlt
    refine seg_forLoop ?_
    refine wpAny_pyNext_enum_itemD hD' hen hst hlt hei (by simpa using hei) fun v h' tk' hv heo hst2 hT hsz hk => ?_
    obtain ⟨c', u, hc', rfl⟩ := hv
    rw [hget] at hc'
    cases hc'
    refine wpAny_letOwnedTupleGo_enum heo fun h2 he2 hs2 => ?_
    have hel : e < s.heap.objs.size := Heap.lt_size hen
    have hil : it < s.heap.objs.size := let ⟨o, h⟩ := ai; Heap.lt_size h
    have hR1 : Rel B.nt P (K0 B [L, e, it] s₀) (g0 s₀) ⟨L, [], []⟩ (ceAt 9) env ⟨escL esc p0, []⟩ { s with heap := h2, toks := tk' + 1 } :=
      Rl.same (.refl P) (Rl.inv.step (s' := { s with heap := h2, toks := tk' + 1 }) (fun a => a = e ∨ a = it) (fun b o hb eo => (hs2.2 b (fun q => hb (.inl q))).trans (hk b o (fun q => hb (.inl q)) (fun q => hb (.inr q)) eo)) (fun b hb => by
          rcases hb with q | q
          · rw [q]; exact ⟨he, K0_in (by simp), fun _ h => nomatch h⟩
          · rw [q]; exact ⟨hi, K0_in (by simp), fun _ h => nomatch h⟩) rfl rfl)
        (fun a ha o eo => by
          have : a = L := by simpa [stoOwn] using ha
          rw [this] at eo ⊢
          exact (hs2.2 L hLe).trans (hk L o hLe hLi eo)) fun a ha => (Rl.off a ha).1
    have hTn : s.heap.objs.size ≠ e := Nat.ne_of_gt hel
    have hTi : s.heap.objs.size ≠ it := Nat.ne_of_gt hil
    have hTP : P s.heap.objs.size = none := Rl.inv.freshP
    have hTK : K0 B [L, e, it] s₀ s.heap.objs.size = none := Rl.inv.freshK
    have hLl : L < s.heap.objs.size := by obtain ⟨m, hm, _⟩ := Rl.loc; exact hm.lt
    have hT2 : h2.get? s.heap.objs.size = some (tupObj [.int i tk', .str ⟨#[c]⟩ u] 0) := (hs2.2 _ hTn).trans hT
    have hle : Le P (P.put s.heap.objs.size (tupObj [.int i tk', .str ⟨#[c]⟩ u] 0)) := Gh.put_le hTP
    have hR2 : Rel B.nt (P.put s.heap.objs.size (tupObj [.int i tk', .str ⟨#[c]⟩ u] 0)) (K0 B [L, e, it] s₀) (g0 s₀) ⟨L, [], []⟩ (ceAt 9) env ⟨escL esc p0, []⟩ { s with heap := h2, toks := tk' + 1 } :=
      hR1.same hle (hR1.inv.put hT2 hTP hTK (fun _ h => nomatch h)) (fun _ _ _ e => e) fun a ha => by
        have : a = L := by simpa [stoOwn] using ha
        rw [this] at ha ⊢
        exact (Gh.put_ne (Nat.ne_of_lt hLl)).trans (hR1.off L ha).1
    have ht : VR (P.put s.heap.objs.size (tupObj [.int i tk', .str ⟨#[c]⟩ u] 0)) [] (.tup [.int i, .str (mkS [c])]) (.ref s.heap.objs.size) := .tup Gh.put_self (.cons (.int _ _) (.cons (.str _ _) .nil))
    have hit2 : h2.IsStrIter it (strIterType x) x tk (i + 1) := let ⟨o, a, b⟩ := hst2; ⟨o, (hs2.2 it (Ne.symm hei)).trans a, b⟩
    refine jrunGA (vars' := [(Str.ofString "ch", .str (mkS [c])), (Str.ofString "pos", .int i), (Str.ofString "escape", .bool esc), (Str.ofString "pos", .int p0)]) (v := .tup [.int i, .str (mkS [c])])
      (As_tuple (.cons (As_name (by rfl)) (.cons (As_name (by rfl)) .nil)) rfl) (hF p) hR2 ht ((Gh.put_ne hTn.symm).trans he) ((Gh.put_ne hTi.symm).trans hi) hLe hLi ⟨_, he2⟩ (let ⟨o, h, _⟩ := hit2; ⟨o, h⟩) fun P3 s3 lP3 R3 e3 i3 k3e k3i => ?_
    have he3 := k3e _ he2
    have hit3 : s3.heap.IsStrIter it (strIterType x) x tk (i + 1) := let ⟨o, a, b⟩ := hit2; ⟨o, k3i o a, b⟩
    conv in (forBody 9 2) => whnf
    refine seg_execs_cons (seg_If ?_)
    refine jrunG (Ts_plain (Ev_name (v := .bool esc) (by rfl)) (.bool esc)) (hF p) R3 e3 i3 hLe hLi ⟨_, he3⟩ (let ⟨o, h, _⟩ := hit3; ⟨o, h⟩) fun P4 s4 b lP4 R4 e4 i4 k4e k4i rb => ?_
    subst rb
    have he4 := k4e _ he3
    have hit4 : s4.heap.IsStrIter it (strIterType x) x tk (i + 1) := let ⟨o, a, b⟩ := hit3; ⟨o, k4i o a, b⟩
    have Dn : ∀ a ∈ [e, it], B.P₀ a = none := fun a ha => hD a (.tail _ ha)
    have back : ∀ (esc' : Bool) (s₀' s5 : Shared) (P5 : Gh) (vars5 : List (Str × CV)), (esc' = true → (i : Int) = ((i + 1 : Nat) : Int) - 1) → Rel B.nt P5 (K0 B [L, e, it] s₀') (g0 s₀') ⟨L, [], []⟩ (ceAt 9) env ⟨vars5, []⟩ s5 → VSub (escL esc' i) vars5 → P5 e = none → P5 it = none →
        (∀ o, s4.heap.get? e = some o → s5.heap.get? e = some o) → (∀ o, s4.heap.get? it = some o → s5.heap.get? it = some o) → (escOuts esc' (i + 1) cs).length ≤ outs.length → outs.drop (outs.length - (escOuts esc' (i + 1) cs).length) = escOuts esc' (i + 1) cs →
        Seg (model B.prog B.w) A (genR B [L, e, it]) (genY B [L, e, it] outs) (escOuts esc' (i + 1) cs).length s₀' (escC env e) ((execs [] env).wrap (loopK (forVar 9 2) (.ref e) (forBody 9 2) env) (loopH env) id id) (escFs env p) s5 :=
      fun esc' s₀' s5 P5 vars5 h1 h2 h3 h4 h5 h6 h7 h8 h9 => seg_again (by rfl) (ih esc' s₀' s5 P5 i h1 (h2.weak h3) h4 h5 ⟨_, h6 _ he4⟩ (let ⟨o, a, b⟩ := hit4; ⟨o, h7 o a, b⟩) h8 h9)
    cases b with
    | true =>
      have e1 : escOuts true i (c :: cs) = .tup [.int i, .str (mkS [92, c])] :: escOuts false (i + 1) cs := rfl
      have el : (escOuts true i (c :: cs)).length = (escOuts false (i + 1) cs).length + 1 := rfl
      rw [el] at ho hlen ⊢
      rw [e1] at ho
      refine seg_execs_cons (seg_yieldG (m := (escOuts false (i + 1) cs).length) (y := .tup [.int i, .str (mkS [92, c])]) (Ev_tuple (Es_cons (Ev_name (by rfl)) (Es_cons (J.eqv (v1 := .str (mkS [92, c])) (Ev_bo (v1 := .str (mkS [92])) (J.eqv Ev_str (by rfl)) (Ev_name (v := .str (mkS [c])) (by rfl)) (.seq (.addS _ _ (by simp [Str.length])))) (by rw [mkS_app]; rfl)) Es_nil)) (by simp)) (drop_at ho) ⟨_, _, rfl⟩ (hF p) rfl rfl (by rfl) hD R4 e4 i4 hLe hLi ⟨_, he4⟩ (let ⟨o, h, _⟩ := hit4; ⟨o, h⟩) fun s5 G R5 k5e k5i => ?_)
      refine seg_st (jrunG (Ex_assign Ev_bool (As_name (by rfl))) (hF p) R5 (Dn e (by simp)) (Dn it (by simp)) hLe hLi ⟨_, k5e _ he4⟩ (let ⟨o, h, _⟩ := hit4; ⟨o, k5i o h⟩) fun P6 s6 f lP6 R6 e6 i6 k6e k6i rf => ⟨by cases rf; rfl, ?_⟩)
      exact back false s5 s6 P6 _ (fun h => nomatch h) R6 (.cons (by rfl) (.cons (by rfl) .nil)) e6 i6 (fun o h => k6e o (k5e o h)) (fun o h => k6i o (k5i o h)) (by walk_at "o") (drop_next hlen ho)
    | false =>
      refine seg_execs_cons (seg_If ?_)
      refine jrunG (Ts_cmp (Ev_name (v := .str (mkS [c])) (by rfl)) (J.eqv (v1 := .str (mkS [92])) Ev_str (by rfl)) (.eqS _ _)) (hF p) R4 e4 i4 hLe hLi ⟨_, he4⟩ (let ⟨o, h, _⟩ := hit4; ⟨o, h⟩) fun P5 s5 b lP5 R5 e5 i5 k5e k5i rb => ?_
      by_cases hc : c = 92
      · subst hc
        have : b = true := by rw [rb]; rfl
        subst this
        have e1 : escOuts false i (92 :: cs) = escOuts true (i + 1) cs := rfl
        rw [e1] at ho hlen ⊢
        refine seg_st (jrunG (Ex_assign Ev_bool (As_name (by rfl))) (hF p) R5 e5 i5 hLe hLi ⟨_, k5e _ he4⟩ (let ⟨o, h, _⟩ := hit4; ⟨o, k5i o h⟩) fun P6 s6 f lP6 R6 e6 i6 k6e k6i rf => ⟨by cases rf; rfl, ?_⟩)
        exact back true s₀ s6 P6 _ (fun _ => by walk_at "o") R6 (.cons (by rfl) (.cons (by rfl) .nil)) e6 i6 (fun o h => k6e o (k5e o h)) (fun o h => k6i o (k5i o h)) hlen ho
      · have : b = false := by rw [rb]; simpa [mkS] using hc
        subst this
        have e1 : escOuts false i (c :: cs) = .tup [.int i, .str (mkS [c])] :: escOuts false (i + 1) cs := by simp [escOuts, hc]
        have el : (escOuts false i (c :: cs)).length = (escOuts false (i + 1) cs).length + 1 := by rw [e1]; rfl
        rw [el] at ho hlen ⊢
        rw [e1] at ho
        refine seg_execs_cons (seg_yieldG (m := (escOuts false (i + 1) cs).length) (y := .tup [.int i, .str (mkS [c])]) (Ev_tuple (Es_cons (Ev_name (by rfl)) (Es_cons (Ev_name (by rfl)) Es_nil)) (by simp)) (drop_at ho) ⟨_, _, rfl⟩ (hF p) rfl rfl (by rfl) hD R5 e5 i5 hLe hLi ⟨_, k5e _ he4⟩ (let ⟨o, h, _⟩ := hit4; ⟨o, k5i o h⟩) fun s6 G R6 k6e k6i => ?_)
        exact back false s6 s6 _ _ (fun h => nomatch h) R6 (.cons (by rfl) (.cons (by rfl) .nil)) (Dn e (by simp)) (Dn it (by simp)) (fun o h => k6e o (k5e o h)) (fun o h => k6i o (k5i o h)) (by walk_at "o") (drop_next hlen ho)
end
end Mine

namespace Mine
section
variable {B : Base} {n m : Nat} {P P' K : Gh} {env : Env} {s s₀ : Shared} {L e it : Addr} {vars vars' : List (Str × CV)} {A : Around} {outs : List CV}

theorem esc_first {x : Str} {tk : Tok} {mm : Str → Option Value} (hA : Room A n) (hx : x.length ≤ 16777216) (G : GoodS B s₀) (hLP : B.P₀ L = none) (hE : EnvOk P K ⟨L, [], []⟩ (ceAt 9) env) (hm : s₀.heap.Ns L mm) (hadr : mm (Str.ofString "addr") = some (.str x tk))
    (hF : ∀ e p, Room (A.over (escC env e) (escFs env p)) n) (hG : Room (A.over (.func (bodyAt 9) env) []) n) :
    Seg (model B.prog B.w) A (genR B [L, s₀.heap.objs.size + 1, s₀.heap.objs.size]) (genY B [L, s₀.heap.objs.size + 1, s₀.heap.objs.size] (escOuts false 0 x.cps.toList)) (escOuts false 0 x.cps.toList).length s₀ (.func (bodyAt 9) env) ((model B.prog B.w).den (.func (bodyAt 9) env)) [] s₀ := by
  have hsc : env.scope = scopeAt 9 := hE.scope
  have hk : ∀ y, env.kindOf y = (scopeAt 9).names.lookup y := fun y => by unfold Env.kindOf; rw [hsc]
  have hkf : env.scope.kind = .function := by rw [hsc]; rfl
  have hloc : env.locals = L := hE.locals
  have hp : (env.scope.kind == .class || (env.scope.kind == .module && env.locals != env.globals)) = false := by rw [hkf]; rfl
  have hLlt : L < s₀.heap.objs.size := hm.lt
  have hD : ∀ a ∈ [L, s₀.heap.objs.size + 1, s₀.heap.objs.size], B.P₀ a = none := fun a ha => by
    simp only [List.mem_cons, List.not_mem_nil, or_false] at ha
    cases q : B.P₀ a with
    | none => rfl
    | some o =>
      have := Heap.lt_size (G.h0 a o q)
      rcases ha with w | w | w <;> rw [w] at q this
      · rw [hLP] at q; (first|subst q|obtain rfl:=sj q|exact n1 q|exact n2 q|exact b1 q|exact b2 q|cases q)
      · exact absurd this (Nat.not_lt.mpr (Nat.le_succ _))
      · exact absurd this (Nat.lt_irrefl _)
  refine seg_func ?_
  have eb : bodyAt 9 = (bodyAt 9).take 3 ++ (bodyAt 9).drop 3 := (List.take_append_drop 3 _).symm
  rw [show (execs (bodyAt 9) env) = execs ((bodyAt 9).take 3 ++ (bodyAt 9).drop 3) env by rw [← eb]]
  generalize hrest : (bodyAt 9).drop 3 = rest
  conv in ((bodyAt 9).take 3) => whnf
  refine seg_st (wpAny_Assign_Name (wpAny_Constant_int (wpAny_storeName_local (hk _) (hloc.symm ▸ hm) (fun h1 hn1 hs1 => ⟨rfl, ?_⟩) hp)))
  rw [hloc] at hn1 hs1
  refine seg_st (wpAny_Assign_Name (wpAny_pure (wpAny_storeName_local (hk _) (hloc.symm ▸ hn1) (fun h2 hn2 hs2 => ⟨rfl, ?_⟩) hp)))
  rw [hloc] at hn2 hs2
  replace hs1 : Heap.SameBut L s₀.heap h1 := hs1
  replace hs2 : Heap.SameBut L h1 h2 := hs2
  have hsz : h2.objs.size = s₀.heap.objs.size := hs2.1.trans hs1.1
  have h0' : LeH B.P₀ h2 := fun a o e => by
    have : a ≠ L := fun q => by rw [q, hLP] at e; (first|subst e|obtain rfl:=sj e|exact n1 e|exact n2 e|exact b1 e|exact b2 e|cases e)
    exact (hs2.2 a this).trans ((hs1.2 a this).trans (G.h0 a o e))
  refine seg_execs_cons (seg_For (fun _ => rfl) ?_)
  obtain ⟨u, hu, hur⟩ := B.glob (Str.ofString "enumerate") (.cst (.type "enumerate")) (by rfl)
  have hue : u = .type "enumerate" := by
    have := hur (fun _ => none) []
    (first|subst this|obtain rfl:=sj this|exact n1 this|exact n2 this|exact b1 this|exact b2 this|cases this); rfl
  subst hue
  refine Call_Name rfl (wpAny_Name ?_ (by decide))
  have hg : h2.Ns env.globals B.mg := hE.globals.symm ▸ B.ns_g _ h0'
  have hb : h2.Ns env.builtins B.mb := hE.bui.symm ▸ B.ns_b _ h0'
  have key : ∀ {A' : Around} {Q : Value → Shared → Prop} {E : Value → Shared → Prop} {s' : Shared}, s'.heap = h2 → Q (.type "enumerate") s' → wpAny (model B.prog B.w) A' (loadName env (Str.ofString "enumerate")) Q E s' := fun {A' Q E s'} e q => by
    subst e
    unfold loadName
    simp only [Env.blockKind, hkf, hk, show (scopeAt 9).names.lookup (Str.ofString "enumerate") = some .globalImplicit from rfl, ScopeKind.isAnnotationScope, Bool.false_and, Bool.false_eq_true, if_false]
    rcases hu with hu | ⟨hu, hu'⟩
    · exact loadGlobal_global hg hu q
    · exact loadGlobal_builtin hg hu hb hu' q
  refine key rfl ?_
  refine PyProof.Rows.callWith_type (by rfl) (evalArgs_any (by rfl) ?_)
  refine spliced_cons (wpAny_Name (wpAny_loadName_local hkf (hk _) (hloc.symm ▸ hn2) (v := .str x tk) (by show (if _ = _ then _ else if _ = _ then _ else _) = _; rw [if_neg (by decide), if_neg (by decide)]; exact hadr) (spliced_nil ?_)) (by decide))
  refine call_enumerate_str fun h3 he3 hit3 hz3 hk3 => ?_
  have hz : ({ s₀ with heap := h2 } : Shared).heap.objs.size = s₀.heap.objs.size := hsz
  replace he3 : IsEnum h3 (h2.objs.size + 1) h2.objs.size 0 .none := he3
  replace hit3 : h3.IsStrIter h2.objs.size (strIterType x) x tk 0 := hit3
  replace hk3 : ∀ b o, h2.get? b = some o → h3.get? b = some o := hk3
  show wpAny _ _ (pyIter (.ref (h2.objs.size + 1))) _ _ _
  rw [hsz] at he3 hit3 ⊢
  refine wpAny_pyIter_enum he3 fun p => ?_
  subst hrest
  have hLe : L ≠ s₀.heap.objs.size + 1 := Nat.ne_of_lt (Nat.lt_succ_of_lt hLlt)
  have hLi : L ≠ s₀.heap.objs.size := Nat.ne_of_lt hLlt
  suffices ∀ s3 : Shared, s3.heap = h3 → s3.os = s₀.os → s3.gens = s₀.gens → Seg (model B.prog B.w) A (genR B [L, s₀.heap.objs.size + 1, s₀.heap.objs.size]) (genY B [L, s₀.heap.objs.size + 1, s₀.heap.objs.size] (escOuts false 0 x.cps.toList)) (escOuts false 0 x.cps.toList).length s₀ (escC env (s₀.heap.objs.size + 1)) ((model B.prog B.w).den (escC env (s₀.heap.objs.size + 1))) (escFs env p) s3 from this _ rfl rfl rfl
  intro s3 e3 eo eg
  subst e3
  have Rl : Rel B.nt B.P₀ (K0 B [L, s₀.heap.objs.size + 1, s₀.heap.objs.size] s₀) (g0 s₀) ⟨L, [], []⟩ (ceAt 9) env ⟨escL false 0, []⟩ s3 := mkG (L := L) G hD (by simp) (fun b o hb eo => (by
    have : b ≠ L := fun q => hb (by simp [q])
    exact hk3 b o ((hs2.2 b this).trans ((hs1.2 b this).trans eo)))) eo eg hE rfl (hn2.keeps hk3) fun y cv hy hc => (by
    have := mem_lookup hc
    simp only [List.mem_cons, Prod.mk.injEq, List.not_mem_nil, or_false] at this
    rcases this with ⟨rfl, rfl⟩ | ⟨rfl, rfl⟩
    · exact ⟨.bool false, by rw [if_pos rfl], .bool _⟩
    · exact ⟨.int 0 s₀.toks, by rw [if_neg (by decide), if_pos rfl], .int _ _⟩)
  exact esc_loop (x := x) (tk := tk) hA hx hD hLe hLi (Nat.succ_ne_self _) (hF _) hG p x.cps.toList 0 false s₀ s3 B.P₀ 0 rfl (Nat.zero_le _) (fun h => nomatch h) Rl (hD _ (by simp)) (hD _ (by simp)) ⟨_, he3⟩ hit3 (Nat.le_refl _) (by simp)
end
end Mine

namespace Mine
section
variable {B : Base} {n m : Nat} {P P' P1 K K1 led : Gh} {g1 gl : GG} {env : Env} {s s₀ : Shared} {L e it : Addr} {vars vars' : List (Str × CV)} {A : Around} {outs : List CV} {D : List Addr}

theorem setGen_other {i g : Nat} {x y : GenState} (h : s.gens[i]? = some y) (hne : i ≠ g) : (s.setGen g x).gens[i]? = some y := by
  show (s.gens.setIfInBounds g x)[i]? = some y
  rw [Array.getElem?_setIfInBounds_ne (Ne.symm hne)]; exact h
theorem setGen_self {g : Nat} {x y : GenState} (h : s.gens[g]? = some y) : (s.setGen g x).gens[g]? = some x := by
  show (s.gens.setIfInBounds g x)[g]? = some x
  obtain ⟨hl, _⟩ := Array.getElem?_eq_some_iff.mp h
  rw [Array.getElem?_setIfInBounds_self_of_lt hl]
theorem InvS.setG {g : Nat} {x : GenState} (I : InvS B P K g1 s) (hg : g1 g = none) (hb : x.bare = true) : InvS B P K g1 (s.setGen g x) where
  perm := I.perm
  keep := I.keep
  apart := I.apart
  base := I.base
  os := I.os
  bare := fun y hy => by
    rcases Array.mem_or_eq_of_mem_setIfInBounds hy with h | rfl
    · exact I.bare y h
    · exact hb
  gk := fun i y e => setGen_other (I.gk i y e) fun q => by rw [q, hg] at e; (first|subst e|obtain rfl:=sj e|exact n1 e|exact n2 e|exact b1 e|exact b2 e|cases e)
  tabs := I.tabs
noncomputable def genObj (h : Obj) (g : Nat) : Prop := ∃ nm qn, h.cls = .type "generator" ∧ h.data = .fields #[.int g 0, nm, qn] ∧ h.slots = #[]
theorem genObj.is {h : Heap} {I : Addr} {o : Obj} {g : Nat} (x : genObj o g) (e : h.get? I = some o) : h.IsGen I g := let ⟨nm, qn, a, b, c⟩ := x; ⟨o, nm, qn, e, a, b, c⟩
noncomputable abbrev oneG (g : Nat) (gs : GenState) : GG := fun i => if i = g then some gs else none
noncomputable abbrev escScal (outs : List CV) : Prop := ∀ y ∈ outs, ∃ k z, y = .tup [.int k, .str z]

/-- one turn of the generator, told to its caller -/
theorem gen_turn {I : Addr} {g : Nat} {gs : GenState} {oI : Obj} (hA : Room (Amax n) n) (hlm : m ≤ outs.length) (hID : I ∉ D) (hgen : genObj oI g)
    (rec : ∀ (P : Gh) (led : Gh) (gs : GenState) (m' : Nat), m = m' + 1 → (∀ a o, led a = some o → a ∈ D ∨ a = I) → (∀ a ∈ D, ∃ o, led a = some o) → led I = some oI →
      (∀ s'', GoodS B s'' → (∀ a ∈ D, ∀ o, led a = some o → s''.heap.get? a = some o) → gs.Goes (model B.prog B.w) (Amax n).in1 (genR B D) (genY B D outs) m' (.send .none) s'') →
      ItJ B n I (outs.drop (outs.length - m')) P led (oneG g gs))
    {Q : Option Value → Shared → Prop} {E : Value → Shared → Prop} (I1 : InvS B P1 K1 g1 s) (heI : s.heap.get? I = some oI) (hPI : P1 I = none ∧ K1 I = none ∧ ∀ t ∈ B.tabs, t.P ≠ I) (hg : s.gens[g]? = some gs ∧ g1 g = none)
    (hD : ∀ a ∈ D, P1 a = none ∧ K1 a = none ∧ ∀ t ∈ B.tabs, t.P ≠ a)
    (hgo : gs.Goes (model B.prog B.w) (Amax n).in1 (genR B D) (genY B D outs) m (.send .none) (s.setGen g .running))
    (hQ : match (match outs.drop (outs.length - m) with | [] => none | y :: ys => some (y, ItJ B n I ys) : Option (CV × (Gh → Gh → GG → Prop))) with
      | none => ∀ P'' s', Le P1 P'' → InvS B P'' K1 g1 s' → Q none s'
      | some (y, next) => ∀ P'' s' v led' gl', Le P1 P'' → InvS B P'' K1 g1 s' → LeH led' s'.heap → Apart B led' P'' K1 → GOk gl' g1 s' → VR P'' [] y v → next P'' led' gl' → Q (some v) s') :
    wpAny (model B.prog B.w) (Amax n) (pyNext (.ref I)) Q E s := by
  have Ir : InvS B P1 K1 g1 (s.setGen g .running) := I1.setG hg.2 rfl
  have hrun : (s.setGen g .running).gens[g]? = some .running := setGen_self hg.1
  refine pyNext_genQ (A := Amax n) rfl I1.nolim (by have := hA.depth; walk_at "o") (hgen.is heI) hg.1 hgo (fun v s₁ gs' hb hy => ?_) (fun s₁ hp h' hk => ?_)
  · obtain ⟨P2, y, hy1, ⟨k, z, rfl⟩, hI2, hDP, hv, hkap⟩ := hy
    have hI3 := back0 Ir hD hI2
    obtain ⟨P3, lP3, hI4, hv3, hne⟩ := back_tup Ir hD hI2 hv (by intro v hv; simp at hv; rcases hv with rfl | rfl <;> rfl)
    have G1 : GoodS B s₁ := hI2.goodN
    cases m with
    | zero => exact (hkap s₁ G1 fun _ _ _ h => h).elim
    | succ m' =>
      have e1 : outs.drop (outs.length - (m' + 1)) = .tup [.int k, .str z] :: outs.drop (outs.length - m') := by
        rw [show outs.length - 1 - (m' + 1 - 1) = outs.length - (m' + 1) by walk_at "o"] at hy1
        obtain ⟨hl, hy2⟩ := List.getElem?_eq_some_iff.mp hy1
        rw [List.drop_eq_getElem_cons hl, hy2]
        congr 2; walk_at "o"
      rw [e1] at hQ
      have hI0 : B.P₀ I = none := by
        cases q : B.P₀ I with
        | none => rfl
        | some o => have := I1.base I o q; rw [hPI.1] at this; (first|subst this|obtain rfl:=sj this|exact n1 this|exact n2 this|exact b1 this|exact b2 this|cases this)
      have heI1 : s₁.heap.get? I = some oI := frame0 Ir.good hI2 I oI hID heI
      have hPI2 : P2 I = none := hI2.apart I oI ((K0_out hID hI0).trans heI)
      let led' : Gh := fun a => if a ∈ D ∨ a = I then s₁.heap.get? a else none
      have hled : ∀ a o, led' a = some o → (a ∈ D ∨ a = I) ∧ s₁.heap.get? a = some o := fun a o h => by
        simp only [led'] at h
        split at h
        · exact ⟨‹_›, h⟩
        · (first|subst h|obtain rfl:=sj h|exact n1 h|exact n2 h|exact b1 h|exact b2 h|cases h)
      have hledD : ∀ a ∈ D, led' a = s₁.heap.get? a := fun a ha => by simp only [led']; rw [if_pos (.inl ha)]
      have hledI : led' I = some oI := (if_pos (.inr rfl)).trans heI1
      refine hQ P3 (s₁.setGen g gs') v led' (oneG g gs') lP3 (hI4.setG hg.2 hb) (fun a o h => (hled a o h).2) (fun a o h => ?_) (fun i x h => ?_) hv3 (rec P3 led' gs' m' rfl (fun a o h => (hled a o h).1) (fun a ha => ?_) hledI fun s'' G'' hag => hkap s'' G'' fun a ha o ho => hag a ha o (by rw [hledD a ha]; exact ho))
      · obtain ⟨q, ho⟩ := hled a o h
        have h3 : P1 a = none ∧ K1 a = none ∧ ∀ t ∈ B.tabs, t.P ≠ a := by rcases q with q | q; exact hD a q; rw [q]; exact hPI
        have h2 : P2 a = none := by rcases q with q | q; exact (hDP a q).1; rw [q]; exact hPI2
        refine ⟨?_, h3.2⟩
        cases q3 : P3 a with
        | none => rfl
        | some o3 =>
          have := hne a h3.1 (by rw [q3]; simp)
          obtain ⟨_, a2, _, e2, hp, _⟩ := hv.inv
          have e3 : a2 = a := Value.ref.inj (e2.symm.trans this)
          rw [e3, h2] at hp; exact n1 hp
      · simp only [oneG] at h
        split at h
        · rename_i q; subst q; (first|subst h|obtain rfl:=sj h|exact n1 h|exact n2 h|exact b1 h|exact b2 h|cases h)
          exact ⟨setGen_self (hI2.gk _ _ hrun), hg.2⟩
        · (first|subst h|obtain rfl:=sj h|exact n1 h|exact n2 h|exact b1 h|exact b2 h|cases h)
      · obtain ⟨o, ho⟩ := (hDP a ha).2
        exact ⟨o, by rw [hledD a ha]; exact ho⟩
  · obtain ⟨hm, P2, hI2⟩ := hp
    subst hm
    have e1 : outs.drop (outs.length - 0) = [] := by simp
    rw [e1] at hQ
    exact hQ P1 _ (.refl _) (((back0 Ir hD hI2).setG hg.2 rfl).grow hk rfl rfl)
end
end Mine

namespace Mine
section
variable {B : Base} {n m : Nat} {P P' P1 K K1 led : Gh} {g1 gl : GG} {env : Env} {s s₀ : Shared} {L e it : Addr} {vars vars' : List (Str × CV)} {A : Around} {outs : List CV} {D : List Addr} {ce : CEnv} {st st1 st2 : LSt}

theorem ItJ.mk {I : Addr} {ys : List CV} (h1 : ItSelf B n I P led) (h2 : ItNext B n I P led gl (match ys with | [] => none | y :: ys => some (y, ItJ B n I ys))) : ItJ B n I ys P led gl := by
  cases ys <;> exact ⟨h1, h2⟩
theorem gen_self {I : Addr} {oI : Obj} {g : Nat} (hgen : genObj oI g) (hl : led I = some oI) : ItSelf B n I P led :=
  ⟨fun A s Q E hA hp hle q => wpAny_pyIter_gen (hgen.is (hle I oI hl)) q, oI, "generator", hl, let ⟨_, _, a, _⟩ := hgen; a, by decide⟩
theorem itj_susp {I : Addr} {g : Nat} {oI : Obj} (hID : I ∉ D) (hgen : genObj oI g) : ∀ (m : Nat), m ≤ outs.length → ∀ (P led : Gh) (gs : GenState), (∀ a o, led a = some o → a ∈ D ∨ a = I) → (∀ a ∈ D, ∃ o, led a = some o) → led I = some oI →
      (∀ s'', GoodS B s'' → (∀ a ∈ D, ∀ o, led a = some o → s''.heap.get? a = some o) → gs.Goes (model B.prog B.w) (Amax n).in1 (genR B D) (genY B D outs) m (.send .none) s'') →
      ItJ B n I (outs.drop (outs.length - m)) P led (oneG g gs) := by
  intro m
  induction m with
  | zero =>
    intro hlm P led gs h1 h2 h3 h4
    refine ItJ.mk (gen_self hgen h3) fun A P' K g' s Q E hA lP I1 hl ha hg hQ => hA.wide (gen_turn (m := 0) hA.max hlm hID hgen (fun _ _ _ m' hm => by walk_at "o") I1 (hl I oI h3) (ha I oI h3) (hg g gs (if_pos rfl)) (fun a haD => let ⟨o, h⟩ := h2 a haD; ha a o h) (h4 _ (I1.setG (hg g gs (if_pos rfl)).2 rfl).good fun a _ o h => hl a o h) hQ)
  | succ m ih =>
    intro hlm P led gs h1 h2 h3 h4
    refine ItJ.mk (gen_self hgen h3) fun A P' K g' s Q E hA lP I1 hl ha hg hQ => hA.wide (gen_turn (m := m + 1) hA.max hlm hID hgen (fun P led gs m' hm a b c d => ?_) I1 (hl I oI h3) (ha I oI h3) (hg g gs (if_pos rfl)) (fun a haD => let ⟨o, h⟩ := h2 a haD; ha a o h) (h4 _ (I1.setG (hg g gs (if_pos rfl)).2 rfl).good fun a _ o h => hl a o h) hQ)
    obtain rfl : m = m' := by walk_at "o"
    exact ih (by walk_at "o") P led gs a b c d

theorem room_over1 (h : Room A (n + 1)) (e : Addr) (p : Pos) : Room (A.in1.over (escC env e) (escFs env p)) n :=
  ⟨h.handled, by have := h.depth; show A.depth + 1 + 0 + n < _; walk_at "o", by have := h.units; show A.units + 1 + 3 + 0 + 8 * n + 80 < _; walk_at "o"⟩
theorem room_over2 (h : Room A (n + 1)) : Room (A.in1.over (.func (bodyAt 9) env) []) n :=
  ⟨h.handled, by have := h.depth; show A.depth + 0 + 1 + n < _; walk_at "o", by have := h.units; show A.units + 1 + 0 + 3 + 8 * n + 80 < _; walk_at "o"⟩
theorem room_in1 (h : Room A (n + 1)) : Room A.in1 n := ⟨h.handled, by have := h.depth; show A.depth + n < _; walk_at "o", by have := h.units; show A.units + 1 + 8 * n + 80 < _; walk_at "o"⟩
theorem itj_fresh {I : Addr} {g : Nat} {oI : Obj} {x : Str} {tk : Tok} {mm : Str → Option Value} {oL : Obj} (hgen : genObj oI g) (hIL : I ≠ L) (hL : led L = some oL) (hI : led I = some oI) (hx : x.length ≤ 16777216)
    (hE : EnvOk P K ⟨L, [], []⟩ (ceAt 9) env) (hm : ∀ h : Heap, h.get? L = some oL → h.Ns L mm) (hadr : mm (Str.ofString "addr") = some (.str x tk)) :
    ItJ B (n + 1) I (escOuts false 0 x.cps.toList) P1 led (oneG g (.fresh (.func (bodyAt 9) env))) := by
  refine ItJ.mk (gen_self hgen hI) fun A P' K' g' s Q E hA lP I1 hl ha hg hQ => hA.wide ?_
  have hAm := hA.max
  have Ir : InvS B P' K' g' (s.setGen g .running) := I1.setG (hg g _ (if_pos rfl)).2 rfl
  have hIlt : I < s.heap.objs.size := Heap.lt_size (hl I oI hI)
  have e0 : (escOuts false 0 x.cps.toList).drop ((escOuts false 0 x.cps.toList).length - (escOuts false 0 x.cps.toList).length) = escOuts false 0 x.cps.toList := by simp
  have fresh : ∀ a, s.heap.objs.size ≤ a → P' a = none ∧ K' a = none ∧ ∀ t ∈ B.tabs, t.P ≠ a := fun a h => by
    refine ⟨I1.newP h, ?_, fun t ht q => ?_⟩
    · cases e : K' a with
      | none => rfl
      | some o => exact absurd (Heap.lt_size (I1.keep a o e)) (Nat.not_lt.mpr h)
    · obtain ⟨_, _, ps, e, _⟩ := I1.tabs t ht
      exact absurd (Heap.lt_size e) (Nat.not_lt.mpr (q ▸ h))
  refine gen_turn (D := [L, s.heap.objs.size + 1, s.heap.objs.size]) (m := (escOuts false 0 x.cps.toList).length) (outs := escOuts false 0 x.cps.toList) hAm (Nat.le_refl _) (fun h => ?_) hgen (fun P led gs m' hm a b c d => ?_) I1 (hl I oI hI) (ha I oI hI) (hg g _ (if_pos rfl)) (fun a h => ?_) ⟨rfl, ?_⟩ (by rw [e0]; exact hQ)
  · simp only [List.mem_cons, List.not_mem_nil, or_false] at h
    rcases h with h | h | h
    · exact hIL h
    · exact absurd (h ▸ hIlt) (Nat.not_lt.mpr (Nat.le_succ _))
    · exact absurd (h ▸ hIlt) (Nat.lt_irrefl _)
  · refine itj_susp (fun h => ?_) hgen m' (by walk_at "o") P led gs a b c d
    simp only [List.mem_cons, List.not_mem_nil, or_false] at h
    rcases h with h | h | h
    · exact hIL h
    · exact absurd (h ▸ hIlt) (Nat.not_lt.mpr (Nat.le_succ _))
    · exact absurd (h ▸ hIlt) (Nat.lt_irrefl _)
  · simp only [List.mem_cons, List.not_mem_nil, or_false] at h
    rcases h with q | q | q <;> rw [q]
    · exact ha L oL hL
    · exact fresh _ (Nat.le_succ _)
    · exact fresh _ (Nat.le_refl _)
  · have hLP : B.P₀ L = none := by
      cases q : B.P₀ L with
      | none => rfl
      | some o => have := I1.base L o q; rw [(ha L oL hL).1] at this; (first|subst this|obtain rfl:=sj this|exact n1 this|exact n2 this|exact b1 this|exact b2 this|cases this)
    exact esc_first (s₀ := s.setGen g .running) (room_in1 hAm) hx Ir.good hLP hE (hm _ (hl L oL hL)) hadr (fun e p => room_over1 hAm e p) (room_over2 hAm)

theorem ItE.esc (H : Law B) {y : Str} {p pos : Pos} {a : Expr} {x : Str} (hf : EvJ B (n + 1) ce (.Name y p) st (.cst (.ref 63)) st1) (he : EvJ B (n + 1) ce a st1 (.str x) st2) (hx : x.length ≤ 16777216) (hst : autoParam (isStar a = false) tRfl)
    (hq : autoParam (∀ env, (backTo pos (starEach [a] env)).any (·.1) = false) tRfl1) : ItE B (n + 1) ce (.Call (.Name y p) [a] [] pos) st (escOuts false 0 x.cps.toList) st2 := fun A env P K g X s Q E hA R hQ => by
  obtain ⟨o, fd, d1, d2, d3⟩ := H.iter_escaped.ok
  refine Call_Name rfl (hf A env P K g X s _ E hA R fun P1 X1 s1 f lP1 lX1 R1 r1 => ?_)
  (first|obtain ⟨_, rfl⟩:=r1.inv|subst r1|obtain rfl:=sj r1|exact n1 r1|exact n2 r1|cases r1)
  refine callWith_function (o := o) (fd := fd) (evalArgs_any (hq env) ((Es_cons he Es_nil hst) A env P1 K g X1 s1 _ E hA R1 fun P2 X2 s2 xs lP2 lX2 R2 r2 => ⟨⟨R2.inv.h0 _ _ d1, d2⟩, ?_⟩))
  obtain ⟨z, rfl, hz⟩ := r2.one
  obtain ⟨tk, rfl⟩ := hz.inv
  have D3 := d3.mono R2.inv.base
  refine wpAny_call ?_
  obtain ⟨c, oc, ys, t, h1, h2, h3, h4⟩ := D3.code
  refine codeAny_call_generator (body := bodyAt 9) (by have := hA.depth; walk_at "o") (R2.inv.h0 _ _ d1) d2 (by rw [D3.scope]; rfl) (by rw [D3.scope]; rfl) D3.body ⟨c, oc, ys, t, h1, R2.inv.perm _ _ h2, h3, h4⟩ ?_
  simp only [List.nil_append]
  rw [D3.bind [.str x tk] rfl, D3.scope, D3.glob, D3.bui, D3.clo]
  refine wpAny_pure (frame_ok (StO.nil R2.frame) (vs := [.str x]) (.mk' (by decide +kernel)) .nil (.cons (.str _ _) .nil) rfl fun env' X' s' hι hc R' => ⟨R'.inv.nolim, ?_⟩)
  have hX : X' = ⟨X'.L, [], []⟩ := by
    obtain ⟨a, b, c⟩ := X'
    have hc := R'.env.cellk
    simp only at hι hc ⊢
    subst hι
    cases b with
    | nil => rfl
    | cons q r =>
      have := mem_lookup (hc q.1 q.2 (.head _))
      have this' : (q.1, NameKind.cell) ∈ [(Str.ofString "addr", NameKind.local), (Str.ofString "pos", NameKind.local), (Str.ofString "escape", NameKind.local), (Str.ofString "ch", NameKind.local), (Str.ofString "enumerate", NameKind.globalImplicit)] := this
      simp at this'
  obtain ⟨mm, hm, hv⟩ := R'.loc
  obtain ⟨va, hva, hvr⟩ := hv (Str.ofString "addr") (.str x) (by rfl) (by rfl)
  obtain ⟨tk2, rfl⟩ := hvr.inv
  obtain ⟨oL, es, ep, hoL, hrest⟩ := hm
  generalize hs3 : ({ s' with gens := s'.gens.push (.fresh (.func (bodyAt 9) env')), toks := s'.toks + 1 + 1, heap := s'.heap.push { cls := .type "generator", data := .fields #[.int s'.gens.size 0, .str fd.name s'.toks, .str fd.qualname (s'.toks + 1)] } } : Shared) = s3
  have hgrow : ∀ b o, s'.heap.get? b = some o → s3.heap.get? b = some o := fun b o e => by subst hs3; exact Heap.get?_push_of_some _ e
  have heI : s3.heap.get? s'.heap.objs.size = some { cls := .type "generator", data := .fields #[.int s'.gens.size 0, .str fd.name s'.toks, .str fd.qualname (s'.toks + 1)] } := by subst hs3; exact Heap.get?_push_size _ rfl
  have hgI : s3.gens[s'.gens.size]? = some (.fresh (.func (bodyAt 9) env')) := by subst hs3; simp
  have hgk : ∀ (i : Nat) (y : GenState), s'.gens[i]? = some y → s3.gens[i]? = some y := fun i y e => by
    subst hs3
    show (s'.gens.push _)[i]? = _
    rw [Array.getElem?_push, if_neg (by have := (Array.getElem?_eq_some_iff.mp e).1; walk_at "o")]; exact e
  have I3 : InvS B P2 (frK (X2.own st2.store) s2.heap K) (fun i => s2.gens[i]?) s3 := ⟨fun a o e => hgrow a o (R'.inv.perm a o e), fun a o e => hgrow a o (R'.inv.keep a o e), R'.inv.apart, R'.inv.base, by subst hs3; exact R'.inv.os, by
      subst hs3; exact R'.inv.bare.push rfl, fun i y e => hgk i y (R'.inv.gk i y e), fun t ht => by
      obtain ⟨a, b, c⟩ := R'.inv.tabs t ht
      refine ⟨a, b, c.mono (.refl _) ?_⟩
      obtain ⟨ps, e, _⟩ := c
      rw [e]; exact hgrow _ _ e⟩
  have offL := R'.off X'.L (by simp)
  have hK : ∀ a, frK (X2.own st2.store) s2.heap K a = none → K a = none ∧ a ∉ X2.own st2.store := fun a h => by
    by_cases q : a ∈ X2.own st2.store
    · rw [frK_in q] at h
      obtain ⟨o, ho⟩ := R2.alive a q
      rw [ho] at h; (first|subst h|obtain rfl:=sj h|exact n1 h|exact n2 h|exact b1 h|exact b2 h|cases h)
    · rw [frK_out q] at h; exact ⟨h, q⟩
  have hLlt : X'.L < s'.heap.objs.size := Heap.lt_size hoL
  have hne : s'.heap.objs.size ≠ X'.L := Nat.ne_of_gt hLlt
  refine wpAny_pyIter_gen ⟨_, _, _, heI, rfl, rfl, rfl⟩ ?_
  refine hQ P2 X2 s3 s'.heap.objs.size (fun a => if a = X'.L then some oL else if a = s'.heap.objs.size then some { cls := .type "generator", data := .fields #[.int s'.gens.size 0, .str fd.name s'.toks, .str fd.qualname (s'.toks + 1)] } else none) (oneG s'.gens.size (.fresh (.func (bodyAt 9) env'))) (lP1.trans lP2) (lX1.trans lX2) (R2.back (.refl _) I3 R2.inv.gk)
    (itj_fresh (L := X'.L) (oL := oL) (mm := mm) (tk := tk2) (P := P2) (K := frK (X2.own st2.store) s2.heap K) ⟨_, _, rfl, rfl, rfl⟩ hne (if_pos rfl) (by rw [if_neg hne, if_pos rfl]) hx (by rw [← hX]; exact R'.env) (fun h e => ⟨oL, es, ep, e, hrest⟩) hva) (fun a o h => ?_) (fun a o h => ?_) (fun a ha => ?_) (fun i y h => ?_)
  · dsimp only at h
    split at h
    · rename_i q; subst q; (first|subst h|obtain rfl:=sj h|exact n1 h|exact n2 h|exact b1 h|exact b2 h|cases h); exact hgrow _ _ hoL
    · split at h
      · rename_i q; subst q; (first|subst h|obtain rfl:=sj h|exact n1 h|exact n2 h|exact b1 h|exact b2 h|cases h); exact heI
      · (first|subst h|obtain rfl:=sj h|exact n1 h|exact n2 h|exact b1 h|exact b2 h|cases h)
  · dsimp only at h
    split at h
    · rename_i q; subst q; exact ⟨offL.1, (hK _ offL.2.1).1, offL.2.2⟩
    · split at h
      · rename_i q; subst q
        exact ⟨R'.inv.freshP, (hK _ R'.inv.freshK).1, R'.inv.freshT⟩
      · (first|subst h|obtain rfl:=sj h|exact n1 h|exact n2 h|exact b1 h|exact b2 h|cases h)
  · have h1 : a ≠ X'.L := fun q => (hK _ offL.2.1).2 (q ▸ ha)
    have h2 : a ≠ s'.heap.objs.size := fun q => (hK _ R'.inv.freshK).2 (q ▸ ha)
    rw [if_neg h1, if_neg h2]
  · simp only [oneG] at h
    split at h
    · rename_i q; subst q; (first|subst h|obtain rfl:=sj h|exact n1 h|exact n2 h|exact b1 h|exact b2 h|cases h)
      refine ⟨hgI, ?_⟩
      cases q : g s'.gens.size with
      | none => rfl
      | some z =>
        have := R'.inv.gk _ _ (R2.inv.gk _ _ q)
        simp at this
    · (first|subst h|obtain rfl:=sj h|exact n1 h|exact n2 h|exact b1 h|exact b2 h|cases h)
end
end Mine

namespace Mine
section
variable {B : Base} {n : Nat} {ce : CEnv} {st st1 st2 : LSt}

theorem ForJ.step2 {body : List Stmt} {x1 x2 : Str} {p1 p2 p : Pos} {k} {v1 v2 : CV} {ys : List CV} {l0 l l1 : List (Str × CV)} {S S1 : List CO} {f fl : CFl} {st' : LSt} (hv : VSub l0 l) (hs1 : stores ce x1 = true) (hs2 : stores ce x2 = true) (hx1 : (l0.all fun p => !(p.1 == x1)) = true) (hx2 : (((x1, v1) :: l0).all fun p => !(p.1 == x2)) = true)
    (hb : XsJ B n ce body ⟨(x2, v2) :: (x1, v1) :: l0, S⟩ f ⟨l1, S1⟩) (hf : f = .nxt ∨ f = .cnt)
    (rest : ForJ B n ce (.Tuple [.Name x1 p1, .Name x2 p2] k p) body ys ⟨l1, S1⟩ fl st') : ForJ B n ce (.Tuple [.Name x1 p1, .Name x2 p2] k p) body (.tup [v1, v2] :: ys) ⟨l, S⟩ fl st' :=
  .cons (st1 := ⟨(x2, v2) :: (x1, v1) :: l, S⟩) (As_tuple (.cons (As_name hs1) (.cons (As_name hs2) .nil)) rfl) (J.pre hb ((hv.over hx1).over hx2)) hf rest
theorem ForJ.stop2 {body : List Stmt} {x1 x2 : Str} {p1 p2 p : Pos} {k} {v1 v2 v : CV} {ys : List CV} {l0 l l1 : List (Str × CV)} {S S1 : List CO} (hv : VSub l0 l) (hs1 : stores ce x1 = true) (hs2 : stores ce x2 = true) (hx1 : (l0.all fun p => !(p.1 == x1)) = true) (hx2 : (((x1, v1) :: l0).all fun p => !(p.1 == x2)) = true)
    (hb : XsJ B n ce body ⟨(x2, v2) :: (x1, v1) :: l0, S⟩ (.ret v) ⟨l1, S1⟩) : ForJ B n ce (.Tuple [.Name x1 p1, .Name x2 p2] k p) body (.tup [v1, v2] :: ys) ⟨l, S⟩ (.ret v) ⟨l1, S1⟩ :=
  .ret (st1 := ⟨(x2, v2) :: (x1, v1) :: l, S⟩) (As_tuple (.cons (As_name hs1) (.cons (As_name hs2) .nil)) rfl) (J.pre hb ((hv.over hx1).over hx2))

noncomputable def esc : Bool → Nat → List Nat → List (Nat × List Nat)
  | b, i, [] => if b then [(i - 1, [92])] else []
  | true, i, c :: cs => (i, [92, c]) :: esc false (i + 1) cs
  | false, i, c :: cs => if c = 92 then esc true (i + 1) cs else (i, [c]) :: esc false (i + 1) cs
noncomputable abbrev escV (p : Nat × List Nat) : CV := .tup [.int p.1, .str (mkS p.2)]
theorem escOuts_eq : ∀ (cs : List Nat) (b : Bool) (i : Nat), (b = true → 1 ≤ i) → escOuts b i cs = (esc b i cs).map escV
  | [], b, i, h => by
    cases b with
    | false => rfl
    | true =>
      have := h rfl
      simp only [escOuts, esc, if_true, List.map_cons, List.map_nil, escV]
      rw [show ((i - 1 : Nat) : Int) = (i : Int) - 1 by walk_at "o"]
  | c :: cs, true, i, h => by simp [escOuts, esc, escOuts_eq cs false (i + 1) (by simp)]
  | c :: cs, false, i, h => by
    by_cases hc : c = 92
    · simp [escOuts, esc, hc, escOuts_eq cs true (i + 1) (by walk_at "o")]
    · simp [escOuts, esc, hc, escOuts_eq cs false (i + 1) (by simp)]
theorem esc_len : ∀ (cs : List Nat) (b : Bool) (i : Nat), (esc b i cs).length ≤ cs.length + (if b then 1 else 0)
  | [], b, i => by cases b <;> simp [esc]
  | c :: cs, true, i => by have := esc_len cs false (i + 1); simp [esc] at this ⊢; walk_at "o"
  | c :: cs, false, i => by
    by_cases hc : c = 92
    · have := esc_len cs true (i + 1); simp [esc, hc] at this ⊢; walk_at "o"
    · have := esc_len cs false (i + 1); simp [esc, hc] at this ⊢; walk_at "o"
theorem pures_escV (l : List (Nat × List Nat)) : pures (l.map escV) = true := pures_map (fun _ => rfl) _
theorem ItE.esc' (H : Law B) {y : Str} {p pos : Pos} {a : Expr} {l : List Nat} (hf : EvJ B (n + 1) ce (.Name y p) st (.cst (.ref 63)) st1) (he : EvJ B (n + 1) ce a st1 (.str (mkS l)) st2) (hx : l.length ≤ 16777216) (hst : autoParam (isStar a = false) tRfl)
    (hq : autoParam (∀ env, (backTo pos (starEach [a] env)).any (·.1) = false) tRfl1) : ItE B (n + 1) ce (.Call (.Name y p) [a] [] pos) st ((Mine.esc false 0 l).map escV) st2 := by
  have := ItE.esc H (pos := pos) hf he (by rw [mkS_len]; exact hx) hst hq
  rw [escOuts_eq _ _ _ (by simp)] at this
  simpa using this

/-! _strip_quoted_realnames -/
structure SQ where
  start : Nat
  opn : Option Nat
  res : List (List Nat)
noncomputable def sqStep (l : List Nat) (s : SQ) (p : Nat × List Nat) : SQ :=
  if p.2 = [34] then match s.opn with
    | none => ⟨s.start, some p.1, s.res⟩
    | some o => ⟨p.1 + 1, none, if s.start = o then s.res else s.res ++ [(l.drop s.start).take (o - s.start)]⟩
  else s
noncomputable def sqEnd (l : List Nat) (s : SQ) : List (List Nat) := if s.start < l.length then s.res ++ [l.drop s.start] else s.res
noncomputable def stripQ (l : List Nat) : List Nat := if 34 ∈ l then (sqEnd l ((esc false 0 l).foldl (sqStep l) ⟨0, none, []⟩)).flatten else l
noncomputable def opnC : Option Nat → CV
  | none => .none
  | some o => .int o
noncomputable abbrev cSs (ls : List (List Nat)) : List CV := ls.map fun l => .str (mkS l)
noncomputable abbrev sqL (l : List Nat) (s : SQ) : List (Str × CV) := [(Str.ofString "addr", .str (mkS l)), (Str.ofString "start", .int s.start), (Str.ofString "open_pos", opnC s.opn), (Str.ofString "result", .ref 0)]
theorem sq_turn (l : List Nat) (s : SQ) (p : Nat × List Nat) (hl : l.length ≤ 1000) (hr : s.res.length ≤ 100000) :
    ∃ l1, XsJ B n (ceAt 10) (forBody 10 4) ⟨(Str.ofString "ch", .str (mkS p.2)) :: (Str.ofString "pos", .int p.1) :: sqL l s, [.lst (cSs s.res)]⟩ .nxt ⟨l1, [.lst (cSs (sqStep l s p).res)]⟩ ∧ VSub (sqL l (sqStep l s p)) l1 := by
  conv in (forBody 10 4) => whnf
  by_cases hp : p.2 = [34]
  · obtain ⟨pp, pc⟩ := p
    simp only at hp
    subst hp
    obtain ⟨start, opn, res⟩ := s
    have hr' : res.length ≤ 100000 := hr
    cases opn with
    | none =>
      have e : sqStep l ⟨start, none, res⟩ (pp, [34]) = ⟨start, some pp, res⟩ := by simp [sqStep]
      rw [e]
      exact ⟨_, Xs_cons (Ex_if (b := true) (J.eqb (Ts_cmp (Ev_name (v := .str (mkS [34])) (by rfl)) (J.eqv (v1 := .str (mkS [34])) Ev_str (by rfl)) (.eqS _ _)) (by simp)) (Xs_cons (Ex_if (b := true) (Ts_cmp (Ev_name (v := .none) (by rfl)) Ev_none .isN) (Xs_cons (Ex_assign (Ev_name (by rfl)) (As_name (by rfl))) Xs_nil)) Xs_nil)) Xs_nil,
        .cons (by rfl) (.cons (by rfl) (.cons (by rfl) (.cons (by rfl) .nil)))⟩
    | some o =>
      by_cases ho : start = o
      · subst ho
        have e : sqStep l ⟨start, some start, res⟩ (pp, [34]) = ⟨pp + 1, none, res⟩ := by simp [sqStep]
        rw [e]
        exact ⟨_, Xs_cons (Ex_if (b := true) (J.eqb (Ts_cmp (Ev_name (v := .str (mkS [34])) (by rfl)) (J.eqv (v1 := .str (mkS [34])) Ev_str (by rfl)) (.eqS _ _)) (by simp)) (Xs_cons (Ex_if (b := false) (Ts_cmp (Ev_name (v := .int start) (by rfl)) Ev_none (.isNI _)) (Xs_cons (Ex_if (b := false) (J.eqb (Ts_cmp (Ev_name (v := .int start) (by rfl)) (Ev_name (v := .int start) (by rfl)) (.neI _ _)) (by simp)) Xs_nil)
          (Xs_cons (Ex_assign (v := .int ((pp + 1 : Nat) : Int)) (J.eqv (Ev_bo (Ev_name (v := .int pp) (by rfl)) Ev_int (.num (.add _ _))) (by rfl)) (As_name (by rfl))) (Xs_cons (Ex_assign Ev_none (As_name (by rfl))) Xs_nil)))) Xs_nil)) Xs_nil,
          .cons (by rfl) (.cons (by rfl) (.cons (by rfl) (.cons (by rfl) .nil)))⟩
      · have e : sqStep l ⟨start, some o, res⟩ (pp, [34]) = ⟨pp + 1, none, res ++ [(l.drop start).take (o - start)]⟩ := by simp [sqStep, ho]
        rw [e]
        have e2 : cSs (res ++ [(l.drop start).take (o - start)]) = cSs res ++ [.str (mkS ((l.drop start).take (o - start)))] := by simp
        simp only [e2]
        exact ⟨_, Xs_cons (Ex_if (b := true) (J.eqb (Ts_cmp (Ev_name (v := .str (mkS [34])) (by rfl)) (J.eqv (v1 := .str (mkS [34])) Ev_str (by rfl)) (.eqS _ _)) (by simp)) (Xs_cons (Ex_if (b := false) (Ts_cmp (Ev_name (v := .int o) (by rfl)) Ev_none (.isNI _)) (Xs_cons (Ex_if (b := true) (J.eqb (Ts_cmp (Ev_name (v := .int start) (by rfl)) (Ev_name (v := .int o) (by rfl)) (.neI _ _)) (by simp; walk_at "o"))
            (Xs_cons (Ex_expr (Ev_meth PySem.F.plainAttrs_list PySem.F.slot_list_append PySem.F.type_list_append (Ev_name (v := .ref 0) (by rfl)) (.list (by rfl)) (Es_cons (J.eqv (v1 := .str (mkS ((l.drop start).take (o - start)))) (Ev_slice (Ev_name (v := .str (mkS l)) (by rfl)) (Pt_some (Ev_name (v := .int start) (by rfl))) (Pt_some (Ev_name (v := .int o) (by rfl))) (.str (by rw [mkS_len]; walk_at "o"))) (by rw [slice_mid])) Es_nil) (ca_append (vs := cSs res) (by rfl) (by simp; walk_at "o")))) Xs_nil))
          (Xs_cons (Ex_assign (v := .int ((pp + 1 : Nat) : Int)) (J.eqv (Ev_bo (Ev_name (v := .int pp) (by rfl)) Ev_int (.num (.add _ _))) (by rfl)) (As_name (by rfl))) (Xs_cons (Ex_assign Ev_none (As_name (by rfl))) Xs_nil)))) Xs_nil)) Xs_nil,
          .cons (by rfl) (.cons (by rfl) (.cons (by rfl) (.cons (by rfl) .nil)))⟩
  · have e : sqStep l s p = s := by simp [sqStep, hp]
    rw [e]
    exact ⟨_, Xs_cons (Ex_if (b := false) (J.eqb (Ts_cmp (Ev_name (v := .str (mkS p.2)) (by rfl)) (J.eqv (v1 := .str (mkS [34])) Ev_str (by rfl)) (.eqS _ _)) (by simpa using hp)) Xs_nil) Xs_nil,
      .cons (by rfl) (.cons (by rfl) (.cons (by rfl) (.cons (by rfl) .nil)))⟩
theorem sqStep_len (l : List Nat) (s : SQ) (p : Nat × List Nat) : (sqStep l s p).res.length ≤ s.res.length + 1 := by
  unfold sqStep
  split
  · split
    · simp
    · dsimp only; split <;> simp
  · walk_at "o"
theorem sqStep_each (l : List Nat) (s : SQ) (p : Nat × List Nat) (h : ∀ r ∈ s.res, r.length ≤ l.length) : ∀ r ∈ (sqStep l s p).res, r.length ≤ l.length := by
  unfold sqStep
  split
  · split
    · exact h
    · dsimp only
      split
      · exact h
      · intro r hr
        rcases List.mem_append.mp hr with hr | hr
        · exact h r hr
        · simp at hr; subst hr; simp; exact Nat.le_trans (Nat.min_le_right _ _) (Nat.sub_le _ _)
  · exact h
theorem sq_loop (l : List Nat) (hl : l.length ≤ 1000) : ∀ (ps : List (Nat × List Nat)) (s : SQ) (l0 : List (Str × CV)), s.res.length + ps.length ≤ 100000 → VSub (sqL l s) l0 →
    ∃ l1, ForJ B n (ceAt 10) (forVar 10 4) (forBody 10 4) (ps.map escV) ⟨l0, [.lst (cSs s.res)]⟩ .nxt ⟨l1, [.lst (cSs (ps.foldl (sqStep l) s).res)]⟩ ∧ VSub (sqL l (ps.foldl (sqStep l) s)) l1
  | [], s, l0, _, hv => ⟨l0, .nil, hv⟩
  | p :: ps, s, l0, h1, hv => by
    simp only [List.length_cons] at h1
    obtain ⟨l1, a1, a2⟩ := sq_turn (B := B) (n := n) l s p hl (by walk_at "o")
    obtain ⟨l2, b1, b2⟩ := sq_loop l hl ps (sqStep l s p) l1 (by have := sqStep_len l s p; walk_at "o") a2
    exact ⟨l2, .step2 hv (by rfl) (by rfl) (by rfl) (by rfl) a1 (.inl rfl) b1, b2⟩
theorem sq_fold (l : List Nat) : ∀ (ps : List (Nat × List Nat)) (s : SQ), (∀ r ∈ s.res, r.length ≤ l.length) → (ps.foldl (sqStep l) s).res.length ≤ s.res.length + ps.length ∧ ∀ r ∈ (ps.foldl (sqStep l) s).res, r.length ≤ l.length
  | [], s, h => ⟨by simp, h⟩
  | p :: ps, s, h => by
    obtain ⟨a, b⟩ := sq_fold l ps (sqStep l s p) (sqStep_each l s p h)
    have := sqStep_len l s p
    exact ⟨by simp only [List.foldl_cons, List.length_cons]; walk_at "o", b⟩
theorem flatten_le {m : Nat} : ∀ (ls : List (List Nat)), (∀ r ∈ ls, r.length ≤ m) → ls.flatten.length ≤ ls.length * m
  | [], _ => by simp
  | a :: ls, h => by
    have h1 := h a (.head _)
    have h2 := flatten_le ls fun r hr => h r (.tail _ hr)
    simp only [List.flatten_cons, List.length_append, List.length_cons, Nat.add_mul]
    walk_at "o"
theorem cSs_eq (ls : List (List Nat)) : cSs ls = (ls.map mkS).map .str := by simp [cSs]
set_option maxHeartbeats 4000000 in
theorem fn_strip (H : Law B) (l : List Nat) (hl : l.length ≤ 1000) : FnJ B (n + 2) (.ref 70) [.str (mkS l)] (.str (mkS (stripQ l))) := by
  obtain ⟨l1, lp, lv⟩ := sq_loop (B := B) (n := n + 1) l hl (esc false 0 l) ⟨0, none, []⟩ [(Str.ofString "result", .ref 0), (Str.ofString "open_pos", .none), (Str.ofString "start", .int (0 : Nat)), (Str.ofString "addr", .str (mkS l))] (by have := esc_len l false 0; simp at this ⊢; walk_at "o") (.cons (by rfl) (.cons (by rfl) (.cons (by rfl) (.cons (by rfl) .nil))))
  obtain ⟨f1, f2⟩ := sq_fold l (esc false 0 l) ⟨0, none, []⟩ (by simp)
  have f0 := esc_len l false 0
  simp only [Bool.false_eq_true, if_false, Nat.add_zero, List.length_nil, Nat.zero_add] at f0 f1
  refine FnJ.of H.strip_quoted (.mk' (by decide +kernel)) (by rfl) rfl ?_ (by rfl)
  conv at lp in (forBody 10 4) => whnf
  conv at lp in (forVar 10 4) => whnf
  conv in (bodyAt 10) => whnf
  by_cases hq : 34 ∈ l
  · refine .else_go (J.eqb (Ts_cmp (J.eqv (v1 := .str ⟨#[34]⟩) Ev_str (by rfl)) (Ev_name (v := .str (mkS l)) (by rfl)) (.notInS _ _)) (by simpa using hq)) ?_
    refine .cons (Ex_assign (v := .int (0 : Nat)) Ev_int (As_name (by rfl))) ?_
    refine .cons (Ex_assign Ev_none (As_name (by rfl))) ?_
    refine .cons (Ex_assign (Ev_listM Es_nil (by decide)) (As_name (by rfl))) ?_
    refine .cons (Ex_for (ItE.esc' H (Ev_name (by rfl)) (Ev_name (v := .str (mkS l)) (by rfl)) (by walk_at "o")) (pures_escV _) lp) ?_
    have hs : stripQ l = (sqEnd l ((esc false 0 l).foldl (sqStep l) ⟨0, none, []⟩)).flatten := by simp [stripQ, hq]
    rw [hs]
    generalize (esc false 0 l).foldl (sqStep l) ⟨0, none, []⟩ = s at *
    have hlen : ∀ ls : List (List Nat), ls.length ≤ 1001 → (∀ r ∈ ls, r.length ≤ l.length) → ls.flatten.length ≤ 16777216 := fun ls h1 h2 => by
      have h3 := flatten_le ls h2
      have h4 : ls.length * l.length ≤ 1001 * 1000 := Nat.mul_le_mul h1 hl
      walk_at "o"
    by_cases hlt : s.start < l.length
    · have he : sqEnd l s = s.res ++ [l.drop s.start] := by simp [sqEnd, hlt]
      rw [he]
      have e2 : cSs (s.res ++ [l.drop s.start]) = cSs s.res ++ [.str (mkS (l.drop s.start))] := by simp
      have h5 := hlen (s.res ++ [l.drop s.start]) (by simp; walk_at "o") (by intro r hr; rcases List.mem_append.mp hr with hr | hr; exact f2 r hr; simp at hr; subst hr; simp)
      refine .cons (Ex_if (b := true) (J.eqb (Ts_cmp (Ev_name (v := .int s.start) (lv.ok (by rfl))) (Ev_callB (Ev_name (by rfl)) (Es_cons (Ev_name (v := .str (mkS l)) (lv.ok (by rfl))) Es_nil) (ca_lenS (by rw [mkS_len]; walk_at "o"))) (.lt _ _)) (by simp [mkS_len, hlt]))
        (Xs_cons (Ex_expr (Ev_meth PySem.F.plainAttrs_list PySem.F.slot_list_append PySem.F.type_list_append (Ev_name (v := .ref 0) (lv.ok (by rfl))) (.list (by rfl)) (Es_cons (J.eqv (v1 := .str (mkS (l.drop s.start))) (Ev_slice (Ev_name (v := .str (mkS l)) (lv.ok (by rfl))) (Pt_some (Ev_name (v := .int s.start) (lv.ok (by rfl)))) Pt_none (.str (by rw [mkS_len]; walk_at "o"))) (by rw [slice_from])) Es_nil) (ca_append (vs := cSs s.res) (by rfl) (by simp; walk_at "o")))) Xs_nil)) ?_
      refine .retq (Ev_meth PySem.F.plainAttrs_str PySem.F.slot_str_join PySem.F.type_str_join (J.eqv (v1 := .str (mkS [])) Ev_str (by rfl)) (.str _) (Es_cons (Ev_name (v := .ref 0) (lv.ok (by rfl))) Es_nil) (ca_join (ss := (s.res ++ [l.drop s.start]).map mkS) (by rw [← cSs_eq, e2]; rfl) (by rw [join_mkS, mkS_len]; exact h5) (join_fits _ h5))) (by rw [join_mkS])
    · have he : sqEnd l s = s.res := by simp [sqEnd, hlt]
      rw [he]
      have h5 := hlen s.res (by walk_at "o") f2
      refine .else_go (J.eqb (Ts_cmp (Ev_name (v := .int s.start) (lv.ok (by rfl))) (Ev_callB (Ev_name (by rfl)) (Es_cons (Ev_name (v := .str (mkS l)) (lv.ok (by rfl))) Es_nil) (ca_lenS (by rw [mkS_len]; walk_at "o"))) (.lt _ _)) (by simp [mkS_len]; walk_at "o")) ?_
      refine .retq (Ev_meth PySem.F.plainAttrs_str PySem.F.slot_str_join PySem.F.type_str_join (J.eqv (v1 := .str (mkS [])) Ev_str (by rfl)) (.str _) (Es_cons (Ev_name (v := .ref 0) (lv.ok (by rfl))) Es_nil) (ca_join (ss := s.res.map mkS) (by rw [← cSs_eq]; rfl) (by rw [join_mkS, mkS_len]; exact h5) (join_fits _ h5))) (by rw [join_mkS])
  · have hs : stripQ l = l := by simp [stripQ, hq]
    rw [hs]
    exact .if_stop (J.eqb (Ts_cmp (J.eqv (v1 := .str ⟨#[34]⟩) Ev_str (by rfl)) (Ev_name (v := .str (mkS l)) (by rfl)) (.notInS _ _)) (by simpa using hq)) (.ret (Ev_name (by rfl)))
end
end Mine

namespace Mine
section
variable {B : Base} {n : Nat} {ce : CEnv} {st st1 st2 : LSt}

/-- _check_parenthesis on what the generator hands on -/
noncomputable def parStep (p : Nat × List Nat) (k : Nat) : Option Nat := if p.2 = [40] then some (k + 1) else if p.2 = [41] then (if k = 0 then none else some (k - 1)) else some k
noncomputable def parEnd : List (Nat × List Nat) → Nat → Option Nat
  | [], k => some k
  | p :: ps, k => match parStep p k with
    | none => none
    | some k => parEnd ps k
noncomputable def chkPar (l : List Nat) : Bool := match parEnd (esc false 0 (stripQ l)) 0 with
  | none => false
  | some k => k == 0
noncomputable abbrev cpL (k : Nat) : List (Str × CV) := [(Str.ofString "opens", .int k)]
theorem par_turn (p : Nat × List Nat) (k : Nat) : match parStep p k with
    | none => ∃ l1, XsJ B n (ceAt 11) (forBody 11 2) ⟨(Str.ofString "ch", .str (mkS p.2)) :: (Str.ofString "pos", .int p.1) :: cpL k, []⟩ (.ret (.bool false)) ⟨l1, []⟩
    | some k1 => ∃ l1, XsJ B n (ceAt 11) (forBody 11 2) ⟨(Str.ofString "ch", .str (mkS p.2)) :: (Str.ofString "pos", .int p.1) :: cpL k, []⟩ .nxt ⟨l1, []⟩ ∧ VSub (cpL k1) l1 := by
  obtain ⟨pp, pc⟩ := p
  have c1 : ∀ {st : LSt} {c : Nat}, look (ceAt 11) st (Str.ofString "ch") = some (.str (mkS pc)) → EvJ B n (ceAt 11) (.Name (Str.ofString "ch") ⟨0,0,0,0⟩) st (.str (mkS pc)) st := fun h => Ev_name h
  conv in (forBody 11 2) => whnf
  conv in (forBody 11 2) => whnf
  by_cases h1 : pc = [40]
  · subst h1
    have e : parStep (pp, [40]) k = some (k + 1) := by simp [parStep]
    rw [e]
    exact ⟨_, Xs_cons (Ex_if (b := true) (J.eqb (Ts_cmp (Ev_name (v := .str (mkS [40])) (by rfl)) (J.eqv (v1 := .str (mkS [40])) Ev_str (by rfl)) (.eqS _ _)) (by simp)) (Xs_cons (Ex_aug (v := .int ((k + 1 : Nat) : Int)) (by rfl) Ev_int (.add _ _) (by rfl)) Xs_nil)) Xs_nil, .cons (by rfl) .nil⟩
  · by_cases h2 : pc = [41]
    · subst h2
      by_cases h3 : k = 0
      · subst h3
        have e : parStep (pp, [41]) 0 = none := by simp [parStep]
        rw [e]
        exact ⟨_, Xs_stop (Ex_if (b := false) (J.eqb (Ts_cmp (Ev_name (v := .str (mkS [41])) (by rfl)) (J.eqv (v1 := .str (mkS [40])) Ev_str (by rfl)) (.eqS _ _)) (by simp)) (Xs_stop (Ex_if (b := true) (J.eqb (Ts_cmp (Ev_name (v := .str (mkS [41])) (by rfl)) (J.eqv (v1 := .str (mkS [41])) Ev_str (by rfl)) (.eqS _ _)) (by simp)) (Xs_cons (Ex_aug (v1 := .int (0 : Nat)) (by rfl) Ev_int (.sub _ _) (by rfl))
          (Xs_stop (Ex_if (b := true) (J.eqb (Ts_cmp (Ev_name (v := .int (-1)) (by rfl)) Ev_int (.lt _ _)) (by simp)) (Xs_stop (Ex_ret Ev_bool) (by simp))) (by simp)))) (by simp))) (by simp)⟩
      · have e : parStep (pp, [41]) k = some (k - 1) := by simp [parStep, h3]
        rw [e]
        have hk : ((k - 1 : Nat) : Int) = (k : Int) - 1 := by walk_at "o"
        simp only [cpL, hk]
        exact ⟨_, Xs_cons (Ex_if (b := false) (J.eqb (Ts_cmp (Ev_name (v := .str (mkS [41])) (by rfl)) (J.eqv (v1 := .str (mkS [40])) Ev_str (by rfl)) (.eqS _ _)) (by simp)) (Xs_cons (Ex_if (b := true) (J.eqb (Ts_cmp (Ev_name (v := .str (mkS [41])) (by rfl)) (J.eqv (v1 := .str (mkS [41])) Ev_str (by rfl)) (.eqS _ _)) (by simp)) (Xs_cons (Ex_aug (v1 := .int k) (v := .int ((k : Int) - 1)) (by rfl) Ev_int (.sub _ _) (by rfl))
          (Xs_cons (Ex_if (b := false) (J.eqb (Ts_cmp (Ev_name (v := .int ((k : Int) - 1)) (by rfl)) Ev_int (.lt _ _)) (by simp; walk_at "o")) Xs_nil) Xs_nil))) Xs_nil)) Xs_nil, .cons (by rfl) .nil⟩
    · have e : parStep (pp, pc) k = some k := by simp [parStep, h1, h2]
      rw [e]
      exact ⟨_, Xs_cons (Ex_if (b := false) (J.eqb (Ts_cmp (Ev_name (v := .str (mkS pc)) (by rfl)) (J.eqv (v1 := .str (mkS [40])) Ev_str (by rfl)) (.eqS _ _)) (by simpa using h1)) (Xs_cons (Ex_if (b := false) (J.eqb (Ts_cmp (Ev_name (v := .str (mkS pc)) (by rfl)) (J.eqv (v1 := .str (mkS [41])) Ev_str (by rfl)) (.eqS _ _)) (by simpa using h2)) Xs_nil) Xs_nil)) Xs_nil, .cons (by rfl) .nil⟩
theorem par_loop : ∀ (ps : List (Nat × List Nat)) (k : Nat) (l0 : List (Str × CV)), VSub (cpL k) l0 →
    match parEnd ps k with
      | none => ∃ l1, ForJ B n (ceAt 11) (forVar 11 2) (forBody 11 2) (ps.map escV) ⟨l0, []⟩ (.ret (.bool false)) ⟨l1, []⟩
      | some k' => ∃ l1, ForJ B n (ceAt 11) (forVar 11 2) (forBody 11 2) (ps.map escV) ⟨l0, []⟩ .nxt ⟨l1, []⟩ ∧ VSub (cpL k') l1
  | [], k, l0, hv => ⟨l0, .nil, hv⟩
  | p :: ps, k, l0, hv => by
    have h := par_turn (B := B) (n := n) p k
    unfold parEnd
    revert h
    cases parStep p k with
    | none => exact fun ⟨l1, h⟩ => ⟨_, .stop2 hv (by rfl) (by rfl) (by rfl) (by rfl) h⟩
    | some k1 =>
      intro ⟨l1, h, hv1⟩
      have h2 := par_loop ps k1 l1 hv1
      show match parEnd ps k1 with | none => _ | some k' => _
      revert h2
      cases parEnd ps k1 with
      | none => exact fun ⟨l2, h2⟩ => ⟨l2, .step2 hv (by rfl) (by rfl) (by rfl) (by rfl) h (.inl rfl) h2⟩
      | some k' => exact fun ⟨l2, h2, hv2⟩ => ⟨l2, .step2 hv (by rfl) (by rfl) (by rfl) (by rfl) h (.inl rfl) h2, hv2⟩
theorem stripQ_len (l : List Nat) (hl : l.length ≤ 1000) : (stripQ l).length ≤ 16777216 := by
  unfold stripQ
  split
  · obtain ⟨f1, f2⟩ := sq_fold l (esc false 0 l) ⟨0, none, []⟩ (by simp)
    have f0 := esc_len l false 0
    simp only [Bool.false_eq_true, if_false, Nat.add_zero, List.length_nil, Nat.zero_add] at f0 f1
    generalize (esc false 0 l).foldl (sqStep l) ⟨0, none, []⟩ = s at *
    have h3 := flatten_le (m := l.length) (sqEnd l s) (by
      unfold sqEnd; split
      · intro r hr; rcases List.mem_append.mp hr with hr | hr; exact f2 r hr; simp at hr; subst hr; simp
      · exact f2)
    have h2 : (sqEnd l s).length ≤ 1001 := by unfold sqEnd; split <;> (try simp only [List.length_append, List.length_cons, List.length_nil]) <;> walk_at "o"
    have h4 : (sqEnd l s).length * l.length ≤ 1001 * 1000 := Nat.mul_le_mul h2 hl
    walk_at "o"
  · walk_at "o"
theorem fn_check (H : Law B) (l : List Nat) (hl : l.length ≤ 1000) : FnJ B (n + 3) (.ref 77) [.str (mkS l)] (.bool (chkPar l)) := by
  have lp := par_loop (B := B) (n := n + 2) (esc false 0 (stripQ l)) 0 [(Str.ofString "opens", .int (0 : Nat)), (Str.ofString "addr", .str (mkS (stripQ l))), (Str.ofString "addr", .str (mkS l))] (.cons (by rfl) .nil)
  refine FnJ.of H.check_paren (.mk' (by decide +kernel)) (by rfl) rfl ?_ (by rfl)
  have hlen := stripQ_len l hl
  conv in (bodyAt 11) => whnf
  refine .cons (Ex_assign (Ev_callF (Ev_name (by rfl)) H.strip_quoted.fn (Es_cons (Ev_name (v := .str (mkS l)) (by rfl)) Es_nil) (FnJ.ca (fn_strip H l hl) (by rfl))) (As_name (by rfl))) ?_
  refine .cons (Ex_assign (v := .int (0 : Nat)) Ev_int (As_name (by rfl))) ?_
  unfold chkPar
  revert lp
  cases parEnd (esc false 0 (stripQ l)) 0 with
  | none =>
    intro ⟨l1, lp⟩
    conv at lp in (forBody 11 2) => whnf
    conv at lp in (forVar 11 2) => whnf
    exact .stop (Ex_for (ItE.esc' H (Ev_name (by rfl)) (Ev_name (v := .str (mkS (stripQ l))) (by rfl)) hlen) (pures_escV _) lp)
  | some k =>
    intro ⟨l1, lp, lv⟩
    conv at lp in (forBody 11 2) => whnf
    conv at lp in (forVar 11 2) => whnf
    refine .cons (Ex_for (ItE.esc' H (Ev_name (by rfl)) (Ev_name (v := .str (mkS (stripQ l))) (by rfl)) hlen) (pures_escV _) lp) ?_
    refine .retq (Ev_cmp (Ev_name (v := .int k) (lv.ok (by rfl))) Ev_int (.eqI _ _)) ?_
    congr 1
    cases k with
    | zero => rfl
    | succ k => simp; walk_at "o"
end
end Mine

namespace Mine

/-! ## texts made of signs, pairs behind a backslash, and quoted pieces -/
inductive Atom where
  | ch (c : Nat)
  | pair (c : Nat)
  | quo (q : List (Bool × Nat))
noncomputable def inText (q : List (Bool × Nat)) : List Nat := q.flatMap fun p => if p.1 then [92, p.2] else [p.2]
noncomputable def inItems : Nat → List (Bool × Nat) → List (Nat × List Nat)
  | _, [] => []
  | i, (true, c) :: q => (i + 1, [92, c]) :: inItems (i + 2) q
  | i, (false, c) :: q => (i, [c]) :: inItems (i + 1) q
noncomputable def inOk (q : List (Bool × Nat)) : Bool := q.all fun p => p.1 || (p.2 != 34 && p.2 != 92)
noncomputable def Atom.text : Atom → List Nat
  | .ch c => [c]
  | .pair c => [92, c]
  | .quo q => 34 :: (inText q ++ [34])
noncomputable def Atom.items (i : Nat) : Atom → List (Nat × List Nat)
  | .ch c => [(i, [c])]
  | .pair c => [(i + 1, [92, c])]
  | .quo q => (i, [34]) :: (inItems (i + 1) q ++ [(i + 1 + (inText q).length, [34])])
noncomputable def Atom.ok : Atom → Bool
  | .ch c => c != 34 && c != 92
  | .pair _ => true
  | .quo q => inOk q
noncomputable def Atom.clean : Atom → List Nat
  | .ch c => [c]
  | .pair c => [92, c]
  | .quo _ => []
noncomputable abbrev txt (as : List Atom) : List Nat := as.flatMap Atom.text
noncomputable abbrev cln (as : List Atom) : List Nat := as.flatMap Atom.clean
noncomputable def itemsOf : Nat → List Atom → List (Nat × List Nat)
  | _, [] => []
  | i, a :: as => a.items i ++ itemsOf (i + a.text.length) as
theorem esc_in : ∀ (q : List (Bool × Nat)) (i : Nat) (rest : List Nat), inOk q = true → esc false i (inText q ++ rest) = inItems i q ++ esc false (i + (inText q).length) rest
  | [], i, rest, _ => by simp [inText, inItems]
  | (true, c) :: q, i, rest, h => by
    have h2 : inOk q = true := by simpa [inOk] using h
    have := esc_in q (i + 2) rest h2
    simp only [inText, List.flatMap_cons, if_true, List.cons_append, List.nil_append, esc, List.length_cons, inItems] at this ⊢
    rw [this]
    simp only [List.cons.injEq, true_and]
    congr 2; walk_at "o"
  | (false, c) :: q, i, rest, h => by
    have h2 : inOk q = true := by simp [inOk] at h ⊢; exact h.2
    have hc : c ≠ 92 := by simp [inOk] at h; exact h.1.2
    have := esc_in q (i + 1) rest h2
    simp only [inText, List.flatMap_cons, Bool.false_eq_true, if_false, List.cons_append, List.nil_append, esc, List.length_cons, inItems, hc] at this ⊢
    rw [this]
    simp only [List.cons.injEq, true_and]
    congr 2; walk_at "o"
theorem esc_atom (a : Atom) (i : Nat) (rest : List Nat) (h : a.ok = true) : esc false i (a.text ++ rest) = a.items i ++ esc false (i + a.text.length) rest := by
  cases a with
  | ch c =>
    have hc : c ≠ 92 := by simp [Atom.ok] at h; exact h.2
    simp [Atom.text, Atom.items, esc, hc]
  | pair c => simp [Atom.text, Atom.items, esc]
  | quo q =>
    simp only [Atom.ok] at h
    have := esc_in q (i + 1) (34 :: rest) h
    simp only [Atom.text, Atom.items, List.cons_append, List.append_assoc, List.nil_append, esc, show ¬ (34 = 92) by decide, if_false, List.length_cons, List.length_append, List.length_nil]
    rw [this]
    simp only [esc, show ¬ (34 = 92) by decide, if_false]
    simp only [List.append_assoc, List.cons_append, List.nil_append, List.cons.injEq, true_and]
    congr 3; walk_at "o"
theorem esc_atoms : ∀ (as : List Atom) (i : Nat), (as.all Atom.ok) = true → esc false i (txt as) = itemsOf i as
  | [], i, _ => rfl
  | a :: as, i, h => by
    simp only [List.all_cons, Bool.and_eq_true] at h
    show esc false i (a.text ++ txt as) = _
    rw [esc_atom a i _ h.1, esc_atoms as _ h.2]
    rfl
theorem inItems_plain : ∀ (q : List (Bool × Nat)) (i : Nat), inOk q = true → ∀ p ∈ inItems i q, p.2 ≠ [34]
  | [], _, _, p, hp => by simp [inItems] at hp
  | (true, c) :: q, i, h, p, hp => by
    have h2 : inOk q = true := by simpa [inOk] using h
    simp only [inItems, List.mem_cons] at hp
    rcases hp with rfl | hp
    · simp
    · exact inItems_plain q _ h2 p hp
  | (false, c) :: q, i, h, p, hp => by
    have h2 : inOk q = true := by simp [inOk] at h ⊢; exact h.2
    have hc : c ≠ 34 := by simp [inOk] at h; exact h.1.1
    simp only [inItems, List.mem_cons] at hp
    rcases hp with rfl | hp
    · simpa using hc
    · exact inItems_plain q _ h2 p hp
theorem sq_skip (l : List Nat) : ∀ (ps : List (Nat × List Nat)) (s : SQ), (∀ p ∈ ps, p.2 ≠ [34]) → ps.foldl (sqStep l) s = s
  | [], _, _ => rfl
  | p :: ps, s, h => by
    have h1 : sqStep l s p = s := by simp [sqStep, h p (.head _)]
    rw [List.foldl_cons, h1]
    exact sq_skip l ps s fun q hq => h q (.tail _ hq)
/-- what was kept so far -/
noncomputable def kept (l : List Nat) (s : SQ) (i : Nat) : List Nat := s.res.flatten ++ (l.drop s.start).take (i - s.start)
theorem kept_more (l : List Nat) (s : SQ) (i : Nat) (t rest : List Nat) (h : s.start ≤ i) (hl : l.drop i = t ++ rest) : kept l s (i + t.length) = kept l s i ++ t := by
  unfold kept
  rw [List.append_assoc]
  congr 1
  rw [Nat.sub_add_comm h, List.take_add, List.drop_drop, Nat.add_sub_cancel' h, hl]
  simp
theorem sq_atom (l : List Nat) (s : SQ) (i : Nat) (a : Atom) (rest : List Nat) (ha : a.ok = true) (ho : s.opn = none) (hs : s.start ≤ i) (hl : l.drop i = a.text ++ rest) :
    ∃ s', (a.items i).foldl (sqStep l) s = s' ∧ s'.opn = none ∧ s'.start ≤ i + a.text.length ∧ kept l s' (i + a.text.length) = kept l s i ++ a.clean := by
  cases a with
  | ch c =>
    have hc : c ≠ 34 := by simp [Atom.ok] at ha; exact ha.1
    exact ⟨s, sq_skip l _ s (by simp [Atom.items, hc]), ho, by walk_at "o", kept_more l s i _ rest hs hl⟩
  | pair c => exact ⟨s, sq_skip l _ s (by simp [Atom.items]), ho, by walk_at "o", kept_more l s i _ rest hs hl⟩
  | quo q =>
    simp only [Atom.ok] at ha
    simp only [Atom.items, List.foldl_cons, List.foldl_append, List.foldl_nil]
    have e1 : sqStep l s (i, [34]) = ⟨s.start, some i, s.res⟩ := by simp [sqStep, ho]
    rw [e1, sq_skip l _ _ (inItems_plain q _ ha)]
    refine ⟨_, rfl, ?_, ?_, ?_⟩
    · simp [sqStep]
    · simp [sqStep, Atom.text]; walk_at "o"
    · have e2 : (sqStep l ⟨s.start, some i, s.res⟩ (i + 1 + (inText q).length, [34])) = ⟨i + 1 + (inText q).length + 1, none, if s.start = i then s.res else s.res ++ [(l.drop s.start).take (i - s.start)]⟩ := by simp [sqStep]
      rw [e2]
      have e3 : i + (Atom.quo q).text.length - (i + 1 + (inText q).length + 1) = 0 := by simp [Atom.text]; walk_at "o"
      simp only [kept, e3, List.take_zero, List.append_nil, Atom.clean]
      split
      · rename_i h; simp [h]
      · simp
theorem sq_atoms : ∀ (as : List Atom) (l : List Nat) (s : SQ) (i : Nat), (as.all Atom.ok) = true → s.opn = none → s.start ≤ i → l.drop i = txt as →
    ∃ s', (itemsOf i as).foldl (sqStep l) s = s' ∧ s'.start ≤ i + (txt as).length ∧ kept l s' (i + (txt as).length) = kept l s i ++ cln as
  | [], l, s, i, _, _, hs, _ => ⟨s, rfl, by walk_at "o", by simp [txt, cln]⟩
  | a :: as, l, s, i, h, ho, hs, hl => by
    simp only [List.all_cons, Bool.and_eq_true] at h
    have hl' : l.drop i = a.text ++ txt as := hl
    obtain ⟨s1, f1, o1, b1, k1⟩ := sq_atom l s i a (txt as) h.1 ho hs hl'
    obtain ⟨s2, f2, b2, k2⟩ := sq_atoms as l s1 (i + a.text.length) h.2 o1 b1 (by rw [← List.drop_drop, hl']; simp)
    have el : i + (txt (a :: as)).length = i + a.text.length + (txt as).length := by simp [txt]; walk_at "o"
    refine ⟨s2, ?_, by rw [el]; exact b2, ?_⟩
    · show (a.items i ++ itemsOf (i + a.text.length) as).foldl (sqStep l) s = s2
      rw [List.foldl_append, f1, f2]
    · rw [el, k2, k1, List.append_assoc]
      rfl
theorem cln_noquo : ∀ (as : List Atom), 34 ∉ txt as → cln as = txt as
  | [], _ => rfl
  | a :: as, h => by
    have h1 : 34 ∉ a.text ++ txt as := h
    have h2 := cln_noquo as fun q => h1 (List.mem_append_right _ q)
    show a.clean ++ cln as = a.text ++ txt as
    rw [h2]
    cases a with
    | ch c => rfl
    | pair c => rfl
    | quo q => exact absurd (List.mem_append_left _ (by simp [Atom.text])) h1
theorem stripQ_atoms (as : List Atom) (h : (as.all Atom.ok) = true) : stripQ (txt as) = cln as := by
  unfold stripQ
  split
  · rw [esc_atoms as 0 h]
    obtain ⟨s, f, b, k⟩ := sq_atoms as (txt as) ⟨0, none, []⟩ 0 h rfl (Nat.le_refl _) rfl
    rw [f]
    simp only [Nat.zero_add, kept, List.flatten_nil, List.take_zero, List.nil_append, Nat.sub_self] at k b
    unfold sqEnd
    split
    · rename_i hlt
      rw [List.flatten_append, ← k]
      congr 1
      simp only [List.flatten_cons, List.flatten_nil, List.append_nil]
      rw [List.take_of_length_le (by simp)]
    · rename_i hlt
      rw [← k]
      have : (txt as).length - s.start = 0 := by walk_at "o"
      rw [this]; simp
  · exact (cln_noquo as (by assumption)).symm

/-! brackets -/
noncomputable def parA : List Atom → Nat → Option Nat
  | [], k => some k
  | .ch c :: as, k => if c = 40 then parA as (k + 1) else if c = 41 then (if k = 0 then none else parA as (k - 1)) else parA as k
  | _ :: as, k => parA as k
theorem parEnd_cln : ∀ (as : List Atom) (i k : Nat), (as.all Atom.ok) = true → parEnd (esc false i (cln as)) k = parA as k
  | [], i, k, _ => rfl
  | .ch c :: as, i, k, h => by
    simp only [List.all_cons, Bool.and_eq_true] at h
    have hc : c ≠ 92 := by have := h.1; simp [Atom.ok] at this; exact this.2
    show parEnd (esc false i (c :: cln as)) k = _
    simp only [esc, hc, if_false, parEnd, parStep, List.cons.injEq, and_true, parA]
    by_cases h1 : c = 40
    · simp [h1, parEnd_cln as _ _ h.2]
    · by_cases h2 : c = 41
      · by_cases h3 : k = 0
        · simp [h2, h3]
        · simp [h2, h3, parEnd_cln as _ _ h.2]
      · simp [h1, h2, parEnd_cln as _ _ h.2]
  | .pair c :: as, i, k, h => by
    simp only [List.all_cons, Bool.and_eq_true] at h
    show parEnd (esc false i (92 :: c :: cln as)) k = _
    simp [esc, parEnd, parStep, parA, parEnd_cln as _ _ h.2]
  | .quo q :: as, i, k, h => by
    simp only [List.all_cons, Bool.and_eq_true] at h
    show parEnd (esc false i (cln as)) k = _
    simp [parA, parEnd_cln as _ _ h.2]
noncomputable def evenB : Option Nat → Bool
  | none => false
  | some k => k == 0
theorem chkPar_atoms (as : List Atom) (h : (as.all Atom.ok) = true) : chkPar (txt as) = evenB (parA as 0) := by
  unfold chkPar
  rw [stripQ_atoms as h, parEnd_cln as 0 0 h]
  cases parA as 0 <;> rfl
theorem parA_app : ∀ (as bs : List Atom) (k : Nat), parA (as ++ bs) k = match parA as k with | none => none | some k => parA bs k
  | [], bs, k => rfl
  | .ch c :: as, bs, k => by
    simp only [List.cons_append, parA]
    split
    · exact parA_app as bs _
    · split
      · split
        · rfl
        · exact parA_app as bs _
      · exact parA_app as bs _
  | .pair c :: as, bs, k => by simpa [parA] using parA_app as bs k
  | .quo q :: as, bs, k => by simpa [parA] using parA_app as bs k
end Mine

namespace Mine

/-! ## formulas -/
inductive Fm where
  | leaf (x : Nat) (as : List Atom)
  | node (a : Bool) (l r : Fm)
noncomputable def opc (a : Bool) : Nat := if a then 38 else 124
noncomputable def Fm.size : Fm → Nat
  | .leaf _ _ => 1
  | .node _ l r => l.size + r.size
theorem Fm.size_pos : ∀ t : Fm, 0 < t.size
  | .leaf _ _ => by simp [Fm.size]
  | .node _ l r => by have := l.size_pos; simp only [Fm.size]; walk_at "o"
/-- its pieces -/
noncomputable def Fm.ats : Fm → List (List Atom)
  | .leaf _ as => [as]
  | .node a l r => [[Atom.ch 40]] ++ l.ats ++ [[Atom.ch (opc a)]] ++ r.ats ++ [[Atom.ch 41]]
noncomputable def Fm.toks : Fm → List Nat
  | .leaf x _ => [97 + x]
  | .node a l r => [40] ++ l.toks ++ [opc a] ++ r.toks ++ [41]
theorem Fm.len : ∀ t : Fm, t.ats.length = t.toks.length ∧ t.toks.length + 3 = 4 * t.size
  | .leaf _ _ => by simp [Fm.ats, Fm.toks, Fm.size]
  | .node a l r => by
    have h1 := l.len
    have h2 := r.len
    simp only [Fm.ats, Fm.toks, Fm.size, List.length_append, List.length_cons, List.length_nil]
    walk_at "o"
/-- a note has no bracket of its own -/
noncomputable def Atom.flat : Atom → Bool
  | .ch c => c != 40 && c != 41
  | _ => true
noncomputable def Fm.good : Fm → Bool
  | .leaf x as => decide (x < 4) && as.all Atom.ok && as.all Atom.flat && decide ((txt as).length ≤ 50)
  | .node _ l r => l.good && r.good
theorem parA_flat : ∀ (as : List Atom) (k : Nat), as.all Atom.flat = true → parA as k = some k
  | [], _, _ => rfl
  | .ch c :: as, k, h => by
    simp only [List.all_cons, Bool.and_eq_true, Atom.flat, bne_iff_ne, ne_eq] at h
    simp [parA, h.1.1, h.1.2, parA_flat as k h.2]
  | .pair c :: as, k, h => by simp only [List.all_cons, Bool.and_eq_true] at h; simp [parA, parA_flat as k h.2]
  | .quo q :: as, k, h => by simp only [List.all_cons, Bool.and_eq_true] at h; simp [parA, parA_flat as k h.2]
theorem parA_op (a : Bool) (as : List Atom) (k : Nat) : parA (.ch (opc a) :: as) k = parA as k := by
  cases a <;> simp [parA, opc]
theorem Fm.parA : ∀ (t : Fm) (rest : List Atom) (k : Nat), t.good = true → Mine.parA (t.ats.flatten ++ rest) k = Mine.parA rest k
  | .leaf x as, rest, k, h => by
    simp only [Fm.good, Bool.and_eq_true] at h
    simp only [Fm.ats, List.flatten_cons, List.flatten_nil, List.append_nil]
    rw [parA_app, parA_flat as k h.1.2]
  | .node a l r, rest, k, h => by
    simp only [Fm.good, Bool.and_eq_true] at h
    simp only [Fm.ats, List.flatten_append, List.flatten_cons, List.flatten_nil, List.append_nil, List.append_assoc, List.cons_append, List.nil_append]
    show Mine.parA (.ch 40 :: (l.ats.flatten ++ (.ch (opc a) :: (r.ats.flatten ++ (.ch 41 :: rest))))) k = _
    simp only [Mine.parA, if_true]
    rw [l.parA _ _ h.1, parA_op, r.parA _ _ h.2]
    simp [Mine.parA]
noncomputable abbrev isOp (c : Nat) : Prop := c = 38 ∨ c = 124
/-- ahead of a sign within there is an open bracket -/
theorem Fm.depth : ∀ (t : Fm) (k j c : Nat), t.good = true → t.toks[j]? = some c → isOp c → ∃ d, 1 ≤ d ∧ Mine.parA (t.ats.take j).flatten k = some (k + d)
  | .leaf x as, k, j, c, hg, h, ho => by
    simp only [Fm.good, Bool.and_eq_true, decide_eq_true_eq] at hg
    cases j with
    | zero => simp [Fm.toks] at h; unfold isOp at ho; walk_at "o"
    | succ j => simp [Fm.toks] at h
  | .node a l r, k, j, c, hg, h, ho => by
    simp only [Fm.good, Bool.and_eq_true] at hg
    have hl := l.len
    have hr := r.len
    have eA : (Fm.node a l r).ats = [Atom.ch 40] :: (l.ats ++ ([Atom.ch (opc a)] :: (r.ats ++ [[Atom.ch 41]]))) := by simp [Fm.ats]
    have eT : (Fm.node a l r).toks = 40 :: (l.toks ++ (opc a :: (r.toks ++ [41]))) := by simp [Fm.toks]
    rw [eT] at h
    rw [eA]
    cases j with
    | zero => simp at h; unfold isOp at ho; walk_at "o"
    | succ j =>
      simp only [List.getElem?_cons_succ] at h
      simp only [List.take_succ_cons, List.flatten_cons, List.cons_append, List.nil_append]
      show ∃ d, 1 ≤ d ∧ Mine.parA (.ch 40 :: ((l.ats ++ ([Atom.ch (opc a)] :: (r.ats ++ [[Atom.ch 41]]))).take j).flatten) k = some (k + d)
      simp only [Mine.parA, if_true]
      rcases Nat.lt_trichotomy j l.toks.length with hj | hj | hj
      · rw [List.getElem?_append_left hj] at h
        obtain ⟨d, h1, h2⟩ := l.depth (k + 1) j c hg.1 h ho
        refine ⟨d + 1, by walk_at "o", ?_⟩
        rw [List.take_append_of_le_length (by walk_at "o"), h2]
        congr 1; walk_at "o"
      · refine ⟨1, by walk_at "o", ?_⟩
        rw [List.take_append_of_le_length (by walk_at "o"), List.take_of_length_le (by walk_at "o")]
        have := l.parA [] (k + 1) hg.1
        rw [List.append_nil] at this
        rw [this]; rfl
      · obtain ⟨i, rfl⟩ : ∃ i, j = l.toks.length + 1 + i := ⟨j - l.toks.length - 1, by walk_at "o"⟩
        rw [List.getElem?_append_right (by walk_at "o"), show l.toks.length + 1 + i - l.toks.length = i + 1 by walk_at "o", List.getElem?_cons_succ] at h
        have e1 : (l.ats ++ ([Atom.ch (opc a)] :: (r.ats ++ [[Atom.ch 41]]))).take (l.toks.length + 1 + i) = l.ats ++ ([Atom.ch (opc a)] :: ((r.ats ++ [[Atom.ch 41]]).take i)) := by
          rw [List.take_append, List.take_of_length_le (by walk_at "o"), show l.toks.length + 1 + i - l.ats.length = i + 1 by walk_at "o", List.take_succ_cons]
        rw [e1, List.flatten_append, List.flatten_cons, l.parA _ _ hg.1]
        show ∃ d, 1 ≤ d ∧ Mine.parA (.ch (opc a) :: ((r.ats ++ [[Atom.ch 41]]).take i).flatten) (k + 1) = some (k + d)
        rw [parA_op]
        rcases Nat.lt_or_ge i r.toks.length with hi | hi
        · rw [List.getElem?_append_left hi] at h
          obtain ⟨d, h1, h2⟩ := r.depth (k + 1) i c hg.2 h ho
          refine ⟨d + 1, by walk_at "o", ?_⟩
          rw [List.take_append_of_le_length (by walk_at "o"), h2]
          congr 1; walk_at "o"
        · rw [List.getElem?_append_right hi] at h
          cases hi' : i - r.toks.length with
          | zero => rw [hi'] at h; simp at h; unfold isOp at ho; walk_at "o"
          | succ _ => rw [hi'] at h; simp at h

noncomputable def Fm.val (m : Nat → Nat) : Fm → Nat
  | .leaf x _ => m x
  | .node a l r => if a then l.val m &&& r.val m else l.val m ||| r.val m
noncomputable def Fm.dual (m : Nat → Nat) : Fm → Nat
  | .leaf x _ => m x
  | .node a l r => if a then l.dual m ||| r.dual m else l.dual m &&& r.dual m
noncomputable def tokc (c : Nat) : Nat := if c = 38 then 19 else if c = 124 then 18 else if c = 40 then 7 else if c = 41 then 8 else 1
theorem filter_at (m : Nat) : ∀ n, m < n → ∀ p : Nat → Bool, (∀ k, k < n → (p k = true ↔ k = m)) → (List.range n).filter p = [m] := by
  intro n
  induction n with
  | zero => intro h; walk_at "o"
  | succ n ih =>
    intro h p hp
    rw [List.range_succ, List.filter_append]
    rcases Nat.lt_or_ge m n with hm | hm
    · rw [ih hm p fun k hk => hp k (by walk_at "o")]
      have : p n = false := by
        cases e : p n with
        | false => rfl
        | true => have := (hp n (by walk_at "o")).mp e; walk_at "o"
      simp [this]
    · obtain rfl : m = n := by walk_at "o"
      have h1 : p m = true := (hp m (by walk_at "o")).mpr rfl
      have h2 : (List.range m).filter p = [] := by
        rw [List.filter_eq_nil_iff]
        intro k hk e
        have hk := List.mem_range.mp hk
        have := (hp k (by walk_at "o")).mp e
        walk_at "o"
      simp [h1, h2]
/-- the one sign ahead of which the brackets are even -/
theorem Fm.middle (a : Bool) (l r : Fm) (hg : (Fm.node a l r).good = true) :
    (List.range (Fm.node a l r).toks.length).filter (fun k => (((Fm.node a l r).toks.map tokc)[k]? == some 18 || ((Fm.node a l r).toks.map tokc)[k]? == some 19) && evenB (Mine.parA ((((Fm.node a l r).ats.drop 1).take (k - 1)).flatten) 0)) = [l.toks.length + 1] := by
  have hl := l.len
  have hr := r.len
  have hg' := hg
  simp only [Fm.good, Bool.and_eq_true] at hg
  have eA : (Fm.node a l r).ats.drop 1 = l.ats ++ ([Atom.ch (opc a)] :: (r.ats ++ [[Atom.ch 41]])) := by simp [Fm.ats]
  have eT : (Fm.node a l r).toks = 40 :: (l.toks ++ (opc a :: (r.toks ++ [41]))) := by simp [Fm.toks]
  refine filter_at _ _ (by rw [eT]; simp) _ fun k hk => ?_
  rw [eA, eT]
  have code : ∀ c, (tokc c = 18 ∨ tokc c = 19) ↔ isOp c := fun c => by
    unfold tokc isOp
    by_cases h1 : c = 38
    · simp [h1]
    · by_cases h2 : c = 124
      · simp [h2]
      · by_cases h3 : c = 40
        · simp [h3]
        · by_cases h4 : c = 41
          · simp [h4]
          · simp [h1, h2, h3, h4]
  have opk : ∀ (ts : List Nat) (k : Nat), ((ts.map tokc)[k]? == some 18 || (ts.map tokc)[k]? == some 19) = true ↔ ∃ c, ts[k]? = some c ∧ isOp c := fun ts k => by
    rw [List.getElem?_map]
    cases ts[k]? with
    | none => simp
    | some c => simpa using code c
  rw [Bool.and_eq_true, opk]
  constructor
  · rintro ⟨⟨c, hc, ho⟩, hp⟩
    cases k with
    | zero => simp at hc; unfold isOp at ho; walk_at "o"
    | succ j =>
      simp only [List.getElem?_cons_succ, Nat.add_sub_cancel] at hc hp
      rcases Nat.lt_trichotomy j l.toks.length with hj | hj | hj
      · exfalso
        rw [List.getElem?_append_left hj] at hc
        obtain ⟨d, h1, h2⟩ := l.depth 0 j c hg.1 hc ho
        rw [List.take_append_of_le_length (by walk_at "o"), h2] at hp
        simp [evenB] at hp; walk_at "o"
      · walk_at "o"
      · exfalso
        obtain ⟨i, rfl⟩ : ∃ i, j = l.toks.length + 1 + i := ⟨j - l.toks.length - 1, by walk_at "o"⟩
        rw [List.getElem?_append_right (by walk_at "o"), show l.toks.length + 1 + i - l.toks.length = i + 1 by walk_at "o", List.getElem?_cons_succ] at hc
        have e1 : (l.ats ++ ([Atom.ch (opc a)] :: (r.ats ++ [[Atom.ch 41]]))).take (l.toks.length + 1 + i) = l.ats ++ ([Atom.ch (opc a)] :: ((r.ats ++ [[Atom.ch 41]]).take i)) := by
          rw [List.take_append, List.take_of_length_le (by walk_at "o"), show l.toks.length + 1 + i - l.ats.length = i + 1 by walk_at "o", List.take_succ_cons]
        rw [e1, List.flatten_append, List.flatten_cons, l.parA _ _ hg.1] at hp
        have e2 : ∀ xs : List Atom, [Atom.ch (opc a)] ++ xs = .ch (opc a) :: xs := fun _ => rfl
        rw [e2, parA_op] at hp
        rcases Nat.lt_or_ge i r.toks.length with hi | hi
        · rw [List.getElem?_append_left hi] at hc
          obtain ⟨d, h1, h2⟩ := r.depth 0 i c hg.2 hc ho
          rw [List.take_append_of_le_length (by walk_at "o"), h2] at hp
          simp [evenB] at hp; walk_at "o"
        · rw [List.getElem?_append_right hi] at hc
          cases hi' : i - r.toks.length with
          | zero => rw [hi'] at hc; simp at hc; unfold isOp at ho; walk_at "o"
          | succ _ => rw [hi'] at hc; simp at hc
  · rintro rfl
    refine ⟨⟨opc a, ?_, ?_⟩, ?_⟩
    · simp
    · cases a <;> simp [opc, isOp]
    · have e1 : (l.ats ++ ([Atom.ch (opc a)] :: (r.ats ++ [[Atom.ch 41]]))).take (l.toks.length + 1 - 1) = l.ats := by
        rw [List.take_append_of_le_length (by walk_at "o"), List.take_of_length_le (by walk_at "o")]
      rw [e1]
      have := l.parA [] 0 hg.1
      rw [List.append_nil] at this
      rw [this]; rfl
end Mine

namespace Mine
section
variable {B : Base} {n : Nat} {ce : CEnv} {st st1 st2 st3 : LSt}

noncomputable def tokOk (c : Nat) : Bool := [97, 98, 99, 100, 38, 124, 40, 41].contains c
/-- the table of exact tokens -/
structure TokD (B : Base) : Prop where
  ok : ∃ f, (∀ h, LeH B.P₀ h → h.MapOf (PySem.strKind B.prog B.w) 120 f) ∧ ∀ c, tokOk c = true → (f (mkS [c]) = none ∧ tokc c = 1) ∨ ∃ t, f (mkS [c]) = some (.int (tokc c : Nat) t)
theorem Ev_dget (D : TokD B) {x y z : Str} {p q r apos pos : Pos} {c : Nat} (h1 : EvJ B n ce (.Name x p) st (.cst (.ref 120)) st) (h2 : EvJ B n ce (.Name y q) st (.str (mkS [c])) st) (h3 : EvJ B n ce (.Name z r) st (.int 1) st) (hc : tokOk c = true)
    (hline : autoParam ((apos.endLine == pos.line) = true) tRfl) :
    EvJ B n ce (.Call (.Attribute (.Name x p) (Str.ofString "get") apos) [.Name y q, .Name z r] [] pos) st (.int (tokc c : Nat)) st := fun A env P K g X s Q E hA R hQ => by
  obtain ⟨f, hf, hv⟩ := D.ok
  refine wpAny_Call_method (T := "dict") (id := "dict.get") (by rfl) (by rfl) hline PySem.F.plainAttrs_dict PySem.F.slot_dict_get PySem.F.type_dict_get (h1 A env P K g X s _ E hA R fun P1 X1 s1 a lP1 lX1 R1 r1 => ?_)
  (first|obtain ⟨_, rfl⟩:=r1.inv|subst r1|obtain rfl:=sj r1|exact n1 r1|exact n2 r1|cases r1)
  have hm1 := hf _ R1.inv.h0
  refine ⟨hm1.typeIs, hm1.noDict, ?_⟩
  refine callWith_builtin (by rfl) (evalArgs_any (by rfl) ((Es_cons h2 (Es_cons h3 Es_nil)) A env P1 K g X1 s1 _ E hA R1 fun P2 X2 s2 xs lP2 lX2 R2 r2 => ?_))
  obtain ⟨a, b, rfl, ra, rb⟩ := r2.two
  obtain ⟨t, rfl⟩ := ra.inv; obtain ⟨u, rfl⟩ := rb.inv
  have hm2 := hf _ R2.inv.h0
  refine call_meetsIn PySem.F.slot_dict_get hm2.typeIs PySem.F.entry_dict_get (PySem.F.args_dict_get_3 _ _ _) (meets_dict_get_default (PySem.strKind B.prog B.w) 120 (k := mkS [c]) (key := .str (mkS [c]) t) (by show (mkS [c] == mkS [c]) = true; simp) (by decide) (.int 1 u)) ⟨f, hm2, ?_⟩
  have R3 : Rel B P2 K g X2 ce env st { s2 with toks := s2.toks + 1 } := R2.grow fun _ _ e => e
  rcases hv c hc with ⟨e, e2⟩ | ⟨t2, e⟩
  · rw [e]
    exact hQ P2 X2 _ _ (lP1.trans lP2) (lX1.trans lX2) R3 (by rw [e2]; exact .int _ _)
  · rw [e]
    exact hQ P2 X2 _ _ (lP1.trans lP2) (lX1.trans lX2) R3 (.int _ _)

theorem occ_abcd (x : Nat) (h : x < 4) : ∃ rest, Builtin.Str.occurrences (Str.ofString "abcd") (mkS [97 + x]) 0 (Str.ofString "abcd").length 1 = x :: rest := by
  rcases (show x = 0 ∨ x = 1 ∨ x = 2 ∨ x = 3 by walk_at "o") with rfl | rfl | rfl | rfl <;> exact ⟨[], by decide +kernel⟩
noncomputable abbrev pcs (as : List (List Atom)) : List (List Nat) := as.map txt
theorem pcs_flatten : ∀ as : List (List Atom), (pcs as).flatten = txt as.flatten
  | [] => rfl
  | a :: as => by simp only [List.map_cons, List.flatten_cons, pcs_flatten as, txt, List.flatMap_append]
theorem Fm.toks_ok : ∀ t : Fm, t.good = true → ∀ c ∈ t.toks, tokOk c = true
  | .leaf x as, h, c, hc => by
    simp only [Fm.good, Bool.and_eq_true, decide_eq_true_eq] at h
    have hx : x < 4 := h.1.1.1
    simp only [Fm.toks, List.mem_singleton] at hc
    subst hc
    rcases (show x = 0 ∨ x = 1 ∨ x = 2 ∨ x = 3 by walk_at "o") with rfl | rfl | rfl | rfl <;> rfl
  | .node a l r, h, c, hc => by
    simp only [Fm.good, Bool.and_eq_true] at h
    simp only [Fm.toks, List.mem_append, List.mem_singleton] at hc
    rcases hc with (((rfl | hc) | rfl) | hc) | rfl
    · rfl
    · exact l.toks_ok h.1 c hc
    · cases a <;> rfl
    · exact r.toks_ok h.2 c hc
    · rfl
theorem Fm.ats_ok : ∀ t : Fm, t.good = true → ∀ a ∈ t.ats, a.all Atom.ok = true ∧ (txt a).length ≤ 50
  | .leaf x as, h, a, ha => by
    simp only [Fm.good, Bool.and_eq_true, decide_eq_true_eq] at h
    simp only [Fm.ats, List.mem_singleton] at ha
    subst ha
    exact ⟨h.1.1.2, h.2⟩
  | .node b l r, h, a, ha => by
    simp only [Fm.good, Bool.and_eq_true] at h
    simp only [Fm.ats, List.mem_append, List.mem_singleton] at ha
    rcases ha with (((rfl | ha) | rfl) | ha) | rfl
    · simp [Atom.ok, Atom.text]
    · exact l.ats_ok h.1 a ha
    · cases b <;> simp [Atom.ok, Atom.text, opc]
    · exact r.ats_ok h.2 a ha
    · simp [Atom.ok, Atom.text]
theorem flat_all {as : List (List Atom)} (h : ∀ a ∈ as, a.all Atom.ok = true) : as.flatten.all Atom.ok = true := by
  rw [List.all_eq_true]
  intro x hx
  obtain ⟨a, ha, hx⟩ := List.mem_flatten.mp hx
  exact List.all_eq_true.mp (h a ha) x hx
end
end Mine

namespace Mine
section
variable {B : Base} {n : Nat} {ce : CEnv} {st st1 st2 st3 : LSt}
theorem IterOk.strL (ts : List Nat) : IterOk B n (.str (mkS ts)) (ts.map fun c => .str (mkS [c])) := by
  have e : ((mkS ts).cps.toList.map fun c => CV.str ⟨#[c]⟩) = ts.map fun c => .str (mkS [c]) := by simp
  rw [← e]; exact @IterOk.str B n (mkS ts)
theorem pures_mkS (ts : List Nat) : pures (ts.map fun c => CV.str (mkS [c])) = true := pures_map (fun _ => rfl) _
noncomputable abbrev mAt (ms : List Nat) : Nat → Nat := fun x => ms.getD x 0
theorem txt_take_len {as : List (List Atom)} (h : ∀ a ∈ as, (txt a).length ≤ 50) (hl : as.length ≤ 17) : (txt as.flatten).length ≤ 850 := by
  rw [← pcs_flatten]
  have h3 := flatten_le (m := 50) (pcs as) (by
    intro r hr
    obtain ⟨a, ha, rfl⟩ := List.mem_map.mp hr
    exact h a ha)
  simp only [List.length_map] at h3
  have : as.length * 50 ≤ 17 * 50 := Nat.mul_le_mul_right _ hl
  walk_at "o"
theorem opIn (x : Nat) : decide ((x : Int) ∈ [(18 : Int), 19]) = (some x == some 18 || some x == some 19) := by
  by_cases h1 : x = 18
  · subst h1; rfl
  · by_cases h2 : x = 19
    · subst h2; rfl
    · have e1 : ¬ ((x : Int) ∈ [(18 : Int), 19]) := by simp; walk_at "o"
      rw [decide_eq_false e1]
      simp [h1, h2]
set_option maxHeartbeats 2000000 in
theorem fn_read_leaf (H : Law B) (D : TokD B) (ms : List Nat) (h4 : ms.length = 4) (x : Nat) (as : List Atom) (hg : (Fm.leaf x as).good = true) : FnJ B (n + 1) (.ref 170) [.list (cSs (pcs (Fm.leaf x as).ats)), .str (mkS (Fm.leaf x as).toks), .list (ci ms)] (.tup [.int ((Fm.leaf x as).val (mAt ms) : Nat), .int ((Fm.leaf x as).dual (mAt ms) : Nat)]) := by
  have hx : x < 4 := by simp only [Fm.good, Bool.and_eq_true, decide_eq_true_eq] at hg; exact hg.1.1.1
  have hok := (Fm.leaf x as).toks_ok hg
  obtain ⟨rest, ho⟩ := occ_abcd x hx
  have hm : (ci ms)[((x : Nat) : Int).toNat]? = some (.int (mAt ms x : Nat)) := by
    rw [Int.toNat_natCast]
    simp only [ci, List.getElem?_map, mAt, List.getD_eq_getElem?_getD]
    rw [List.getElem?_eq_getElem (by walk_at "o")]; rfl
  have hc1 : tokc (97 + x) = 1 := four (M := fun x => tokc (97 + x) = 1) (by walk_at "o") rfl rfl rfl rfl
  refine FnJ.of H.read (.mk' (by decide +kernel)) (by rfl) rfl ?_ (by rfl)
  conv in (bodyAt 74) => whnf
  refine .cons (Ex_assign (v := .list (ci [1])) (J.eqv (Ev_compAll (val := fun c => .str (mkS [c])) (as := [97 + x]) (out := fun c => some (.int (tokc c : Nat))) (ItE.ok (Ev_name (v := .str (mkS [97 + x])) (by rfl)) (IterOk.strL [97 + x])) (pures_mkS _) (.mk' (by decide +kernel) (by rfl)) (fun c hc => .all (As_name (by rfl)) (Ev_dget D (Ev_name (by rfl)) (Ev_name (by rfl)) (Ev_name (by rfl)) (hok c hc)) rfl .nil rfl) (by simp)) ?_) (As_name (by rfl)) (h1 := fun env he => swaps_no he (by show some NameKind.cell ≠ some NameKind.local; decide))) ?_
  · rw [filterMap_all]; simp [ci, hc1]
  refine .if_stop (J.eqb (Ts_cmp (Ev_name (v := .list (ci [1])) (by rfl)) (Ev_list (Es_cons Ev_int Es_nil) (by decide)) (.eqL (ns := [1]) (ms := [1]) (by rfl) (by rfl))) (by simp)) ?_
  exact .ret (Ev_tuple (Es_cons (Ev_item (Ev_name (v := .list (ci ms)) (by rfl)) (Ev_meth PySem.F.plainAttrs_str PySem.F.slot_str_index PySem.F.type_str_index Ev_str (.str _) (Es_cons (Ev_name (v := .str (mkS [97 + x])) (by rfl)) Es_nil) (ca_index ho)) (.list (by rfl) (by walk_at "o") (by walk_at "o") hm)) (Es_cons (Ev_item (Ev_name (v := .list (ci ms)) (by rfl)) (Ev_meth PySem.F.plainAttrs_str PySem.F.slot_str_index PySem.F.type_str_index Ev_str (.str _) (Es_cons (Ev_name (v := .str (mkS [97 + x])) (by rfl)) Es_nil) (ca_index ho)) (.list (by rfl) (by walk_at "o") (by walk_at "o") hm)) Es_nil)) (by simp))
end
end Mine

namespace Mine
section
variable {B : Base} {n : Nat} {ce : CEnv} {st st1 st2 st3 : LSt}
theorem band_n (a b : Nat) : Builtin.bitAnd (a : Int) (b : Int) = ((a &&& b : Nat) : Int) := band_nat a b
theorem bor_n (a b : Nat) : Builtin.bitOr (a : Int) (b : Int) = ((a ||| b : Nat) : Int) := bor_nat a b
noncomputable abbrev rvN : Nat → CV := fun i => .int (0 + (i : Int) * 1)
theorem rngOk (k : Nat) (hk : k ≤ 1000) : Builtin.Range.small 0 (k : Int) 1 = true ∧ Builtin.Range.rangeSize 0 (k : Int) 1 = k := by
  refine ⟨small_one (by decide) (by decide) (by walk_at "o") (by walk_at "o"), ?_⟩
  rw [rangeSize_one]; split <;> walk_at "o"
theorem rng_pt (k : Nat) : (0 + (k : Int) * 1) = ((k : Nat) : Int) := by walk_at "o"
set_option maxHeartbeats 4000000 in
theorem fn_read_node (H : Law B) (D : TokD B) (ms : List Nat) (h4 : ms.length = 4) (a : Bool) (l r : Fm) (hg : (Fm.node a l r).good = true) (hsz : (Fm.node a l r).size ≤ 5)
    (cl : FnJ B (n + 3) (.ref 170) [.list (cSs (pcs l.ats)), .str (mkS l.toks), .list (ci ms)] (.tup [.int (l.val (mAt ms) : Nat), .int (l.dual (mAt ms) : Nat)]))
    (cr : FnJ B (n + 3) (.ref 170) [.list (cSs (pcs r.ats)), .str (mkS r.toks), .list (ci ms)] (.tup [.int (r.val (mAt ms) : Nat), .int (r.dual (mAt ms) : Nat)])) :
    FnJ B (n + 4) (.ref 170) [.list (cSs (pcs (Fm.node a l r).ats)), .str (mkS (Fm.node a l r).toks), .list (ci ms)] (.tup [.int ((Fm.node a l r).val (mAt ms) : Nat), .int ((Fm.node a l r).dual (mAt ms) : Nat)]) := by
  have hok := (Fm.node a l r).toks_ok hg
  have hats := (Fm.node a l r).ats_ok hg
  have hlen := (Fm.node a l r).len
  have hll := l.len
  have hlr := r.len
  have hmid := Fm.middle a l r hg
  have eT : (Fm.node a l r).toks = 40 :: (l.toks ++ (opc a :: (r.toks ++ [41]))) := by simp [Fm.toks]
  have eA : (Fm.node a l r).ats = [Atom.ch 40] :: (l.ats ++ ([Atom.ch (opc a)] :: (r.ats ++ [[Atom.ch 41]]))) := by simp [Fm.ats]
  have eTl : (Fm.node a l r).toks.length = l.toks.length + r.toks.length + 3 := by rw [eT]; simp; walk_at "o"
  generalize hts : (Fm.node a l r).toks = ts at *
  generalize hps : (Fm.node a l r).ats = ps at *
  have hL : ts.length ≤ 17 := by walk_at "o"
  have hpl := hlen.1
  have hal := hll.1
  have har := hlr.1
  have h3 : 3 ≤ ts.length := by rw [eTl]; exact Nat.le_add_left _ _
  clear hlen hll hlr hsz
  have hcl : (ci (ts.map tokc)).length = ts.length := by simp
  refine FnJ.of H.read (.mk' (by decide +kernel)) (by rfl) rfl ?_ (by rfl)
  conv in (bodyAt 74) => whnf
  refine .cons (Ex_assign (v := .list (ci (ts.map tokc))) (J.eqv (Ev_compAll (val := fun c => .str (mkS [c])) (as := ts) (out := fun c => some (.int (tokc c : Nat))) (ItE.ok (Ev_name (v := .str (mkS ts)) (by rfl)) (IterOk.strL ts)) (pures_mkS _) (.mk' (by decide +kernel) (by rfl)) (fun c hc => .all (As_name (by rfl)) (Ev_dget D (Ev_name (by rfl)) (Ev_name (by rfl)) (Ev_name (by rfl)) (hok c hc)) rfl .nil rfl) (by walk_at "o")) ?_) (As_name (by rfl)) (h1 := fun env he => swaps_no he (by show some NameKind.cell ≠ some NameKind.local; decide))) ?_
  · rw [filterMap_all]; simp [ci]
  have hne : ¬ (ts.map tokc).map Int.ofNat = [1] := fun h => by
    have := congrArg List.length h
    simp at this; walk_at "o"
  refine .else_go (J.eqb (Ts_cmp (Ev_name (v := .list (ci (ts.map tokc))) (by rfl)) (Ev_list (Es_cons Ev_int Es_nil) (by decide)) (.eqL (ns := (ts.map tokc).map Int.ofNat) (ms := [1]) (by simp [ci, asL]) (by rfl))) (by simpa using hne)) ?_
  have hok2 : ∀ q ∈ ps, q.all Atom.ok = true := fun q hq => (hats q hq).1
  have hcode : ∀ k, k < ts.length → (ci (ts.map tokc))[(0 + (k : Int) * 1).toNat]? = some (.int ((ts.map tokc).getD k 0 : Nat)) := fun k hk => by
    rw [rng_pt, Int.toNat_natCast]
    simp [ci, hk, List.getD_eq_getElem?_getD]
  have hmids : ((List.range ts.length).filterMap fun (k : Nat) => if (((ts.map tokc)[k]? == some 18 || (ts.map tokc)[k]? == some 19) && evenB (parA (((ps.drop 1).take (k - 1)).flatten) 0)) then some (CV.int (0 + (k : Int) * 1)) else none) = [.int ((l.toks.length + 1 : Nat) : Int)] := by
    rw [filterMap_if (fun (k : Nat) => ((ts.map tokc)[k]? == some 18 || (ts.map tokc)[k]? == some 19) && evenB (parA (((ps.drop 1).take (k - 1)).flatten) 0)), hmid]
    simp
  refine .cons (Ex_compAll (val := rvN) (as := List.range ts.length) (out := fun (k : Nat) => if (((ts.map tokc)[k]? == some 18 || (ts.map tokc)[k]? == some 19) && evenB (parA (((ps.drop 1).take (k - 1)).flatten) 0)) then some (CV.int (0 + (k : Int) * 1)) else none)
    (ItE.ok (Ev_callT (Ev_name (by rfl)) (Es_cons (J.eqv (v1 := .int ts.length) (Ev_callB (Ev_name (by rfl)) (Es_cons (Ev_name (v := .list (ci (ts.map tokc))) (by rfl)) Es_nil) (ca_len (vs := ci (ts.map tokc)) (by rfl) (by walk_at "o"))) (by rw [hcl])) Es_nil) ca_range1) (IterOk.rng (k := ts.length) (rngOk _ (by walk_at "o")).1 (rngOk _ (by walk_at "o")).2)) (pures_rng _ _ _) (.mk' (by decide +kernel) (by rfl))
    (fun k hk => .ite (As_name (by rfl)) (Ifs_one (J.eqb (Ts_and2 (Ts_cmp (Ev_item (Ev_name (v := .list (ci (ts.map tokc))) (by rfl)) (Ev_name (v := rvN k) (by rfl)) (.list (by rfl) (by walk_at "o") (by have := List.mem_range.mp hk; walk_at "o") (hcode k (List.mem_range.mp hk)))) (Ev_list (Es_cons Ev_int (Es_cons Ev_int Es_nil)) (by decide)) (.inI (ns := [18, 19]) _ (by rfl)))
      (fun hb => Ts_cmp (Ev_callF (Ev_name (by rfl)) H.check_paren.fn (Es_cons (J.eqv (v1 := .str (mkS (txt (((ps.drop 1).take (k - 1)).flatten)))) (Ev_meth (v := .str (mkS [])) PySem.F.plainAttrs_str PySem.F.slot_str_join PySem.F.type_str_join (J.eqv Ev_str (by rfl)) (.str _) (Es_cons (J.eqv (v1 := .list (cSs (pcs ((ps.drop 1).take (k - 1))))) (Ev_slice (Ev_name (v := .list (cSs (pcs ps))) (by rfl)) (Pt_some Ev_int) (Pt_some (Ev_name (v := rvN k) (by rfl))) (.list (by rfl) ?_)) ?_) Es_nil) (ca_join (ss := (pcs ((ps.drop 1).take (k - 1))).map mkS) ?_ ?_ ?_)) ?_) Es_nil) (FnJ.ca (fn_check (n := n) H (txt (((ps.drop 1).take (k - 1)).flatten)) ?_) (by rfl))) Ev_bool (.isB _ _))) ?_)) (fun _ => Ev_name (by rfl)) (fun _ => rfl) .nil rfl) (by simp; walk_at "o") (by rfl) (by rfl)) ?_
  · simp; walk_at "o"
  · rw [rng_pt]
    show CV.list (pickV _ (some ((1 : Nat) : Int)) (some ((k : Nat) : Int)) none) = _
    rw [pickV_mid]
    simp only [List.map_drop, List.map_take]
  · rw [← cSs_eq]; rfl
  · rw [join_mkS, mkS_len, pcs_flatten]
    have := txt_take_len (as := (ps.drop 1).take (k - 1)) (fun q hq => (hats q (List.mem_of_mem_drop (List.mem_of_mem_take hq))).2) (by simp; walk_at "o")
    walk_at "o"
  · refine join_fits _ ?_
    rw [pcs_flatten]
    have := txt_take_len (as := (ps.drop 1).take (k - 1)) (fun q hq => (hats q (List.mem_of_mem_drop (List.mem_of_mem_take hq))).2) (by simp; walk_at "o")
    walk_at "o"
  · rw [join_mkS, pcs_flatten]
  · have := txt_take_len (as := (ps.drop 1).take (k - 1)) (fun q hq => (hats q (List.mem_of_mem_drop (List.mem_of_mem_take hq))).2) (by simp; walk_at "o")
    walk_at "o"
  · have hk := List.mem_range.mp hk
    rw [opIn, chkPar_atoms _ (flat_all fun q hq => hok2 q (List.mem_of_mem_drop (List.mem_of_mem_take hq)))]
    have : (ts.map tokc)[k]? = some ((ts.map tokc).getD k 0) := by simp [hk, List.getD_eq_getElem?_getD]
    rw [this]
    simp
  rw [hmids]
  have hc0 : (ci (ts.map tokc))[(0 : Int).toNat]? = some (.int (7 : Nat)) := by rw [eT]; rfl
  have hcm : (ci (ts.map tokc))[((l.toks.length + 1 : Nat) : Int).toNat]? = some (.int (tokc (opc a) : Nat)) := by
    rw [Int.toNat_natCast, eT]; simp [ci]
  have hcn : (ci (ts.map tokc))[((-1 : Int) + (ci (ts.map tokc)).length).toNat]? = some (.int (8 : Nat)) := by
    have e : ts = (40 :: (l.toks ++ opc a :: r.toks)) ++ [41] := by rw [eT]; simp
    rw [hcl, show ((-1 : Int) + (ts.length : Int)).toNat = ts.length - 1 by walk_at "o", e]
    generalize 40 :: (l.toks ++ opc a :: r.toks) = X
    simp [ci, tokc]
  have hPl : ((pcs ps).drop 1).take (l.toks.length + 1 - 1) = pcs l.ats := by
    rw [eA]
    simp only [List.map_cons, List.drop_succ_cons, List.drop_zero, List.map_append, Nat.add_sub_cancel]
    rw [← hal, show l.ats.length = (pcs l.ats).length by simp, List.take_left]
  have hPr : ((pcs ps).drop (l.toks.length + 1 + 1)).take ((pcs ps).length - 1 - (l.toks.length + 1 + 1)) = pcs r.ats := by
    have e1 : (pcs ps).drop (l.toks.length + 1 + 1) = pcs r.ats ++ [txt [Atom.ch 41]] := by
      rw [eA]
      simp only [List.map_cons, List.drop_succ_cons, List.map_append]
      rw [List.drop_append, List.drop_of_length_le (by simp; walk_at "o"), List.nil_append, show l.toks.length + 1 - (pcs l.ats).length = 1 by simp; walk_at "o"]
      rfl
    have e2 : (pcs ps).length - 1 - (l.toks.length + 1 + 1) = (pcs r.ats).length := by simp; walk_at "o"
    rw [e1, e2, List.take_left]
  have hTl : (ts.drop 1).take (l.toks.length + 1 - 1) = l.toks := by
    rw [eT]
    simp only [List.drop_succ_cons, List.drop_zero, Nat.add_sub_cancel, List.take_left]
  have hTr : (ts.drop (l.toks.length + 1 + 1)).take (ts.length - 1 - (l.toks.length + 1 + 1)) = r.toks := by
    have e1 : ts.drop (l.toks.length + 1 + 1) = r.toks ++ [41] := by
      rw [eT]
      simp only [List.drop_succ_cons]
      rw [List.drop_append, List.drop_of_length_le (by walk_at "o"), List.nil_append, show l.toks.length + 1 - l.toks.length = 1 by walk_at "o"]
      rfl
    rw [e1, show ts.length - 1 - (l.toks.length + 1 + 1) = r.toks.length by walk_at "o", List.take_left]
  have hpl : (pcs ps).length = ts.length := by simp; walk_at "o"
  refine .else_go (J.eqb (Ts_or3 (Ts_cmp (Ev_callB (Ev_name (by rfl)) (Es_cons (Ev_name (v := .list [.int ((l.toks.length + 1 : Nat) : Int)]) (by rfl)) Es_nil) (ca_len (vs := [.int ((l.toks.length + 1 : Nat) : Int)]) (by rfl) (by simp))) Ev_int (.neI _ _)) (fun _ => (Ts_cmp (Ev_item (Ev_name (v := .list (ci (ts.map tokc))) (by rfl)) Ev_int (.list (by rfl) (by decide) (by decide) hc0)) Ev_int (.neI _ _)))
    (fun _ _ => (Ts_cmp (Ev_item (Ev_name (v := .list (ci (ts.map tokc))) (by rfl)) (Ev_un Ev_int (.neg _)) (.listN (by rfl) (by decide) (by rw [hcl]; walk_at "o") (by decide) hcn)) Ev_int (.neI _ _)))) (by simp)) ?_
  refine .cons (Ex_assign (v := .int ((l.toks.length + 1 : Nat) : Int)) (Ev_item (Ev_name (v := .list [.int ((l.toks.length + 1 : Nat) : Int)]) (by rfl)) Ev_int (.list (by rfl) (by decide) (by decide) (by rfl))) (As_name (by rfl))) ?_
  refine .cons (Ex_assign (Ev_callF (Ev_name (by rfl)) H.read.fn (Es_cons (J.eqv (v1 := .list (cSs (pcs l.ats))) (Ev_slice (Ev_name (v := .list (cSs (pcs ps))) (by rfl)) (Pt_some Ev_int) (Pt_some (Ev_name (v := .int ((l.toks.length + 1 : Nat) : Int)) (by rfl))) (.list (by rfl) (by simp; walk_at "o"))) ?_) (Es_cons (J.eqv (v1 := .str (mkS l.toks)) (Ev_slice (Ev_name (v := .str (mkS ts)) (by rfl)) (Pt_some Ev_int) (Pt_some (Ev_name (v := .int ((l.toks.length + 1 : Nat) : Int)) (by rfl))) (.str (by rw [mkS_len]; walk_at "o"))) ?_) (Es_cons (Ev_name (v := .list (ci ms)) (by rfl)) Es_nil))) (cl.ca (by simp only [pures, CV.pure, pures_ci, Bool.and_true]; rw [cSs_eq]; exact pures_strs _))) (As_name (by rfl))) ?_
  · show CV.list (pickV _ (some ((1 : Nat) : Int)) (some ((l.toks.length + 1 : Nat) : Int)) none) = _
    rw [pickV_mid, ← hPl]
    simp only [List.map_drop, List.map_take]
  · show CV.str (Txt.slice _ (some ((1 : Nat) : Int)) (some ((l.toks.length + 1 : Nat) : Int))) = _
    rw [slice_mid, hTl]
  refine .cons (Ex_assign (Ev_callF (Ev_name (by rfl)) H.read.fn (Es_cons (J.eqv (v1 := .list (cSs (pcs r.ats))) (Ev_slice (Ev_name (v := .list (cSs (pcs ps))) (by rfl)) (Pt_some (Ev_bo (Ev_name (v := .int ((l.toks.length + 1 : Nat) : Int)) (by rfl)) Ev_int (.num (.add _ _)))) (Pt_some (Ev_un Ev_int (.neg _))) (.list (by rfl) (by simp; walk_at "o"))) ?_) (Es_cons (J.eqv (v1 := .str (mkS r.toks)) (Ev_slice (Ev_name (v := .str (mkS ts)) (by rfl)) (Pt_some (Ev_bo (Ev_name (v := .int ((l.toks.length + 1 : Nat) : Int)) (by rfl)) Ev_int (.num (.add _ _)))) (Pt_some (Ev_un Ev_int (.neg _))) (.str (by rw [mkS_len]; walk_at "o"))) ?_) (Es_cons (Ev_name (v := .list (ci ms)) (by rfl)) Es_nil))) (cr.ca (by simp only [pures, CV.pure, pures_ci, Bool.and_true]; rw [cSs_eq]; exact pures_strs _))) (As_name (by rfl))) ?_
  · show CV.list (pickV _ (some ((l.toks.length + 1 + 1 : Nat) : Int)) (some (-1)) none) = _
    rw [pickV_last, ← hPr]
    simp only [List.map_drop, List.map_take, List.length_map]
  · show CV.str (Txt.slice _ (some ((l.toks.length + 1 + 1 : Nat) : Int)) (some (-1))) = _
    rw [slice_last, hTr]
  cases a with
  | true =>
    refine .if_stop (J.eqb (Ts_cmp (Ev_item (Ev_name (v := .list (ci (ts.map tokc))) (by rfl)) (Ev_name (v := .int ((l.toks.length + 1 : Nat) : Int)) (by rfl)) (.list (by rfl) (by walk_at "o") (by walk_at "o") hcm)) Ev_int (.eqI _ _)) (by rfl)) ?_
    refine .retq (Ev_tuple (Es_cons (Ev_bo (Ev_item (Ev_name (v := .tup [.int (l.val (mAt ms) : Nat), .int (l.dual (mAt ms) : Nat)]) (by rfl)) Ev_int (.tup (by decide) (by decide) (by rfl))) (Ev_item (Ev_name (v := .tup [.int (r.val (mAt ms) : Nat), .int (r.dual (mAt ms) : Nat)]) (by rfl)) Ev_int (.tup (by decide) (by decide) (by rfl))) (.num (.and _ _)))
      (Es_cons (Ev_bo (Ev_item (Ev_name (v := .tup [.int (l.val (mAt ms) : Nat), .int (l.dual (mAt ms) : Nat)]) (by rfl)) Ev_int (.tup (by decide) (by decide) (by rfl))) (Ev_item (Ev_name (v := .tup [.int (r.val (mAt ms) : Nat), .int (r.dual (mAt ms) : Nat)]) (by rfl)) Ev_int (.tup (by decide) (by decide) (by rfl))) (.num (.or _ _))) Es_nil)) (by simp)) ?_
    rw [band_n, bor_n]; rfl
  | false =>
    refine .else_go (J.eqb (Ts_cmp (Ev_item (Ev_name (v := .list (ci (ts.map tokc))) (by rfl)) (Ev_name (v := .int ((l.toks.length + 1 : Nat) : Int)) (by rfl)) (.list (by rfl) (by walk_at "o") (by walk_at "o") hcm)) Ev_int (.eqI _ _)) (by rfl)) ?_
    refine .retq (Ev_tuple (Es_cons (Ev_bo (Ev_item (Ev_name (v := .tup [.int (l.val (mAt ms) : Nat), .int (l.dual (mAt ms) : Nat)]) (by rfl)) Ev_int (.tup (by decide) (by decide) (by rfl))) (Ev_item (Ev_name (v := .tup [.int (r.val (mAt ms) : Nat), .int (r.dual (mAt ms) : Nat)]) (by rfl)) Ev_int (.tup (by decide) (by decide) (by rfl))) (.num (.or _ _)))
      (Es_cons (Ev_bo (Ev_item (Ev_name (v := .tup [.int (l.val (mAt ms) : Nat), .int (l.dual (mAt ms) : Nat)]) (by rfl)) Ev_int (.tup (by decide) (by decide) (by rfl))) (Ev_item (Ev_name (v := .tup [.int (r.val (mAt ms) : Nat), .int (r.dual (mAt ms) : Nat)]) (by rfl)) Ev_int (.tup (by decide) (by decide) (by rfl))) (.num (.and _ _))) Es_nil)) (by simp)) ?_
    rw [band_n, bor_n]; rfl
theorem fn_read (H : Law B) (D : TokD B) (ms : List Nat) (h4 : ms.length = 4) : ∀ (t : Fm) {n : Nat}, t.good = true → t.size ≤ 5 → FnJ B (n + t.size + 3) (.ref 170) [.list (cSs (pcs t.ats)), .str (mkS t.toks), .list (ci ms)] (.tup [.int (t.val (mAt ms) : Nat), .int (t.dual (mAt ms) : Nat)])
  | .leaf x as, n, hg, _ => (fn_read_leaf (n := n) H D ms h4 x as hg).mono (by walk_at "o")
  | .node a l r, n, hg, hs => by
    have hg' := hg
    simp only [Fm.good, Bool.and_eq_true] at hg'
    have hlp := l.size_pos
    have hrp := r.size_pos
    simp only [Fm.size] at hs
    have := fn_read_node (n := n + (l.size + r.size) - 1) H D ms h4 a l r hg hs ((fn_read H D ms h4 l (n := n) hg'.1 (Nat.le_trans (Nat.le_add_right _ _) hs)).mono (rdL hrp)) ((fn_read H D ms h4 r (n := n) hg'.2 (Nat.le_trans (Nat.le_add_left _ _) hs)).mono (rdR hlp))
    exact this.mono (rd4 (Nat.lt_of_lt_of_le hlp (Nat.le_add_right _ _)))
end
end Mine

namespace Mine
section
variable {B : Base} {n : Nat} {ce : CEnv} {st st1 st2 st3 : LSt}
/-- the bits of a number, put together again -/
noncomputable def bitSum (a k m : Nat) : List Int := (List.range m).map fun j => (((a / 2 ^ (k + j) % 2) * 2 ^ j : Nat) : Int)
theorem bitSum_eq (a k : Nat) : ∀ m, (bitSum a k m).sum = ((a / 2 ^ k % 2 ^ m : Nat) : Int) := by
  intro m
  induction m with
  | zero => simp [bitSum, Nat.mod_one]
  | succ m ih =>
    have e : bitSum a k (m + 1) = bitSum a k m ++ [(((a / 2 ^ (k + m) % 2) * 2 ^ m : Nat) : Int)] := by
      simp [bitSum, List.range_succ]
    rw [e, List.sum_append, ih]
    simp only [List.sum_cons, List.sum_nil, Int.add_zero]
    rw [← Int.natCast_add]
    congr 1
    rw [Nat.pow_add, Nat.pow_succ, Nat.mod_mul, Nat.div_div_eq_div_mul, Nat.mul_comm (2 ^ m)]
theorem digs_map (w : Nat) : ∀ (k x : Nat), digs w x k = (List.range k).map fun i => x / 2 ^ (i * w) % 2 ^ w := by
  intro k
  induction k with
  | zero => intro x; rfl
  | succ k ih =>
    intro x
    rw [List.range_succ_eq_map, List.map_cons, List.map_map]
    simp only [digs, ih, Nat.zero_mul, Nat.pow_zero, Nat.div_one, List.cons.injEq, true_and]
    refine List.map_congr_left fun i _ => ?_
    simp only [Function.comp]
    rw [Nat.div_div_eq_div_mul, ← Nat.pow_add, Nat.succ_mul, Nat.add_comm]
theorem bits16 (a : Nat) (h1 : 2 ^ 15 ≤ a) (h2 : a < 2 ^ 16) : Builtin.Int.intBits (a : Int) = 16 := by
  have h3 := bits_le' a 16 (by decide) h2
  have h4 := bits_lt a
  generalize Builtin.Int.intBits (a : Int) = b at *
  rcases Nat.lt_or_ge b 16 with h | h
  · have := Nat.pow_le_pow_right (n := 2) (by decide) (show b ≤ 15 by walk_at "o")
    walk_at "o"
  · walk_at "o"
theorem and_rest (a : Nat) (h2 : a < 2 ^ 16) : a &&& (65535 - a) = 0 := by
  refine Nat.eq_of_testBit_eq fun i => ?_
  rw [Nat.testBit_and, Nat.zero_testBit]
  have e : (65535 - a) = 2 ^ 16 - (a + 1) := by walk_at "o"
  rw [e, Nat.testBit_two_pow_sub_succ h2]
  cases a.testBit i <;> simp
/-- _law_digits -/
theorem iw (i w : Nat) : 0 + (i : Int) * (w : Int) = ((i * w : Nat) : Int) := by rw [Int.natCast_mul, Int.zero_add]
theorem j_lt {i w j : Nat} (h : i * w ≤ 15) (hj : j < min w (16 - i * w)) : j < w ∧ i * w + j < 16 := ⟨Nat.lt_of_lt_of_le hj (Nat.min_le_left _ _), by have := Nat.lt_of_lt_of_le hj (Nat.min_le_right _ _); walk_at "o"⟩
theorem min_cast {i w : Nat} (h : i * w ≤ 15) : min (w : Int) (16 - ((i * w : Nat) : Int)) = ((min w (16 - i * w) : Nat) : Int) := by
  rw [show (16 : Int) - ((i * w : Nat) : Int) = ((16 - i * w : Nat) : Int) from (Int.ofNat_sub (Nat.le_trans h (by decide))).symm]
  rcases Nat.le_total w (16 - i * w) with q | q
  · rw [Nat.min_eq_left q, Int.min_eq_left (Int.ofNat_le.mpr q)]
  · rw [Nat.min_eq_right q, Int.min_eq_right (Int.ofNat_le.mpr q)]
theorem w_cases {M : Nat → Prop} {w : Nat} (hw : 2 ≤ w) (hw2 : w ≤ 7) (h2 : M 2) (h3 : M 3) (h4 : M 4) (h5 : M 5) (h6 : M 6) (h7 : M 7) : M w := by
  rcases (show w = 2 ∨ w = 3 ∨ w = 4 ∨ w = 5 ∨ w = 6 ∨ w = 7 by walk_at "o") with rfl | rfl | rfl | rfl | rfl | rfl <;> assumption
theorem fn_digits (H : Law B) (T : TabFn B 35 (posOf innerDef) (nameOf innerDef)) (a w : Nat) (cs : List Nat) (h1 : 2 ^ 15 ≤ a) (h2 : a < 2 ^ 16) (hw : 2 ≤ w) (hw2 : w ≤ 7) (hcs : cs = (List.range 16).map fun i => a / 2 ^ i % 2) :
    FnJ B (n + 34) (.ref 175) [.int a, .list (ci cs), .int w] (.bool true) := by
  have hget : ∀ i, i < 16 → (ci cs)[i]? = some (.int (a / 2 ^ i % 2 : Nat)) := fun i hi => by
    rw [hcs]; simp [ci, hi]
  have hrs : Builtin.Range.small 0 16 (w : Int) = true ∧ Builtin.Range.rangeSize 0 16 (w : Int) = ((15 / w + 1 : Nat) : Int) :=
    w_cases (M := fun w => Builtin.Range.small 0 16 (w : Int) = true ∧ Builtin.Range.rangeSize 0 16 (w : Int) = ((15 / w + 1 : Nat) : Int)) hw hw2 (by decide) (by decide) (by decide) (by decide) (by decide) (by decide)
  have hnd : ndig a w = 15 / w + 1 := by
    unfold ndig
    rw [bits16 a h1 h2]
    exact w_cases (M := fun w => (16 + w - 1) / w = 15 / w + 1) hw hw2 rfl rfl rfl rfl rfl rfl
  have hle : ∀ i, i < 15 / w + 1 → i * w ≤ 15 := fun i hi => by
    have := Nat.div_mul_le_self 15 w
    have h := Nat.mul_le_mul_right w (show i ≤ 15 / w by walk_at "o")
    walk_at "o"
  have hdue : (List.range (15 / w + 1)).map (fun i => (((bitSum a (i * w) (min w (16 - i * w))).sum : Int))) = (int2digits a w).map Int.ofNat := by
    rw [int2digits, digs_map, hnd, List.map_map]
    refine List.map_congr_left fun i hi => ?_
    have hi := List.mem_range.mp hi
    have h3 := hle i hi
    rw [bitSum_eq]
    simp only [Function.comp]
    show _ = ((a / 2 ^ (i * w) % 2 ^ w : Nat) : Int)
    congr 1
    rcases Nat.le_total w (16 - i * w) with h | h
    · rw [Nat.min_eq_left h]
    · rw [Nat.min_eq_right h]
      have h5 : a / 2 ^ (i * w) < 2 ^ (16 - i * w) := by
        rw [Nat.div_lt_iff_lt_mul (Nat.two_pow_pos _), ← Nat.pow_add, show 16 - i * w + i * w = 16 by walk_at "o"]; exact h2
      rw [Nat.mod_eq_of_lt h5, Nat.mod_eq_of_lt (Nat.lt_of_lt_of_le h5 (Nat.pow_le_pow_right (by decide) h))]
  refine FnJ.of H.digits (.mk' (by decide +kernel)) (by rfl) rfl ?_ (by rfl)
  conv in (bodyAt 75) => whnf
  have hval : ((List.range (15 / w + 1)).filterMap fun (i : Nat) => some (CV.int (bitSum a (i * w) (min w (16 - i * w))).sum)) = ci (int2digits a w) := by
    rw [filterMap_all]
    have := congrArg (List.map CV.int) hdue
    rw [List.map_map, List.map_map] at this
    exact this
  have h15 : 15 / w ≤ 15 := Nat.div_le_self _ _
  refine .cons (Ex_compAll (val := fun (i : Nat) => .int (0 + (i : Int) * (w : Int))) (as := List.range (15 / w + 1)) (out := fun (i : Nat) => some (.int (bitSum a (i * w) (min w (16 - i * w))).sum))
    (ItE.ok (Ev_callT (Ev_name (by rfl)) (Es_cons Ev_int (Es_cons Ev_int (Es_cons (Ev_name (v := .int w) (by rfl)) Es_nil))) (ca_range3 (by walk_at "o") (by walk_at "o"))) (IterOk.rng (k := 15 / w + 1) hrs.1 hrs.2)) (pures_rng _ _ _) (.mk' (by decide +kernel) (by rfl))
    (fun i hi => .all (As_name (by rfl)) (Ev_callB (Ev_name (by rfl)) (Es_cons (Ev_compAll (val := rvN) (as := List.range (min w (16 - i * w))) (out := fun (j : Nat) => some (.int (((a / 2 ^ (i * w + j) % 2) * 2 ^ j : Nat) : Int)))
      (ItE.ok (Ev_callT (Ev_name (by rfl)) (Es_cons (J.eqv (v1 := .int ((min w (16 - i * w) : Nat) : Int)) (Ev_callB (Ev_name (by rfl)) (Es_cons (Ev_name (v := .int w) (by rfl)) (Es_cons (Ev_bo Ev_int (Ev_name (v := .int (0 + (i : Int) * (w : Int))) (by rfl)) (.num (.sub _ _))) Es_nil)) ca_min) ?_) Es_nil) ca_range1) (IterOk.rng (k := min w (16 - i * w)) (rngOk _ (by walk_at "o")).1 (rngOk _ (by walk_at "o")).2)) (pures_rng _ _ _) (.mk' (by decide +kernel) (by rfl))
      (fun j hj => .all (As_name (by rfl)) (J.eqv (Ev_bo (Ev_item (v := .int (a / 2 ^ (i * w + j) % 2 : Nat)) (Ev_name (v := .list (ci cs)) (by rfl)) (Ev_bo (Ev_name (v := .int (0 + (i : Int) * (w : Int))) (by rfl)) (Ev_name (v := rvN j) (by rfl)) (.num (.add _ _))) (.list (by rfl) ?_ ?_ ?_)) (Ev_bo Ev_int (Ev_name (v := rvN j) (by rfl)) (.num (.pow _ _ ?_ ?_ ?_))) (.num (.mul _ _ ?_))) ?_) rfl .nil rfl) (by simp; walk_at "o")) Es_nil) (ca_sum (ns := bitSum a (i * w) (min w (16 - i * w))) ?_)) rfl .nil rfl) (by rw [List.length_range]; walk_at "o") (by rfl) (by rfl)) ?_
  · refine congrArg CV.int (Eq.trans ?_ (min_cast (hle i (List.mem_range.mp hi))))
    rw [← iw]
  · rw [rng_pt, iw, ← Int.natCast_add]; exact Int.natCast_nonneg _
  · rw [rng_pt, iw, ← Int.natCast_add]
    have := (j_lt (hle i (List.mem_range.mp hi)) (List.mem_range.mp hj)).2
    clear hdue hval hnd hle hget hcs hrs
    walk_at "o"
  · rw [rng_pt, iw, ← Int.natCast_add, Int.toNat_natCast]
    exact hget _ (j_lt (hle i (List.mem_range.mp hi)) (List.mem_range.mp hj)).2
  · walk_at "o"
  · exact rk (Nat.lt_of_lt_of_le (j_lt (hle i (List.mem_range.mp hi)) (List.mem_range.mp hj)).1 hw2) (by decide)
  · decide
  · have hj := List.mem_range.mp hj
    rw [rng_pt, Int.toNat_natCast]
    have : (2 : Int) ^ j = ((2 ^ j : Nat) : Int) := by simp
    rw [this, Int.natAbs_natCast]
    exact Nat.pow_lt_pow_right (by decide) (Nat.lt_of_lt_of_le (Nat.lt_of_lt_of_le hj (Nat.min_le_left _ _)) (Nat.le_trans hw2 (by decide)))
  · have hj := List.mem_range.mp hj
    rw [rng_pt, Int.toNat_natCast]
    congr 1
  · rw [filterMap_all]; simp [bitSum, asL]
  rw [hval]
  have hz : int2digits 0 w = [] := by
    have : ndig 0 w = 0 := by
      unfold ndig
      rw [Nat.div_eq_zero_iff]
      simp [Builtin.Int.intBits]; walk_at "o"
    unfold int2digits
    rw [this]; rfl
  refine .retq (Ev_and_true (v1 := .bool true) (J.eqv (Ev_cmp (Ev_callF (Ev_name (by rfl)) H.int2digits.fn (Es_cons (Ev_name (v := .int a) (by rfl)) (Es_cons (Ev_name (v := .int w) (by rfl)) Es_nil)) (FnJ.ca (fn_int2digits (n := n) H T a w (by walk_at "o") (by walk_at "o") (by walk_at "o")) (by rfl))) (Ev_name (v := .list (ci (int2digits a w))) (by rfl)) (.eqL (ns := (int2digits a w).map Int.ofNat) (ms := (int2digits a w).map Int.ofNat) (by simp [ci, asL]) (by simp [ci, asL]))) (by simp)) (.bool true)
    (Ev_one (Ev_cmp (Ev_callF (Ev_name (by rfl)) H.int2digits.fn (Es_cons (J.eqv (v1 := .int (0 : Nat)) (Ev_bo (Ev_name (v := .int a) (by rfl)) (Ev_bo Ev_int (Ev_name (v := .int a) (by rfl)) (.num (.sub _ _))) (.num (.and _ _))) ?_) (Es_cons (Ev_name (v := .int w) (by rfl)) Es_nil)) (FnJ.ca (fn_int2digits (n := n) H T 0 w (by walk_at "o") (by walk_at "o") (by walk_at "o")) (by rfl))) (Ev_list Es_nil (by decide)) (.eqL (ns := []) (ms := []) (by rw [hz]; rfl) (by rfl))))) (by simp)
  rw [show (65535 : Int) - (a : Int) = ((65535 - a : Nat) : Int) by walk_at "o", band_n, and_rest a h2]
end
end Mine

namespace Mine
section
variable {B : Base} {n : Nat} {ce : CEnv} {st st1 st2 st3 : LSt}

/-- push_token -/
theorem ca_push (N : NetC B) (F : NetF B) {i k : Nat} {attrs : List (Str × CV)} {vs : List CV} {y : CV} (e : st.store[i]? = some (.inst 115 attrs)) (hp : attrs.lookup (Str.ofString "pushback") = some (.ref k)) (ek : st.store[k]? = some (.lst vs)) (hsz : vs.length ≤ 16777216) :
    CaJ B (n + 1) ce (.ref 112) [.ref i, y] st .none (st.put k (.lst (vs ++ [y]))) := by
  have key : XsJ B n ⟨mScope 3, []⟩ (mBody 3) ⟨[(Str.ofString "self", .ref i), (Str.ofString "token", y)], st.store⟩ .nxt ⟨[(Str.ofString "self", .ref i), (Str.ofString "token", y)], st.store.set k (.lst (vs ++ [y]))⟩ := by
    conv in (mBody 3) => whnf
    exact Xs_cons (Ex_expr (Ev_meth PySem.F.plainAttrs_list PySem.F.slot_list_append PySem.F.type_list_append (Ev_attr N (Ev_name (v := .ref i) (by rfl)) e hp) (.list ek) (Es_cons (Ev_name (v := y) (by rfl)) Es_nil) (ca_append ek hsz))) Xs_nil
  exact CaJ.mk (ce := ce) (st := st) (f := .nxt) (vs := [.ref i, y]) F.pt (.mk' (by decide +kernel)) (by rfl) rfl key (by simp)
/-- get_token, when something was pushed back -/
theorem ca_getp (N : NetC B) (F : NetF B) {i k : Nat} {attrs : List (Str × CV)} {vs : List CV} {y : CV} (e : st.store[i]? = some (.inst 115 attrs)) (hp : attrs.lookup (Str.ofString "pushback") = some (.ref k)) (ek : st.store[k]? = some (.lst (y :: vs))) (hsz : vs.length < 1000000) :
    CaJ B (n + 1) ce (.ref 105) [.ref i] st y (st.put k (.lst vs)) := by
  have key : XsJ B n ⟨mScope 2, []⟩ (mBody 2) ⟨[(Str.ofString "self", .ref i)], st.store⟩ (.ret y) ⟨[(Str.ofString "self", .ref i)], st.store.set k (.lst vs)⟩ := by
    conv in (mBody 2) => whnf
    exact Xs_stop (Ex_if (b := true) (Ts_plain (Ev_attr N (Ev_name (v := .ref i) (by rfl)) e hp) (.list (vs := y :: vs) (by simp only [asL, ek]) (by simp; walk_at "o"))) (Xs_stop (Ex_ret (Ev_meth PySem.F.plainAttrs_list PySem.F.slot_list_pop PySem.F.type_list_pop (Ev_attr N (Ev_name (v := .ref i) (by rfl)) e hp) (.list ek) (Es_cons Ev_int Es_nil) (ca_pop0 ek (by walk_at "o")))) (by simp))) (by simp)
  exact CaJ.mk (ce := ce) (st := st) (f := .ret y) (vs := [.ref i]) F.gt (.mk' (by decide +kernel)) (by rfl) rfl key (by simp)

/-! _law_least -/
theorem bit_nat (h k : Nat) : bit (h : Int) (k : Int) = h.testBit k := by
  unfold bit
  rw [Int.toNat_natCast]
  have e : ((h : Int) / 2 ^ k) = ((h / 2 ^ k : Nat) : Int) := by rw [Int.natCast_ediv]; simp
  rw [e, show (1 : Int) = ((1 : Nat) : Int) from rfl, band_n, Nat.testBit_eq_decide_div_mod_eq, Nat.and_one_is_mod]
  by_cases q : h / 2 ^ k % 2 = 1
  · simp [q]
  · simp [q]; walk_at "o"
structure LS where
  order : List Nat
  queue : List Nat
  least : List Nat
noncomputable def lessOf (cs : List Nat) (h : Nat) : List Nat := ((List.range 4).filter fun k => h.testBit k && cs.getD (h - 2 ^ k) 0 == 1).map fun k => h - 2 ^ k
noncomputable def addNew (order : List Nat) (q : List Nat) (one : Nat) : List Nat := if one ∈ order ++ q then q else q ++ [one]
noncomputable def leastStep (cs : List Nat) (o l : List Nat) (h : Nat) (q : List Nat) : LS := ⟨o ++ [h], (lessOf cs h).foldl (addNew (o ++ [h])) q, if lessOf cs h = [] then l ++ [h] else l⟩
noncomputable def leastRun (cs : List Nat) : Nat → LS → Option (List Nat)
  | _, ⟨_, [], l⟩ => some l
  | 0, _ => none
  | f + 1, ⟨o, h :: q, l⟩ => leastRun cs f (leastStep cs o l h q)
noncomputable abbrev lsStore (s : LS) : List CO := [.inst 115 (netAttrs 1 .none 1), .lst (ci s.queue), .lst (ci (s.order ++ s.queue)), .lst (ci s.order), .lst (ci s.least)]
noncomputable abbrev lsVars (cs : List Nat) : List (Str × CV) := [(Str.ofString "cases", .list (ci cs)), (Str.ofString "lexer", .ref 0), (Str.ofString "seen", .ref 2), (Str.ofString "order", .ref 3), (Str.ofString "least", .ref 4)]
noncomputable abbrev whBody (k i : Nat) : List Stmt := (spOf (bodyAt k)[i]?).b1
noncomputable abbrev whTest (k i : Nat) : Expr := (spOf (bodyAt k)[i]?).e1
noncomputable abbrev inFor (bs : List Stmt) (i : Nat) : List Stmt := (spOf bs[i]?).b1
noncomputable abbrev inForT (bs : List Stmt) (i : Nat) : Expr := (spOf bs[i]?).e2
theorem mem_ci (one : Nat) (l : List Nat) : decide ((one : Int) ∈ l.map Int.ofNat) = decide (one ∈ l) := by
  by_cases h : one ∈ l
  · rw [decide_eq_true h, decide_eq_true]
    exact List.mem_map.mpr ⟨one, h, rfl⟩
  · rw [decide_eq_false h, decide_eq_false]
    intro q
    obtain ⟨x, hx, e⟩ := List.mem_map.mp q
    have : x = one := by have e' : (x : Int) = (one : Int) := e; walk_at "o"
    exact h (this ▸ hx)
theorem ci_map (l : List Nat) : ci l = (l.map Int.ofNat).map CV.int := by simp [ci]
theorem least_add (N : NetC B) (F : NetF B) (cs : List Nat) (o l : List Nat) (hol : o.length ≤ 1000) : ∀ (less q : List Nat) (l0 : List (Str × CV)), q.length + less.length ≤ 1000 → VSub (lsVars cs) l0 →
    ∃ l1, ForJ B (n + 1) (ceAt 77) (inForT (whBody 77 5) 4) (inFor (whBody 77 5) 4) (ci less) ⟨l0, lsStore ⟨o, q, l⟩⟩ .nxt ⟨l1, lsStore ⟨o, less.foldl (addNew o) q, l⟩⟩ ∧ VSub (lsVars cs) l1
  | [], q, l0, _, hv => ⟨l0, .nil, hv⟩
  | one :: less, q, l0, hq, hv => by
    simp only [List.length_cons] at hq
    have e0 : asL (lsStore ⟨o, q, l⟩) (.ref 2) = some (((o ++ q).map Int.ofNat).map CV.int) := by show some (ci (o ++ q)) = _; rw [ci_map]
    by_cases hm : one ∈ o ++ q
    · have ea : addNew o q one = q := by simp only [addNew]; rw [if_pos hm]
      obtain ⟨l2, b1, b2⟩ := least_add N F cs o l hol less q ((Str.ofString "one", .int one) :: lsVars cs) (by walk_at "o") (.cons (by rfl) (.cons (by rfl) (.cons (by rfl) (.cons (by rfl) (.cons (by rfl) .nil)))))
      refine ⟨l2, ?_, b2⟩
      rw [List.foldl_cons, ea]
      refine .step hv (by rfl) (by rfl) ?_ (.inl rfl) b1
      conv in (inFor (whBody 77 5) 4) => whnf
      exact Xs_cons (Ex_if (b := false) (J.eqb (Ts_cmp (Ev_name (v := .int one) (by rfl)) (Ev_name (v := .ref 2) (by rfl)) (.notInI _ e0)) (by rw [mem_ci, decide_eq_true hm]; rfl)) Xs_nil) Xs_nil
    · have ea : addNew o q one = q ++ [one] := by simp only [addNew]; rw [if_neg hm]
      obtain ⟨l2, b1, b2⟩ := least_add N F cs o l hol less (q ++ [one]) ((Str.ofString "one", .int one) :: lsVars cs) (by simp; walk_at "o") (.cons (by rfl) (.cons (by rfl) (.cons (by rfl) (.cons (by rfl) (.cons (by rfl) .nil)))))
      refine ⟨l2, ?_, b2⟩
      rw [List.foldl_cons, ea]
      refine .step (S1 := lsStore ⟨o, q ++ [one], l⟩) hv (by rfl) (by rfl) ?_ (.inl rfl) b1
      conv in (inFor (whBody 77 5) 4) => whnf
      have e1 : lsStore ⟨o, q ++ [one], l⟩ = [.inst 115 (netAttrs 1 .none 1), .lst (ci q ++ [.int one]), .lst (ci (o ++ q) ++ [.int one]), .lst (ci o), .lst (ci l)] := by simp [lsStore, ci]
      rw [e1]
      exact Xs_cons (Ex_if (b := true) (J.eqb (Ts_cmp (Ev_name (v := .int one) (by rfl)) (Ev_name (v := .ref 2) (by rfl)) (.notInI _ e0)) (by rw [mem_ci, decide_eq_false hm]; rfl))
        (Xs_cons (Ex_expr (Ev_meth PySem.F.plainAttrs_list PySem.F.slot_list_append PySem.F.type_list_append (Ev_name (v := .ref 2) (by rfl)) (.list (by rfl)) (Es_cons (Ev_name (v := .int one) (by rfl)) Es_nil) (ca_append (vs := ci (o ++ q)) (by rfl) (by simp; walk_at "o"))))
        (Xs_cons (Ex_expr (Ev_methI N N.pt N.f112 F.pt.fn (Ev_name (v := .ref 0) (by rfl)) (by rfl) (by rfl) (Es_cons (Ev_name (v := .int one) (by rfl)) Es_nil) (ca_push (n := n) N F (k := 1) (vs := ci q) (by rfl) (by rfl) (by rfl) (by simp; walk_at "o")))) Xs_nil))) Xs_nil
end
end Mine

namespace Mine
section
variable {B : Base} {n : Nat} {ce : CEnv} {st st1 st2 st3 : LSt}

theorem lessOf_len (cs : List Nat) (h : Nat) : (lessOf cs h).length ≤ 4 := by
  unfold lessOf
  rw [List.length_map]
  exact Nat.le_trans (List.length_filter_le _ _) (by simp)
theorem addNew_len (o : List Nat) : ∀ (less q : List Nat), (less.foldl (addNew o) q).length ≤ q.length + less.length
  | [], q => by simp
  | x :: less, q => by
    have := addNew_len o less (addNew o q x)
    have h2 : (addNew o q x).length ≤ q.length + 1 := by unfold addNew; split <;> simp
    simp only [List.foldl_cons, List.length_cons]; walk_at "o"
theorem testBit_le {h k : Nat} (hb : h.testBit k = true) : 2 ^ k ≤ h := Nat.ge_two_pow_of_testBit hb
set_option maxHeartbeats 1000000 in
theorem least_turn (N : NetC B) (F : NetF B) (cs : List Nat) (hcs : cs.length = 16) (o l : List Nat) (h : Nat) (q : List Nat) (hh : h < 16) (hol : o.length ≤ 500) (hq : q.length ≤ 500) (hl : l.length ≤ 500) :
    ∃ l1, XsJ B (n + 1) (ceAt 77) (whBody 77 5) ⟨lsVars cs, lsStore ⟨o, h :: q, l⟩⟩ .nxt ⟨l1, lsStore (leastStep cs o l h q)⟩ ∧ VSub (lsVars cs) l1 := by
  have hll := lessOf_len cs h
  have hcget : ∀ k : Nat, h.testBit k = true → (ci cs)[((h : Int) - 2 ^ (0 + (k : Int) * 1).toNat).toNat]? = some (.int (cs.getD (h - 2 ^ k) 0 : Nat)) := fun k hk => by
    have := testBit_le hk
    rw [rng_pt, Int.toNat_natCast]
    have e : ((h : Int) - 2 ^ k).toNat = h - 2 ^ k := by
      rw [show ((2 : Int) ^ k) = ((2 ^ k : Nat) : Int) by simp]; walk_at "o"
    rw [e]
    have h2 : 0 < 2 ^ k := Nat.two_pow_pos k
    have hlt : h - 2 ^ k < cs.length := by walk_at "o"
    simp only [ci, List.getElem?_map, List.getD_eq_getElem?_getD]
    rw [List.getElem?_eq_getElem hlt]; rfl
  have hval : ((List.range 4).filterMap fun (k : Nat) => if (h.testBit k && cs.getD (h - 2 ^ k) 0 == 1) then some (CV.int ((h : Int) - 2 ^ (0 + (k : Int) * 1).toNat)) else none) = ci (lessOf cs h) := by
    rw [filterMap_if (fun (k : Nat) => h.testBit k && cs.getD (h - 2 ^ k) 0 == 1)]
    unfold lessOf
    simp only [ci, List.map_map]
    refine List.map_congr_left fun k hk => ?_
    have hk := (List.mem_filter.mp hk).2
    simp only [Bool.and_eq_true] at hk
    have := testBit_le hk.1
    simp only [Function.comp]
    congr 1
    rw [rng_pt, Int.toNat_natCast, show ((2 : Int) ^ k) = ((2 ^ k : Nat) : Int) by simp]; walk_at "o"
  have e0 : lsStore ⟨o, h :: q, l⟩ = [.inst 115 (netAttrs 1 .none 1), .lst (.int h :: ci q), .lst (ci (o ++ [h] ++ q)), .lst (ci o), .lst (ci l)] := by simp [lsStore, ci]
  have e1 : ∀ l', lsStore ⟨o ++ [h], q, l'⟩ = [.inst 115 (netAttrs 1 .none 1), .lst (ci q), .lst (ci (o ++ [h] ++ q)), .lst (ci o ++ [.int h]), .lst (ci l')] := fun l' => by simp [lsStore, ci]
  obtain ⟨l1, lp, lv⟩ := least_add (B := B) (n := n) N F cs (o ++ [h]) (if lessOf cs h = [] then l ++ [h] else l) (by simp; walk_at "o") (lessOf cs h) q ((Str.ofString "less", .list (ci (lessOf cs h))) :: (Str.ofString "held", .int h) :: lsVars cs) (by walk_at "o") (.cons (by rfl) (.cons (by rfl) (.cons (by rfl) (.cons (by rfl) (.cons (by rfl) .nil)))))
  have lp' : ForJ B (n + 1) (ceAt 77) (inForT (whBody 77 5) 4) (inFor (whBody 77 5) 4) (ci (lessOf cs h)) ⟨(Str.ofString "less", .list (ci (lessOf cs h))) :: (Str.ofString "held", .int h) :: lsVars cs, lsStore ⟨o ++ [h], q, if lessOf cs h = [] then l ++ [h] else l⟩⟩ .nxt ⟨l1, lsStore (leastStep cs o l h q)⟩ := lp
  refine ⟨l1, ?_, lv⟩
  conv at lp' in (inFor (whBody 77 5) 4) => whnf
  conv at lp' in (inForT (whBody 77 5) 4) => whnf
  conv in (whBody 77 5) => whnf
  rw [e0]
  refine Xs_cons (Ex_assign (v := .int h) (Ev_methI N N.gt N.f105 F.gt.fn (Ev_name (v := .ref 0) (by rfl)) (by rfl) (by rfl) Es_nil (ca_getp (n := n) N F (k := 1) (vs := ci q) (by rfl) (by rfl) (by rfl) (by simp; walk_at "o"))) (As_name (by rfl))) ?_
  refine Xs_cons (Ex_expr (Ev_meth PySem.F.plainAttrs_list PySem.F.slot_list_append PySem.F.type_list_append (Ev_name (v := .ref 3) (by rfl)) (.list (by rfl)) (Es_cons (Ev_name (v := .int h) (by rfl)) Es_nil) (ca_append (vs := ci o) (by rfl) (by simp; walk_at "o")))) ?_
  refine Xs_cons (J.eqs (Ex_compAll (val := rvN) (as := List.range 4) (out := fun (k : Nat) => if (h.testBit k && cs.getD (h - 2 ^ k) 0 == 1) then some (CV.int ((h : Int) - 2 ^ (0 + (k : Int) * 1).toNat)) else none)
    (ItE.ok (Ev_callT (Ev_name (by rfl)) (Es_cons Ev_int Es_nil) ca_range1) (IterOk.rng (k := 4) (by decide) (by decide))) (pures_rng _ _ _) (.mk' (by decide +kernel) (by rfl))
    (fun k hk => .ite (As_name (by rfl)) (Ifs_one (J.eqb (Ts_and2 (J.eqb (c := h.testBit k) (Ts_cmp (Ev_bo (Ev_bo (Ev_name (v := .int h) (by rfl)) (Ev_name (v := rvN k) (by rfl)) (.num (.shr _ _ (by walk_at "o")))) Ev_int (.num (.and _ _))) Ev_int (.eqI _ _)) ?_)
      (fun hb => Ts_cmp (Ev_item (v := .int (cs.getD (h - 2 ^ k) 0 : Nat)) (Ev_name (v := .list (ci cs)) (by rfl)) (Ev_bo (Ev_name (v := .int h) (by rfl)) (Ev_bo Ev_int (Ev_name (v := rvN k) (by rfl)) (.num (.pow _ _ (by walk_at "o") (by have := List.mem_range.mp hk; walk_at "o") (by decide)))) (.num (.sub _ _))) (.list (by rfl) ?_ ?_ (hcget k hb))) Ev_int (.eqI _ _))) ?_)) (fun _ => Ev_bo (Ev_name (v := .int h) (by rfl)) (Ev_bo Ev_int (Ev_name (v := rvN k) (by rfl)) (.num (.pow _ _ (by walk_at "o") (by have := List.mem_range.mp hk; walk_at "o") (by decide)))) (.num (.sub _ _))) (fun _ => rfl) .nil rfl) (by decide) (by rfl) (by rfl)) (by rw [hval])) ?_
  · rw [← bit_nat, rng_pt]; rfl
  · have := testBit_le hb
    rw [rng_pt, Int.toNat_natCast, show ((2 : Int) ^ k) = ((2 ^ k : Nat) : Int) by simp]; walk_at "o"
  · rw [rng_pt, Int.toNat_natCast, show ((2 : Int) ^ k) = ((2 ^ k : Nat) : Int) by simp]
    obtain ⟨m, hm⟩ : ∃ m, m = 2 ^ k := ⟨_, rfl⟩
    rw [← hm]; walk_at "o"
  · congr 1
    by_cases q : cs.getD (h - 2 ^ k) 0 = 1
    · rw [q]; rfl
    · rw [decide_eq_false (by walk_at "o")]; exact (beq_eq_false_iff_ne.mpr q).symm
  have eL : asL [CO.inst 115 (netAttrs 1 .none 1), .lst (ci q), .lst (ci (o ++ [h] ++ q)), .lst (ci o ++ [.int h]), .lst (ci l)] (.list (ci (lessOf cs h))) = some (((lessOf cs h).map Int.ofNat).map CV.int) := by show some (ci (lessOf cs h)) = _; rw [ci_map]
  by_cases hn : lessOf cs h = []
  · rw [if_pos hn, e1] at lp'
    have e2 : ci (l ++ [h]) = ci l ++ [.int h] := by simp [ci]
    rw [e2] at lp'
    refine Xs_cons (Ex_if (b := true) (J.eqb (Ts_cmp (Ev_name (v := .list (ci (lessOf cs h))) (by rfl)) (Ev_list Es_nil (by decide)) (.eqL (ms := []) eL (by rfl))) (by rw [hn]; rfl)) (Xs_cons (Ex_expr (Ev_meth PySem.F.plainAttrs_list PySem.F.slot_list_append PySem.F.type_list_append (Ev_name (v := .ref 4) (by rfl)) (.list (by rfl)) (Es_cons (Ev_name (v := .int h) (by rfl)) Es_nil) (ca_append (vs := ci l) (by rfl) (by simp; walk_at "o")))) Xs_nil)) ?_
    exact Xs_cons (Ex_for (ItE.ok (Ev_name (v := .list (ci (lessOf cs h))) (by rfl)) (IterOk.list (pures_ci _))) (pures_ci _) lp') Xs_nil
  · rw [if_neg hn, e1] at lp'
    refine Xs_cons (Ex_if (b := false) (J.eqb (Ts_cmp (Ev_name (v := .list (ci (lessOf cs h))) (by rfl)) (Ev_list Es_nil (by decide)) (.eqL (ms := []) eL (by rfl))) (by rw [decide_eq_false]; simpa using hn)) Xs_nil) ?_
    exact Xs_cons (Ex_for (ItE.ok (Ev_name (v := .list (ci (lessOf cs h))) (by rfl)) (IterOk.list (pures_ci _))) (pures_ci _) lp') Xs_nil
end
end Mine

namespace Mine
section
variable {B : Base} {n : Nat} {ce : CEnv} {st st1 st2 st3 : LSt}

theorem lessOf_lt (cs : List Nat) (h : Nat) (hh : h < 16) : ∀ x ∈ lessOf cs h, x < 16 := fun x hx => by
  unfold lessOf at hx
  obtain ⟨k, _, rfl⟩ := List.mem_map.mp hx
  exact Nat.lt_of_le_of_lt (Nat.sub_le _ _) hh
theorem addNew_lt (o : List Nat) : ∀ (less q : List Nat), (∀ x ∈ less, x < 16) → (∀ x ∈ q, x < 16) → ∀ x ∈ less.foldl (addNew o) q, x < 16
  | [], q, _, hq => hq
  | y :: less, q, hl, hq => addNew_lt o less (addNew o q y) (fun x hx => hl x (.tail _ hx)) (by
      unfold addNew
      split
      · exact hq
      · intro x hx
        rcases List.mem_append.mp hx with hx | hx
        · exact hq x hx
        · simp at hx; subst hx; exact hl _ (.head _))
theorem least_while (N : NetC B) (F : NetF B) (cs : List Nat) (hcs : cs.length = 16) (res : List Nat) : ∀ (fuel : Nat) (o q l : List Nat) (l0 : List (Str × CV)), VSub (lsVars cs) l0 → leastRun cs fuel ⟨o, q, l⟩ = some res → o.length + fuel ≤ 200 → q.length + 4 * fuel ≤ 450 → l.length ≤ o.length → (∀ x ∈ q, x < 16) →
    ∃ l1 o', WhlJ B (n + 1) (ceAt 77) (whTest 77 5) (whBody 77 5) ⟨l0, lsStore ⟨o, q, l⟩⟩ .nxt ⟨l1, lsStore ⟨o', [], res⟩⟩ ∧ VSub (lsVars cs) l1 ∧ o'.length ≤ 200 := by
  intro fuel
  have test : ∀ (o q l : List Nat) (l0 : List (Str × CV)), VSub (lsVars cs) l0 → o.length ≤ 200 → q.length ≤ 450 → TsJ B (n + 1) (ceAt 77) (whTest 77 5) ⟨l0, lsStore ⟨o, q, l⟩⟩ (!q.isEmpty) ⟨l0, lsStore ⟨o, q, l⟩⟩ := fun o q l l0 hv h1 h2 => by
    conv in (whTest 77 5) => whnf
    refine J.eqb (Ts_cmp (Ev_callB (Ev_name (by rfl)) (Es_cons (Ev_name (v := .ref 3) (hv.ok (by rfl))) Es_nil) (ca_len (vs := ci o) (by rfl) (by simp; walk_at "o"))) (Ev_callB (Ev_name (by rfl)) (Es_cons (Ev_name (v := .ref 2) (hv.ok (by rfl))) Es_nil) (ca_len (vs := ci (o ++ q)) (by rfl) (by simp; walk_at "o"))) (.lt _ _)) ?_
    cases q with
    | nil => simp
    | cons x q => simp; walk_at "o"
  induction fuel with
  | zero =>
    intro o q l l0 hv hr h1 h2 h3 h4
    cases q with
    | cons h q => (first|subst hr|obtain rfl:=sj hr|exact n1 hr|exact n2 hr|exact b1 hr|exact b2 hr|cases hr)
    | nil => (first|subst hr|obtain rfl:=sj hr|exact n1 hr|exact n2 hr|exact b1 hr|exact b2 hr|cases hr); exact ⟨l0, o, .stop (test o [] res l0 hv (by walk_at "o") (by simp)), hv, by walk_at "o"⟩
  | succ fuel ih =>
    intro o q l l0 hv hr h1 h2 h3 h4
    cases q with
    | nil => (first|subst hr|obtain rfl:=sj hr|exact n1 hr|exact n2 hr|exact b1 hr|exact b2 hr|cases hr); exact ⟨l0, o, .stop (test o [] res l0 hv (by walk_at "o") (by simp)), hv, by walk_at "o"⟩
    | cons h q =>
      simp only [List.length_cons] at h2
      have hh := h4 h (.head _)
      obtain ⟨l1, a1, a2⟩ := least_turn (B := B) (n := n) N F cs hcs o l h q hh (by walk_at "o") (by walk_at "o") (by walk_at "o")
      have hlen := addNew_len (o ++ [h]) (lessOf cs h) q
      have hl4 := lessOf_len cs h
      obtain ⟨l2, o', b1, b2, b3⟩ := ih (o ++ [h]) ((lessOf cs h).foldl (addNew (o ++ [h])) q) (if lessOf cs h = [] then l ++ [h] else l) l1 a2 hr (by simp; walk_at "o") (by walk_at "o") (by split <;> simp <;> walk_at "o") (addNew_lt _ _ _ (lessOf_lt cs h hh) fun x hx => h4 x (.tail _ hx))
      exact ⟨l2, o', .turn (test o (h :: q) l l0 hv (by walk_at "o") (by simp; walk_at "o")) (J.pre a1 hv) (.inl rfl) b1, b2, b3⟩
theorem fn_least (H : Law B) (N : NetC B) (F : NetF B) (cs res : List Nat) (hcs : cs.length = 16) (hr : leastRun cs 100 ⟨[], [15], []⟩ = some res) : FnJ B (n + 3) (.ref 187) [.list (ci cs)] (.list (ci res)) := by
  obtain ⟨l1, o', W, hv, ho⟩ := least_while (B := B) (n := n + 1) N F cs hcs res 100 [] [15] [] [(Str.ofString "least", .ref 4), (Str.ofString "order", .ref 3), (Str.ofString "seen", .ref 2), (Str.ofString "lexer", .ref 0), (Str.ofString "cases", .list (ci cs))] (.cons (by rfl) (.cons (by rfl) (.cons (by rfl) (.cons (by rfl) (.cons (by rfl) .nil))))) hr (by simp) (by simp) (by simp) (by simp)
  conv at W in (whBody 77 5) => whnf
  conv at W in (whTest 77 5) => whnf
  refine FnJ.of H.least (.mk' (by decide +kernel)) (by rfl) rfl ?_ (pures_ci _)
  conv in (bodyAt 77) => whnf
  refine .cons (Ex_assign (Ev_new (n := n) N F (Ev_name (by rfl)) Ev_none) (As_name (by rfl))) ?_
  refine .cons (Ex_expr (Ev_methI N N.pt N.f112 F.pt.fn (Ev_name (v := .ref 0) (by rfl)) (by rfl) (by rfl) (Es_cons Ev_int Es_nil) (ca_push (n := n + 1) N F (k := 1) (vs := []) (by rfl) (by rfl) (by rfl) (by simp)))) ?_
  refine .cons (Ex_assign (Ev_listM (Es_cons Ev_int Es_nil) (by decide)) (As_name (by rfl))) ?_
  refine .cons (Ex_assign (Ev_listM Es_nil (by decide)) (As_name (by rfl))) ?_
  refine .cons (Ex_assign (Ev_listM Es_nil (by decide)) (As_name (by rfl))) ?_
  refine .cons (Ex_while W) ?_
  refine .freeze (Str.ofString "least") (i := 4) (vs := ci res) (hv.ok (by rfl)) (by rfl) ?_ (by rfl)
  have hv2 := hv.over (x := Str.ofString "none") (v := .none) (by rfl)
  have lk : ∀ {x : Str} {c : CV}, x ≠ Str.ofString "least" → (lsVars cs).lookup x = some c → (setV (Str.ofString "least") (.list (ci res)) l1).lookup x = some c := fun {x c} hx h => by
    rw [setV_ne _ hx]; exact hv.ok h
  have e1 : asL ((lsStore ⟨o', [], res⟩).set 4 .dead) (.ref 3) = some ((o'.map Int.ofNat).map CV.int) := by show some (ci o') = _; rw [ci_map]
  have e2 : asL ((lsStore ⟨o', [], res⟩).set 4 .dead) (.ref 2) = some ((o'.map Int.ofNat).map CV.int) := by show some (ci (o' ++ [])) = _; rw [List.append_nil, ci_map]
  exact .ret (Ev_if (b := true) (J.eqb (Ts_cmp (Ev_name (v := .ref 3) (lk (x := Str.ofString "order") (by decide) (by rfl))) (Ev_name (v := .ref 2) (lk (x := Str.ofString "seen") (by decide) (by rfl))) (.eqL e1 e2)) (by simp)) (Ev_name (v := .list (ci res)) (by rfl)))
end
end Mine

namespace Mine
section
variable {B : Base} {n : Nat} {ce : CEnv} {st st1 st2 st3 : LSt}

noncomputable def nearK (ways : List Nat) (kind : Bool) (x y : Nat) : Bool := pNear (x : Int) (y : Int) (ways.map Int.ofNat) == kind
noncomputable def pAdd (nk : Nat → Nat → Bool) (one : Nat) (s : List Nat × List Nat) (other : Nat) : List Nat × List Nat := if decide (other ∉ s.1) && nk one other then (s.1 ++ [other], s.2 ++ [other]) else s
noncomputable def pileRun (nk : Nat → Nat → Bool) (letters : List Nat) : Nat → List Nat × List Nat → Option (List Nat)
  | _, (p, []) => some p
  | 0, _ => none
  | f + 1, (p, one :: q) => pileRun nk letters f (letters.foldl (pAdd nk one) (p, q))
noncomputable def pilesGo (nk : Nat → Nat → Bool) (letters : List Nat) : List Nat → List (List Nat) → Option (List (List Nat))
  | [], ps => some ps
  | x :: xs, ps => if x ∈ ps.flatten then pilesGo nk letters xs ps else match pileRun nk letters 50 ([x], [x]) with
    | none => none
    | some p => pilesGo nk letters xs (ps ++ [p])
noncomputable abbrev cPs (ps : List (List Nat)) : List CV := ps.map fun p => .list (ci p)
noncomputable abbrev plStore (ps : List (List Nat)) (p q : List Nat) : List CO := [.lst (cPs ps), .inst 115 (netAttrs 1 .none 2), .lst (ci q), .lst (ci p)]
noncomputable abbrev plV0 (ls ways : List Nat) (kind : Bool) : List (Str × CV) := [(Str.ofString "letters", .list (ci ls)), (Str.ofString "ways", .list (ci ways)), (Str.ofString "kind", .bool kind), (Str.ofString "piles", .ref 0)]
noncomputable abbrev plV (ls ways : List Nat) (kind : Bool) : List (Str × CV) := (Str.ofString "lexer", .ref 1) :: (Str.ofString "pile", .ref 3) :: plV0 ls ways kind
noncomputable abbrev inIf (bs : List Stmt) (i : Nat) : List Stmt := (spOf bs[i]?).b1
noncomputable abbrev inWh (bs : List Stmt) (i : Nat) : List Stmt := (spOf bs[i]?).b1
noncomputable abbrev inWhT (bs : List Stmt) (i : Nat) : Expr := (spOf bs[i]?).e1
noncomputable abbrev inIfT (bs : List Stmt) (i : Nat) : Expr := (spOf bs[i]?).e1
noncomputable abbrev pB1 : List Stmt := inIf (forBody 79 1) 0
noncomputable abbrev pB2 : List Stmt := inWh pB1 4
noncomputable abbrev tkV (t : Nat) : Str × CV := (Str.ofString "taken", .int t)
theorem cI_ci (l : List Nat) : cI (l.map Int.ofNat) = .list (ci l) := by rw [ci_map]
theorem piles_add (H : Law B) (N : NetC B) (F : NetF B) (ls ways : List Nat) (kind : Bool) (ps : List (List Nat)) (one tk : Nat) (hw : ways.length ≤ 1000) : ∀ (xs p q : List Nat) (l0 : List (Str × CV)), p.length + xs.length ≤ 1000 → q.length + xs.length ≤ 1000 → VSub ((Str.ofString "one", .int one) :: tkV tk :: plV ls ways kind) l0 →
    ∃ l1, ForJ B (n + 1) (ceAt 79) (inForT pB2 2) (inFor pB2 2) (ci xs) ⟨l0, plStore ps p q⟩ .nxt ⟨l1, plStore ps (xs.foldl (pAdd (nearK ways kind) one) (p, q)).1 (xs.foldl (pAdd (nearK ways kind) one) (p, q)).2⟩ ∧ VSub ((Str.ofString "one", .int one) :: tkV tk :: plV ls ways kind) l1
  | [], p, q, l0, _, _, hv => ⟨l0, .nil, hv⟩
  | x :: xs, p, q, l0, hp, hq, hv => by
    simp only [List.length_cons] at hp hq
    have e0 : asL (plStore ps p q) (.ref 3) = some ((p.map Int.ofNat).map CV.int) := by show some (ci p) = _; rw [ci_map]
    have V : VSub ((Str.ofString "one", .int one) :: tkV tk :: plV ls ways kind) ((Str.ofString "other", .int x) :: (Str.ofString "one", .int one) :: tkV tk :: plV ls ways kind) := .cons (by rfl) (.cons (by rfl) (.cons (by rfl) (.cons (by rfl) (.cons (by rfl) (.cons (by rfl) (.cons (by rfl) (.cons (by rfl) .nil)))))))
    have test : TsJ B (n + 1) (ceAt 79) (inIfT (inFor pB2 2) 0) ⟨(Str.ofString "other", .int x) :: (Str.ofString "one", .int one) :: tkV tk :: plV ls ways kind, plStore ps p q⟩ (decide (x ∉ p) && nearK ways kind one x) ⟨(Str.ofString "other", .int x) :: (Str.ofString "one", .int one) :: tkV tk :: plV ls ways kind, plStore ps p q⟩ := by
      conv in (inIfT (inFor pB2 2) 0) => whnf
      exact Ts_and2 (J.eqb (Ts_cmp (Ev_name (v := .int x) (by rfl)) (Ev_name (v := .ref 3) (by rfl)) (.notInI _ e0)) (by rw [mem_ci]; simp)) (fun _ => Ts_cmp (Ev_callF (Ev_name (by rfl)) H.near.fn (Es_cons (Ev_name (v := .int one) (by rfl)) (Es_cons (Ev_name (v := .int x) (by rfl)) (Es_cons (Ev_name (v := .list (ci ways)) (by rfl)) Es_nil)))
        (by rw [← cI_ci]; exact FnJ.ca (fn_near (n := n) H one x (ways.map Int.ofNat) (by walk_at "o") (by walk_at "o") (by simp; walk_at "o")) (by simp only [pures, CV.pure, cI, pures_ints, Bool.and_true]))) (Ev_name (v := .bool kind) (by rfl)) (.isB _ _))
    conv at test in (inIfT (inFor pB2 2) 0) => whnf
    by_cases hm : (decide (x ∉ p) && nearK ways kind one x) = true
    · have ea : pAdd (nearK ways kind) one (p, q) x = (p ++ [x], q ++ [x]) := by simp only [pAdd]; rw [if_pos hm]
      obtain ⟨l2, b1, b2⟩ := piles_add H N F ls ways kind ps one tk hw xs (p ++ [x]) (q ++ [x]) _ (by simp; walk_at "o") (by simp; walk_at "o") V
      refine ⟨l2, ?_, b2⟩
      rw [List.foldl_cons, ea]
      refine .step (S1 := plStore ps (p ++ [x]) (q ++ [x])) hv (by rfl) (by rfl) ?_ (.inl rfl) b1
      conv in (inFor pB2 2) => whnf
      have e1 : plStore ps (p ++ [x]) (q ++ [x]) = [.lst (cPs ps), .inst 115 (netAttrs 1 .none 2), .lst (ci q ++ [.int x]), .lst (ci p ++ [.int x])] := by simp [ci]
      rw [e1]
      rw [hm] at test
      exact Xs_cons (Ex_if (b := true) test
        (Xs_cons (Ex_expr (Ev_meth PySem.F.plainAttrs_list PySem.F.slot_list_append PySem.F.type_list_append (Ev_name (v := .ref 3) (by rfl)) (.list (by rfl)) (Es_cons (Ev_name (v := .int x) (by rfl)) Es_nil) (ca_append (vs := ci p) (by rfl) (by simp; walk_at "o"))))
        (Xs_cons (Ex_expr (Ev_methI N N.pt N.f112 F.pt.fn (Ev_name (v := .ref 1) (by rfl)) (by rfl) (by rfl) (Es_cons (Ev_name (v := .int x) (by rfl)) Es_nil) (ca_push (n := n) N F (k := 2) (vs := ci q) (by rfl) (by rfl) (by rfl) (by simp; walk_at "o")))) Xs_nil))) Xs_nil
    · have hm' : (decide (x ∉ p) && nearK ways kind one x) = false := by simpa using hm
      have ea : pAdd (nearK ways kind) one (p, q) x = (p, q) := by simp only [pAdd]; rw [if_neg hm]
      obtain ⟨l2, b1, b2⟩ := piles_add H N F ls ways kind ps one tk hw xs p q _ (by walk_at "o") (by walk_at "o") V
      refine ⟨l2, ?_, b2⟩
      rw [List.foldl_cons, ea]
      refine .step hv (by rfl) (by rfl) ?_ (.inl rfl) b1
      conv in (inFor pB2 2) => whnf
      rw [hm'] at test
      exact Xs_cons (Ex_if (b := false) test Xs_nil) Xs_nil
theorem pAdd_len (nk : Nat → Nat → Bool) (one : Nat) : ∀ (xs p q : List Nat), (xs.foldl (pAdd nk one) (p, q)).1.length ≤ p.length + xs.length ∧ (xs.foldl (pAdd nk one) (p, q)).2.length + p.length = q.length + (xs.foldl (pAdd nk one) (p, q)).1.length
  | [], p, q => by simp
  | x :: xs, p, q => by
    simp only [List.foldl_cons, List.length_cons]
    by_cases h : (decide (x ∉ p) && nk one x) = true
    · have e : pAdd nk one (p, q) x = (p ++ [x], q ++ [x]) := by simp only [pAdd]; rw [if_pos h]
      rw [e]
      obtain ⟨a, b⟩ := pAdd_len nk one xs (p ++ [x]) (q ++ [x])
      simp only [List.length_append, List.length_cons, List.length_nil] at a b
      walk_at "o"
    · have e : pAdd nk one (p, q) x = (p, q) := by simp only [pAdd]; rw [if_neg h]
      rw [e]
      obtain ⟨a, b⟩ := pAdd_len nk one xs p q
      walk_at "o"
end
end Mine

namespace Mine
section
variable {B : Base} {n : Nat} {ce : CEnv} {st st1 st2 st3 : LSt}

theorem piles_while (H : Law B) (N : NetC B) (F : NetF B) (ls ways : List Nat) (kind : Bool) (ps : List (List Nat)) (hw : ways.length ≤ 1000) (hls : ls.length ≤ 10) (res : List Nat) : ∀ (fuel : Nat) (p q : List Nat) (t : Nat) (l0 : List (Str × CV)), VSub (tkV t :: plV ls ways kind) l0 → t + q.length = p.length → pileRun (nearK ways kind) ls fuel (p, q) = some res → p.length + 10 * fuel ≤ 900 →
    ∃ l1, WhlJ B (n + 1) (ceAt 79) (inWhT pB1 4) pB2 ⟨l0, plStore ps p q⟩ .nxt ⟨l1, plStore ps res []⟩ ∧ VSub (plV ls ways kind) l1 := by
  intro fuel
  have test : ∀ (p q : List Nat) (t : Nat) (l0 : List (Str × CV)), VSub (tkV t :: plV ls ways kind) l0 → t + q.length = p.length → p.length ≤ 900 → TsJ B (n + 1) (ceAt 79) (inWhT pB1 4) ⟨l0, plStore ps p q⟩ (!q.isEmpty) ⟨l0, plStore ps p q⟩ := fun p q t l0 hv h1 h2 => by
    conv in (inWhT pB1 4) => whnf
    refine J.eqb (Ts_cmp (Ev_name (v := .int t) (hv.ok (by rfl))) (Ev_callB (Ev_name (by rfl)) (Es_cons (Ev_name (v := .ref 3) (hv.ok (by rfl))) Es_nil) (ca_len (vs := ci p) (by rfl) (by simp; walk_at "o"))) (.lt _ _)) ?_
    cases q with
    | nil => simp at h1 ⊢; walk_at "o"
    | cons x q => simp at h1 ⊢; walk_at "o"
  have wk : ∀ {t : Nat} {l0 : List (Str × CV)}, VSub (tkV t :: plV ls ways kind) l0 → VSub (plV ls ways kind) l0 := fun h => by cases h with | cons _ h => exact h
  induction fuel with
  | zero =>
    intro p q t l0 hv h1 hr h2
    cases q with
    | cons h q => (first|subst hr|obtain rfl:=sj hr|exact n1 hr|exact n2 hr|exact b1 hr|exact b2 hr|cases hr)
    | nil => (first|subst hr|obtain rfl:=sj hr|exact n1 hr|exact n2 hr|exact b1 hr|exact b2 hr|cases hr); exact ⟨l0, .stop (test _ [] t l0 hv h1 (by walk_at "o")), wk hv⟩
  | succ fuel ih =>
    intro p q t l0 hv h1 hr h2
    cases q with
    | nil => (first|subst hr|obtain rfl:=sj hr|exact n1 hr|exact n2 hr|exact b1 hr|exact b2 hr|cases hr); exact ⟨l0, .stop (test _ [] t l0 hv h1 (by walk_at "o")), wk hv⟩
    | cons one q =>
      simp only [List.length_cons] at h1
      obtain ⟨g1, g2⟩ := pAdd_len (nearK ways kind) one ls p q
      obtain ⟨l1, a1, a2⟩ := piles_add (B := B) (n := n) H N F ls ways kind ps one (t + 1) hw ls p q ((Str.ofString "taken", .int ((t + 1 : Nat) : Int)) :: (Str.ofString "one", .int one) :: tkV t :: plV ls ways kind) (by walk_at "o") (by walk_at "o") (.cons (by rfl) (.cons (by rfl) (.cons (by rfl) (.cons (by rfl) (.cons (by rfl) (.cons (by rfl) (.cons (by rfl) (.cons (by rfl) .nil))))))))
      obtain ⟨l2, b1, b2⟩ := ih (ls.foldl (pAdd (nearK ways kind) one) (p, q)).1 (ls.foldl (pAdd (nearK ways kind) one) (p, q)).2 (t + 1) l1 (by cases a2 with | cons _ h => exact h) (by walk_at "o") hr (by walk_at "o")
      refine ⟨l2, .turn (test p (one :: q) t l0 hv (by simp; walk_at "o") (by walk_at "o")) (J.pre (l0 := tkV t :: plV ls ways kind) ?_ hv) (.inl rfl) b1, b2⟩
      have e0 : plStore ps p (one :: q) = [.lst (cPs ps), .inst 115 (netAttrs 1 .none 2), .lst (.int one :: ci q), .lst (ci p)] := by simp [ci]
      rw [e0]
      conv at a1 in (inFor pB2 2) => whnf
      conv at a1 in (inForT pB2 2) => whnf
      conv in pB2 => whnf
      refine Xs_cons (Ex_assign (v := .int one) (Ev_methI N N.gt N.f105 F.gt.fn (Ev_name (v := .ref 1) (by rfl)) (by rfl) (by rfl) Es_nil (ca_getp (n := n) N F (k := 2) (vs := ci q) (by rfl) (by rfl) (by rfl) (by simp; walk_at "o"))) (As_name (by rfl))) ?_
      refine Xs_cons (Ex_aug (v := .int ((t + 1 : Nat) : Int)) (by rfl) Ev_int (.add _ _) (by rfl)) ?_
      exact Xs_cons (Ex_for (ItE.ok (Ev_name (v := .list (ci ls)) (by rfl)) (IterOk.list (pures_ci _))) (pures_ci _) a1) Xs_nil
theorem pures_cPs (ps : List (List Nat)) : pures (cPs ps) = true := pures_map (fun _ => by simp only [CV.pure]; exact pures_ci _) _
theorem Ev_compB' {elt t : Expr} {x : Str} {px pos : Pos} {ifs : List Expr} {gs : List Comprehension} {scope : Scope} {i : Nat} {out vs : List CV} (h1 : EvJ B n ce (.Name x px) st (.ref i) st) (e : st.store[i]? = some (.lst vs)) (hp : pures vs = true) (hoth : ∀ j co, j ≠ i → st.store[j]? = some co → co.has = false)
    (hc : CompOk ce ⟨st.vars, st.store.set i .dead⟩ scope) (hg : GensOk (⟨t, .Name x px, ifs, 0⟩ :: gs)) (L : ∃ l', LpJ B n (compCE ce ⟨st.vars, st.store.set i .dead⟩ scope) elt (⟨t, .Name x px, ifs, 0⟩ :: gs) vs ⟨[], st.store.set i .dead⟩ out ⟨l', st.store.set i .dead⟩) (hout : ∀ v ∈ out, scalC v = true) (hsz : out.length ≤ 16777216) :
    EvJ B n ce (.ListComp elt (⟨t, .Name x px, ifs, 0⟩ :: gs) scope pos) st (.list out) st := let ⟨_, L⟩ := L; Ev_compB h1 e hp hoth hc hg L hout hsz
/-- one letter of the outer loop -/
theorem piles_turn (H : Law B) (N : NetC B) (F : NetF B) (ls ways : List Nat) (kind : Bool) (ps : List (List Nat)) (x : Nat) (hw : ways.length ≤ 1000) (hls : ls.length ≤ 10) (hps : ps.length ≤ 10) (hpl : ps.flatten.length ≤ 100000) (ps' : List (List Nat))
    (hr : (if x ∈ ps.flatten then some ps else match pileRun (nearK ways kind) ls 50 ([x], [x]) with | none => none | some p => some (ps ++ [p])) = some ps') :
    ∃ l1, XsJ B (n + 2) (ceAt 79) (forBody 79 1) ⟨(Str.ofString "letter", .int x) :: plV0 ls ways kind, [.lst (cPs ps)]⟩ .nxt ⟨l1, [.lst (cPs ps')]⟩ ∧ VSub (plV0 ls ways kind) l1 := by
  have hflat : (ps.flatMap fun p => ci p) = ci ps.flatten := by
    clear hps hpl hr
    induction ps with
    | nil => rfl
    | cons p ps ih => rw [List.flatMap_cons, ih, List.flatten_cons]; simp [ci]
  have test : TsJ B (n + 2) (ceAt 79) (inIfT (forBody 79 1) 0) ⟨(Str.ofString "letter", .int x) :: plV0 ls ways kind, [.lst (cPs ps)]⟩ (!decide (x ∈ ps.flatten)) ⟨(Str.ofString "letter", .int x) :: plV0 ls ways kind, [.lst (cPs ps)]⟩ := by
    conv in (inIfT (forBody 79 1) 0) => whnf
    refine J.eqb (Ts_cmp (Ev_name (v := .int x) (by rfl)) (Ev_compB' (i := 0) (vs := cPs ps) (out := ps.flatMap fun p => ci p) (Ev_name (v := .ref 0) (by rfl)) (by rfl) (pures_cPs ps) (fun j co hj e => by
        cases j with
        | zero => exact absurd rfl hj
        | succ j => simp at e) (.mk' (by decide +kernel) (by rfl)) .two
      (LpJ.all2 (fun p : List Nat => CV.list (ci p)) (fun p => ci p) (fun p => ci p) ps [] (fun p hp => by
        obtain ⟨l2, L2, _⟩ := LpJ.all (B := B) (n := n + 2) (ce := compCE (ceAt 79) ⟨(Str.ofString "letter", .int x) :: plV0 ls ways kind, [.dead]⟩ ⟨.function, [(Str.ofString ".0", NameKind.local), (Str.ofString "pile", NameKind.local), (Str.ofString "other", NameKind.local)], false, false, []⟩) (t := .Name (Str.ofString "other") ⟨293, 54, 293, 59⟩) (iter := .Name (Str.ofString "pile") ⟨293, 63, 293, 67⟩) (ifs := []) (elt := .Name (Str.ofString "other") ⟨293, 26, 293, 31⟩) (l0 := []) (S := [.dead]) (fun i : Nat => CV.int i) (fun i => some (.int i)) p [(Str.ofString "pile", .list (ci p))] (fun i hi => .all (As_name (by rfl)) (Ev_name (by rfl)) rfl .nil rfl) .nil
        rw [filterMap_all] at L2
        exact ⟨_, _, _, l2, As_name (by rfl), Ifs_nil, ItE.ok (Ev_name (v := .list (ci p)) (by rfl)) (IterOk.list (pures_ci p)), pures_ci p, L2⟩)) ?_ ?_) (.notInI (ns := ps.flatten.map Int.ofNat) _ ?_)) ?_
    · rw [hflat]
      intro v hv
      obtain ⟨k, _, rfl⟩ := List.mem_map.mp hv
      rfl
    · rw [hflat]; simp only [ci, List.length_map]; walk_at "o"
    · rw [hflat]; show some (ci ps.flatten) = _; rw [ci_map]
    · rw [mem_ci]
  by_cases hm : x ∈ ps.flatten
  · rw [if_pos hm] at hr
    (first|subst hr|obtain rfl:=sj hr|exact n1 hr|exact n2 hr|exact b1 hr|exact b2 hr|cases hr)
    refine ⟨(Str.ofString "letter", .int x) :: plV0 ls ways kind, ?_, .cons (by rfl) (.cons (by rfl) (.cons (by rfl) (.cons (by rfl) .nil)))⟩
    rw [decide_eq_true hm] at test
    conv at test in (inIfT (forBody 79 1) 0) => whnf
    conv in (forBody 79 1) => whnf
    exact Xs_cons (Ex_if (b := false) test Xs_nil) Xs_nil
  · rw [if_neg hm] at hr
    rw [decide_eq_false hm] at test
    cases hp : pileRun (nearK ways kind) ls 50 ([x], [x]) with
    | none => rw [hp] at hr; (first|subst hr|obtain rfl:=sj hr|exact n1 hr|exact n2 hr|exact b1 hr|exact b2 hr|cases hr)
    | some res =>
      rw [hp] at hr
      (first|subst hr|obtain rfl:=sj hr|exact n1 hr|exact n2 hr|exact b1 hr|exact b2 hr|cases hr)
      obtain ⟨l1, W, hv⟩ := piles_while (B := B) (n := n + 1) H N F ls ways kind ps hw hls res 50 [x] [x] 0 ((Str.ofString "taken", .int (0 : Nat)) :: (Str.ofString "pile", .ref 3) :: (Str.ofString "lexer", .ref 1) :: (Str.ofString "letter", .int x) :: plV0 ls ways kind) (.cons (by rfl) (.cons (by rfl) (.cons (by rfl) (.cons (by rfl) (.cons (by rfl) (.cons (by rfl) (.cons (by rfl) .nil))))))) rfl hp (by simp)
      conv at W in pB2 => whnf
      conv at W in (inWhT pB1 4) => whnf
      have blk : XsJ B (n + 2) (ceAt 79) pB1 ⟨(Str.ofString "letter", .int x) :: plV0 ls ways kind, [.lst (cPs ps)]⟩ .nxt ⟨plV0 ls ways kind, [.lst (cPs (ps ++ [res]))]⟩ := by
        have e1 : [CO.lst (cPs (ps ++ [res]))] ++ [.inst 115 (netAttrs 1 .none 2), .lst (ci []), .dead] = [.lst (cPs ps ++ [.list (ci res)]), .inst 115 (netAttrs 1 .none 2), .lst (ci []), .dead] := by simp
        refine Xs_trunc (l1 := setV (Str.ofString "pile") (.list (ci res)) l1) (S1 := [.lst (cPs (ps ++ [res]))]) (D := [.inst 115 (netAttrs 1 .none 2), .lst (ci []), .dead]) ?_ rfl ?_ ?_ ?_ rfl
        · rw [e1]
          conv in pB1 => whnf
          refine Xs_cons (Ex_assign (Ev_new (n := n) N F (Ev_name (by rfl)) Ev_none) (As_name (by rfl))) ?_
          refine Xs_cons (Ex_expr (Ev_methI N N.pt N.f112 F.pt.fn (Ev_name (v := .ref 1) (by rfl)) (by rfl) (by rfl) (Es_cons (Ev_name (v := .int x) (by rfl)) Es_nil) (ca_push (n := n + 1) N F (k := 2) (vs := []) (by rfl) (by rfl) (by rfl) (by simp)))) ?_
          refine Xs_cons (Ex_assign (Ev_listM (Es_cons (Ev_name (v := .int x) (by rfl)) Es_nil) (by simp)) (As_name (by rfl))) ?_
          refine Xs_cons (Ex_assign (v := .int (0 : Nat)) Ev_int (As_name (by rfl))) ?_
          refine Xs_cons (Ex_while W) ?_
          refine Xs_freeze (Str.ofString "pile") (i := 3) (vs := ci res) (hv.ok (by rfl)) (by rfl) ?_ (by rfl)
          exact Xs_cons (Ex_expr (Ev_meth PySem.F.plainAttrs_list PySem.F.slot_list_append PySem.F.type_list_append (Ev_name (v := .ref 0) (show (setV (Str.ofString "pile") (CV.list (ci res)) l1).lookup (Str.ofString "piles") = some (.ref 0) from (setV_ne (v := .list (ci res)) (by decide) l1).trans (hv.ok (by rfl)))) (.list (by rfl)) (Es_cons (Ev_name (v := .list (ci res)) (by rfl)) Es_nil) (ca_append (vs := cPs ps) (by rfl) (by simp; walk_at "o")))) Xs_nil
        · have lk : ∀ {y : Str} {c : CV}, y ≠ Str.ofString "pile" → (plV ls ways kind).lookup y = some c → (setV (Str.ofString "pile") (.list (ci res)) l1).lookup y = some c := fun {y c} hy h => by
            rw [setV_ne _ hy]; exact hv.ok h
          exact .cons (lk (by decide) (by rfl)) (.cons (lk (by decide) (by rfl)) (.cons (lk (by decide) (by rfl)) (.cons (lk (by decide) (by rfl)) .nil)))
        · simp [plV0, okC, CV.pure, pures_ci]
        · simp only [List.all_cons, List.all_nil, Bool.and_true, okCO]; exact pures_cPs _
      refine ⟨plV0 ls ways kind, ?_, .cons (by rfl) (.cons (by rfl) (.cons (by rfl) (.cons (by rfl) .nil)))⟩
      conv at test in (inIfT (forBody 79 1) 0) => whnf
      conv at blk in pB1 => whnf
      conv in (forBody 79 1) => whnf
      exact Xs_cons (Ex_if (b := true) test blk) Xs_nil
end
end Mine

namespace Mine
section
variable {B : Base} {n : Nat} {ce : CEnv} {st st1 st2 st3 : LSt}
theorem pileRun_len (nk : Nat → Nat → Bool) (ls : List Nat) : ∀ (f : Nat) (p q res : List Nat), pileRun nk ls f (p, q) = some res → res.length ≤ p.length + f * ls.length := by
  intro f
  induction f with
  | zero =>
    intro p q res h
    cases q with
    | nil => (first|subst h|obtain rfl:=sj h|exact n1 h|exact n2 h|exact b1 h|exact b2 h|cases h); walk_at "o"
    | cons x q => (first|subst h|obtain rfl:=sj h|exact n1 h|exact n2 h|exact b1 h|exact b2 h|cases h)
  | succ f ih =>
    intro p q res h
    cases q with
    | nil => (first|subst h|obtain rfl:=sj h|exact n1 h|exact n2 h|exact b1 h|exact b2 h|cases h); walk_at "o"
    | cons x q =>
      have h1 := ih _ _ _ h
      obtain ⟨g1, g2⟩ := pAdd_len nk x ls p q
      rw [Nat.add_mul]; walk_at "o"
theorem piles_loop (H : Law B) (N : NetC B) (F : NetF B) (ls ways : List Nat) (kind : Bool) (hw : ways.length ≤ 1000) (hls : ls.length ≤ 10) (res : List (List Nat)) : ∀ (xs : List Nat) (ps : List (List Nat)) (l0 : List (Str × CV)), VSub (plV0 ls ways kind) l0 → ps.length + xs.length ≤ 10 → ps.flatten.length ≤ 1000 * ps.length → pilesGo (nearK ways kind) ls xs ps = some res →
    ∃ l1, ForJ B (n + 2) (ceAt 79) (forVar 79 1) (forBody 79 1) (ci xs) ⟨l0, [.lst (cPs ps)]⟩ .nxt ⟨l1, [.lst (cPs res)]⟩ ∧ VSub (plV0 ls ways kind) l1
  | [], ps, l0, hv, _, _, h => by (first|subst h|obtain rfl:=sj h|exact n1 h|exact n2 h|exact b1 h|exact b2 h|cases h); exact ⟨l0, .nil, hv⟩
  | x :: xs, ps, l0, hv, h1, h2, h => by
    simp only [List.length_cons] at h1
    unfold pilesGo at h
    by_cases hm : x ∈ ps.flatten
    · rw [if_pos hm] at h
      obtain ⟨l1, a1, a2⟩ := piles_turn (B := B) (n := n) H N F ls ways kind ps x hw hls (by walk_at "o") (by walk_at "o") ps (by rw [if_pos hm])
      obtain ⟨l2, b1, b2⟩ := piles_loop H N F ls ways kind hw hls res xs ps l1 a2 (by walk_at "o") h2 h
      exact ⟨l2, .step hv (by rfl) (by rfl) a1 (.inl rfl) b1, b2⟩
    · rw [if_neg hm] at h
      cases hp : pileRun (nearK ways kind) ls 50 ([x], [x]) with
      | none => rw [hp] at h; (first|subst h|obtain rfl:=sj h|exact n1 h|exact n2 h|exact b1 h|exact b2 h|cases h)
      | some p =>
        rw [hp] at h
        have hlen := pileRun_len _ _ _ _ _ _ hp
        obtain ⟨l1, a1, a2⟩ := piles_turn (B := B) (n := n) H N F ls ways kind ps x hw hls (by walk_at "o") (by walk_at "o") (ps ++ [p]) (by rw [if_neg hm, hp])
        obtain ⟨l2, b1, b2⟩ := piles_loop H N F ls ways kind hw hls res xs (ps ++ [p]) l1 a2 (by simp; walk_at "o") (by
          simp only [List.flatten_append, List.flatten_cons, List.flatten_nil, List.append_nil, List.length_append, List.length_cons, List.length_nil] at hlen ⊢
          have : 50 * ls.length ≤ 500 := by walk_at "o"
          walk_at "o") h
        exact ⟨l2, .step hv (by rfl) (by rfl) a1 (.inl rfl) b1, b2⟩
theorem fn_piles (H : Law B) (N : NetC B) (F : NetF B) (ls ways : List Nat) (kind : Bool) (hw : ways.length ≤ 1000) (hls : ls.length ≤ 10) (res : List (List Nat)) (hr : pilesGo (nearK ways kind) ls ls [] = some res) : FnJ B (n + 3) (.ref 197) [.list (ci ls), .list (ci ways), .bool kind] (.list (cPs res)) := by
  obtain ⟨l1, lp, lv⟩ := piles_loop (B := B) (n := n) H N F ls ways kind hw hls res ls [] [(Str.ofString "piles", .ref 0), (Str.ofString "letters", .list (ci ls)), (Str.ofString "ways", .list (ci ways)), (Str.ofString "kind", .bool kind)] (.cons (by rfl) (.cons (by rfl) (.cons (by rfl) (.cons (by rfl) .nil)))) (by simp; walk_at "o") (by simp) hr
  conv at lp in (forBody 79 1) => whnf
  conv at lp in (forVar 79 1) => whnf
  refine FnJ.of H.piles (.mk' (by decide +kernel)) (by rfl) rfl ?_ (pures_cPs _)
  conv in (bodyAt 79) => whnf
  refine .cons (Ex_assign (Ev_listM Es_nil (by decide)) (As_name (by rfl))) ?_
  refine .cons (Ex_for (ItE.ok (Ev_name (v := .list (ci ls)) (by rfl)) (IterOk.list (pures_ci _))) (pures_ci _) lp) ?_
  refine .freeze (Str.ofString "piles") (i := 0) (vs := cPs res) (lv.ok (by rfl)) (by rfl) ?_ (by rfl)
  exact .ret (Ev_name (v := .list (cPs res)) (by rfl))
end
end Mine

namespace Mine
section
variable {B : Base} {n : Nat} {ce : CEnv} {st st1 st2 st3 : LSt}
noncomputable def glue (sg : Nat) (acc part : List Nat) : List Nat := [40] ++ acc ++ [sg] ++ part ++ [41]
noncomputable def joinT (sg : Nat) (parts : List (List Nat)) : List Nat := if [] ∈ parts then [] else match parts with
  | [] => []
  | a :: r => r.foldl (glue sg) a
noncomputable def mapO {α β : Type} (g : α → Option β) : List α → Option (List β)
  | [] => some []
  | a :: as => match g a, mapO g as with
    | some b, some bs => some (b :: bs)
    | _, _ => none
noncomputable def textOf (ways : List Nat) : Nat → List Nat → Option (List Nat)
  | 0, _ => none
  | f + 1, ls => if 10 < ls.length then none else if ls.length = 1 then (if ls.getD 0 0 < 4 then some [97 + ls.getD 0 0] else none) else
    match pilesGo (nearK ways true) ls ls [] with
    | none => none
    | some ps => if 1 < ps.length then
        (match mapO (textOf ways f) ps with
        | none => none
        | some parts => if parts.all (fun p => decide (p.length ≤ 100)) && decide (parts.length ≤ 10) then some (joinT 124 parts) else none)
      else match pilesGo (nearK ways false) ls ls [] with
        | none => none
        | some ps => if 1 < ps.length then
            (match mapO (textOf ways f) ps with
            | none => none
            | some parts => if parts.all (fun p => decide (p.length ≤ 100)) && decide (parts.length ≤ 10) then some (joinT 38 parts) else none)
          else some []
noncomputable abbrev txV (ls ways : List Nat) : List (Str × CV) := [(Str.ofString "letters", .list (ci ls)), (Str.ofString "ways", .list (ci ways))]
noncomputable abbrev tB1 : List Stmt := inIf (forBody 80 1) 1
noncomputable abbrev cTx (ps : List (List Nat)) : List CV := ps.map fun p => .str (mkS p)
theorem pures_cTx (ps : List (List Nat)) : pures (cTx ps) = true := pures_map (fun _ => rfl) _
noncomputable abbrev tgV (sg : Nat) (all acc : List Nat × List (List Nat)) : List (Str × CV) := []
/-- the parts are put together -/
theorem text_glue (sg : Nat) (all : List (List Nat)) : ∀ (r : List (List Nat)) (acc : List Nat) (l0 : List (Str × CV)), VSub [(Str.ofString "text", .str (mkS acc)), (Str.ofString "sign", .str (mkS [sg])), (Str.ofString "parts", .list (cTx all))] l0 → acc.length + 110 * r.length ≤ 10000 → (∀ p ∈ r, p.length ≤ 100) →
    ∃ l1, ForJ B n (ceAt 80) (inForT tB1 2) (inFor tB1 2) (cTx r) ⟨l0, []⟩ .nxt ⟨l1, []⟩ ∧ VSub [(Str.ofString "text", .str (mkS (r.foldl (glue sg) acc))), (Str.ofString "sign", .str (mkS [sg])), (Str.ofString "parts", .list (cTx all))] l1
  | [], acc, l0, hv, _, _ => ⟨l0, .nil, hv⟩
  | p :: r, acc, l0, hv, hl, hr => by
    have hp := hr p (.head _)
    simp only [List.length_cons] at hl
    have hg : (glue sg acc p).length = acc.length + p.length + 3 := by simp [glue]; walk_at "o"
    obtain ⟨l2, b1, b2⟩ := text_glue sg all r (glue sg acc p) ((Str.ofString "text", .str (mkS (glue sg acc p))) :: (Str.ofString "part", .str (mkS p)) :: [(Str.ofString "text", .str (mkS acc)), (Str.ofString "sign", .str (mkS [sg])), (Str.ofString "parts", .list (cTx all))]) (.cons (by rfl) (.cons (by rfl) (.cons (by rfl) .nil))) (by walk_at "o") (fun q hq => hr q (.tail _ hq))
    refine ⟨l2, .step hv (by rfl) (by rfl) ?_ (.inl rfl) b1, b2⟩
    conv in (inFor tB1 2) => whnf
    have e1 : mkS (glue sg acc p) = Str.ofString "(" ++ mkS acc ++ mkS [sg] ++ mkS p ++ Str.ofString ")" := by
      show _ = mkS [40] ++ mkS acc ++ mkS [sg] ++ mkS p ++ mkS [41]
      rw [mkS_app, mkS_app, mkS_app, mkS_app]; rfl
    rw [e1]
    have g0 : (Str.ofString "(").length = 1 := rfl
    have g1 : (Str.ofString "(" ++ mkS acc).length = 1 + acc.length := by show (mkS [40] ++ mkS acc).length = _; rw [mkS_app, mkS_len]; simp; walk_at "o"
    have g2 : (Str.ofString "(" ++ mkS acc ++ mkS [sg]).length = 2 + acc.length := by show (mkS [40] ++ mkS acc ++ mkS [sg]).length = _; rw [mkS_app, mkS_app, mkS_len]; simp; walk_at "o"
    have g3 : (Str.ofString "(" ++ mkS acc ++ mkS [sg] ++ mkS p).length = 2 + acc.length + p.length := by show (mkS [40] ++ mkS acc ++ mkS [sg] ++ mkS p).length = _; rw [mkS_app, mkS_app, mkS_app, mkS_len]; simp; walk_at "o"
    refine Xs_cons (Ex_assign (Ev_bo (Ev_bo (Ev_bo (Ev_bo Ev_str (Ev_name (v := .str (mkS acc)) (by rfl)) (.seq (.addS _ _ ?_))) (Ev_name (v := .str (mkS [sg])) (by rfl)) (.seq (.addS _ _ ?_))) (Ev_name (v := .str (mkS p)) (by rfl)) (.seq (.addS _ _ ?_))) Ev_str (.seq (.addS _ _ ?_))) (As_name (by rfl))) Xs_nil
    · rw [g0, mkS_len]; walk_at "o"
    · rw [g1, mkS_len]; simp; walk_at "o"
    · rw [g2, mkS_len]; walk_at "o"
    · rw [g3]; show _ + 1 ≤ _; walk_at "o"
theorem any_nil (parts : List (List Nat)) : (parts.map mkS).any (· == Str.ofString "") = decide ([] ∈ parts) := by
  rw [Bool.eq_iff_iff]
  simp only [List.any_eq_true, List.mem_map, decide_eq_true_eq]
  constructor
  · rintro ⟨_, ⟨p, hp, rfl⟩, e⟩
    have : mkS p = mkS [] := by exact eq_of_beq e
    rw [mkS_inj] at this
    exact this ▸ hp
  · intro h
    exact ⟨_, ⟨[], h, rfl⟩, by rfl⟩
/-- the inside of the test: it gives the text -/
theorem text_turn (H : Law B) (ways : List Nat) (f : Nat) (ls : List Nat) (ps : List (List Nat)) (sg : Nat) (kind : Bool) (hps : ps.length ≤ 10) (g : List Nat → List Nat) (hg : ∀ p ∈ ps, FnJ B n (.ref 202) [.list (ci p), .list (ci ways)] (.str (mkS (g p)))) (hlen : ∀ p ∈ ps, (g p).length ≤ 100) (hne : 1 < ps.length) :
    XsE B n (ceAt 80) tB1 ⟨(Str.ofString "piles", .list (cPs ps)) :: (Str.ofString "kind", .bool kind) :: (Str.ofString "sign", .str (mkS [sg])) :: txV ls ways, []⟩ (.ret (.str (mkS (joinT sg (ps.map g))))) := by
  obtain ⟨p0, pr, rfl⟩ : ∃ p0 pr, ps = p0 :: pr := by cases ps with | nil => simp at hne | cons a b => exact ⟨a, b, rfl⟩
  obtain ⟨l1, lp, lv⟩ := text_glue (B := B) (n := n) sg ((p0 :: pr).map g) (pr.map g) (g p0) ((Str.ofString "text", .str (mkS (g p0))) :: (Str.ofString "parts", .list (cTx ((p0 :: pr).map g))) :: (Str.ofString "piles", .list (cPs (p0 :: pr))) :: (Str.ofString "kind", .bool kind) :: (Str.ofString "sign", .str (mkS [sg])) :: txV ls ways) (.cons (by rfl) (.cons (by rfl) (.cons (by rfl) .nil))) (by
    have := hlen p0 (.head _)
    simp only [List.length_cons, List.length_map] at *; walk_at "o") (by
    intro p hp
    obtain ⟨q, hq, rfl⟩ := List.mem_map.mp hp
    exact hlen q (.tail _ hq))
  conv at lp in (inFor tB1 2) => whnf
  conv at lp in (inForT tB1 2) => whnf
  conv in tB1 => whnf
  have e1 : (p0 :: pr).filterMap (fun p => some (CV.str (mkS (g p)))) = cTx ((p0 :: pr).map g) := by rw [filterMap_all]; simp [cTx]
  refine .cons (Ex_compAll (val := fun p => .list (ci p)) (as := p0 :: pr) (out := fun p => some (.str (mkS (g p)))) (ItE.ok (Ev_name (v := .list (cPs (p0 :: pr))) (by rfl)) (IterOk.list (pures_cPs _))) (pures_cPs _) (.mk' (by decide +kernel) (by rfl)) (fun p hp => .all (As_name (by rfl)) (Ev_callF (Ev_name (by rfl)) H.text.fn (Es_cons (Ev_name (v := .list (ci p)) (by rfl)) (Es_cons (Ev_name (v := .list (ci ways)) (by rfl)) Es_nil)) (FnJ.ca (hg p hp) (by simp [pures, CV.pure, pures_ci]))) rfl .nil rfl) (by walk_at "o") (by rfl) (by rfl)) ?_
  rw [e1]
  refine .cons (Ex_assign (v := .str (mkS (g p0))) (Ev_item (Ev_name (v := .list (cTx ((p0 :: pr).map g))) (by rfl)) Ev_int (.list (by rfl) (by decide) (by decide) (by rfl))) (As_name (by rfl))) ?_
  have e2 : CV.list (pickV (cTx ((p0 :: pr).map g)) (some ((1 : Nat) : Int)) none none) = .list (cTx (pr.map g)) := by rw [pickV_from]; rfl
  refine .cons (Ex_for (ItE.ok (J.eqv (Ev_slice (Ev_name (v := .list (cTx ((p0 :: pr).map g))) (by rfl)) (Pt_some Ev_int) Pt_none (.list (by rfl) (by simp at hps ⊢; walk_at "o"))) e2) (IterOk.list (pures_cTx _))) (pures_cTx _) lp) ?_
  refine .retq (Ev_if2 (Ts_cmp Ev_str (Ev_name (v := .list (cTx ((p0 :: pr).map g))) (lv.ok (by rfl))) (.inSs (xs := ((p0 :: pr).map g).map mkS) _ (by show some _ = some _; simp [cTx]))) (fun _ => Ev_str) (fun _ => Ev_name (v := .str (mkS ((pr.map g).foldl (glue sg) (g p0)))) (lv.ok (by rfl)))) ?_
  rw [any_nil]
  unfold joinT
  by_cases h : [] ∈ (p0 :: pr).map g
  · rw [if_pos h, decide_eq_true h]; rfl
  · rw [if_neg h, decide_eq_false h]; rfl
end
end Mine

namespace Mine
section
variable {B : Base} {n : Nat} {ce : CEnv} {st st1 st2 st3 : LSt}
theorem mapO_map {α β : Type} {g : α → Option β} {d : β} : ∀ {as : List α} {bs : List β}, mapO g as = some bs → bs = as.map (fun a => (g a).getD d) ∧ ∀ a ∈ as, g a = some ((g a).getD d)
  | [], bs, h => by (first|subst h|obtain rfl:=sj h|exact n1 h|exact n2 h|exact b1 h|exact b2 h|cases h); simp
  | a :: as, bs, h => by
    unfold mapO at h
    cases h1 : g a with
    | none => rw [h1] at h; (first|subst h|obtain rfl:=sj h|exact n1 h|exact n2 h|exact b1 h|exact b2 h|cases h)
    | some b =>
      cases h2 : mapO g as with
      | none => rw [h1, h2] at h; (first|subst h|obtain rfl:=sj h|exact n1 h|exact n2 h|exact b1 h|exact b2 h|cases h)
      | some bs' =>
        rw [h1, h2] at h
        (first|subst h|obtain rfl:=sj h|exact n1 h|exact n2 h|exact b1 h|exact b2 h|cases h)
        obtain ⟨a1, a2⟩ := mapO_map (d := d) h2
        refine ⟨by simp [h1, a1], fun x hx => ?_⟩
        rcases List.mem_cons.mp hx with rfl | hx
        · rw [h1]; rfl
        · exact a2 x hx
noncomputable abbrev fb80 : List Stmt := forBody 80 1
noncomputable abbrev forIt (k i : Nat) : Expr := (spOf (bodyAt k)[i]?).e1
theorem text_stop (H : Law B) (N : NetC B) (F : NetF B) (ways : List Nat) (f : Nat) (ls : List Nat) (ps : List (List Nat)) (sg : Nat) (kind : Bool) (hw : ways.length ≤ 1000) (hls : ls.length ≤ 10) (hpg : pilesGo (nearK ways kind) ls ls [] = some ps) (hps : ps.length ≤ 10) (g : List Nat → List Nat) (hg : ∀ p ∈ ps, FnJ B (n + 3) (.ref 202) [.list (ci p), .list (ci ways)] (.str (mkS (g p)))) (hlen : ∀ p ∈ ps, (g p).length ≤ 100) (hne : 1 < ps.length) :
    ∃ l1 S1, XsJ B (n + 3) (ceAt 80) fb80 ⟨(Str.ofString "kind", .bool kind) :: (Str.ofString "sign", .str (mkS [sg])) :: txV ls ways, []⟩ (.ret (.str (mkS (joinT sg (ps.map g))))) ⟨l1, S1⟩ := by
  have h0 := text_turn (n := n + 3) H ways f ls ps sg kind hps g hg hlen hne
  conv at h0 in tB1 => whnf
  conv in fb80 => whnf
  have h1 : XsE B (n + 3) (ceAt 80) fb80 ⟨(Str.ofString "kind", .bool kind) :: (Str.ofString "sign", .str (mkS [sg])) :: txV ls ways, []⟩ (.ret (.str (mkS (joinT sg (ps.map g))))) := by
    conv in fb80 => whnf
    refine .cons (Ex_assign (v := .list (cPs ps)) (Ev_callF (Ev_name (by rfl)) H.piles.fn (Es_cons (Ev_name (v := .list (ci ls)) (by rfl)) (Es_cons (Ev_name (v := .list (ci ways)) (by rfl)) (Es_cons (Ev_name (v := .bool kind) (by rfl)) Es_nil))) (FnJ.ca (fn_piles (n := n) H N F ls ways kind hw hls ps hpg) (by simp [pures, CV.pure, pures_ci]))) (As_name (by rfl))) ?_
    exact .if_stop (J.eqb (Ts_cmp (Ev_callB (Ev_name (by rfl)) (Es_cons (Ev_name (v := .list (cPs ps)) (by rfl)) Es_nil) (ca_len (by rfl) (by simp; walk_at "o"))) Ev_int (.gt _ _)) (by simp; walk_at "o")) h0
  obtain ⟨⟨l1, S1⟩, h⟩ := h1
  exact ⟨l1, S1, h⟩
theorem text_go (H : Law B) (N : NetC B) (F : NetF B) (ways : List Nat) (ls : List Nat) (ps : List (List Nat)) (sg : Nat) (kind : Bool) (hw : ways.length ≤ 1000) (hls : ls.length ≤ 10) (hpg : pilesGo (nearK ways kind) ls ls [] = some ps) (hne : ¬ 1 < ps.length) :
    XsJ B (n + 3) (ceAt 80) fb80 ⟨(Str.ofString "kind", .bool kind) :: (Str.ofString "sign", .str (mkS [sg])) :: txV ls ways, []⟩ .nxt ⟨(Str.ofString "piles", .list (cPs ps)) :: (Str.ofString "kind", .bool kind) :: (Str.ofString "sign", .str (mkS [sg])) :: txV ls ways, []⟩ := by
  conv in fb80 => whnf
  refine Xs_cons (Ex_assign (v := .list (cPs ps)) (Ev_callF (Ev_name (by rfl)) H.piles.fn (Es_cons (Ev_name (v := .list (ci ls)) (by rfl)) (Es_cons (Ev_name (v := .list (ci ways)) (by rfl)) (Es_cons (Ev_name (v := .bool kind) (by rfl)) Es_nil))) (FnJ.ca (fn_piles (n := n) H N F ls ways kind hw hls ps hpg) (by simp [pures, CV.pure, pures_ci]))) (As_name (by rfl))) ?_
  exact Xs_cons (Ex_if (b := false) (J.eqb (Ts_cmp (Ev_callB (Ev_name (by rfl)) (Es_cons (Ev_name (v := .list (cPs ps)) (by rfl)) Es_nil) (ca_len (by rfl) (by simp; walk_at "o"))) Ev_int (.gt _ _)) (by simp; walk_at "o")) Xs_nil) Xs_nil
set_option maxHeartbeats 1000000 in
theorem fn_text (H : Law B) (N : NetC B) (F : NetF B) (ways : List Nat) (hw : ways.length ≤ 1000) : ∀ (f n : Nat) (ls res : List Nat), textOf ways f ls = some res → FnJ B (n + f + 3) (.ref 202) [.list (ci ls), .list (ci ways)] (.str (mkS res))
  | 0, n, ls, res, h => by (first|subst h|obtain rfl:=sj h|exact n1 h|exact n2 h|exact b1 h|exact b2 h|cases h)
  | f + 1, n, ls, res, h => by
    unfold textOf at h
    split at h
    · (first|subst h|obtain rfl:=sj h|exact n1 h|exact n2 h|exact b1 h|exact b2 h|cases h)
    rename_i h10
    refine FnJ.mono (n := n + f + 1 + 3) ?_ (by walk_at "o")
    refine FnJ.of H.text (.mk' (by decide +kernel)) (by rfl) rfl ?_ (by rfl)
    have fin : ∀ (sg : Nat) (kind : Bool) (ps : List (List Nat)) (parts : List (List Nat)), pilesGo (nearK ways kind) ls ls [] = some ps → 1 < ps.length → mapO (textOf ways f) ps = some parts → (parts.all (fun p => decide (p.length ≤ 100)) && decide (parts.length ≤ 10)) = true → ∃ l1 S1, XsJ B (n + f + 3) (ceAt 80) fb80 ⟨(Str.ofString "kind", .bool kind) :: (Str.ofString "sign", .str (mkS [sg])) :: txV ls ways, []⟩ (.ret (.str (mkS (joinT sg parts)))) ⟨l1, S1⟩ := by
      intro sg kind ps parts a1 a2 a3 a4
      obtain ⟨b1, b2⟩ := mapO_map (d := []) a3
      rw [Bool.and_eq_true, decide_eq_true_eq, List.all_eq_true] at a4
      rw [b1]
      have hl : ps.length ≤ 10 := by have := a4.2; rw [b1, List.length_map] at this; exact this
      exact text_stop (n := n + f) H N F ways f ls ps sg kind hw (by walk_at "o") a1 hl (fun p => (textOf ways f p).getD []) (fun p hp => fn_text H N F ways hw f n p _ (b2 p hp)) (fun p hp => by
        have := a4.1 ((textOf ways f p).getD []) (by rw [b1]; exact List.mem_map.mpr ⟨p, hp, rfl⟩)
        simpa using this) a2
    conv at fin in fb80 => whnf
    conv in (bodyAt 80) => whnf
    split at h
    · rename_i h1
      split at h
      · rename_i h4
        (first|subst h|obtain rfl:=sj h|exact n1 h|exact n2 h|exact b1 h|exact b2 h|cases h)
        obtain ⟨x, rfl⟩ : ∃ x, ls = [x] := by
          match ls, h1 with
          | [x], _ => exact ⟨x, rfl⟩
        refine .if_stop (J.eqb (Ts_cmp (Ev_callB (Ev_name (by rfl)) (Es_cons (Ev_name (v := .list (ci [x])) (by rfl)) Es_nil) (ca_len (by rfl) (by simp))) Ev_int (.eqI _ _)) (by simp)) ?_
        have h4 : x < 4 := h4
        refine .retq (Ev_item Ev_str (Ev_item (Ev_name (v := .list (ci [x])) (by rfl)) Ev_int (.list (r := .int x) (by rfl) (by decide) (by decide) (by rfl))) (.str _ _ (by show -((4 : Nat) : Int) ≤ _; walk_at "o") (by show _ < ((4 : Nat) : Int); walk_at "o") (by decide))) ?_
        have : Txt.item (mkS [97, 98, 99, 100]) (x : Int) = mkS [97 + x] := item_mkS _ _ _ (four (M := fun x => _ = some (97 + x)) (by walk_at "o") rfl rfl rfl rfl)
        exact congrArg CV.str this
      · (first|subst h|obtain rfl:=sj h|exact n1 h|exact n2 h|exact b1 h|exact b2 h|cases h)
    · rename_i h1
      refine .else_go (J.eqb (Ts_cmp (Ev_callB (Ev_name (by rfl)) (Es_cons (Ev_name (v := .list (ci ls)) (by rfl)) Es_nil) (ca_len (by rfl) (by simp; walk_at "o"))) Ev_int (.eqI _ _)) (by simp; walk_at "o")) ?_
      have iter : ItE B (n + f + 3) (ceAt 80) (forIt 80 1) ⟨txV ls ways, []⟩ [.tup [.str (mkS [124]), .bool true], .tup [.str (mkS [38]), .bool false]] ⟨txV ls ways, []⟩ := by
        conv in (forIt 80 1) => whnf
        exact ItE.ok (Ev_list (Es_cons (Ev_tuple (Es_cons Ev_str (Es_cons Ev_bool Es_nil)) (by simp)) (Es_cons (Ev_tuple (Es_cons Ev_str (Es_cons Ev_bool Es_nil)) (by simp)) Es_nil)) (by simp)) (IterOk.list (by rfl))
      conv at iter in (forIt 80 1) => whnf
      split at h
      · (first|subst h|obtain rfl:=sj h|exact n1 h|exact n2 h|exact b1 h|exact b2 h|cases h)
      rename_i ps hps
      split at h
      · rename_i hne
        split at h
        · (first|subst h|obtain rfl:=sj h|exact n1 h|exact n2 h|exact b1 h|exact b2 h|cases h)
        rename_i parts hm
        split at h
        · rename_i hc
          (first|subst h|obtain rfl:=sj h|exact n1 h|exact n2 h|exact b1 h|exact b2 h|cases h)
          obtain ⟨l1, S1, hh⟩ := fin 124 true ps parts hps hne hm hc
          exact .stop (Ex_for iter (by rfl) (.stop2 (VSub.refl1 (by rfl)) (by rfl) (by rfl) (by rfl) (by rfl) (J.pre hh (.cons (by rfl) (.cons (by rfl) (.cons (by rfl) (.cons (by rfl) .nil)))))))
        · (first|subst h|obtain rfl:=sj h|exact n1 h|exact n2 h|exact b1 h|exact b2 h|cases h)
      · rename_i hne
        have go := text_go (n := n + f) H N F ways ls ps 124 true hw (by walk_at "o") hps hne
        conv at go in fb80 => whnf
        split at h
        · (first|subst h|obtain rfl:=sj h|exact n1 h|exact n2 h|exact b1 h|exact b2 h|cases h)
        rename_i ps2 hps2
        split at h
        · rename_i hne2
          split at h
          · (first|subst h|obtain rfl:=sj h|exact n1 h|exact n2 h|exact b1 h|exact b2 h|cases h)
          rename_i parts hm
          split at h
          · rename_i hc
            (first|subst h|obtain rfl:=sj h|exact n1 h|exact n2 h|exact b1 h|exact b2 h|cases h)
            obtain ⟨l1, S1, hh⟩ := fin 38 false ps2 parts hps2 hne2 hm hc
            exact .stop (Ex_for iter (by rfl) (.step2 (VSub.refl1 (by rfl)) (by rfl) (by rfl) (by rfl) (by rfl) go (.inl rfl) (.stop2 (l0 := txV ls ways) (.cons (by rfl) (.cons (by rfl) .nil)) (by rfl) (by rfl) (by rfl) (by rfl) hh)))
          · (first|subst h|obtain rfl:=sj h|exact n1 h|exact n2 h|exact b1 h|exact b2 h|cases h)
        · rename_i hne2
          (first|subst h|obtain rfl:=sj h|exact n1 h|exact n2 h|exact b1 h|exact b2 h|cases h)
          have go2 := text_go (n := n + f) H N F ways ls ps2 38 false hw (by walk_at "o") hps2 hne2
          conv at go2 in fb80 => whnf
          refine .cons (Ex_for iter (by rfl) (.step2 (VSub.refl1 (by rfl)) (by rfl) (by rfl) (by rfl) (by rfl) go (.inl rfl) (.step2 (l0 := txV ls ways) (.cons (by rfl) (.cons (by rfl) .nil)) (by rfl) (by rfl) (by rfl) (by rfl) go2 (.inl rfl) .nil))) ?_
          exact .ret Ev_str
end
end Mine

namespace Mine
section
variable {B : Base} {n : Nat} {ce : CEnv} {st st1 st2 st3 : LSt}
noncomputable def nearN (ways : List Nat) (a b : Nat) : Bool := pNear a b (ways.map Int.ofNat)
noncomputable def oneBit (w c : Nat) : Bool := decide (Builtin.bitAnd (Builtin.bitAnd (w : Int) c) (Builtin.bitAnd (w : Int) c - 1) = 0)
noncomputable def singleL (ways cuts : List Nat) : List Nat := ways.flatMap fun w => cuts.filterMap fun c => if !oneBit w c then some w else none
noncomputable def partL (ways cuts used : List Nat) : List Nat := used.flatMap fun (k : Nat) => used.filterMap fun (j : Nat) => if decide ((j : Int) < (k : Int)) && (nearN ways j k == nearN cuts j k) then some k else none
theorem fn_nearN (H : Law B) (ways : List Nat) (a b : Nat) (hw : ways.length ≤ 1000) : FnJ B (n + 1) (.ref 192) [.int a, .int b, .list (ci ways)] (.bool (nearN ways a b)) := by
  rw [← cI_ci]
  exact fn_near H a b (ways.map Int.ofNat) (by walk_at "o") (by walk_at "o") (by simp; walk_at "o")
theorem flatMap_ci {α : Type} (as : List α) (f : α → List Nat) (g : α → List CV) (h : ∀ a ∈ as, g a = ci (f a)) : as.flatMap g = ci (as.flatMap f) := by
  induction as with
  | nil => rfl
  | cons a as ih =>
    rw [List.flatMap_cons, List.flatMap_cons, h a (.head _), ih fun b hb => h b (.tail _ hb)]
    simp [ci]
theorem fm_ci {β : Type} (bs : List β) (c : β → Bool) (f : β → Nat) : (bs.filterMap fun b => if c b then some (CV.int (f b)) else none) = ci (bs.filterMap fun b => if c b then some (f b) else none) := by
  induction bs with
  | nil => rfl
  | cons b bs ih =>
    simp only [List.filterMap_cons]
    cases c b <;> simp [ih, ci]
theorem flat_len {α β : Type} (as : List α) (f : α → List β) (k : Nat) (h : ∀ a ∈ as, (f a).length ≤ k) : (as.flatMap f).length ≤ as.length * k := by
  induction as with
  | nil => simp
  | cons a as ih =>
    rw [List.flatMap_cons, List.length_append, List.length_cons, Nat.add_mul]
    have := h a (.head _)
    have := ih fun b hb => h b (.tail _ hb)
    walk_at "o"
theorem chars_pcs (l : List Nat) : CV.list (chars (mkS l)) = .list (cSs (l.map fun c => [c])) := by rw [chars_mkS]; simp [cSs]
set_option maxHeartbeats 1000000 in
theorem fn_once (H : Law B) (N : NetC B) (F : NetF B) (D : TokD B) (ways cuts used ms : List Nat) (d1 d2 : Nat) (hw : ways.length ≤ 1000) (hc : cuts.length ≤ 1000) (hu : used.length ≤ 10) (h4 : ms.length = 4) (once : List Nat) (ag : Bool) (ht : textOf ways 8 used = some once) (hol : once.length ≤ 1000)
    (hr : (once = [] ∧ ag = false) ∨ (once ≠ [] ∧ ∃ t : Fm, t.good = true ∧ t.size ≤ 5 ∧ pcs t.ats = (once.map fun c => [c]) ∧ t.toks = once ∧ ag = decide ([(t.val (mAt ms) : Int), t.dual (mAt ms)] = [(d1 : Int), d2]))) :
    FnJ B (n + 12) (.ref 207) [.list (ci ways), .list (ci cuts), .list (ci used), .list (ci ms), .tup [.int d1, .int d2]] (.bool ((((singleL ways cuts).isEmpty) == (partL ways cuts used).isEmpty) && ((partL ways cuts used).isEmpty == ag))) := by
  refine FnJ.of H.once (.mk' (by decide +kernel)) (by rfl) rfl ?_ (by rfl)
  conv in (bodyAt 81) => whnf
  have dE : ∀ l : List Nat, decide (l.map Int.ofNat = []) = l.isEmpty := fun l => by cases l <;> simp
  refine .cons (Ex_assign (v := .bool (singleL ways cuts).isEmpty) (J.eqv (Ev_cmp (Ev_comp2N (val := fun i : Nat => CV.int i) (val' := fun i : Nat => CV.int i) (bs := fun _ => cuts) (out := fun w c => if !oneBit w c then some (CV.int (w : Nat)) else none) (as := ways)
    (ItE.ok (Ev_name (v := .list (ci ways)) (by rfl)) (IterOk.list (pures_ci _))) (pures_ci _) (.mk' (by decide +kernel) (by rfl)) (by rfl) (fun w hw => ItE.ok (Ev_name (v := .list (ci cuts)) (by rfl)) (IterOk.list (pures_ci _))) (fun _ _ => pures_ci _)
    (fun w hw c hc => .ite (As_name (by rfl)) (Ifs_one (J.eqb (Ts_cmp (Ev_callF (Ev_name (by rfl)) H.iseof.fn (Es_cons (Ev_bo (Ev_bo (Ev_name (v := .int w) (by rfl)) (Ev_name (v := .int c) (by rfl)) (.num (.and _ _))) (Ev_bo (Ev_bo (Ev_name (v := .int w) (by rfl)) (Ev_name (v := .int c) (by rfl)) (.num (.and _ _))) Ev_int (.num (.sub _ _))) (.num (.and _ _))) Es_nil) (FnJ.ca (fn_iseof (n := n + 10) H _) (by rfl))) Ev_bool (.isNotB _ _)) (by unfold oneBit; simp))) (fun _ => Ev_name (by rfl)) (fun _ => rfl) (.cons (by rfl) .nil) rfl) ?_)
    (Ev_list Es_nil (by decide)) (.eqL (ns := (singleL ways cuts).map Int.ofNat) (ms := []) ?_ (by rfl))) (by rw [dE])) (As_name (by rfl))) ?_
  · refine Nat.le_trans (flat_len _ _ 1000 fun w _ => Nat.le_trans (List.length_filterMap_le _ _) hc) ?_
    walk_at "o"
  · show some _ = some _
    rw [← ci_map, flatMap_ci ways (fun w => cuts.filterMap fun c => if !oneBit w c then some w else none) _ (fun w _ => fm_ci _ _ _)]
    rfl
  refine .cons (Ex_assign (v := .bool (partL ways cuts used).isEmpty) (J.eqv (Ev_cmp (Ev_comp2N (val := fun i : Nat => CV.int i) (val' := fun i : Nat => CV.int i) (bs := fun _ => used) (out := fun k j => if decide ((j : Int) < (k : Int)) && (nearN ways j k == nearN cuts j k) then some (CV.int (k : Nat)) else none) (as := used)
    (ItE.ok (Ev_name (v := .list (ci used)) (by rfl)) (IterOk.list (pures_ci _))) (pures_ci _) (.mk' (by decide +kernel) (by rfl)) (by rfl) (fun w hw => ItE.ok (Ev_name (v := .list (ci used)) (by rfl)) (IterOk.list (pures_ci _))) (fun _ _ => pures_ci _)
    (fun k hk j hj => .ite (As_name (by rfl)) (Ifs_one (Ts_and2 (Ts_cmp (Ev_name (v := .int j) (by rfl)) (Ev_name (v := .int k) (by rfl)) (.lt _ _)) (fun _ => Ts_cmp (Ev_callF (Ev_name (by rfl)) H.near.fn (Es_cons (Ev_name (v := .int j) (by rfl)) (Es_cons (Ev_name (v := .int k) (by rfl)) (Es_cons (Ev_name (v := .list (ci ways)) (by rfl)) Es_nil))) (FnJ.ca (fn_nearN (n := n + 10) H _ _ _ hw) (by simp [pures, CV.pure, pures_ci]))) (Ev_callF (Ev_name (by rfl)) H.near.fn (Es_cons (Ev_name (v := .int j) (by rfl)) (Es_cons (Ev_name (v := .int k) (by rfl)) (Es_cons (Ev_name (v := .list (ci cuts)) (by rfl)) Es_nil))) (FnJ.ca (fn_nearN (n := n + 10) H _ _ _ hc) (by simp [pures, CV.pure, pures_ci]))) (.isB _ _)))) (fun _ => Ev_name (by rfl)) (fun _ => rfl) (.cons (by rfl) .nil) rfl) ?_)
    (Ev_list Es_nil (by decide)) (.eqL (ns := (partL ways cuts used).map Int.ofNat) (ms := []) ?_ (by rfl))) (by rw [dE])) (As_name (by rfl))) ?_
  · refine Nat.le_trans (flat_len _ _ 1000 fun w _ => Nat.le_trans (List.length_filterMap_le _ _) (by walk_at "o")) ?_
    walk_at "o"
  · show some _ = some _
    rw [← ci_map, flatMap_ci used (fun k => used.filterMap fun (j : Nat) => if decide ((j : Int) < (k : Int)) && (nearN ways j k == nearN cuts j k) then some k else none) _ (fun w _ => fm_ci _ _ _)]
    rfl
  refine .cons (Ex_assign (v := .str (mkS once)) (Ev_callF (Ev_name (by rfl)) H.text.fn (Es_cons (Ev_name (v := .list (ci used)) (by rfl)) (Es_cons (Ev_name (v := .list (ci ways)) (by rfl)) Es_nil)) (FnJ.ca (fn_text H N F ways hw 8 n used once ht) (by simp [pures, CV.pure, pures_ci]))) (As_name (by rfl))) ?_
  rcases hr with ⟨rfl, rfl⟩ | ⟨hne, t, hg, hs, hp, hT, rfl⟩
  · refine .cons (Ex_assign (v := .bool false) (J.eqv (Ev_and2 (b := false) (c := false) (J.eqv (Ev_cmp (Ev_name (v := .str (mkS [])) (by rfl)) Ev_str (.neS _ _)) (by rfl)) (fun h => by (first|subst h|obtain rfl:=sj h|exact n1 h|exact n2 h|exact b1 h|exact b2 h|cases h))) (by rfl)) (As_name (by rfl))) ?_
    exact .retq (Ev_and2 (Ev_cmp (Ev_name (v := .bool (singleL ways cuts).isEmpty) (by rfl)) (Ev_name (v := .bool (partL ways cuts used).isEmpty) (by rfl)) (.isB _ _)) (fun _ => Ev_cmp (Ev_name (v := .bool (partL ways cuts used).isEmpty) (by rfl)) (Ev_name (v := .bool false) (by rfl)) (.isB _ _))) rfl
  · have hf := fn_read (n := n + 8 - t.size) H D ms h4 t hg hs
    rw [hp, hT, show n + 8 - t.size + t.size + 3 = n + 11 by walk_at "o"] at hf
    have : (mkS once == Str.ofString "") = false := by
        cases e : (mkS once == Str.ofString "") with
        | false => rfl
        | true =>
          have : mkS once = mkS [] := eq_of_beq e
          rw [mkS_inj] at this
          exact absurd this hne
    refine .cons (Ex_assign (v := .bool (decide ([(t.val (mAt ms) : Int), t.dual (mAt ms)] = [(d1 : Int), d2]))) (J.eqv (Ev_and2 (b := true) (c := decide ([(t.val (mAt ms) : Int), t.dual (mAt ms)] = [(d1 : Int), d2])) (J.eqv (Ev_cmp (Ev_name (v := .str (mkS once)) (by rfl)) Ev_str (.neS _ _)) (by rw [this]; rfl)) (fun h => Ev_cmp (Ev_callF (Ev_name (by rfl)) H.read.fn (Es_cons (J.eqv (Ev_callT (Ev_name (by rfl)) (Es_cons (Ev_name (v := .str (mkS once)) (by rfl)) Es_nil) (ca_listS (by rw [mkS_len]; walk_at "o"))) (chars_pcs once)) (Es_cons (Ev_name (v := .str (mkS once)) (by rfl)) (Es_cons (Ev_name (v := .list (ci ms)) (by rfl)) Es_nil))) (FnJ.ca hf (by simp [pures, CV.pure, pures_ci, cSs]; exact pures_map (fun _ => rfl) _))) (Ev_name (v := .tup [.int d1, .int d2]) (by rfl)) (.eqT [_, _] [_, _]))) (by rw [Bool.true_and])) (As_name (by rfl))) ?_
    exact .retq (Ev_and2 (Ev_cmp (Ev_name (v := .bool (singleL ways cuts).isEmpty) (by rfl)) (Ev_name (v := .bool (partL ways cuts used).isEmpty) (by rfl)) (.isB _ _)) (fun _ => Ev_cmp (Ev_name (v := .bool (partL ways cuts used).isEmpty) (by rfl)) (Ev_name (v := .bool (decide ([(t.val (mAt ms) : Int), t.dual (mAt ms)] = [(d1 : Int), d2]))) (by rfl)) (.isB _ _))) rfl

end
end Mine

namespace Mine
section
variable {B : Base} {n : Nat} {ce : CEnv} {st st1 st2 st3 : LSt}
noncomputable abbrev lamX : Expr := (spOf (bodyAt 73)[2]?).e1
noncomputable def lamOf : Expr → Expr × Scope × Pos
  | .Lambda _ b s p => (b, s, p)
  | e => (e, scopeAt 0, ⟨0, 0, 0, 0⟩)
noncomputable abbrev lamBody : Expr := (lamOf lamX).1
noncomputable abbrev lamScope : Scope := (lamOf lamX).2.1
noncomputable abbrev lamPos : Pos := (lamOf lamX).2.2
noncomputable abbrev lamFree : List (Str × CV) := [(Str.ofString "signs", .ref 2)]
noncomputable abbrev lamClo : CO := .clo [Str.ofString "size"] (.expr lamBody) lamScope lamFree
noncomputable abbrev strAttrs : List (Str × CV) := netAttrs 1 .none 4 ++ [(Str.ofString "read", .ref 5)]
noncomputable abbrev cch (cs : List Nat) : List CV := cs.map fun c => .str (mkS [c])
/-- the store while the lexer is at work -/
noncomputable abbrev lexSto (l : Int) (cs : List Nat) (G : List CO) : List CO := .lst [] :: .lst [] :: .lst (cch cs) :: .inst 115 strAttrs :: .lst [] :: lamClo :: .inst 115 (netAttrs l (.ref 3) 7) :: .lst [] :: G
set_option maxHeartbeats 1000000 in
theorem ca_lexer (H : Law B) (N : NetC B) (F : NetF B) (T : TabFn B 165 lamPos (Str.ofString "<lambda>")) (cs : List Nat) (hcs : cs.length ≤ 100000) (vars : List (Str × CV)) : CaJ B (n + 4) ce (.ref 165) [.str (mkS cs)] ⟨vars, [.lst [], .lst []]⟩ (.ref 6) ⟨vars, lexSto 1 cs []⟩ := fun A env P K g X s xs Q E hA R hx hQ => by
  obtain ⟨o, fd, e1, e2, e3⟩ := H.lexer.ok
  obtain ⟨t, ht, hl, hc, hcode⟩ := T.ok
  obtain ⟨hc1, hc2⟩ := hcode o fd e1 e2
  refine call_ok R.stO (n := n + 3) hA (R.inv.h0 _ _ e1) e2 (e3.mono R.inv.base) (by rfl) (.mk' (by decide +kernel)) .nil hx rfl fun A' env' X' s' E' hA' hι hcq R' => ?_
  obtain ⟨q1, q2⟩ := hcq
  rw [hc1] at q1
  conv in (bodyAt 73) => whnf
  have ech : chars (mkS cs) = cch cs := chars_mkS cs
  refine exec_step (Ex_assign (Ev_callT (Ev_name (by rfl)) (Es_cons (Ev_name (v := .str (mkS cs)) (by rfl)) Es_nil) (ca_listSM (by rw [mkS_len]; walk_at "o"))) (As_name (by rfl))) hA' R' fun P1 X1 s1 lP1 lX1 R1 => ?_
  rw [ech] at R1
  refine exec_step (Ex_assign (Ev_new (n := n + 1) N F (Ev_name (v := .cst (.ref 115)) (by rfl)) Ev_none) (As_name (by rfl))) hA' R1 fun P2 X2 s2 lP2 lX2 R2 => ?_
  obtain ⟨P3, lP3, R3, hseal⟩ := R2.seal (fr := lamFree) (by
    intro x cv hx
    have := mem_lookup hx
    simp only [List.mem_cons, Prod.mk.injEq, List.not_mem_nil, or_false] at this
    obtain ⟨rfl, rfl⟩ := this
    exact ⟨rfl, rfl⟩) rfl (by
      intro x hx
      have hm := mem_lookup hx
      have hm' : (x, NameKind.cell) ∈ [(Str.ofString "text", NameKind.local), (Str.ofString "stream", NameKind.local), (Str.ofString "signs", NameKind.cell), (Str.ofString "list", NameKind.globalImplicit), (Str.ofString "_netrclex", NameKind.globalImplicit)] := hm
      have : x = Str.ofString "signs" := by simpa using hm'
      rw [this]; rfl)
  have hcl : closureFor lamScope env' = pure (closL env'.cells lamScope.names []) := by
    refine closureFor_eq fun x hx => ?_
    have : x = Str.ofString "signs" := by
      have hx' : (x, NameKind.free) ∈ [(Str.ofString "size", NameKind.local), (Str.ofString "signs", NameKind.free)] := hx
      simpa using hx'
    rw [this]
    obtain ⟨c, h, _⟩ := R2.env.cell (Str.ofString "signs") rfl rfl
    exact ⟨c, h⟩
  refine exec_assign_raw rfl rfl rfl (kla_eval rfl ?_)
  have hq : env'.qual ++ Str.ofString "<lambda>" = t.qual := by rw [q2]; exact hc2
  show wpAny _ _ (makeFunction (Str.ofString "<lambda>") (env'.qual ++ Str.ofString "<lambda>") _ (.expr lamBody) lamScope env' [] [] [] lamPos lamPos.line) _ _ _
  rw [hq]
  refine R3.lam_ok ht (ps := [Str.ofString "size"]) (q1 : env'.code = .ref t.c) hl hc hcl (fun pm cv ctv vs hvs => ?_) fun P4 s4 f o2 fd2 lP4 R4 f1 f2 f3 f4 => ?_
  · obtain ⟨x, rfl⟩ := List.length_eq_one_iff.mp hvs
    rfl
  have hclg : (closL env'.cells lamScope.names []).lookup (Str.ofString "signs") = env'.cells.lookup (Str.ofString "signs") := by
    refine closL_get (fun y hy => ?_) (mem_lookup (by rfl))
    have : y = Str.ofString "signs" := by
      have hx' : (y, NameKind.free) ∈ [(Str.ofString "size", NameKind.local), (Str.ofString "signs", NameKind.free)] := hy
      simpa using hx'
    rw [this]
    obtain ⟨c, h, _⟩ := R2.env.cell (Str.ofString "signs") rfl rfl
    exact ⟨c, h⟩
  obtain ⟨hX5, R5, hv5⟩ := R4.addClo (free := lamFree) f1 f2 f3 f4 (fun x cv hx => by
    have := mem_lookup hx
    simp only [List.mem_cons, Prod.mk.injEq, List.not_mem_nil, or_false] at this
    obtain ⟨rfl, rfl⟩ := this
    obtain ⟨c, h, _⟩ := R2.env.cell (Str.ofString "signs") rfl rfl
    obtain ⟨oc, v, a1, a2, a3⟩ := hseal _ c h (.ref 2) rfl
    exact ⟨by rfl, c, v, oc, hclg.trans h, lP4 _ _ a1, a2, a3.mono lP4 ⟨_, rfl⟩⟩)
  have asg : AsJ B (n + 3) ⟨scopeAt 73, lamFree⟩ (.Attribute (.Name (Str.ofString "stream") ⟨247, 4, 247, 10⟩) (Str.ofString "read") ⟨247, 4, 247, 15⟩) ⟨[(Str.ofString "stream", .ref 3), (Str.ofString "signs", .ref 2), (Str.ofString "text", .str (mkS cs))], [.lst [], .lst [], .lst (cch cs), .inst 115 (netAttrs 1 .none 4), .lst [], lamClo]⟩ (.ref 5) ⟨[(Str.ofString "stream", .ref 3), (Str.ofString "signs", .ref 2), (Str.ofString "text", .str (mkS cs))], [.lst [], .lst [], .lst (cch cs), .inst 115 strAttrs, .lst [], lamClo]⟩ := by
    have h := As_attr (B := B) (n := n + 3) (ce := ⟨scopeAt 73, lamFree⟩) (st := ⟨[(Str.ofString "stream", .ref 3), (Str.ofString "signs", .ref 2), (Str.ofString "text", .str (mkS cs))], [.lst [], .lst [], .lst (cch cs), .inst 115 (netAttrs 1 .none 4), .lst [], lamClo]⟩) (st1 := ⟨[(Str.ofString "stream", .ref 3), (Str.ofString "signs", .ref 2), (Str.ofString "text", .str (mkS cs))], [.lst [], .lst [], .lst (cch cs), .inst 115 (netAttrs 1 .none 4), .lst [], lamClo]⟩) (v := .ref 5) (o := .Name (Str.ofString "stream") ⟨247, 4, 247, 10⟩) (x := Str.ofString "read") (pos := ⟨247, 4, 247, 15⟩) (i := 3) (attrs := netAttrs 1 .none 4) N (Ev_name (v := .ref 3) (by rfl)) (by rfl)
    exact h
  refine asg A' env' P4 _ g _ s4 _ _ E' hA' R5 hv5 fun P6 X6 s6 lP6 lX6 R6 => ?_
  refine (Xs_stop (Ex_ret (Ev_new (n := n + 1) N F (Ev_name (v := .cst (.ref 115)) (by rfl)) (Ev_name (v := .ref 3) (by rfl)))) (by simp)) A' env' P6 _ g X6 s6 _ E' hA' R6 fun P7 X7 s7 fl lP7 lX7 R7 rf => ?_
  obtain ⟨_, rfl, rv⟩ := rf.ret_inv
  have lι : StoLe X.ι X7.ι := by
    rw [← hι]
    exact lX1.ι.trans (lX2.ι.trans (hX5.ι.trans (lX6.ι.trans lX7.ι)))
  obtain ⟨a, b⟩ := R.leaveG (lP1.trans (lP2.trans (lP3.trans (lP4.trans (lP6.trans lP7))))) R7 lι fun _ _ e => e
  exact hQ P7 _ s7 _ (lP1.trans (lP2.trans (lP3.trans (lP4.trans (lP6.trans lP7))))) a b rv
end
end Mine

namespace Mine
section
variable {B : Base} {n : Nat} {ce : CEnv} {st st1 st2 st3 : LSt}
noncomputable abbrev srCE : CEnv := ⟨⟨.function, [(Str.ofString ".0", .local), (Str.ofString "one", .local), (Str.ofString "signs", .free)], false, false, []⟩, lamFree⟩
noncomputable abbrev srElt : Expr := (.Call (.Attribute (.Name (Str.ofString "signs") ⟨247, 40, 247, 45⟩) (Str.ofString "pop") ⟨247, 40, 247, 49⟩) [.Constant (.int 0) 0 ⟨247, 50, 247, 51⟩] [] ⟨247, 40, 247, 52⟩)
theorem sread_elt (c : Nat) (cs : List Nat) (hcs : (c :: cs).length ≤ 100000) (l : Int) (G : List CO) : EvJ B n srCE srElt ⟨[(Str.ofString "one", .str (mkS [c]))], lexSto l (c :: cs) G⟩ (.str (mkS [c])) ⟨[(Str.ofString "one", .str (mkS [c]))], lexSto l cs G⟩ := by
  have h := ca_pop0 (B := B) (n := n) (ce := srCE) (st := ⟨[(Str.ofString "one", .str (mkS [c]))], lexSto l (c :: cs) G⟩) (i := 2) (vs := cch cs) (y := .str (mkS [c])) (by rfl) (by simp at hcs ⊢; walk_at "o")
  exact Ev_meth PySem.F.plainAttrs_list PySem.F.slot_list_pop PySem.F.type_list_pop (Ev_name (v := .ref 2) (by rfl)) (.list (vs := cch (c :: cs)) (by rfl)) (Es_cons Ev_int Es_nil) h
set_option maxHeartbeats 1000000 in
theorem sread_body (cs : List Nat) (hcs : cs.length ≤ 100000) (l : Int) (G : List CO) : EvJ B n ⟨lamScope, lamFree⟩ lamBody ⟨[(Str.ofString "size", .int 1)], lexSto l cs G⟩ (.str (mkS (cs.take 1))) ⟨[(Str.ofString "size", .int 1)], lexSto l cs.tail G⟩ := by
  conv in lamBody => whnf
  cases cs with
  | nil =>
    have e0 : CV.list (pickV (cch []) none (some ((1 : Nat) : Int)) none) = .list [] := by rw [pickV_upto]; rfl
    refine Ev_meth PySem.F.plainAttrs_str PySem.F.slot_str_join PySem.F.type_str_join Ev_str (.str _) (Es_cons (Ev_comp (st1 := ⟨[(Str.ofString "size", .int 1)], lexSto l [] G⟩) (st' := ⟨[], lexSto l [] G⟩) (ys := []) (out := []) (ItE.ok (J.eqv (Ev_slice (Ev_name (v := .ref 2) (by rfl)) Pt_none (Pt_some (Ev_name (v := .int 1) (by rfl))) (.list (by rfl) (by simp))) e0) (IterOk.list (by rfl))) (by rfl) (.mk' (by decide +kernel) (by rfl)) (.one (by intro _ _; rfl)) .nil rfl (by simp)) Es_nil) (ca_join (ss := []) (by rfl) (by decide) (by decide))
  | cons c cs =>
    have e0 : CV.list (pickV (cch (c :: cs)) none (some ((1 : Nat) : Int)) none) = .list [.str (mkS [c])] := by rw [pickV_upto]; rfl
    have E := sread_elt (B := B) (n := n) c cs hcs l G
    have L : LpJ B n srCE srElt [⟨.Name (Str.ofString "one") ⟨247, 57, 247, 60⟩, .Subscript (.Name (Str.ofString "signs") ⟨247, 64, 247, 69⟩) (.Slice none (some (.Name (Str.ofString "size") ⟨247, 71, 247, 75⟩)) none ⟨247, 70, 247, 75⟩) ⟨247, 64, 247, 76⟩, [], 0⟩] [.str (mkS [c])] ⟨[], lexSto l (c :: cs) G⟩ [.str (mkS [c])] ⟨[(Str.ofString "one", .str (mkS [c]))], lexSto l cs G⟩ :=
      .take (As_name (by rfl)) Ifs_nil E rfl .nil
    refine Ev_meth PySem.F.plainAttrs_str PySem.F.slot_str_join PySem.F.type_str_join Ev_str (.str _) (Es_cons (Ev_comp (st1 := ⟨[(Str.ofString "size", .int 1)], lexSto l (c :: cs) G⟩) (ItE.ok (J.eqv (Ev_slice (Ev_name (v := .ref 2) (by rfl)) Pt_none (Pt_some (Ev_name (v := .int 1) (by rfl))) (.list (by rfl) (by simp at hcs ⊢; walk_at "o"))) e0) (IterOk.list (by rfl))) (by rfl) (.mk' (by decide +kernel) (by rfl)) (.one (by intro _ _; rfl)) L rfl (by simp)) Es_nil) ?_
    have hj : Txt.join (mkS []) [mkS [c]] = mkS [c] := join_mkS [[c]]
    have := ca_join (B := B) (n := n) (ce := ⟨lamScope, lamFree⟩) (st := ⟨[(Str.ofString "size", .int 1)], lexSto l cs G⟩) (u := .list [.str (mkS [c])]) (sep := mkS []) (ss := [mkS [c]]) (by rfl) (by rw [hj, mkS_len]; simp) (join_fits [[c]] (by simp))
    rw [hj] at this
    exact this
theorem ca_sread (cs : List Nat) (hcs : cs.length ≤ 100000) (l : Int) (G : List CO) (vars : List (Str × CV)) : CaC B (n + 1) ce 5 [.int 1] ⟨vars, lexSto l cs G⟩ (.str (mkS (cs.take 1))) ⟨vars, lexSto l cs.tail G⟩ :=
  CaC.mkE (ps := [Str.ofString "size"]) (body := lamBody) (scope := lamScope) (free := lamFree) (st := ⟨vars, lexSto l cs G⟩) (st' := ⟨[(Str.ofString "size", .int 1)], lexSto l cs.tail G⟩) (by rfl) ⟨by decide +kernel, by decide +kernel, by decide +kernel, by decide +kernel, by decide +kernel⟩ (by rfl) rfl (sread_body cs hcs l G)
end
end Mine

namespace Mine
section
variable {B : Base} {n : Nat} {ce : CEnv} {st st1 st2 st3 : LSt}
noncomputable def nlx (l : Int) (cs : List Nat) : Int := if cs.head? = some 10 then l + 1 else l
theorem rc_body (N : NetC B) (cs : List Nat) (hcs : cs.length ≤ 100000) (l : Int) (G : List CO) : ∃ l', XsJ B (n + 1) ⟨mScope 1, []⟩ (mBody 1) ⟨[(Str.ofString "self", .ref 6)], lexSto l cs G⟩ (.ret (.str (mkS (cs.take 1)))) ⟨l', lexSto (nlx l cs) cs.tail G⟩ := by
  conv in (mBody 1) => whnf
  have hs := ca_sread (B := B) (n := n) (ce := ⟨mScope 1, []⟩) cs hcs l G [(Str.ofString "self", .ref 6)]
  have h1 : ExJ B (n + 1) ⟨mScope 1, []⟩ (((mBody 1)[0]?).getD (.Pass ⟨0, 0, 0, 0⟩)) ⟨[(Str.ofString "self", .ref 6)], lexSto l cs G⟩ .nxt ⟨[(Str.ofString "ch", .str (mkS (cs.take 1))), (Str.ofString "self", .ref 6)], lexSto l cs.tail G⟩ := by
    conv in ((mBody 1)[0]?).getD _ => whnf
    exact Ex_assign (Ev_methOwn N (i := 3) (j := 5) (attrs := strAttrs) (Ev_attr N (Ev_name (v := .ref 6) (by rfl)) (by rfl) (by rfl)) (by rfl) (by rfl) (Es_cons Ev_int Es_nil) (by rfl) hs) (As_name (by rfl))
  conv at h1 in ((mBody 1)[0]?).getD _ => whnf
  have ht : (mkS (cs.take 1) == Str.ofString "\n") = decide (cs.head? = some 10) := by
    cases cs with
    | nil => rfl
    | cons c cs =>
      rw [Bool.eq_iff_iff, decide_eq_true_eq]
      show (mkS [c] == mkS [10]) = true ↔ _
      rw [beq_iff_eq, mkS_inj]; simp
  by_cases h : cs.head? = some 10
  · have e : nlx l cs = l + 1 := by unfold nlx; rw [if_pos h]
    rw [e]
    exact ⟨_, Xs_cons h1 (Xs_cons (Ex_if (b := true) (J.eqb (Ts_cmp (Ev_name (v := .str (mkS (cs.take 1))) (by rfl)) Ev_str (.eqS _ _)) (by rw [ht, decide_eq_true h])) (Xs_cons (Ex_augAttr N (i := 6) (v := .int (l + 1)) (attrs := netAttrs l (.ref 3) 7) (Ev_name (v := .ref 6) (by rfl)) (by rfl) (by rfl) Ev_int (by rfl) (.add _ _)) Xs_nil)) (Xs_stop (Ex_ret (Ev_name (by rfl))) (by simp)))⟩
  · have e : nlx l cs = l := by unfold nlx; rw [if_neg h]
    rw [e]
    exact ⟨_, Xs_cons h1 (Xs_cons (Ex_if (b := false) (J.eqb (Ts_cmp (Ev_name (v := .str (mkS (cs.take 1))) (by rfl)) Ev_str (.eqS _ _)) (by rw [ht, decide_eq_false h])) Xs_nil) (Xs_stop (Ex_ret (Ev_name (by rfl))) (by simp)))⟩
theorem ca_rc (N : NetC B) (F : NetF B) (cs : List Nat) (hcs : cs.length ≤ 100000) (l : Int) (G : List CO) (vars : List (Str × CV)) : CaJ B (n + 2) ce (.ref 98) [.ref 6] ⟨vars, lexSto l cs G⟩ (.str (mkS (cs.take 1))) ⟨vars, lexSto (nlx l cs) cs.tail G⟩ := by
  obtain ⟨l', h⟩ := rc_body (n := n) N cs hcs l G
  exact CaJ.mkG (ce := ce) (st := ⟨vars, lexSto l cs G⟩) (f := .ret (.str (mkS (cs.take 1)))) (vs := [.ref 6]) F.rc (.mk' (by decide +kernel)) (by rfl) rfl h
theorem lexSto_at (l : Int) (cs : List Nat) (G : List CO) (c : CO) : (lexSto l cs (G ++ [c]))[G.length + 8]? = some c := by
  show (_ :: _ :: _ :: _ :: _ :: _ :: _ :: _ :: (G ++ [c]))[G.length + 8]? = _
  rw [show G.length + 8 = G.length + 1 + 1 + 1 + 1 + 1 + 1 + 1 + 1 from rfl]
  simp only [List.getElem?_cons_succ]
  simp
theorem lexSto_set (l : Int) (cs : List Nat) (G : List CO) (c d : CO) : (lexSto l cs (G ++ [c])).set (G.length + 8) d = lexSto l cs (G ++ [d]) := by
  show (_ :: _ :: _ :: _ :: _ :: _ :: _ :: _ :: (G ++ [c])).set (G.length + 8) d = _
  rw [show G.length + 8 = G.length + 1 + 1 + 1 + 1 + 1 + 1 + 1 + 1 from rfl]
  simp only [List.set_cons_succ]
  simp
/-- the next sign -/
theorem draw_sign (N : NetC B) (F : NetF B) (c : Nat) (cs : List Nat) (hcs : (c :: cs).length ≤ 100000) (l : Int) (G : List CO) (vars : List (Str × CV)) : DrawJ B (n + 3) ce (G.length + 8) ⟨vars, lexSto l (c :: cs) (G ++ [.citer 6 98 false])⟩ (some (.str (mkS [c]))) ⟨vars, lexSto (nlx l (c :: cs)) cs (G ++ [.citer 6 98 false])⟩ := by
  obtain ⟨l', h⟩ := rc_body (B := B) (n := n) N (c :: cs) hcs l (G ++ [.citer 6 98 false])
  have := draw_ask (ce := ce) (st := ⟨vars, lexSto l (c :: cs) (G ++ [.citer 6 98 false])⟩) F (lexSto_at l (c :: cs) G _) h (lexSto_at _ _ G _)
  have hne : ¬ mkS ((c :: cs).take 1) = Str.ofString "" := fun q => by
    have : mkS [c] = mkS [] := q
    rw [mkS_inj] at this; (first|subst this|obtain rfl:=sj this|exact n1 this|exact n2 this|exact b1 this|exact b2 this|cases this)
  rw [if_neg hne, if_neg hne] at this
  exact this
/-- the signs are at their end -/
theorem draw_end (N : NetC B) (F : NetF B) (l : Int) (G : List CO) (vars : List (Str × CV)) : DrawJ B (n + 3) ce (G.length + 8) ⟨vars, lexSto l [] (G ++ [.citer 6 98 false])⟩ none ⟨vars, lexSto l [] (G ++ [.citer 6 98 true])⟩ := by
  obtain ⟨l', h⟩ := rc_body (B := B) (n := n) N [] (by simp) l (G ++ [.citer 6 98 false])
  have := draw_ask (ce := ce) (st := ⟨vars, lexSto l [] (G ++ [.citer 6 98 false])⟩) F (lexSto_at l [] G _) h (lexSto_at _ _ G _)
  have he : mkS (([] : List Nat).take 1) = Str.ofString "" := rfl
  rw [if_pos he, if_pos he] at this
  have e2 := lexSto_set (nlx l []) [] G (.citer 6 98 false) (.citer 6 98 true)
  rw [show ([] : List Nat).tail = [] from rfl, e2] at this
  exact this
theorem draw_over (l : Int) (cs : List Nat) (G : List CO) (vars : List (Str × CV)) : DrawJ B n ce (G.length + 8) ⟨vars, lexSto l cs (G ++ [.citer 6 98 true])⟩ none ⟨vars, lexSto l cs (G ++ [.citer 6 98 true])⟩ :=
  draw_ended (st := ⟨vars, lexSto l cs (G ++ [.citer 6 98 true])⟩) (lexSto_at l cs G _)
end
end Mine

namespace Mine
section
variable {B : Base} {n : Nat} {ce : CEnv} {st st1 st2 st3 : LSt}
noncomputable def isWs (c : Nat) : Bool := decide (c ∈ wsS.cps.toList)
noncomputable def lexQ : List Nat → List Nat → Int → List Nat × Int × List Nat
  | [], tok, l => (tok, l, [])
  | c :: cs, tok, l => if c = 34 then (tok, nlx l (c :: cs), cs) else if c = 92 then lexQ cs.tail (tok ++ cs.take 1) (nlx (nlx l (c :: cs)) cs) else lexQ cs (tok ++ [c]) (nlx l (c :: cs))
termination_by cs => cs.length
decreasing_by all_goals (simp; try walk_at "o")
noncomputable def lexW : List Nat → List Nat → Int → List Nat × Int × List Nat
  | [], tok, l => (tok, l, [])
  | c :: cs, tok, l => if isWs c then (tok, nlx l (c :: cs), cs) else if c = 92 then lexW cs.tail (tok ++ cs.take 1) (nlx (nlx l (c :: cs)) cs) else lexW cs (tok ++ [c]) (nlx l (c :: cs))
termination_by cs => cs.length
decreasing_by all_goals (simp; try walk_at "o")
noncomputable def lexT : List Nat → Int → List Nat × Int × List Nat
  | [], l => ([], l, [])
  | c :: cs, l => if isWs c then lexT cs (nlx l (c :: cs)) else if c = 34 then lexQ cs [] (nlx l (c :: cs)) else if c = 92 then lexW cs.tail (cs.take 1) (nlx (nlx l (c :: cs)) cs) else lexW cs [c] (nlx l (c :: cs))
noncomputable abbrev gce : CEnv := ⟨mScope 2, []⟩
noncomputable abbrev gB : List Stmt := inFor (mBody 2) 3
noncomputable abbrev inElse (bs : List Stmt) (i : Nat) : List Stmt := (spOf bs[i]?).b2
noncomputable abbrev gQ : List Stmt := inFor (inIf gB 1) 0
noncomputable abbrev gW : List Stmt := inFor (inElse gB 1) 2
noncomputable abbrev gQt : Expr := inForT (inIf gB 1) 0
noncomputable abbrev gWt : Expr := inForT (inElse gB 1) 2
noncomputable abbrev gV (tok : List Nat) (i : Nat) : List (Str × CV) := [(Str.ofString "token", .str (mkS tok)), (Str.ofString "self", .ref 6), (Str.ofString "fiter", .ref i)]
theorem is_sign (c k : Nat) : (mkS [c] == mkS [k]) = decide (c = k) := by
  rw [Bool.eq_iff_iff, beq_iff_eq, mkS_inj, decide_eq_true_eq]; simp
noncomputable abbrev chV (cs : List Nat) : Str × CV := (Str.ofString "ch", .str (mkS cs))
theorem add_tok (tok cs : List Nat) : mkS tok ++ mkS cs = mkS (tok ++ cs) := mkS_app tok cs
/-- one sign within quotes -/
theorem q_turn (N : NetC B) (F : NetF B) (c : Nat) (cs tok : List Nat) (l : Int) (G : List CO) (i : Nat) (hl : tok.length + (c :: cs).length ≤ 90000) :
    if c = 34 then ∃ l1, XsJ B (n + 3) gce gQ ⟨chV [c] :: gV tok i, lexSto l cs G⟩ (.ret (.str (mkS tok))) ⟨l1, lexSto l cs G⟩ ∧ VSub (gV tok i) l1
    else if c = 92 then ∃ l1, XsJ B (n + 3) gce gQ ⟨chV [c] :: gV tok i, lexSto l cs G⟩ .nxt ⟨l1, lexSto (nlx l cs) cs.tail G⟩ ∧ VSub (gV (tok ++ cs.take 1) i) l1
    else ∃ l1, XsJ B (n + 3) gce gQ ⟨chV [c] :: gV tok i, lexSto l cs G⟩ .nxt ⟨l1, lexSto l cs G⟩ ∧ VSub (gV (tok ++ [c]) i) l1 := by
  simp only [List.length_cons] at hl
  by_cases h : c = 34
  · rw [if_pos h]
    conv in gQ => whnf
    exact ⟨chV [c] :: gV tok i, Xs_stop (Ex_if (b := true) (J.eqb (Ts_cmp (Ev_name (v := .str (mkS [c])) (by rfl)) Ev_str (.eqS _ _)) ((is_sign c 34).trans (decide_eq_true h))) (Xs_stop (Ex_ret (Ev_name (by rfl))) (by simp))) (by simp), .cons (by rfl) (.cons (by rfl) (.cons (by rfl) .nil))⟩
  · rw [if_neg h]
    by_cases h2 : c = 92
    · rw [if_pos h2]
      conv in gQ => whnf
      have h2' := ca_rc (B := B) (n := n + 1) (ce := gce) N F cs (by walk_at "o") l G (chV [c] :: gV tok i)
      have ht : (cs.take 1).length ≤ 1 := by rw [List.length_take]; walk_at "o"
      exact ⟨(Str.ofString "token", .str (mkS (tok ++ cs.take 1))) :: chV (cs.take 1) :: chV [c] :: gV tok i, Xs_cons (Ex_if (b := false) (J.eqb (Ts_cmp (Ev_name (v := .str (mkS [c])) (by rfl)) Ev_str (.eqS _ _)) ((is_sign c 34).trans (decide_eq_false h))) (Xs_cons (Ex_if (b := true) (J.eqb (Ts_cmp (Ev_name (v := .str (mkS [c])) (by rfl)) Ev_str (.eqS _ _)) ((is_sign c 92).trans (decide_eq_true h2))) (Xs_cons (Ex_assign (Ev_methI N N.rc N.f98 F.rc.fn (Ev_name (v := .ref 6) (by rfl)) (by rfl) (by rfl) Es_nil h2') (As_name (by rfl))) Xs_nil)) Xs_nil)) (Xs_cons (Ex_aug (v1 := .str (mkS tok)) (v := .str (mkS (tok ++ cs.take 1))) (by rfl) (Ev_name (v := .str (mkS (cs.take 1))) (by rfl)) (by rw [← mkS_app]; exact .addS _ _ (by rw [mkS_len, mkS_len]; walk_at "o")) (by rfl)) Xs_nil), .cons (by rfl) (.cons (by rfl) (.cons (by rfl) .nil))⟩
    · rw [if_neg h2]
      conv in gQ => whnf
      exact ⟨(Str.ofString "token", .str (mkS (tok ++ [c]))) :: chV [c] :: gV tok i, Xs_cons (Ex_if (b := false) (J.eqb (Ts_cmp (Ev_name (v := .str (mkS [c])) (by rfl)) Ev_str (.eqS _ _)) ((is_sign c 34).trans (decide_eq_false h))) (Xs_cons (Ex_if (b := false) (J.eqb (Ts_cmp (Ev_name (v := .str (mkS [c])) (by rfl)) Ev_str (.eqS _ _)) ((is_sign c 92).trans (decide_eq_false h2))) Xs_nil) Xs_nil)) (Xs_cons (Ex_aug (v1 := .str (mkS tok)) (v := .str (mkS (tok ++ [c]))) (by rfl) (Ev_name (v := .str (mkS [c])) (by rfl)) (by rw [← mkS_app]; exact .addS _ _ (by rw [mkS_len, mkS_len]; simp; walk_at "o")) (by rfl)) Xs_nil), .cons (by rfl) (.cons (by rfl) (.cons (by rfl) .nil))⟩
/-- one sign of a word -/
theorem w_turn (N : NetC B) (F : NetF B) (c : Nat) (cs tok : List Nat) (l : Int) (G : List CO) (i : Nat) (hl : tok.length + (c :: cs).length ≤ 90000) :
    if isWs c then ∃ l1, XsJ B (n + 3) gce gW ⟨chV [c] :: gV tok i, lexSto l cs G⟩ (.ret (.str (mkS tok))) ⟨l1, lexSto l cs G⟩ ∧ VSub (gV tok i) l1
    else if c = 92 then ∃ l1, XsJ B (n + 3) gce gW ⟨chV [c] :: gV tok i, lexSto l cs G⟩ .nxt ⟨l1, lexSto (nlx l cs) cs.tail G⟩ ∧ VSub (gV (tok ++ cs.take 1) i) l1
    else ∃ l1, XsJ B (n + 3) gce gW ⟨chV [c] :: gV tok i, lexSto l cs G⟩ .nxt ⟨l1, lexSto l cs G⟩ ∧ VSub (gV (tok ++ [c]) i) l1 := by
  simp only [List.length_cons] at hl
  by_cases h : isWs c = true
  · rw [if_pos h]
    conv in gW => whnf
    exact ⟨chV [c] :: gV tok i, Xs_stop (Ex_if (b := true) (J.eqb (Ts_cmp (Ev_name (v := .str (mkS [c])) (by rfl)) (Ev_attr N (v := .str wsS) (Ev_name (v := .ref 6) (by rfl)) (by rfl) (by rfl)) (.inS c wsS)) h) (Xs_stop (Ex_ret (Ev_name (by rfl))) (by simp))) (by simp), .cons (by rfl) (.cons (by rfl) (.cons (by rfl) .nil))⟩
  · rw [if_neg h]
    have h : isWs c = false := by simpa using h
    by_cases h2 : c = 92
    · rw [if_pos h2]
      conv in gW => whnf
      have h2' := ca_rc (B := B) (n := n + 1) (ce := gce) N F cs (by walk_at "o") l G (chV [c] :: gV tok i)
      have ht : (cs.take 1).length ≤ 1 := by rw [List.length_take]; walk_at "o"
      exact ⟨(Str.ofString "token", .str (mkS (tok ++ cs.take 1))) :: chV (cs.take 1) :: chV [c] :: gV tok i, Xs_cons (Ex_if (b := false) (J.eqb (Ts_cmp (Ev_name (v := .str (mkS [c])) (by rfl)) (Ev_attr N (v := .str wsS) (Ev_name (v := .ref 6) (by rfl)) (by rfl) (by rfl)) (.inS c wsS)) h) (Xs_cons (Ex_if (b := true) (J.eqb (Ts_cmp (Ev_name (v := .str (mkS [c])) (by rfl)) Ev_str (.eqS _ _)) ((is_sign c 92).trans (decide_eq_true h2))) (Xs_cons (Ex_assign (Ev_methI N N.rc N.f98 F.rc.fn (Ev_name (v := .ref 6) (by rfl)) (by rfl) (by rfl) Es_nil h2') (As_name (by rfl))) Xs_nil)) Xs_nil)) (Xs_cons (Ex_aug (v1 := .str (mkS tok)) (v := .str (mkS (tok ++ cs.take 1))) (by rfl) (Ev_name (v := .str (mkS (cs.take 1))) (by rfl)) (by rw [← mkS_app]; exact .addS _ _ (by rw [mkS_len, mkS_len]; walk_at "o")) (by rfl)) Xs_nil), .cons (by rfl) (.cons (by rfl) (.cons (by rfl) .nil))⟩
    · rw [if_neg h2]
      conv in gW => whnf
      exact ⟨(Str.ofString "token", .str (mkS (tok ++ [c]))) :: chV [c] :: gV tok i, Xs_cons (Ex_if (b := false) (J.eqb (Ts_cmp (Ev_name (v := .str (mkS [c])) (by rfl)) (Ev_attr N (v := .str wsS) (Ev_name (v := .ref 6) (by rfl)) (by rfl) (by rfl)) (.inS c wsS)) h) (Xs_cons (Ex_if (b := false) (J.eqb (Ts_cmp (Ev_name (v := .str (mkS [c])) (by rfl)) Ev_str (.eqS _ _)) ((is_sign c 92).trans (decide_eq_false h2))) Xs_nil) Xs_nil)) (Xs_cons (Ex_aug (v1 := .str (mkS tok)) (v := .str (mkS (tok ++ [c]))) (by rfl) (Ev_name (v := .str (mkS [c])) (by rfl)) (by rw [← mkS_app]; exact .addS _ _ (by rw [mkS_len, mkS_len]; simp; walk_at "o")) (by rfl)) Xs_nil), .cons (by rfl) (.cons (by rfl) (.cons (by rfl) .nil))⟩
end
end Mine

namespace Mine
section
variable {B : Base} {n : Nat} {ce : CEnv} {st st1 st2 st3 : LSt} {v : CV}
theorem as_gQ : AsJ B n gce gQt st v (st.set (Str.ofString "ch") v) := by
  conv in gQt => whnf
  exact As_name (by rfl)
theorem as_gW : AsJ B n gce gWt st v (st.set (Str.ofString "ch") v) := by
  conv in gWt => whnf
  exact As_name (by rfl)
noncomputable abbrev gT : Expr := inForT (mBody 2) 3
theorem as_gT : AsJ B n gce gT st v (st.set (Str.ofString "ch") v) := by
  conv in gT => whnf
  exact As_name (by rfl)
theorem vs_ch {tok : List Nat} {i c : Nat} {l0 : List (Str × CV)} (h : VSub (gV tok i) l0) : VSub (chV [c] :: gV tok i) ((Str.ofString "ch", .str (mkS [c])) :: l0) := h.over (by rfl)
theorem q_loop (N : NetC B) (F : NetF B) (G : List CO) : ∀ (k : Nat) (cs tok : List Nat) (l : Int) (l0 : List (Str × CV)), cs.length ≤ k → tok.length + cs.length ≤ 80000 → VSub (gV tok (G.length + 8)) l0 →
    ∃ fl l1 q, ForC B (n + 3) gce (G.length + 8) gQt gQ ⟨l0, lexSto l cs (G ++ [.citer 6 98 false])⟩ fl ⟨l1, lexSto (lexQ cs tok l).2.1 (lexQ cs tok l).2.2 (G ++ [.citer 6 98 q])⟩ ∧ VSub (gV (lexQ cs tok l).1 (G.length + 8)) l1 ∧ (fl = .ret (.str (mkS (lexQ cs tok l).1)) ∨ (fl = .nxt ∧ q = true)) := by
  intro k
  induction k with
  | zero =>
    intro cs tok l l0 hk hl hv
    obtain rfl : cs = [] := List.length_eq_zero_iff.mp (by walk_at "o")
    rw [lexQ]
    exact ⟨.nxt, l0, true, .stop (draw_end N F l G l0), hv, .inr ⟨rfl, rfl⟩⟩
  | succ k ih =>
    intro cs tok l l0 hk hl hv
    cases cs with
    | nil =>
      rw [lexQ]
      exact ⟨.nxt, l0, true, .stop (draw_end N F l G l0), hv, .inr ⟨rfl, rfl⟩⟩
    | cons c cs =>
      simp only [List.length_cons] at hk hl
      have d := draw_sign (B := B) (n := n) (ce := gce) N F c cs (by simp; walk_at "o") l G l0
      have tn := q_turn (B := B) (n := n) N F c cs tok (nlx l (c :: cs)) (G ++ [.citer 6 98 false]) (G.length + 8) (by simp; walk_at "o")
      rw [lexQ]
      by_cases h : c = 34
      · rw [if_pos h] at tn ⊢
        obtain ⟨l1, a, b⟩ := tn
        exact ⟨_, l1, false, .ret d (lexSto_at _ _ G _) as_gQ (J.pre a (vs_ch hv)), b, .inl rfl⟩
      · rw [if_neg h] at tn ⊢
        by_cases h2 : c = 92
        · rw [if_pos h2] at tn ⊢
          obtain ⟨l1, a, b⟩ := tn
          have ht : (cs.take 1).length ≤ 1 := by rw [List.length_take]; walk_at "o"
          have ht2 : (cs.take 1).length + cs.tail.length = cs.length := by cases cs <;> simp; walk_at "o"
          obtain ⟨fl, l2, q, e1, e2, e3⟩ := ih cs.tail (tok ++ cs.take 1) (nlx (nlx l (c :: cs)) cs) l1 (by simp; walk_at "o") (by rw [List.length_append]; walk_at "o") b
          exact ⟨fl, l2, q, .turn d (lexSto_at _ _ G _) as_gQ (J.pre a (vs_ch hv)) (.inl rfl) e1, e2, e3⟩
        · rw [if_neg h2] at tn ⊢
          obtain ⟨l1, a, b⟩ := tn
          obtain ⟨fl, l2, q, e1, e2, e3⟩ := ih cs (tok ++ [c]) (nlx l (c :: cs)) l1 (by walk_at "o") (by simp; walk_at "o") b
          exact ⟨fl, l2, q, .turn d (lexSto_at _ _ G _) as_gQ (J.pre a (vs_ch hv)) (.inl rfl) e1, e2, e3⟩
theorem w_loop (N : NetC B) (F : NetF B) (G : List CO) : ∀ (k : Nat) (cs tok : List Nat) (l : Int) (l0 : List (Str × CV)), cs.length ≤ k → tok.length + cs.length ≤ 80000 → VSub (gV tok (G.length + 8)) l0 →
    ∃ fl l1 q, ForC B (n + 3) gce (G.length + 8) gWt gW ⟨l0, lexSto l cs (G ++ [.citer 6 98 false])⟩ fl ⟨l1, lexSto (lexW cs tok l).2.1 (lexW cs tok l).2.2 (G ++ [.citer 6 98 q])⟩ ∧ VSub (gV (lexW cs tok l).1 (G.length + 8)) l1 ∧ (fl = .ret (.str (mkS (lexW cs tok l).1)) ∨ (fl = .nxt ∧ q = true)) := by
  intro k
  induction k with
  | zero =>
    intro cs tok l l0 hk hl hv
    obtain rfl : cs = [] := List.length_eq_zero_iff.mp (by walk_at "o")
    rw [lexW]
    exact ⟨.nxt, l0, true, .stop (draw_end N F l G l0), hv, .inr ⟨rfl, rfl⟩⟩
  | succ k ih =>
    intro cs tok l l0 hk hl hv
    cases cs with
    | nil =>
      rw [lexW]
      exact ⟨.nxt, l0, true, .stop (draw_end N F l G l0), hv, .inr ⟨rfl, rfl⟩⟩
    | cons c cs =>
      simp only [List.length_cons] at hk hl
      have d := draw_sign (B := B) (n := n) (ce := gce) N F c cs (by simp; walk_at "o") l G l0
      have tn := w_turn (B := B) (n := n) N F c cs tok (nlx l (c :: cs)) (G ++ [.citer 6 98 false]) (G.length + 8) (by simp; walk_at "o")
      rw [lexW]
      by_cases h : isWs c = true
      · rw [if_pos h] at tn ⊢
        obtain ⟨l1, a, b⟩ := tn
        exact ⟨_, l1, false, .ret d (lexSto_at _ _ G _) as_gW (J.pre a (vs_ch hv)), b, .inl rfl⟩
      · rw [if_neg h] at tn ⊢
        by_cases h2 : c = 92
        · rw [if_pos h2] at tn ⊢
          obtain ⟨l1, a, b⟩ := tn
          have ht : (cs.take 1).length ≤ 1 := by rw [List.length_take]; walk_at "o"
          have ht2 : (cs.take 1).length + cs.tail.length = cs.length := by cases cs <;> simp; walk_at "o"
          obtain ⟨fl, l2, q, e1, e2, e3⟩ := ih cs.tail (tok ++ cs.take 1) (nlx (nlx l (c :: cs)) cs) l1 (by simp; walk_at "o") (by rw [List.length_append]; walk_at "o") b
          exact ⟨fl, l2, q, .turn d (lexSto_at _ _ G _) as_gW (J.pre a (vs_ch hv)) (.inl rfl) e1, e2, e3⟩
        · rw [if_neg h2] at tn ⊢
          obtain ⟨l1, a, b⟩ := tn
          obtain ⟨fl, l2, q, e1, e2, e3⟩ := ih cs (tok ++ [c]) (nlx l (c :: cs)) l1 (by walk_at "o") (by simp; walk_at "o") b
          exact ⟨fl, l2, q, .turn d (lexSto_at _ _ G _) as_gW (J.pre a (vs_ch hv)) (.inl rfl) e1, e2, e3⟩
end
end Mine

namespace Mine
section
variable {B : Base} {n : Nat} {ce : CEnv} {st st1 st2 st3 : LSt} {v : CV}
theorem Xs_one {x : Stmt} {f : CFl} (h : ExJ B n ce x st f st1) : XsJ B n ce [x] st f st1 := by
  by_cases e : f = .nxt
  · subst e; exact Xs_cons h Xs_nil
  · exact Xs_stop h e
theorem t_turn (N : NetC B) (F : NetF B) (G : List CO) (c : Nat) (cs : List Nat) (l : Int) (hl : (c :: cs).length ≤ 70000) (hw : isWs c = false) :
    ∃ fl l1 q, XsJ B (n + 3) gce gB ⟨chV [c] :: gV [] (G.length + 8), lexSto (nlx l (c :: cs)) cs (G ++ [.citer 6 98 false])⟩ fl ⟨l1, lexSto (lexT (c :: cs) l).2.1 (lexT (c :: cs) l).2.2 (G ++ [.citer 6 98 q])⟩ ∧ VSub (gV (lexT (c :: cs) l).1 (G.length + 8)) l1 ∧ (fl = .ret (.str (mkS (lexT (c :: cs) l).1)) ∨ (fl = .nxt ∧ q = true)) := by
  simp only [List.length_cons] at hl
  rw [lexT, if_neg (by simp [hw])]
  by_cases h : c = 34
  · rw [if_pos h]
    obtain ⟨fl, l1, q, e1, e2, e3⟩ := q_loop (B := B) (n := n) N F G _ cs [] (nlx l (c :: cs)) (chV [c] :: gV [] (G.length + 8)) (Nat.le_refl _) (by simp; walk_at "o") (.cons (by rfl) (.cons (by rfl) (.cons (by rfl) .nil)))
    refine ⟨fl, l1, q, ?_, e2, e3⟩
    conv in gB => whnf
    conv at e1 in gQt => whnf
    conv at e1 in gQ => whnf
    exact Xs_cons (Ex_if (b := false) (J.eqb (Ts_cmp (Ev_name (v := .str (mkS [c])) (by rfl)) (Ev_attr N (v := .str wsS) (Ev_name (v := .ref 6) (by rfl)) (by rfl) (by rfl)) (.inS c wsS)) hw) Xs_nil) (Xs_one (Ex_if (b := true) (J.eqb (Ts_cmp (Ev_name (v := .str (mkS [c])) (by rfl)) Ev_str (.eqS _ _)) ((is_sign c 34).trans (decide_eq_true h))) (Xs_one (Ex_forC (Ev_name (v := .ref (G.length + 8)) (by rfl)) (lexSto_at _ _ G _) e1))))
  · rw [if_neg h]
    by_cases h2 : c = 92
    · rw [if_pos h2]
      have ht : (cs.take 1).length ≤ 1 := by rw [List.length_take]; walk_at "o"
      have ht2 : (cs.take 1).length + cs.tail.length = cs.length := by cases cs <;> simp; walk_at "o"
      have h2' := ca_rc (B := B) (n := n + 1) (ce := gce) N F cs (by walk_at "o") (nlx l (c :: cs)) (G ++ [.citer 6 98 false]) (chV [c] :: gV [] (G.length + 8))
      obtain ⟨fl, l1, q, e1, e2, e3⟩ := w_loop (B := B) (n := n) N F G _ cs.tail (cs.take 1) (nlx (nlx l (c :: cs)) cs) ((Str.ofString "token", .str (mkS (cs.take 1))) :: chV (cs.take 1) :: chV [c] :: gV [] (G.length + 8)) (Nat.le_refl _) (by walk_at "o") (.cons (by rfl) (.cons (by rfl) (.cons (by rfl) .nil)))
      refine ⟨fl, l1, q, ?_, e2, e3⟩
      conv in gB => whnf
      conv at e1 in gWt => whnf
      conv at e1 in gW => whnf
      exact Xs_cons (Ex_if (b := false) (J.eqb (Ts_cmp (Ev_name (v := .str (mkS [c])) (by rfl)) (Ev_attr N (v := .str wsS) (Ev_name (v := .ref 6) (by rfl)) (by rfl) (by rfl)) (.inS c wsS)) hw) Xs_nil) (Xs_one (Ex_if (b := false) (J.eqb (Ts_cmp (Ev_name (v := .str (mkS [c])) (by rfl)) Ev_str (.eqS _ _)) ((is_sign c 34).trans (decide_eq_false h)))
        (Xs_cons (Ex_if (b := true) (J.eqb (Ts_cmp (Ev_name (v := .str (mkS [c])) (by rfl)) Ev_str (.eqS _ _)) ((is_sign c 92).trans (decide_eq_true h2))) (Xs_cons (Ex_assign (Ev_methI N N.rc N.f98 F.rc.fn (Ev_name (v := .ref 6) (by rfl)) (by rfl) (by rfl) Es_nil h2') (As_name (by rfl))) Xs_nil))
        (Xs_cons (Ex_aug (v1 := .str (mkS [])) (v := .str (mkS ([] ++ cs.take 1))) (by rfl) (Ev_name (v := .str (mkS (cs.take 1))) (by rfl)) (by rw [← mkS_app]; exact .addS _ _ (by rw [mkS_len, mkS_len]; simp only [List.length_nil]; walk_at "o")) (by rfl)) (Xs_one (Ex_forC (Ev_name (v := .ref (G.length + 8)) (by rfl)) (lexSto_at _ _ G _) e1))))))
    · rw [if_neg h2]
      obtain ⟨fl, l1, q, e1, e2, e3⟩ := w_loop (B := B) (n := n) N F G _ cs [c] (nlx l (c :: cs)) ((Str.ofString "token", .str (mkS [c])) :: chV [c] :: gV [] (G.length + 8)) (Nat.le_refl _) (by simp; walk_at "o") (.cons (by rfl) (.cons (by rfl) (.cons (by rfl) .nil)))
      refine ⟨fl, l1, q, ?_, e2, e3⟩
      conv in gB => whnf
      conv at e1 in gWt => whnf
      conv at e1 in gW => whnf
      exact Xs_cons (Ex_if (b := false) (J.eqb (Ts_cmp (Ev_name (v := .str (mkS [c])) (by rfl)) (Ev_attr N (v := .str wsS) (Ev_name (v := .ref 6) (by rfl)) (by rfl) (by rfl)) (.inS c wsS)) hw) Xs_nil) (Xs_one (Ex_if (b := false) (J.eqb (Ts_cmp (Ev_name (v := .str (mkS [c])) (by rfl)) Ev_str (.eqS _ _)) ((is_sign c 34).trans (decide_eq_false h)))
        (Xs_cons (Ex_if (b := false) (J.eqb (Ts_cmp (Ev_name (v := .str (mkS [c])) (by rfl)) Ev_str (.eqS _ _)) ((is_sign c 92).trans (decide_eq_false h2))) Xs_nil)
        (Xs_cons (Ex_aug (v1 := .str (mkS [])) (v := .str (mkS ([] ++ [c]))) (by rfl) (Ev_name (v := .str (mkS [c])) (by rfl)) (by rw [← mkS_app]; exact .addS _ _ (by rw [mkS_len, mkS_len]; simp)) (by rfl)) (Xs_one (Ex_forC (Ev_name (v := .ref (G.length + 8)) (by rfl)) (lexSto_at _ _ G _) e1))))))
theorem t_ws (N : NetC B) (F : NetF B) (G : List CO) (c : Nat) (l : Int) (cs : List Nat) (hw : isWs c = true) : XsJ B (n + 3) gce gB ⟨chV [c] :: gV [] (G.length + 8), lexSto l cs (G ++ [.citer 6 98 false])⟩ .cnt ⟨chV [c] :: gV [] (G.length + 8), lexSto l cs (G ++ [.citer 6 98 false])⟩ := by
  conv in gB => whnf
  exact Xs_stop (Ex_if (b := true) (J.eqb (Ts_cmp (Ev_name (v := .str (mkS [c])) (by rfl)) (Ev_attr N (v := .str wsS) (Ev_name (v := .ref 6) (by rfl)) (by rfl) (by rfl)) (.inS c wsS)) hw) (Xs_stop Ex_continue (by simp))) (by simp)
theorem t_loop (N : NetC B) (F : NetF B) (G : List CO) : ∀ (cs : List Nat) (l : Int) (l0 : List (Str × CV)), cs.length ≤ 70000 → VSub (gV [] (G.length + 8)) l0 →
    ∃ fl l1 q, ForC B (n + 3) gce (G.length + 8) gT gB ⟨l0, lexSto l cs (G ++ [.citer 6 98 false])⟩ fl ⟨l1, lexSto (lexT cs l).2.1 (lexT cs l).2.2 (G ++ [.citer 6 98 q])⟩ ∧ VSub (gV (lexT cs l).1 (G.length + 8)) l1 ∧ (fl = .ret (.str (mkS (lexT cs l).1)) ∨ fl = .nxt)
  | [], l, l0, _, hv => ⟨.nxt, l0, true, .stop (draw_end N F l G l0), hv, .inr rfl⟩
  | c :: cs, l, l0, hl, hv => by
    have d := draw_sign (B := B) (n := n) (ce := gce) N F c cs (by simp at hl ⊢; walk_at "o") l G l0
    by_cases hw : isWs c = true
    · obtain ⟨fl, l2, q, e1, e2, e3⟩ := t_loop N F G cs (nlx l (c :: cs)) (chV [c] :: gV [] (G.length + 8)) (by simp at hl; walk_at "o") (.cons (by rfl) (.cons (by rfl) (.cons (by rfl) .nil)))
      rw [lexT, if_pos hw]
      exact ⟨fl, l2, q, .turn d (lexSto_at _ _ G _) as_gT (J.pre (t_ws (n := n) N F G c (nlx l (c :: cs)) cs hw) (vs_ch hv)) (.inr rfl) e1, e2, e3⟩
    · obtain ⟨fl, l1, q, a, b, e⟩ := t_turn (B := B) (n := n) N F G c cs l hl (by simpa using hw)
      rcases e with rfl | ⟨rfl, rfl⟩
      · exact ⟨_, l1, q, .ret d (lexSto_at _ _ G _) as_gT (J.pre a (vs_ch hv)), b, .inl rfl⟩
      · exact ⟨_, l1, true, .turn d (lexSto_at _ _ G _) as_gT (J.pre a (vs_ch hv)) (.inl rfl) (.stop (draw_over _ _ G _)), b, .inr rfl⟩
/-- get_token, when nothing was pushed back -/
theorem ca_gett (N : NetC B) (F : NetF B) (cs : List Nat) (l : Int) (G : List CO) (hl : cs.length ≤ 70000) (vars : List (Str × CV)) : ∃ q, CaJ B (n + 4) ce (.ref 105) [.ref 6] ⟨vars, lexSto l cs G⟩ (.str (mkS (lexT cs l).1)) ⟨vars, lexSto (lexT cs l).2.1 (lexT cs l).2.2 (G ++ [.citer 6 98 q])⟩ := by
  obtain ⟨fl, l1, q, a, b, e⟩ := t_loop (B := B) (n := n) N F G cs l ((Str.ofString "fiter", .ref (G.length + 8)) :: (Str.ofString "token", .str (mkS [])) :: [(Str.ofString "self", .ref 6)]) hl (.cons (by rfl) (.cons (by rfl) (.cons (by rfl) .nil)))
  conv at a in gT => whnf
  conv at a in gB => whnf
  have key : ∃ l2, XsJ B (n + 3) ⟨mScope 2, []⟩ (mBody 2) ⟨[(Str.ofString "self", .ref 6)], lexSto l cs G⟩ (.ret (.str (mkS (lexT cs l).1))) ⟨l2, lexSto (lexT cs l).2.1 (lexT cs l).2.2 (G ++ [.citer 6 98 q])⟩ := by
    conv in (mBody 2) => whnf
    refine ⟨l1, Xs_cons (Ex_if (b := false) (Ts_plain (Ev_attr N (v := .ref 7) (Ev_name (v := .ref 6) (by rfl)) (by rfl) (by rfl)) (.list (vs := []) (by rfl) (by decide))) Xs_nil) (Xs_cons (Ex_assign Ev_str (As_name (by rfl))) (Xs_cons (Ex_assign (v := .ref (G.length + 8)) (Ev_callB (Ev_name (by rfl)) (Es_cons (Ev_bound N (attrs := netAttrs l (.ref 3) 7) (Ev_name (v := .ref 6) (by rfl)) (by rfl) (by rfl)) (Es_cons Ev_str Es_nil)) ca_iter) (As_name (by rfl))) ?_))⟩
    rcases e with rfl | rfl
    · exact Xs_stop (Ex_forC (Ev_name (v := .ref (G.length + 8)) (by rfl)) (lexSto_at _ _ G _) a) (by simp)
    · exact Xs_cons (Ex_forC (Ev_name (v := .ref (G.length + 8)) (by rfl)) (lexSto_at _ _ G _) a) (Xs_stop (Ex_ret (Ev_name (v := .str (mkS (lexT cs l).1)) (b.ok (by rfl)))) (by simp))
  obtain ⟨l2, h⟩ := key
  exact ⟨q, CaJ.mkG (ce := ce) (st := ⟨vars, lexSto l cs G⟩) (f := .ret (.str (mkS (lexT cs l).1))) (vs := [.ref 6]) F.gt (.mk' (by decide +kernel)) (by rfl) rfl h⟩
end
end Mine

namespace Mine
/-! the tree with its written pieces -/
noncomputable def mkFm : Tr → List (List Atom) → Fm
  | .leaf x, as => .leaf x (as.headD [])
  | .node s l r, as => .node (s == amp) (mkFm l (as.take l.size)) (mkFm r (as.drop l.size))
noncomputable def sgOk (t : Tr) : Prop := ∀ s ∈ t.signs, s = amp ∨ s = vbar
theorem sgOk.l {s : Str} {l r : Tr} (h : sgOk (.node s l r)) : sgOk l := fun x hx => h x (by simp [Tr.signs, hx])
theorem sgOk.r {s : Str} {l r : Tr} (h : sgOk (.node s l r)) : sgOk r := fun x hx => h x (by simp [Tr.signs, hx])
theorem sgOk.s {s : Str} {l r : Tr} (h : sgOk (.node s l r)) : s = mkS [opc (s == amp)] := by
  rcases h s (by simp [Tr.signs]) with rfl | rfl <;> rfl
theorem mk_size : ∀ (t : Tr) (as : List (List Atom)), (mkFm t as).size = t.size
  | .leaf _, _ => rfl
  | .node s l r, as => by simp only [mkFm, Fm.size, Tr.size, mk_size l, mk_size r]
theorem mk_row : ∀ (t : Tr) (as : List (List Atom)), as.length = t.size → sgOk t → rowOf t (as.map fun a => mkS (txt a)) = (pcs (mkFm t as).ats).map mkS
  | .leaf x, as, h, _ => by
    simp only [Tr.size] at h
    match as, h with
    | [a], _ => simp [rowOf, mkFm, Fm.ats]
  | .node s l r, as, h, hs => by
    simp only [Tr.size] at h
    have h1 := mk_row l (as.take l.size) (by rw [List.length_take]; walk_at "o") hs.l
    have h2 := mk_row r (as.drop l.size) (by rw [List.length_drop]; walk_at "o") hs.r
    simp only [rowOf, mkFm, Fm.ats, ← List.map_take, ← List.map_drop, h1, h2, List.map_append]
    have e := hs.s
    have e1 : (pcs [[Atom.ch (opc (s == amp))]]).map mkS = [s] := by
      show [mkS [opc (s == amp)]] = [s]
      rw [← e]
    rw [e1]; rfl
theorem mk_toks : ∀ (t : Tr) (as : List (List Atom)), sgOk t → rowOf t (t.leaves.map fun x => mkS [97 + x]) = (mkFm t as).toks.map fun c => mkS [c]
  | .leaf x, as, _ => rfl
  | .node s l r, as, hs => by
    have h1 := mk_toks l (as.take l.size) hs.l
    have h2 := mk_toks r (as.drop l.size) hs.r
    have e := hs.s
    have t1 : (l.leaves.map fun x => mkS [97 + x]).length = l.size := by rw [List.length_map, l.leaves_len]
    simp only [rowOf, Tr.leaves, mkFm, Fm.toks, List.map_append]
    rw [List.take_append_of_le_length (by walk_at "o"), List.take_of_length_le (by walk_at "o"), List.drop_append_of_le_length (by walk_at "o"), List.drop_of_length_le (by walk_at "o"), List.nil_append, h1, h2]
    have e1 : [opc (s == amp)].map (fun c => mkS [c]) = [s] := by show [mkS [opc (s == amp)]] = _; rw [← e]
    rw [e1]; rfl
noncomputable def piece (a : List Atom) : Bool := a.all Atom.ok && a.all Atom.flat && decide ((txt a).length ≤ 50)
theorem mk_good : ∀ (t : Tr) (as : List (List Atom)), as.length = t.size → (∀ x ∈ t.leaves, x < 4) → (∀ a ∈ as, piece a = true) → (mkFm t as).good = true
  | .leaf x, as, h, hx, ha => by
    simp only [Tr.size] at h
    match as, h, ha with
    | [a], _, ha =>
      have := ha a (.head _)
      unfold piece at this
      have h4 := hx x (by simp [Tr.leaves])
      simp only [mkFm, Fm.good, List.headD_cons]
      simp only [Bool.and_eq_true, decide_eq_true_eq] at this ⊢
      exact ⟨⟨⟨h4, this.1.1⟩, this.1.2⟩, this.2⟩
  | .node s l r, as, h, hx, ha => by
    simp only [Tr.size] at h
    simp only [mkFm, Fm.good, Bool.and_eq_true]
    exact ⟨mk_good l _ (by rw [List.length_take]; walk_at "o") (fun x h => hx x (by simp [Tr.leaves, h])) (fun a h => ha a (List.mem_of_mem_take h)),
      mk_good r _ (by rw [List.length_drop]; walk_at "o") (fun x h => hx x (by simp [Tr.leaves, h])) (fun a h => ha a (List.mem_of_mem_drop h))⟩
/-! values -/
noncomputable abbrev msL : List Nat := [43690, 52428, 61680, 65280]
theorem mk_val : ∀ (t : Tr) (as : List (List Atom)) (c : Nat), c < 16 → (∀ x ∈ t.leaves, x < 4) → ((mkFm t as).val (mAt msL)).testBit c = t.ev c ∧ ((mkFm t as).dual (mAt msL)).testBit c = !t.ev (15 - c)
  | .leaf x, as, c, hc, hx => by
    have h4 := hx x (by simp [Tr.leaves])
    simp only [mkFm, Fm.val, Fm.dual, Tr.ev]
    have key : ∀ x < 4, ∀ c < 16, (mAt msL x).testBit c = c.testBit x ∧ (mAt msL x).testBit c = !(15 - c).testBit x := by decide +kernel
    exact key x h4 c hc
  | .node s l r, as, c, hc, hx => by
    obtain ⟨a1, a2⟩ := mk_val l (as.take l.size) c hc (fun x h => hx x (by simp [Tr.leaves, h]))
    obtain ⟨b1, b2⟩ := mk_val r (as.drop l.size) c hc (fun x h => hx x (by simp [Tr.leaves, h]))
    simp only [mkFm, Fm.val, Fm.dual, Tr.ev]
    cases s == amp
    · simp only [Bool.false_eq_true, if_false, Nat.testBit_or, Nat.testBit_and, a1, a2, b1, b2]; simp
    · simp only [if_true, Nat.testBit_or, Nat.testBit_and, a1, a2, b1, b2]; simp
theorem mk_lt : ∀ (t : Tr) (as : List (List Atom)), (∀ x ∈ t.leaves, x < 4) → (mkFm t as).val (mAt msL) < 2 ^ 16 ∧ (mkFm t as).dual (mAt msL) < 2 ^ 16
  | .leaf x, as, hx => by
    have h4 := hx x (by simp [Tr.leaves])
    simp only [mkFm, Fm.val, Fm.dual]
    have key : ∀ x < 4, mAt msL x < 2 ^ 16 := by decide +kernel
    exact ⟨key x h4, key x h4⟩
  | .node s l r, as, hx => by
    obtain ⟨a1, a2⟩ := mk_lt l (as.take l.size) (fun x h => hx x (by simp [Tr.leaves, h]))
    obtain ⟨b1, b2⟩ := mk_lt r (as.drop l.size) (fun x h => hx x (by simp [Tr.leaves, h]))
    simp only [mkFm, Fm.val, Fm.dual]
    cases s == amp
    · simp only [Bool.false_eq_true, if_false]; exact ⟨Nat.or_lt_two_pow a1 b1, Nat.lt_of_le_of_lt Nat.and_le_left a2⟩
    · simp only [if_true]; exact ⟨Nat.lt_of_le_of_lt Nat.and_le_left a1, Nat.or_lt_two_pow a2 b2⟩
noncomputable def ofB : Nat → (Nat → Bool) → Nat
  | 0, _ => 0
  | k + 1, f => 2 * ofB k (fun i => f (i + 1)) + (f 0).toNat
theorem ofB_bit : ∀ (k : Nat) (f : Nat → Bool) (i : Nat), (ofB k f).testBit i = (decide (i < k) && f i)
  | 0, f, i => by simp [ofB]
  | k + 1, f, 0 => by
    simp only [ofB, Nat.testBit_zero]
    cases f 0 <;> simp <;> walk_at "o"
  | k + 1, f, i + 1 => by
    have h : (2 * ofB k (fun i => f (i + 1)) + (f 0).toNat) / 2 = ofB k (fun i => f (i + 1)) := by cases f 0 <;> simp <;> walk_at "o"
    simp only [ofB, Nat.testBit_succ, h, ofB_bit k]
    simp
/-- the mirror of a number of sixteen bits -/
noncomputable def mir (a : Nat) : Nat := ofB 16 fun i => !a.testBit (15 - i)
theorem mk_mir (t : Tr) (as : List (List Atom)) (h : ∀ x ∈ t.leaves, x < 4) : (mkFm t as).dual (mAt msL) = mir ((mkFm t as).val (mAt msL)) := by
  refine Nat.eq_of_testBit_eq fun i => ?_
  unfold mir
  rw [ofB_bit]
  by_cases hi : i < 16
  · rw [(mk_val t as i hi h).2, (mk_val t as (15 - i) (by walk_at "o") h).1]; simp [hi]
  · have := (mk_lt t as h).2
    rw [Nat.testBit_lt_two_pow (Nat.lt_of_lt_of_le this (Nat.pow_le_pow_right (by decide) (by walk_at "o")))]
    simp [hi]
end Mine

namespace Mine
noncomputable def bitsOf (a : Nat) : List Nat := (List.range 16).map fun i => a / 2 ^ i % 2
noncomputable def usedOf (ways : List Nat) : List Nat := (List.range 4).filter fun k => nearN ways k k
noncomputable def covL (ways : List Nat) : List Nat := (List.range 16).filter fun (c : Nat) => ways.any fun w => decide (Builtin.bitAnd (w : Int) (15 - (c : Int)) = 0)
noncomputable def oneL (a : Nat) : List Nat := (List.range 16).filter fun c => decide (a / 2 ^ c % 2 = 1)
noncomputable def hits (ways cuts : List Nat) : Bool := ways.all fun w => cuts.all fun c => !decide (Builtin.bitAnd (w : Int) (c : Int) = 0)
noncomputable def parse : Nat → List Nat → Option (Fm × List Nat)
  | 0, _ => none
  | _, [] => none
  | f + 1, c :: r => if c = 40 then (match parse f r with
      | some (l, op :: r2) => if op = 38 ∨ op = 124 then (match parse f r2 with
        | some (x, 41 :: r3) => some (.node (op == 38) l x, r3)
        | _ => none) else none
      | _ => none)
    else if 97 ≤ c ∧ c < 101 then some (.leaf (c - 97) [.ch c], r) else none
noncomputable def plainFm (once : List Nat) (t : Fm) : Bool := t.good && decide (t.size ≤ 5) && decide (t.toks = once) && decide (pcs t.ats = once.map fun c => [c])
noncomputable def agree (a : Nat) (once : List Nat) : Option Bool := if once = [] then some false else match parse 20 once with
  | some (t, _) => if plainFm once t then some (decide ([(t.val (mAt msL) : Int), t.dual (mAt msL)] = [(a : Int), (mir a : Nat)])) else none
  | none => none
noncomputable def chk (a : Nat) : Bool := match leastRun (bitsOf a) 100 ⟨[], [15], []⟩, leastRun (bitsOf (mir a)) 100 ⟨[], [15], []⟩ with
  | some ways, some cuts => decide (32768 ≤ a) && decide (32768 ≤ mir a) && !(usedOf ways).isEmpty && decide (usedOf ways = usedOf cuts) && decide (covL ways = oneL a) && hits ways cuts && decide (ways.length ≤ 100) && decide (cuts.length ≤ 100) &&
    (match textOf ways 8 (usedOf ways) with
    | some once => decide (once.length ≤ 100) && (match agree a once with
      | some ag => ((singleL ways cuts).isEmpty == (partL ways cuts (usedOf ways)).isEmpty) && ((partL ways cuts (usedOf ways)).isEmpty == ag)
      | none => false)
    | none => false)
  | _, _ => false
noncomputable def monoL : List Nat := [32768, 32896, 34816, 34944, 34952, 40960, 41088, 41120, 43008, 43136, 43144, 43168, 43176, 43520, 43648, 43656, 43680, 43688, 43690, 49152, 49280, 49344, 51200, 51328, 51336, 51392, 51400, 52224, 52352, 52360, 52416, 52424, 52428, 57344, 57472, 57504, 57536, 57568, 59392, 59520, 59528, 59552, 59560, 59584, 59592, 59616, 59624, 59904, 60032, 60040, 60064, 60072, 60074, 60096, 60104, 60128, 60136, 60138, 60416, 60544, 60552, 60576, 60584, 60608, 60616, 60620, 60640, 60648, 60652, 60928, 61056, 61064, 61088, 61096, 61098, 61120, 61128, 61132, 61152, 61160, 61162, 61164, 61166, 61440, 61568, 61600, 61632, 61664, 61680, 63488, 63616, 63624, 63648, 63656, 63680, 63688, 63712, 63720, 63728, 63736, 64000, 64128, 64136, 64160, 64168, 64170, 64192, 64200, 64224, 64232, 64234, 64240, 64248, 64250, 64512, 64640, 64648, 64672, 64680, 64704, 64712, 64716, 64736, 64744, 64748, 64752, 64760, 64764, 65024, 65152, 65160, 65184, 65192, 65194, 65216, 65224, 65228, 65248, 65256, 65258, 65260, 65262, 65264, 65272, 65274, 65276, 65278, 65280, 65408, 65416, 65440, 65448, 65450, 65472, 65480, 65484, 65504, 65512, 65514, 65516, 65518, 65520, 65528, 65530, 65532, 65534]
noncomputable def setOf (l : List Nat) : Nat := l.foldl (fun acc a => acc ||| 2 ^ a) 0
theorem setOf_bit (l : List Nat) : ∀ (acc n : Nat), (l.foldl (fun acc a => acc ||| 2 ^ a) acc).testBit n = true → acc.testBit n = true ∨ n ∈ l := by
  induction l with
  | nil => intro acc n h; exact .inl h
  | cons a l ih =>
    intro acc n h
    rcases ih _ _ h with h | h
    · rw [Nat.testBit_or, Nat.testBit_two_pow, Bool.or_eq_true, decide_eq_true_eq] at h
      rcases h with h | rfl
      · exact .inl h
      · exact .inr (.head _)
    · exact .inr (.tail _ h)
noncomputable def closed (S : Nat) (l : List Nat) : Bool := l.all fun a => l.all fun b => S.testBit (a &&& b) && S.testBit (a ||| b)
theorem mono_closed : closed (setOf monoL) monoL = true := by decide +kernel
theorem mono_op {a b : Nat} (ha : a ∈ monoL) (hb : b ∈ monoL) : (a &&& b) ∈ monoL ∧ (a ||| b) ∈ monoL := by
  have h := mono_closed
  unfold closed at h
  have h := List.all_eq_true.mp (List.all_eq_true.mp h a ha) b hb
  rw [Bool.and_eq_true] at h
  refine ⟨?_, ?_⟩
  · rcases setOf_bit monoL 0 _ h.1 with h | h
    · simp at h
    · exact h
  · rcases setOf_bit monoL 0 _ h.2 with h | h
    · simp at h
    · exact h
theorem mk_mono : ∀ (t : Tr) (as : List (List Atom)), (∀ x ∈ t.leaves, x < 4) → (mkFm t as).val (mAt msL) ∈ monoL
  | .leaf x, as, hx => by
    have h4 := hx x (by simp [Tr.leaves])
    have key : ∀ x < 4, mAt msL x ∈ monoL := by decide +kernel
    exact key x h4
  | .node s l r, as, hx => by
    have h1 := mk_mono l (as.take l.size) (fun x h => hx x (by simp [Tr.leaves, h]))
    have h2 := mk_mono r (as.drop l.size) (fun x h => hx x (by simp [Tr.leaves, h]))
    simp only [mkFm, Fm.val]
    split
    · exact (mono_op h1 h2).1
    · exact (mono_op h1 h2).2
theorem chk_all : monoL.all chk = true := by decide +kernel
theorem mk_chk (t : Tr) (as : List (List Atom)) (h : ∀ x ∈ t.leaves, x < 4) : chk ((mkFm t as).val (mAt msL)) = true := List.all_eq_true.mp chk_all _ (mk_mono t as h)
end Mine

namespace Mine
/-! what the lexer reads of the text -/
theorem nlx_cons (l : Int) (c : Nat) (cs : List Nat) : nlx l (c :: cs) = l + ([c].count 10 : Nat) := by
  unfold nlx
  by_cases h : c = 10
  · simp [h]
  · simp [h]
theorem cnt_cons (c : Nat) (cs : List Nat) : (c :: cs).count 10 = [c].count 10 + cs.count 10 := by
  rw [show c :: cs = [c] ++ cs from rfl, List.count_append]
theorem lexQ_spell (W : List Nat) (rest : List Nat) : ∀ (w tok : List Nat) (l : Int), lexQ (w.flatMap (spSign W 0) ++ 34 :: rest) tok l = (tok ++ w, l + (w.count 10 : Nat), rest)
  | [], tok, l => by
    show lexQ (34 :: rest) tok l = _
    rw [lexQ, if_pos rfl, nlx_cons]; simp
  | c :: w, tok, l => by
    have ih := lexQ_spell W rest w
    rw [List.flatMap_cons, List.append_assoc]
    by_cases h : c ∈ [92, 34]
    · have e : spSign W 0 c = [92, c] := by unfold spSign spEsc; simp [h]
      rw [e]
      show lexQ (92 :: c :: (w.flatMap (spSign W 0) ++ 34 :: rest)) tok l = _
      rw [lexQ, if_neg (by decide), if_pos rfl, List.tail_cons, List.take_succ_cons, List.take_zero, ih, nlx_cons, nlx_cons, cnt_cons c w]
      simp; walk_at "o"
    · have e : spSign W 0 c = [c] := by unfold spSign spEsc; simp [h]
      simp at h
      rw [e]
      show lexQ (c :: (w.flatMap (spSign W 0) ++ 34 :: rest)) tok l = _
      rw [lexQ, if_neg h.2, if_neg h.1, ih, nlx_cons, cnt_cons c w]
      simp; walk_at "o"
theorem lexW_spell (W : List Nat) (m g : Nat) (hg : isWs g = true) (rest : List Nat) : ∀ (w tok : List Nat) (l : Int), (∀ c ∈ w, c ∈ spEsc W m ∨ (isWs c = false ∧ c ≠ 92)) → lexW (w.flatMap (spSign W m) ++ g :: rest) tok l = (tok ++ w, l + ((w ++ [g]).count 10 : Nat), rest)
  | [], tok, l, _ => by
    show lexW (g :: rest) tok l = _
    rw [lexW, if_pos hg, nlx_cons]; simp
  | c :: w, tok, l, hw => by
    have ih := fun tok l => lexW_spell W m g hg rest w tok l fun c hc => hw c (.tail _ hc)
    rw [List.flatMap_cons, List.append_assoc]
    by_cases h : c ∈ spEsc W m
    · have e : spSign W m c = [92, c] := by unfold spSign; simp [h]
      rw [e]
      show lexW (92 :: c :: (w.flatMap (spSign W m) ++ g :: rest)) tok l = _
      rw [lexW, if_neg (by decide), if_pos rfl, List.tail_cons, List.take_succ_cons, List.take_zero, ih, nlx_cons, nlx_cons, List.cons_append, cnt_cons c (w ++ [g])]
      simp; walk_at "o"
    · have e : spSign W m c = [c] := by unfold spSign; simp [h]
      have h2 := (hw c (.head _)).resolve_left h
      rw [e]
      show lexW (c :: (w.flatMap (spSign W m) ++ g :: rest)) tok l = _
      rw [lexW, if_neg (by simp [h2.1]), if_neg h2.2, ih, nlx_cons, List.cons_append, cnt_cons c (w ++ [g])]
      simp; walk_at "o"
noncomputable abbrev gapOf (m gi : Nat) : List Nat := if m = 0 then [] else [[10, 9, 13, 32].getD gi 0]
noncomputable abbrev lawText (w : List Nat) (m gi : Nat) : List Nat := [13, 9, 32, 10] ++ spell w m ++ gapOf m gi ++ [101, 110, 100]
theorem lexT_law (w : List Nat) (m gi : Nat) (hm : m < 3) (hgi : gi < 4) (w1 : List Nat) (hw : w = 40 :: w1) (hc : ∀ c ∈ w, c ≠ 9 ∧ c ≠ 13) :
    lexT (lawText w m gi) 1 = (w, (2 : Int) + (w.count 10 : Nat) + ((gapOf m gi).count 10 : Nat), [101, 110, 100]) := by
  have h4 : ∀ r, lexT (13 :: 9 :: 32 :: 10 :: r) 1 = lexT r 2 := fun r => by
    have a : isWs 13 = true := by decide
    have b : isWs 9 = true := by decide
    have c : isWs 32 = true := by decide
    have d : isWs 10 = true := by decide
    rw [lexT, if_pos a, lexT, if_pos b, lexT, if_pos c, lexT, if_pos d, nlx_cons, nlx_cons, nlx_cons, nlx_cons]
    simp
  have eL : lawText w m gi = 13 :: 9 :: 32 :: 10 :: (spell w m ++ gapOf m gi ++ [101, 110, 100]) := by simp [lawText]
  rw [eL, h4]
  rcases (show m = 0 ∨ m ≠ 0 by walk_at "o") with rfl | h0
  · have e : spell w 0 ++ gapOf 0 gi ++ [101, 110, 100] = 34 :: (w.flatMap (spSign w 0) ++ 34 :: [101, 110, 100]) := by simp [spell, spMark, gapOf]
    rw [e, lexT, if_neg (by decide), if_pos rfl, lexQ_spell, nlx_cons]
    simp [gapOf]
  · obtain ⟨g, hg, hg2⟩ : ∃ g, gapOf m gi = [g] ∧ isWs g = true := by
      refine ⟨_, by rw [gapOf, if_neg h0], ?_⟩
      rcases (show gi = 0 ∨ gi = 1 ∨ gi = 2 ∨ gi = 3 by walk_at "o") with rfl | rfl | rfl | rfl <;> decide
    have e : spell w m ++ gapOf m gi ++ [101, 110, 100] = w.flatMap (spSign w m) ++ g :: [101, 110, 100] := by rw [hg]; simp [spell, spMark, h0]
    have hmem : ∀ c ∈ w1, c ∈ spEsc w m ∨ (isWs c = false ∧ c ≠ 92) := fun c hcw => by
      have hcw' : c ∈ w := by rw [hw]; exact .tail _ hcw
      rcases (show m = 1 ∨ m = 2 by walk_at "o") with rfl | rfl
      · have h9 := hc c hcw'
        by_cases q : c = 92 ∨ c = 32 ∨ c = 10
        · left; unfold spEsc; simp; walk_at "o"
        · right
          have hn : isWs c = false := by
            unfold isWs
            rw [decide_eq_false_iff_not]
            intro hh
            have hh' : c ∈ [10, 9, 13, 32] := hh
            simp at hh'; walk_at "o"
          exact ⟨hn, by walk_at "o"⟩
      · left; unfold spEsc; simpa using hcw'
    have e2 : w.flatMap (spSign w m) = spSign w m 40 ++ w1.flatMap (spSign w m) := by
      conv => lhs; arg 2; rw [hw]
      rw [List.flatMap_cons]
    rw [e, e2, List.append_assoc, hg]
    have hcount : w.count 10 = w1.count 10 := by rw [hw]; simp
    by_cases h : (40 : Nat) ∈ spEsc w m
    · have e3 : spSign w m 40 = [92, 40] := by unfold spSign; simp [h]
      rw [e3]
      show lexT (92 :: 40 :: (w1.flatMap (spSign w m) ++ g :: [101, 110, 100])) 2 = _
      rw [lexT, if_neg (by decide), if_neg (by decide), if_pos rfl, List.tail_cons, List.take_succ_cons, List.take_zero, lexW_spell w m g hg2 _ _ _ _ hmem, nlx_cons, nlx_cons, hcount, List.count_append]
      rw [hw]
      simp; walk_at "o"
    · have e3 : spSign w m 40 = [40] := by unfold spSign; simp [h]
      rw [e3]
      show lexT (40 :: (w1.flatMap (spSign w m) ++ g :: [101, 110, 100])) 2 = _
      rw [lexT, if_neg (by decide), if_neg (by decide), if_neg (by decide), lexW_spell w m g hg2 _ _ _ _ hmem, nlx_cons, hcount, List.count_append]
      rw [hw]
      simp; walk_at "o"
theorem lexT_end (l : Int) : lexT [101, 110, 100] l = ([101, 110, 100], l, []) := by
  rw [lexT, if_neg (by decide), if_neg (by decide), if_neg (by decide), lexW, if_neg (by decide), if_neg (by decide), lexW, if_neg (by decide), if_neg (by decide), lexW, nlx_cons, nlx_cons, nlx_cons]
  simp
theorem spell_count (w : List Nat) (m : Nat) (hm : m < 3) : (spell w m).count 10 = w.count 10 := by
  have hmk : (spMark m).count 10 = 0 := by unfold spMark; split <;> simp
  have hf : ∀ v : List Nat, (v.flatMap (spSign w m)).count 10 = v.count 10 := fun v => by
    induction v with
    | nil => rfl
    | cons c v ih =>
      rw [List.flatMap_cons, List.count_append, ih, cnt_cons c v]
      congr 1
      unfold spSign
      split <;> simp
  unfold spell
  rw [List.count_append, List.count_append, hmk, hf]; simp
theorem law_count (w : List Nat) (m gi : Nat) (hm : m < 3) : (lawText w m gi).count 10 = 1 + w.count 10 + (gapOf m gi).count 10 := by
  unfold lawText
  rw [List.count_append, List.count_append, List.count_append, spell_count w m hm]
  simp [gapOf]
open PySem.Builtin.Str in
theorem occ_single (l : List Nat) (c : Nat) : (occurrences (mkS l) (mkS [c]) 0 (mkS l).length ((mkS l).length + 1)).length = l.count c := by
  rw [StrLaws.occ_eq, Array.length_toList, mkS_len]
  have key : ∀ (n i free : Nat) (found : Array Nat), i + n = l.length + 1 → found.size ≤ i → free ≤ i → (forIn (m := Id) (List.range' i n) (found, free) (StrLaws.occBody (mkS l) (mkS [c]) l.length (l.length + 1))).run.fst.size = found.size + (l.drop i).count c := by
    intro n
    induction n with
    | zero =>
      intro i free found h1 h2 h3
      rw [List.drop_of_length_le (by walk_at "o")]
      rfl
    | succ n ih =>
      intro i free found h1 h2 h3
      have hsub := StrLaws.subAt_one (mkS l) c i
      rw [mkS_len] at hsub
      have ecps : (mkS l).cps.toList = l := rfl
      rw [ecps] at hsub
      rw [List.range'_succ, List.forIn_cons]
      unfold StrLaws.occBody
      by_cases hc : l[i]? = some c
      · have h4 := hsub.mpr hc
        obtain ⟨hi, hic⟩ := List.getElem?_eq_some_iff.mp hc
        rw [if_pos ⟨⟨⟨by show found.size < _; walk_at "o", h3⟩, h4.1⟩, h4.2⟩]
        have := ih (i + 1) (i + (⟨#[c]⟩ : Str).length) (found.push i) (by walk_at "o") (by rw [Array.size_push]; walk_at "o") (Nat.le_refl _)
        refine Eq.trans this ?_
        rw [Array.size_push, List.drop_eq_getElem_cons hi, hic]
        simp; walk_at "o"
      · rw [if_neg (fun h => hc (hsub.mp ⟨h.1.2, h.2⟩))]
        have := ih (i + 1) free found (by walk_at "o") (by walk_at "o") (by walk_at "o")
        refine Eq.trans this ?_
        congr 1
        rcases Nat.lt_or_ge i l.length with hi | hi
        · rw [List.drop_eq_getElem_cons hi, List.count_cons_of_ne]
          intro e
          exact hc (by rw [List.getElem?_eq_getElem hi, e])
        · rw [List.drop_of_length_le hi, List.drop_of_length_le (by walk_at "o")]
  exact (key (l.length + 1) 0 0 #[] (by walk_at "o") (by simp) (by simp)).trans (by simp)
end Mine

namespace Mine
/-! what stays when escapes and quotes are gone -/
noncomputable def chs : List Atom → List Nat
  | [] => []
  | .ch c :: as => c :: chs as
  | _ :: as => chs as
theorem chs_app : ∀ as bs : List Atom, chs (as ++ bs) = chs as ++ chs bs
  | [], bs => rfl
  | .ch c :: as, bs => by simp [chs, chs_app as bs]
  | .pair c :: as, bs => by simp [chs, chs_app as bs]
  | .quo q :: as, bs => by simp [chs, chs_app as bs]
noncomputable def bareT (L : List Nat) (p : Nat × List Nat) : Bool := decide ([L.getD p.1 0] = p.2)
noncomputable def bareL (L : List Nat) : List (List Nat) := ((esc false 0 L).filter (bareT L)).map (·.2)
theorem bare_from (L : List Nat) : ∀ (as : List Atom) (i : Nat), as.all Atom.ok = true → L.drop i = cln as ++ [92] → (((esc false i (cln as ++ [92])).filter (bareT L)).map (·.2)).flatten = chs as ++ [92]
  | [], i, _, h => by
    have e : esc false i (cln [] ++ [92]) = [(i, [92])] := by simp [esc, cln]
    have hL : L.getD i 0 = 92 := by
      have : (L.drop i)[0]? = some 92 := by rw [h]; rfl
      rw [List.getElem?_drop] at this
      rw [List.getD_eq_getElem?_getD]
      simp at this; simp [this]
    rw [e]
    simp only [List.filter_cons, bareT, hL]
    simp [chs]
  | .ch c :: as, i, ho, h => by
    simp only [List.all_cons, Bool.and_eq_true] at ho
    have hc : c ≠ 92 := by have := ho.1; simp [Atom.ok] at this; exact this.2
    have e : esc false i (cln (.ch c :: as) ++ [92]) = (i, [c]) :: esc false (i + 1) (cln as ++ [92]) := by
      show esc false i (c :: (cln as ++ [92])) = _
      simp [esc, hc]
    have h1 : L.drop i = c :: (cln as ++ [92]) := h
    have h2 : L.drop (i + 1) = cln as ++ [92] := by rw [← List.drop_drop, h1]; rfl
    have hL : L.getD i 0 = c := by
      have : (L.drop i)[0]? = some c := by rw [h1]; rfl
      rw [List.getElem?_drop] at this
      rw [List.getD_eq_getElem?_getD]
      simp at this; simp [this]
    have ih := bare_from L as (i + 1) ho.2 h2
    rw [e]
    simp only [List.filter_cons, bareT, hL]
    simp only [decide_true, if_true, List.map_cons, List.flatten_cons, chs]
    rw [ih]
    rfl
  | .pair c :: as, i, ho, h => by
    simp only [List.all_cons, Bool.and_eq_true] at ho
    have e : esc false i (cln (.pair c :: as) ++ [92]) = (i + 1, [92, c]) :: esc false (i + 2) (cln as ++ [92]) := by
      show esc false i (92 :: c :: (cln as ++ [92])) = _
      simp [esc]
    have h1 : L.drop i = 92 :: c :: (cln as ++ [92]) := h
    have h2 : L.drop (i + 2) = cln as ++ [92] := by rw [← List.drop_drop, h1]; rfl
    have ih := bare_from L as (i + 2) ho.2 h2
    rw [e, List.filter_cons, if_neg (by simp [bareT]), ih]
    rfl
  | .quo q :: as, i, ho, h => by
    simp only [List.all_cons, Bool.and_eq_true] at ho
    exact bare_from L as i ho.2 h
theorem bare_atoms (as : List Atom) (h : as.all Atom.ok = true) : (bareL (cln as ++ [92])).flatten = chs as ++ [92] := bare_from _ as 0 h rfl
theorem mk_chs : ∀ (t : Tr) (as : List (List Atom)), as.map chs = t.leaves.map (fun x => [97 + x]) → chs (mkFm t as).ats.flatten = (mkFm t as).toks
  | .leaf x, as, h => by
    obtain ⟨a, rfl⟩ := List.length_eq_one_iff.mp (show as.length = 1 by have := congrArg List.length h; simpa [Tr.leaves] using this)
    simp [Tr.leaves] at h
    simp [mkFm, Fm.ats, Fm.toks, h]
  | .node s l r, as, h => by
    simp only [Tr.leaves, List.map_append] at h
    have hl : (l.leaves.map fun x => [97 + x]).length = l.size := by rw [List.length_map, l.leaves_len]
    have h1 := mk_chs l (as.take l.size) (by rw [List.map_take, h, List.take_append_of_le_length (by walk_at "o"), List.take_of_length_le (by walk_at "o")])
    have h2 := mk_chs r (as.drop l.size) (by rw [List.map_drop, h, List.drop_append_of_le_length (by walk_at "o"), List.drop_of_length_le (by walk_at "o"), List.nil_append])
    simp only [mkFm, Fm.ats, Fm.toks, List.flatten_append, chs_app, h1, h2]
    rfl
/-! one written piece -/
noncomputable def noteA : Nat → List Atom
  | 0 => [] | 1 => [.pair 40] | 2 => [.pair 41] | 3 => [.pair 34]
  | 4 => [.quo [(false, 40), (false, 35), (false, 32)]]
  | 5 => [.quo [(false, 41), (true, 34), (false, 10)]]
  | 6 => [.pair 92] | _ => [.pair 124]
noncomputable def wrA (k i x : Nat) : List Atom := if k % 2 = 0 then noteA i ++ [.ch (97 + x)] else [.ch (97 + x)] ++ noteA i
noncomputable def noWs (l : List Nat) : Bool := l.all fun c => c != 9 && c != 13
theorem wr_ok : ∀ k < 5, ∀ i < 8, ∀ x < 4, (piece (wrA k i x) && decide (chs (wrA k i x) = [97 + x]) && noWs (txt (wrA k i x)) && decide ((txt (wrA k i x)).length ≤ 7)) = true := by decide +kernel
theorem wr_chk : ∀ i < 8, ∀ x < 4, chkPar (txt (wrA 0 i x) ++ [41]) = false ∧ chkPar (txt (wrA 0 i x) ++ [41, 40]) = false := by decide +kernel
noncomputable def wordOf (t : Fm) : List Nat := (pcs t.ats).flatten
theorem mk_word : ∀ (t : Tr) (as : List (List Atom)), (∀ a ∈ as, noWs (txt a) = true ∧ (txt a).length ≤ 7) → as.length = t.size → noWs (wordOf (mkFm t as)) = true ∧ (wordOf (mkFm t as)).length + 3 ≤ 10 * t.size
  | .leaf x, as, h, hl => by
    simp only [Tr.size] at hl
    match as, hl, h with
    | [a], _, h =>
      have := h a (.head _)
      have e : wordOf (mkFm (.leaf x) [a]) = txt a := by simp [wordOf, mkFm, Fm.ats]
      rw [e]
      exact ⟨this.1, by simp only [Tr.size]; walk_at "o"⟩
  | .node s l r, as, h, hl => by
    simp only [Tr.size] at hl
    have h1 := mk_word l (as.take l.size) (fun a ha => h a (List.mem_of_mem_take ha)) (by rw [List.length_take]; walk_at "o")
    have h2 := mk_word r (as.drop l.size) (fun a ha => h a (List.mem_of_mem_drop ha)) (by rw [List.length_drop]; walk_at "o")
    have e : wordOf (mkFm (.node s l r) as) = [40] ++ wordOf (mkFm l (as.take l.size)) ++ [opc (s == amp)] ++ wordOf (mkFm r (as.drop l.size)) ++ [41] := by
      simp only [wordOf, mkFm, Fm.ats, List.map_append, List.flatten_append]
      rfl
    rw [e]
    have ho : noWs [opc (s == amp)] = true := by cases s == amp <;> rfl
    unfold noWs at *
    constructor
    · simp only [List.all_append, h1.1, h2.1, ho]; rfl
    · simp only [List.length_append, List.length_cons, List.length_nil, Tr.size]
      have := l.size_pos
      have := r.size_pos
      walk_at "o"
end Mine

namespace Mine
section
variable {B : Base} {n : Nat} {ce : CEnv} {st st1 st2 st3 : LSt} {r : CV}
theorem XsE.pre {xs : List Stmt} {l l0 : List (Str × CV)} {S : List CO} {f : CFl} (h : XsE B n ce xs ⟨l0, S⟩ f) (hs : VSub l0 l) : XsE B n ce xs ⟨l, S⟩ f := let ⟨st', h⟩ := h; ⟨st', J.pre h hs⟩
noncomputable abbrev lawT (k : Nat) : List Stmt := (bodyAt 82).drop k
noncomputable abbrev lce : CEnv := ⟨scopeAt 82, []⟩
theorem rk_toNat (k : Nat) : ((0 : Int) + (k : Int) * 1).toNat = k := by walk_at "o"
theorem rng_get {α : Type} (m : Nat) (f : Nat → α) (k : Nat) (h : k < m) : ((List.range m).map f)[((0 : Int) + (k : Int) * 1).toNat]? = some (f k) := by
  rw [rk_toNat, List.getElem?_map, List.getElem?_range h]; rfl
noncomputable def lsF (b : Int) (k : Nat) : Nat := (b / (4 : Int) ^ ((0 : Int) + (k : Int) * 1).toNat % 4).toNat
noncomputable def ntF (c : Int) (k : Nat) : Nat := (c / (8 : Int) ^ ((0 : Int) + (k : Int) * 1).toNat % 8).toNat
noncomputable def sgF (a : Int) (k : Nat) : Nat := (a / 24 / (2 : Int) ^ ((0 : Int) + (k : Int) * 1).toNat % 2).toNat
theorem lsF_lt (b : Int) (k : Nat) : lsF b k < 4 := by unfold lsF; walk_at "o"
theorem ntF_lt (c : Int) (k : Nat) : ntF c k < 8 := by unfold ntF; walk_at "o"
theorem sgF_lt (a : Int) (k : Nat) : sgF a k < 2 := by unfold sgF; walk_at "o"
theorem lsF_eq (b : Int) (k : Nat) : b / (4 : Int) ^ ((0 : Int) + (k : Int) * 1).toNat % 4 = (lsF b k : Nat) := by unfold lsF; walk_at "o"
theorem ntF_eq (c : Int) (k : Nat) : c / (8 : Int) ^ ((0 : Int) + (k : Int) * 1).toNat % 8 = (ntF c k : Nat) := by unfold ntF; walk_at "o"
theorem sgF_eq (a : Int) (k : Nat) : a / 24 / (2 : Int) ^ ((0 : Int) + (k : Int) * 1).toNat % 2 = (sgF a k : Nat) := by unfold sgF; walk_at "o"
noncomputable def sgS (a : Int) (k : Nat) : Str := if sgF a k = 0 then amp else vbar
noncomputable abbrev noteT (i : Nat) : List Nat := txt (noteA i)
noncomputable abbrev notesV : List CV := (List.range 8).map fun i => .str (mkS (noteT i))
noncomputable abbrev lawV4 (a b c : Int) (t : Tr) : List (Str × CV) := [(Str.ofString "heaps", cI [a, b, c]), (Str.ofString "letters", .list (ci ((List.range 5).map (lsF b)))), (Str.ofString "tree", t.cv), (Str.ofString "notes", .list notesV)]
set_option maxHeartbeats 4000000 in
theorem law_1a (H : Law B) (script : List Int) (hs : script.length ≤ 1048576)
    (k : ∀ (a b c : Int) (t : Tr), 0 ≤ a → 0 ≤ b → 0 ≤ c → t.leaves = (List.range 5).map (lsF b) → sgOk t → XsE B (n + 44) lce (lawT 4) ⟨lawV4 a b c t, []⟩ (.ret r)) :
    XsE B (n + 44) lce (lawT 0) ⟨[(Str.ofString "script", cI script)], []⟩ (.ret r) := by
  obtain ⟨a, b, c, ⟨ha, hb, hc⟩, hf⟩ := fn_heaps (B := B) (n := n + 43) H script hs
  obtain ⟨t, t1, t2, ht⟩ := fn_tree (B := B) (n := n + 43) H ((List.range 5).map (lsF b)) (a % 24) ((List.range 4).map (sgS a)) (by simp) (by simp) (by walk_at "o")
  have kk := k a b c t ha hb hc t1 (fun s hs => by
    obtain ⟨i, _, rfl⟩ := List.mem_map.mp (t2 s hs)
    unfold sgS; split <;> simp)
  conv at kk in (lawT 4) => whnf
  conv in (lawT 0) => whnf
  have p4 : ∀ k ∈ List.range 5, (4 : Int) ^ ((0 : Int) + (k : Int) * 1).toNat < 1073741824 ∧ 0 < (4 : Int) ^ ((0 : Int) + (k : Int) * 1).toNat := by decide +kernel
  have p2 : ∀ k ∈ List.range 4, (2 : Int) ^ ((0 : Int) + (k : Int) * 1).toNat < 1073741824 ∧ 0 < (2 : Int) ^ ((0 : Int) + (k : Int) * 1).toNat := by decide +kernel
  refine .cons (Ex_assign (v := cI [a, b, c]) (Ev_callF (Ev_name (by rfl)) H.heaps.fn (Es_cons (Ev_name (v := cI script) (by rfl)) Es_nil) (FnJ.ca hf (by simp only [pures, CV.pure, cI, pures_ints, Bool.and_true]))) (As_name (by rfl))) ?_
  refine .cons (Ex_assign (v := .list (ci ((List.range 5).map (lsF b)))) (J.eqv (Ev_compAll (val := rvN) (as := List.range 5) (out := fun k => some (.int (lsF b k : Nat))) (ItE.ok (Ev_callT (Ev_name (by rfl)) (Es_cons Ev_int Es_nil) ca_range1) (IterOk.rng (k := 5) (rngOk _ (by walk_at "o")).1 (rngOk _ (by walk_at "o")).2)) (pures_rng _ _ _) (.mk' (by decide +kernel) (by rfl))
    (fun k hk => .all (As_name (by rfl)) (J.eqv (Ev_bo (Ev_bo (Ev_item (v := .int b) (Ev_name (v := cI [a, b, c]) (by rfl)) Ev_int (.list (by rfl) (by decide) (by decide) (by rfl))) (Ev_bo Ev_int (Ev_name (v := rvN k) (by rfl)) (.num (.pow _ _ (by walk_at "o") (by have := List.mem_range.mp hk; walk_at "o") (by decide)))) (.num (.div _ _ (p4 k hk).2 (p4 k hk).1))) Ev_int (.num (.mod _ _ (by decide)))) (congrArg CV.int (lsF_eq b k))) rfl .nil rfl) (by simp)) ?_) (As_name (by rfl)) (h1 := fun env he => swaps_no he (by show some NameKind.cell ≠ some NameKind.local; decide))) ?_
  · rw [filterMap_all, ci, List.map_map]; rfl
  refine .cons (Ex_assign (v := t.cv) (Ev_callF (Ev_name (by rfl)) H.tree.fn (Es_cons (Ev_name (v := .list (ci ((List.range 5).map (lsF b)))) (by rfl)) (Es_cons (v := .int (a % 24)) (Ev_bo (Ev_item (v := .int a) (Ev_name (v := cI [a, b, c]) (by rfl)) Ev_int (.list (by rfl) (by decide) (by decide) (by rfl))) Ev_int (.num (.mod _ _ (by decide)))) (Es_cons (v := cS ((List.range 4).map (sgS a))) (J.eqv (Ev_compAll (val := rvN) (as := List.range 4) (out := fun k => some (.str (sgS a k))) (ItE.ok (Ev_callT (Ev_name (by rfl)) (Es_cons Ev_int Es_nil) ca_range1) (IterOk.rng (k := 4) (rngOk _ (by walk_at "o")).1 (rngOk _ (by walk_at "o")).2)) (pures_rng _ _ _) (.mk' (by decide +kernel) (by rfl))
    (fun k hk => .all (As_name (by rfl)) (J.eqv (Ev_item Ev_str (J.eqv (Ev_bo (Ev_bo (Ev_bo (Ev_item (v := .int a) (Ev_name (v := cI [a, b, c]) (by rfl)) Ev_int (.list (by rfl) (by decide) (by decide) (by rfl))) Ev_int (.num (.div _ _ (by decide) (by decide)))) (Ev_bo Ev_int (Ev_name (v := rvN k) (by rfl)) (.num (.pow _ _ (by walk_at "o") (by have := List.mem_range.mp hk; walk_at "o") (by decide)))) (.num (.div _ _ (p2 k hk).2 (p2 k hk).1))) Ev_int (.num (.mod _ _ (by decide)))) (congrArg CV.int (sgF_eq a k))) (.str _ _ ?_ ?_ (by decide))) ?_) rfl .nil rfl) (by simp)) ?_) Es_nil))) (FnJ.ca (FnJ.of_eq ht ?_ rfl) ?_)) (As_name (by rfl))) ?_
  · show -((2 : Nat) : Int) ≤ _; walk_at "o"
  · show _ < ((2 : Nat) : Int); have := sgF_lt a k; walk_at "o"
  · have h2 := sgF_lt a k
    unfold sgS
    rcases (show sgF a k = 0 ∨ sgF a k = 1 by walk_at "o") with h | h <;> rw [h] <;> rfl
  · rw [filterMap_all]; simp
  · rw [cI_ci]
  · simp only [pures, CV.pure, pures_ci, pures_strs, Bool.and_true]
  refine .cons (Ex_assign (v := .list notesV) (Ev_list (Es_cons Ev_str (Es_cons Ev_str (Es_cons Ev_str (Es_cons Ev_str (Es_cons Ev_str (Es_cons Ev_str (Es_cons Ev_str (Es_cons Ev_str Es_nil)))))))) (by simp)) (As_name (by rfl))) ?_
  exact XsE.pre kk (.cons (by rfl) (.cons (by rfl) (.cons (by rfl) (.cons (by rfl) .nil))))
end
end Mine

namespace Mine
section
variable {B : Base} {n : Nat} {ce : CEnv} {st st1 st2 st3 : LSt} {r : CV}
noncomputable abbrev pairV (b c : Int) (k : Nat) : CV := .tup [.str (mkS (noteT (ntF c k))), .str (mkS [97 + lsF b k])]
noncomputable abbrev wrF (b c : Int) (k : Nat) : List Atom := wrA k (ntF c k) (lsF b k)
noncomputable abbrev asF (b c : Int) : List (List Atom) := (List.range 5).map (wrF b c)
noncomputable abbrev fmF (b c : Int) (t : Tr) : Fm := mkFm t (asF b c)
noncomputable abbrev lawV8 (a b c : Int) (t : Tr) : List (Str × CV) := [(Str.ofString "heaps", cI [a, b, c]), (Str.ofString "tree", t.cv), (Str.ofString "written", .list (cSs (pcs (asF b c)))), (Str.ofString "pieces", .list (cSs (pcs (fmF b c t).ats))), (Str.ofString "plain", .str (mkS (fmF b c t).toks))]
theorem txt_app (a b : List Atom) : txt (a ++ b) = txt a ++ txt b := by simp [txt]
theorem pairs_at (x y : CV) (k : Nat) : ([x, y] : List CV)[(((0 : Int) + (k : Int) * 1) % 2).toNat]? = some (if k % 2 = 0 then x else y) ∧ ([x, y] : List CV)[((1 : Int) - ((0 : Int) + (k : Int) * 1) % 2).toNat]? = some (if k % 2 = 0 then y else x) := by
  rcases (show k % 2 = 0 ∨ k % 2 = 1 by walk_at "o") with h | h
  · rw [show (((0 : Int) + (k : Int) * 1) % 2).toNat = 0 by walk_at "o", show ((1 : Int) - ((0 : Int) + (k : Int) * 1) % 2).toNat = 1 by walk_at "o", if_pos h, if_pos h]; exact ⟨rfl, rfl⟩
  · rw [show (((0 : Int) + (k : Int) * 1) % 2).toNat = 1 by walk_at "o", show ((1 : Int) - ((0 : Int) + (k : Int) * 1) % 2).toNat = 0 by walk_at "o", if_neg (by walk_at "o"), if_neg (by walk_at "o")]; exact ⟨rfl, rfl⟩
theorem note_len : ∀ i < 8, (noteT i).length ≤ 6 := by decide +kernel
theorem wr_text (b c : Int) (k : Nat) : (if k % 2 = 0 then noteT (ntF c k) else [97 + lsF b k]) ++ (if k % 2 = 0 then [97 + lsF b k] else noteT (ntF c k)) = txt (wrF b c k) := by
  unfold wrF wrA
  split
  · rw [txt_app]; rfl
  · rw [txt_app]; rfl
theorem ite_str (p : Prop) [Decidable p] (x y : List Nat) : (if p then CV.str (mkS x) else CV.str (mkS y)) = CV.str (mkS (if p then x else y)) := by split <;> rfl
set_option maxHeartbeats 4000000 in
theorem law_1b (H : Law B) (a b c : Int) (t : Tr) (ht : t.leaves = (List.range 5).map (lsF b)) (hs : sgOk t)
    (kk : XsE B (n + 44) lce (lawT 8) ⟨lawV8 a b c t, [.lst [], .lst []]⟩ (.ret r)) :
    XsE B (n + 44) lce (lawT 4) ⟨lawV4 a b c t, []⟩ (.ret r) := by
  have hsz : t.size = 5 := by rw [← t.leaves_len, ht]; simp
  have hasl : (asF b c).length = t.size := by rw [hsz]; simp
  have hrow := mk_row t (asF b c) hasl hs
  have htok := mk_toks t (asF b c) hs
  conv at kk in (lawT 8) => whnf
  conv in (lawT 4) => whnf
  have p8 : ∀ k ∈ List.range 5, (8 : Int) ^ ((0 : Int) + (k : Int) * 1).toNat < 1073741824 ∧ 0 < (8 : Int) ^ ((0 : Int) + (k : Int) * 1).toNat := by decide +kernel
  refine .cons (Ex_assign (v := .list ((List.range 5).map (pairV b c))) (J.eqv (Ev_compAll (val := rvN) (as := List.range 5) (out := fun k => some (pairV b c k)) (ItE.ok (Ev_callT (Ev_name (by rfl)) (Es_cons Ev_int Es_nil) ca_range1) (IterOk.rng (k := 5) (rngOk _ (by walk_at "o")).1 (rngOk _ (by walk_at "o")).2)) (pures_rng _ _ _) (.mk' (by decide +kernel) (by rfl))
    (fun k hk => .all (As_name (by rfl)) (Ev_tuple (Es_cons (v := .str (mkS (noteT (ntF c k)))) (Ev_item (Ev_name (v := .list notesV) (by rfl)) (J.eqv (Ev_bo (Ev_bo (Ev_item (v := .int c) (Ev_name (v := cI [a, b, c]) (by rfl)) Ev_int (.list (by rfl) (by decide) (by decide) (by rfl))) (Ev_bo Ev_int (Ev_name (v := rvN k) (by rfl)) (.num (.pow _ _ (by walk_at "o") (by have := List.mem_range.mp hk; walk_at "o") (by decide)))) (.num (.div _ _ (p8 k hk).2 (p8 k hk).1))) Ev_int (.num (.mod _ _ (by decide)))) (congrArg CV.int (ntF_eq c k))) (.list (by rfl) (by walk_at "o") (by have := ntF_lt c k; walk_at "o") ?_)) (Es_cons (v := .str (mkS [97 + lsF b k])) (J.eqv (Ev_item Ev_str (Ev_item (v := .int (lsF b k : Nat)) (Ev_name (v := .list (ci ((List.range 5).map (lsF b)))) (by rfl)) (Ev_name (v := rvN k) (by rfl)) (.list (by rfl) (by walk_at "o") (by have := List.mem_range.mp hk; walk_at "o") ?_)) (.str _ _ ?_ ?_ (by decide))) ?_) Es_nil)) (by simp)) rfl .nil rfl) (by simp)) ?_) (As_name (by rfl)) (h1 := fun env he => swaps_no he (by show some NameKind.cell ≠ some NameKind.local; decide))) ?_
  · rw [Int.toNat_natCast, notesV, List.getElem?_map, List.getElem?_range (ntF_lt c k)]; rfl
  · rw [ci, List.map_map]
    exact rng_get 5 _ k (List.mem_range.mp hk)
  · show -((4 : Nat) : Int) ≤ _; walk_at "o"
  · show _ < ((4 : Nat) : Int); have := lsF_lt b k; walk_at "o"
  · have h4 := lsF_lt b k
    have : Txt.item (mkS [97, 98, 99, 100]) (lsF b k : Nat) = mkS [97 + lsF b k] := item_mkS _ _ _ (by rcases (show lsF b k = 0 ∨ lsF b k = 1 ∨ lsF b k = 2 ∨ lsF b k = 3 by walk_at "o") with h | h | h | h <;> rw [h] <;> rfl)
    exact congrArg CV.str this
  · rw [filterMap_all]
  have hpp : pures ((List.range 5).map (pairV b c)) = true := pures_map (fun _ => rfl) _
  refine .cons (Ex_compAll (val := rvN) (as := List.range 5) (out := fun k => some (.str (mkS (txt (wrF b c k))))) (ItE.ok (Ev_callT (Ev_name (by rfl)) (Es_cons Ev_int Es_nil) ca_range1) (IterOk.rng (k := 5) (rngOk _ (by walk_at "o")).1 (rngOk _ (by walk_at "o")).2)) (pures_rng _ _ _) (.mk' (by decide +kernel) (by rfl))
    (fun k hk => .all (As_name (by rfl)) (J.eqv (v := .str (mkS (if k % 2 = 0 then noteT (ntF c k) else [97 + lsF b k]) ++ mkS (if k % 2 = 0 then [97 + lsF b k] else noteT (ntF c k)))) (Ev_bo (Ev_item (v := .str (mkS (if k % 2 = 0 then noteT (ntF c k) else [97 + lsF b k]))) (Ev_item (v := pairV b c k) (Ev_name (v := .list ((List.range 5).map (pairV b c))) (by rfl)) (Ev_name (v := rvN k) (by rfl)) (.list (by rfl) (by walk_at "o") (by have := List.mem_range.mp hk; walk_at "o") (rng_get 5 _ k (List.mem_range.mp hk)))) (Ev_bo (Ev_name (v := rvN k) (by rfl)) Ev_int (.num (.mod _ _ (by decide)))) (.tup (by walk_at "o") (by walk_at "o") (by rw [(pairs_at _ _ k).1, ite_str])))
      (Ev_item (v := .str (mkS (if k % 2 = 0 then [97 + lsF b k] else noteT (ntF c k)))) (Ev_item (v := pairV b c k) (Ev_name (v := .list ((List.range 5).map (pairV b c))) (by rfl)) (Ev_name (v := rvN k) (by rfl)) (.list (by rfl) (by walk_at "o") (by have := List.mem_range.mp hk; walk_at "o") (rng_get 5 _ k (List.mem_range.mp hk)))) (Ev_bo Ev_int (Ev_bo (Ev_name (v := rvN k) (by rfl)) Ev_int (.num (.mod _ _ (by decide)))) (.num (.sub _ _))) (.tup (by walk_at "o") (by walk_at "o") (by rw [(pairs_at _ _ k).2, ite_str]))) (.seq (.addS _ _ ?_))) ?_) rfl .nil rfl) (by simp) (by rfl) (by rfl)) ?_
  · have := note_len _ (ntF_lt c k)
    rw [mkS_len, mkS_len]; split <;> simp only [List.length_cons, List.length_nil] <;> walk_at "o"
  · rw [mkS_app, wr_text]
  rw [filterMap_all, show ((List.range 5).map fun k => CV.str (mkS (txt (wrF b c k)))) = cSs (pcs (asF b c)) by simp [cSs, asF]]
  have e6 : ((asF b c).map fun a => mkS (txt a)) = (pcs (asF b c)).map mkS := by simp
  have r6 := ca_row (B := B) H t (n := n + 39) (ce := lce) (st := ⟨(Str.ofString "written", .list (cSs (pcs (asF b c)))) :: (Str.ofString "pairs", .list ((List.range 5).map (pairV b c))) :: lawV4 a b c t, [.lst (cSs (pcs (asF b c)))]⟩) (i := 0) (xs := (asF b c).map fun a => mkS (txt a)) (rest := []) (by rw [e6, List.append_nil, ← cSs_eq]; rfl) (by rw [List.length_map]; exact hasl) (by simp)
  rw [hsz, hrow, show cS ((pcs (mkFm t (asF b c)).ats).map mkS) = .list (cSs (pcs (fmF b c t).ats)) by rw [cSs_eq]] at r6
  refine .cons (Ex_assign (v := .list (cSs (pcs (fmF b c t).ats))) (Ev_callF (Ev_name (by rfl)) H.row.fn (Es_cons (Ev_name (v := t.cv) (by rfl)) (Es_cons (Ev_callT (Ev_name (by rfl)) (Es_cons (Ev_name (v := .list (cSs (pcs (asF b c)))) (by rfl)) Es_nil) (ca_listLM (by rfl) (by simp))) Es_nil)) r6) (As_name (by rfl))) ?_
  have hlv : ((List.range 5).map fun k => mkS [97 + lsF b k]) = t.leaves.map fun x => mkS [97 + x] := by rw [ht, List.map_map]; rfl
  have r7 := ca_row (B := B) H t (n := n + 39) (ce := lce) (st := ⟨(Str.ofString "pieces", .list (cSs (pcs (fmF b c t).ats))) :: (Str.ofString "written", .list (cSs (pcs (asF b c)))) :: (Str.ofString "pairs", .list ((List.range 5).map (pairV b c))) :: lawV4 a b c t, [.lst [], .lst ((List.range 5).map fun k => .str (mkS [97 + lsF b k]))]⟩) (i := 1) (xs := (List.range 5).map fun k => mkS [97 + lsF b k]) (rest := []) (by rw [List.append_nil, List.map_map]; rfl) (by rw [hsz]; simp) (by simp)
  rw [hsz, hlv, mk_toks t (asF b c) hs] at r7
  have hjoin : Txt.join (mkS []) ((fmF b c t).toks.map fun c => mkS [c]) = mkS (fmF b c t).toks := by
    have := join_mkS ((fmF b c t).toks.map fun c => [c])
    rw [List.map_map] at this
    refine Eq.trans this ?_
    congr 1
    induction (fmF b c t).toks with
    | nil => rfl
    | cons x l ih => simp [ih]
  have hflat : (((fmF b c t).toks.map fun c => [c]).flatten).length ≤ 16777216 := by
    have h1 := (fmF b c t).len.2
    rw [mk_size, hsz] at h1
    have : ((fmF b c t).toks.map fun c => [c]).flatten = (fmF b c t).toks := by
      clear h1 hjoin
      induction (fmF b c t).toks with
      | nil => rfl
      | cons x l ih => simp [ih]
    rw [this]; walk_at "o"
  have htl : (fmF b c t).toks.length ≤ 17 := by
    have h1 := (fmF b c t).len.2
    rw [mk_size, hsz] at h1; walk_at "o"
  have hfit := join_fits _ hflat
  rw [List.map_map] at hfit
  refine .cons (Ex_assign (v := .str (mkS (fmF b c t).toks)) (J.eqv (Ev_meth PySem.F.plainAttrs_str PySem.F.slot_str_join PySem.F.type_str_join Ev_str (.str _) (Es_cons (Ev_callF (Ev_name (by rfl)) H.row.fn (Es_cons (Ev_name (v := t.cv) (by rfl)) (Es_cons (J.mono (n := n + 44) (Ev_compAllM (val := pairV b c) (as := List.range 5) (out := fun k => some (.str (mkS [97 + lsF b k]))) (ItE.ok (Ev_name (v := .list ((List.range 5).map (pairV b c))) (by rfl)) (IterOk.list hpp)) hpp (.mk' (by decide +kernel) (by rfl)) (fun k hk => .all (As_name (by rfl)) (Ev_item (Ev_name (v := pairV b c k) (by rfl)) Ev_int (.tup (by decide) (by decide) (by rfl))) rfl .nil rfl) (by simp)) (Nat.le_refl _)) Es_nil)) r7) Es_nil) (ca_join (ss := (fmF b c t).toks.map fun c => mkS [c]) (by rfl) (by rw [show Txt.join (Str.ofString "") _ = _ from hjoin, mkS_len]; walk_at "o") hfit)) (congrArg CV.str hjoin)) (As_name (by rfl))) ?_
  exact XsE.pre kk (.cons (by rfl) (.cons (by rfl) (.cons (by rfl) (.cons (by rfl) (.cons (by rfl) .nil)))))
end
end Mine

namespace Mine
section
variable {B : Base} {n : Nat} {ce : CEnv} {st st1 st2 st3 : LSt} {r : CV}
noncomputable def mdF (a : Int) : Nat := (a / 384 % 3).toNat
noncomputable def giF (a : Int) : Nat := (a / 6912 % 4).toNat
theorem mdF_lt (a : Int) : mdF a < 3 := by unfold mdF; walk_at "o"
theorem giF_lt (a : Int) : giF a < 4 := by unfold giF; walk_at "o"
theorem mdF_eq (a : Int) : a / 384 % 3 = (mdF a : Nat) := by unfold mdF; walk_at "o"
theorem giF_eq (a : Int) : a / 6912 % 4 = (giF a : Nat) := by unfold giF; walk_at "o"
theorem wr_all (b c : Int) : ∀ x ∈ asF b c, piece x = true ∧ noWs (txt x) = true ∧ (txt x).length ≤ 7 := by
  intro x hx
  obtain ⟨k, hk, rfl⟩ := List.mem_map.mp hx
  have := wr_ok k (List.mem_range.mp hk) _ (ntF_lt c k) _ (lsF_lt b k)
  simp only [Bool.and_eq_true, decide_eq_true_eq] at this
  exact ⟨this.1.1.1, this.1.2, this.2⟩
theorem wr_chs (b c : Int) (t : Tr) (ht : t.leaves = (List.range 5).map (lsF b)) : (asF b c).map chs = t.leaves.map fun x => [97 + x] := by
  rw [ht, asF, List.map_map, List.map_map]
  refine List.map_congr_left fun k hk => ?_
  have := wr_ok k (List.mem_range.mp hk) _ (ntF_lt c k) _ (lsF_lt b k)
  simp only [Bool.and_eq_true, decide_eq_true_eq] at this
  exact this.1.1.2
section
variable (b c : Int) (t : Tr) (ht : t.leaves = (List.range 5).map (lsF b))
include ht
theorem t_size : t.size = 5 := by rw [← t.leaves_len, ht]; simp
theorem as_len : (asF b c).length = t.size := by rw [t_size b t ht]; simp
theorem t_lt : ∀ x ∈ t.leaves, x < 4 := by
  rw [ht]; intro x hx
  obtain ⟨k, _, rfl⟩ := List.mem_map.mp hx
  exact lsF_lt b k
theorem fm_good : (fmF b c t).good = true := mk_good t _ (as_len b c t ht) (t_lt b t ht) fun a ha => (wr_all b c a ha).1
theorem fm_word : noWs (wordOf (fmF b c t)) = true ∧ (wordOf (fmF b c t)).length + 3 ≤ 50 := by
  have := mk_word t (asF b c) (fun a ha => (wr_all b c a ha).2) (as_len b c t ht)
  rw [t_size b t ht] at this; exact this
theorem fm_head : ∃ w1, wordOf (fmF b c t) = 40 :: w1 := by
  have hs := t_size b t ht
  cases t with
  | leaf x => simp [Tr.size] at hs
  | node s l r =>
    refine ⟨wordOf (mkFm l ((asF b c).take l.size)) ++ [opc (s == amp)] ++ wordOf (mkFm r ((asF b c).drop l.size)) ++ [41], ?_⟩
    simp only [wordOf, fmF, mkFm, Fm.ats, List.map_append, List.flatten_append, List.append_assoc]
    rfl
theorem fm_text (a : Int) : (lawText (wordOf (fmF b c t)) (mdF a) (giF a)).length ≤ 1000 := by
  have h := (fm_word b c t ht).2
  have h2 : (spell (wordOf (fmF b c t)) (mdF a)).length ≤ 2 + 2 * (wordOf (fmF b c t)).length := by
    unfold spell
    have h3 := flatMap_len (spSign_len (wordOf (fmF b c t)) (mdF a)) (wordOf (fmF b c t))
    have h4 : (spMark (mdF a)).length ≤ 1 := by unfold spMark; split <;> simp
    simp only [List.length_append]; walk_at "o"
  have h5 : (gapOf (mdF a) (giF a)).length ≤ 1 := by unfold gapOf; split <;> simp
  simp only [lawText, List.length_append, List.length_cons, List.length_nil]
  walk_at "o"
end
theorem join_pcs (ps : List (List Nat)) : Txt.join (mkS []) (ps.map mkS) = mkS ps.flatten := join_mkS ps
noncomputable abbrev linesF (a b c : Int) (t : Tr) : Int := (2 : Int) + ((wordOf (fmF b c t)).count 10 : Nat) + ((gapOf (mdF a) (giF a)).count 10 : Nat)
noncomputable abbrev lawV13 (a b c : Int) (t : Tr) : List (Str × CV) := (Str.ofString "word", .str (mkS (wordOf (fmF b c t)))) :: (Str.ofString "lexer", .ref 6) :: (Str.ofString "text", .str (mkS (lawText (wordOf (fmF b c t)) (mdF a) (giF a)))) :: lawV8 a b c t
set_option maxHeartbeats 4000000 in
theorem law_2 (H : Law B) (N : NetC B) (F : NetF B) (T : TabFn B 165 lamPos (Str.ofString "<lambda>")) (a b c : Int) (t : Tr) (ht : t.leaves = (List.range 5).map (lsF b)) (hs : sgOk t)
    (kk : ∀ q, XsE B (n + 44) lce (lawT 13) ⟨lawV13 a b c t, lexSto (linesF a b c t) [101, 110, 100] [.citer 6 98 q]⟩ (.ret r)) :
    XsE B (n + 44) lce (lawT 8) ⟨lawV8 a b c t, [.lst [], .lst []]⟩ (.ret r) := by
  have hw := fm_word b c t ht
  have htext := fm_text b c t ht a
  obtain ⟨w1, hw1⟩ := fm_head b c t ht
  have hlex := lexT_law (wordOf (fmF b c t)) (mdF a) (giF a) (mdF_lt a) (giF_lt a) w1 hw1 (fun x hx => by
    have := List.all_eq_true.mp hw.1 x hx
    simpa using this)
  obtain ⟨q, hget⟩ := ca_gett (B := B) (n := n + 40) (ce := lce) N F (lawText (wordOf (fmF b c t)) (mdF a) (giF a)) 1 [] (by walk_at "o") ((Str.ofString "lexer", .ref 6) :: (Str.ofString "text", .str (mkS (lawText (wordOf (fmF b c t)) (mdF a) (giF a)))) :: (Str.ofString "gap", .str (mkS (gapOf (mdF a) (giF a)))) :: (Str.ofString "mode", .int (mdF a : Nat)) :: lawV8 a b c t)
  rw [hlex] at hget
  have kk := kk q
  conv at kk in (lawT 13) => whnf
  conv in (lawT 8) => whnf
  refine .cons (Ex_assign (v := .int (mdF a : Nat)) (J.eqv (Ev_bo (Ev_bo (Ev_item (v := .int a) (Ev_name (v := cI [a, b, c]) (by rfl)) Ev_int (.list (by rfl) (by decide) (by decide) (by rfl))) Ev_int (.num (.div _ _ (by decide) (by decide)))) Ev_int (.num (.mod _ _ (by decide)))) (congrArg CV.int (mdF_eq a))) (As_name (by rfl))) ?_
  refine .cons (Ex_assign (v := .str (mkS (gapOf (mdF a) (giF a)))) (J.eqv (Ev_if2 (Ts_cmp (Ev_name (v := .int (mdF a : Nat)) (by rfl)) Ev_int (.eqI _ _)) (fun _ => Ev_str) (fun _ => Ev_item Ev_str (J.eqv (Ev_bo (Ev_bo (Ev_item (v := .int a) (Ev_name (v := cI [a, b, c]) (by rfl)) Ev_int (.list (by rfl) (by decide) (by decide) (by rfl))) Ev_int (.num (.div _ _ (by decide) (by decide)))) Ev_int (.num (.mod _ _ (by decide)))) (congrArg CV.int (giF_eq a))) (.str _ _ ?_ ?_ (by decide)))) ?_) (As_name (by rfl))) ?_
  · show -((4 : Nat) : Int) ≤ _; walk_at "o"
  · show _ < ((4 : Nat) : Int); have := giF_lt a; walk_at "o"
  · have h4 := giF_lt a
    unfold gapOf
    by_cases h : mdF a = 0
    · rw [if_pos h]
      rw [if_pos (by simp [h])]; rfl
    · rw [if_neg h, if_neg (by simp [h])]
      have : Txt.item (mkS [10, 9, 13, 32]) (giF a : Nat) = mkS [[10, 9, 13, 32].getD (giF a) 0] := item_mkS _ _ _ (by rcases (show giF a = 0 ∨ giF a = 1 ∨ giF a = 2 ∨ giF a = 3 by walk_at "o") with h | h | h | h <;> rw [h] <;> rfl)
      exact congrArg CV.str this
  have hj := join_pcs (pcs (fmF b c t).ats)
  have hfit := join_fits (pcs (fmF b c t).ats) (by show (wordOf (fmF b c t)).length ≤ _; walk_at "o")
  have hsp := fn_spelled (B := B) (n := n + 43) H (wordOf (fmF b c t)) (mdF a) (mdF_lt a) (by walk_at "o")
  have e0 : mkS (lawText (wordOf (fmF b c t)) (mdF a) (giF a)) = Str.ofString "\x0d\t \n" ++ mkS (spell (wordOf (fmF b c t)) (mdF a)) ++ mkS (gapOf (mdF a) (giF a)) ++ Str.ofString "end" := by
    show _ = mkS [13, 9, 32, 10] ++ _ ++ _ ++ mkS [101, 110, 100]
    rw [mkS_app, mkS_app, mkS_app]
  have hlen : (mkS (lawText (wordOf (fmF b c t)) (mdF a) (giF a))).length ≤ 1000 := by rw [mkS_len]; exact htext
  have l1 : (Str.ofString "\x0d\t \n" ++ mkS (spell (wordOf (fmF b c t)) (mdF a)) ++ mkS (gapOf (mdF a) (giF a))).length + 3 = (mkS (lawText (wordOf (fmF b c t)) (mdF a) (giF a))).length := by
    show (mkS [13, 9, 32, 10] ++ mkS _ ++ mkS _).length + 3 = _
    rw [mkS_app, mkS_app, mkS_len, mkS_len]; simp only [lawText, List.length_append, List.length_cons, List.length_nil]
  have l2 : (Str.ofString "\x0d\t \n" ++ mkS (spell (wordOf (fmF b c t)) (mdF a))).length + (mkS (gapOf (mdF a) (giF a))).length + 3 = (mkS (lawText (wordOf (fmF b c t)) (mdF a) (giF a))).length := by
    show (mkS [13, 9, 32, 10] ++ mkS _).length + _ + 3 = _
    rw [mkS_app, mkS_len, mkS_len, mkS_len]; simp only [lawText, List.length_append, List.length_cons, List.length_nil]
  have l3 : (mkS (spell (wordOf (fmF b c t)) (mdF a))).length + 7 ≤ (mkS (lawText (wordOf (fmF b c t)) (mdF a) (giF a))).length := by
    rw [mkS_len, mkS_len]; simp only [lawText, List.length_append, List.length_cons, List.length_nil]; walk_at "o"
  refine .cons (Ex_assign (v := .str (mkS (lawText (wordOf (fmF b c t)) (mdF a) (giF a)))) (J.eqv (Ev_bo (Ev_bo (Ev_bo Ev_str (Ev_callF (r := .str (mkS (spell (wordOf (fmF b c t)) (mdF a)))) (Ev_name (by rfl)) H.spelled.fn (Es_cons (v := .str (mkS (wordOf (fmF b c t)))) (J.eqv (Ev_meth PySem.F.plainAttrs_str PySem.F.slot_str_join PySem.F.type_str_join Ev_str (.str _) (Es_cons (Ev_name (v := .list (cSs (pcs (fmF b c t).ats))) (by rfl)) Es_nil) (ca_join (ss := (pcs (fmF b c t).ats).map mkS) (by rw [← cSs_eq]; rfl) (by rw [show Txt.join (Str.ofString "") _ = _ from hj, mkS_len]; show (wordOf (fmF b c t)).length ≤ _; walk_at "o") hfit)) (congrArg CV.str hj)) (Es_cons (Ev_name (v := .int (mdF a : Nat)) (by rfl)) Es_nil)) (FnJ.ca hsp (by rfl))) (.seq (.addS _ _ ?_))) (Ev_name (v := .str (mkS (gapOf (mdF a) (giF a)))) (by rfl)) (.seq (.addS _ _ ?_))) Ev_str (.seq (.addS _ _ ?_))) (congrArg CV.str e0.symm)) (As_name (by rfl))) ?_
  · show 4 + _ ≤ _; walk_at "o"
  · walk_at "o"
  · show _ + 3 ≤ _; walk_at "o"
  refine .cons (Ex_assign (v := .ref 6) (Ev_callF (Ev_name (by rfl)) H.lexer.fn (Es_cons (Ev_name (v := .str (mkS (lawText (wordOf (fmF b c t)) (mdF a) (giF a)))) (by rfl)) Es_nil) (ca_lexer (n := n + 40) H N F T _ (by walk_at "o") _)) (As_name (by rfl))) ?_
  refine .cons (Ex_assign (v := .str (mkS (wordOf (fmF b c t)))) (Ev_methI N N.gt N.f105 F.gt.fn (Ev_name (v := .ref 6) (by rfl)) (by rfl) (by rfl) Es_nil hget) (As_name (by rfl))) ?_
  exact XsE.pre kk (.cons (by rfl) (.cons (by rfl) (.cons (by rfl) (.cons (by rfl) (.cons (by rfl) (.cons (by rfl) (.cons (by rfl) (.cons (by rfl) .nil))))))))
end
end Mine

namespace Mine
section
variable {B : Base} {n : Nat} {ce : CEnv} {st st1 st2 st3 : LSt} {r : CV}
theorem esc_pos : ∀ (cs : List Nat) (bb : Bool) (i : Nat), (bb = true → 1 ≤ i) → ∀ p ∈ esc bb i cs, p.1 < i + cs.length
  | [], bb, i, h, p, hp => by
    cases bb with
    | false => simp [esc] at hp
    | true =>
      simp [esc] at hp
      have := h rfl
      rw [hp]; simp; walk_at "o"
  | c :: cs, true, i, h, p, hp => by
    simp only [esc, List.mem_cons] at hp
    rcases hp with rfl | hp
    · simp
    · have := esc_pos cs false (i + 1) (by simp) p hp
      simp only [List.length_cons]; walk_at "o"
  | c :: cs, false, i, h, p, hp => by
    by_cases hc : c = 92
    · simp only [esc, hc, if_true] at hp
      have := esc_pos cs true (i + 1) (fun _ => by walk_at "o") p hp
      simp only [List.length_cons]; walk_at "o"
    · simp only [esc, hc, if_false, List.mem_cons] at hp
      rcases hp with rfl | hp
      · simp
      · have := esc_pos cs false (i + 1) (by simp) p hp
        simp only [List.length_cons]; walk_at "o"
noncomputable abbrev lfF (b c : Int) (t : Tr) : List Nat := cln (fmF b c t).ats.flatten ++ [92]
theorem cln_len : ∀ as : List Atom, (cln as).length ≤ (txt as).length
  | [] => by simp
  | a :: as => by
    have := cln_len as
    simp only [cln, txt, List.flatMap_cons, List.length_append] at this ⊢
    have h : a.clean.length ≤ a.text.length := by cases a <;> simp [Atom.clean, Atom.text]
    simp only [List.length_flatMap] at this ⊢
    walk_at "o"
theorem fm_ats_ok (b c : Int) (t : Tr) (ht : t.leaves = (List.range 5).map (lsF b)) : (fmF b c t).ats.flatten.all Atom.ok = true := flat_all fun a ha => ((fmF b c t).ats_ok (fm_good b c t ht) a ha).1
theorem fm_bare (b c : Int) (t : Tr) (ht : t.leaves = (List.range 5).map (lsF b)) : (bareL (lfF b c t)).flatten = (fmF b c t).toks ++ [92] := by
  rw [bare_atoms _ (fm_ats_ok b c t ht), mk_chs t _ (wr_chs b c t ht)]
theorem fm_strip (b c : Int) (t : Tr) (ht : t.leaves = (List.range 5).map (lsF b)) : stripQ (wordOf (fmF b c t)) = cln (fmF b c t).ats.flatten := by
  unfold wordOf
  rw [pcs_flatten, stripQ_atoms _ (fm_ats_ok b c t ht)]
noncomputable abbrev lawV17 (a b c : Int) (t : Tr) : List (Str × CV) := [(Str.ofString "heaps", cI [a, b, c]), (Str.ofString "tree", t.cv), (Str.ofString "pieces", .list (cSs (pcs (fmF b c t).ats))), (Str.ofString "bare", .str (mkS ((fmF b c t).toks ++ [92]))), (Str.ofString "lexer", .ref 6), (Str.ofString "text", .str (mkS (lawText (wordOf (fmF b c t)) (mdF a) (giF a))))]
theorem fm_toks_len (b c : Int) (t : Tr) (ht : t.leaves = (List.range 5).map (lsF b)) : (fmF b c t).toks.length = 17 := by
  have h1 := (fmF b c t).len.2
  rw [mk_size, t_size b t ht] at h1; walk_at "o"
set_option maxHeartbeats 4000000 in
theorem law_3 (H : Law B) (a b c : Int) (t : Tr) (ht : t.leaves = (List.range 5).map (lsF b)) (S : List CO)
    (kk : XsE B (n + 44) lce (lawT 17) ⟨lawV17 a b c t, S⟩ (.ret r)) :
    XsE B (n + 44) lce (lawT 13) ⟨lawV13 a b c t, S⟩ (.ret r) := by
  have hw := fm_word b c t ht
  have hst := fn_strip (B := B) (n := n + 42) H (wordOf (fmF b c t)) (by walk_at "o")
  rw [fm_strip b c t ht] at hst
  have hcl : (cln (fmF b c t).ats.flatten).length ≤ 50 := by
    have h1 := cln_len (fmF b c t).ats.flatten
    have h2 : (txt (fmF b c t).ats.flatten).length = (wordOf (fmF b c t)).length := by unfold wordOf; rw [pcs_flatten]
    walk_at "o"
  have hlf : (lfF b c t).length ≤ 51 := by simp only [lfF, List.length_append, List.length_cons, List.length_nil]; walk_at "o"
  have hpos := esc_pos (lfF b c t) false 0 (by simp)
  have hel := esc_len (lfF b c t) false 0
  have hb1 : ((esc false 0 (lfF b c t)).filterMap fun p => if bareT (lfF b c t) p then some (CV.str (mkS p.2)) else none) = cSs (bareL (lfF b c t)) := by
    rw [filterMap_if, bareL, cSs, List.map_map]; rfl
  have hbj := join_pcs (bareL (lfF b c t))
  rw [fm_bare b c t ht] at hbj
  have htl := fm_toks_len b c t ht
  have hbf := join_fits (bareL (lfF b c t)) (by rw [fm_bare b c t ht]; simp; walk_at "o")
  have hj := join_pcs (pcs (fmF b c t).ats)
  have hfit := join_fits (pcs (fmF b c t).ats) (by show (wordOf (fmF b c t)).length ≤ _; walk_at "o")
  obtain ⟨hc1, hc2⟩ := wr_chk (ntF c 0) (ntF_lt c 0) (lsF b 0) (lsF_lt b 0)
  have h0 := (wr_all b c (wrF b c 0) (List.mem_map.mpr ⟨0, by simp, rfl⟩)).2.2
  conv at kk in (lawT 17) => whnf
  conv in (lawT 13) => whnf
  refine .cons (Ex_assign (v := .str (mkS (lfF b c t))) (J.eqv (Ev_bo (Ev_callF (Ev_name (by rfl)) H.strip_quoted.fn (Es_cons (Ev_name (v := .str (mkS (wordOf (fmF b c t)))) (by rfl)) Es_nil) (FnJ.ca hst (by rfl))) Ev_str (.seq (.addS _ _ ?_))) (congrArg CV.str (mkS_app _ [92]))) (As_name (by rfl))) ?_
  · rw [mkS_len]; show _ + 1 ≤ _; walk_at "o"
  refine .cons (Ex_assign (v := .str (mkS ((fmF b c t).toks ++ [92]))) (J.eqv (Ev_meth PySem.F.plainAttrs_str PySem.F.slot_str_join PySem.F.type_str_join Ev_str (.str _) (Es_cons (v := .list (cSs (bareL (lfF b c t)))) (J.eqv (Ev_compAll (val := escV) (as := esc false 0 (lfF b c t)) (out := fun p => if bareT (lfF b c t) p then some (.str (mkS p.2)) else none) (ItE.esc' (n := n + 43) H (Ev_name (by rfl)) (Ev_name (v := .str (mkS (lfF b c t))) (by rfl)) (by walk_at "o")) (pures_escV _) (.mk' (by decide +kernel) (by rfl))
    (fun p hp => .ite (As_tuple (.cons (As_name (by rfl)) (.cons (As_name (by rfl)) .nil)) rfl) (Ifs_one (J.eqb (Ts_cmp (Ev_item (Ev_name (v := .str (mkS (lfF b c t))) (by rfl)) (Ev_name (v := .int p.1) (by rfl)) (.str _ _ ?_ ?_ ?_)) (Ev_name (v := .str (mkS p.2)) (by rfl)) (.eqS _ _)) ?_)) (fun _ => Ev_name (by rfl)) (fun _ => rfl) .nil rfl) (by simp only [Bool.false_eq_true, if_false] at hel; walk_at "o")) (congrArg CV.list hb1)) Es_nil) (ca_join (ss := (bareL (lfF b c t)).map mkS) (by rw [← cSs_eq]; rfl) (by rw [show Txt.join (Str.ofString "") _ = _ from hbj, mkS_len]; simp; walk_at "o") hbf)) (congrArg CV.str hbj)) (As_name (by rfl))) ?_
  · walk_at "o"
  · have := hpos p hp; rw [mkS_len]; walk_at "o"
  · rw [mkS_len]; walk_at "o"
  · have hlt := hpos p hp
    have hg : (lfF b c t)[p.1]? = some ((lfF b c t).getD p.1 0) := by rw [List.getD_eq_getElem?_getD, List.getElem?_eq_getElem (by walk_at "o")]; rfl
    rw [item_mkS _ _ _ hg]
    unfold bareT
    rw [Bool.eq_iff_iff, beq_iff_eq, mkS_inj, decide_eq_true_eq]
  refine .else_go (J.eqb (Ts_or2 (b := false) (c := false) (J.eqb (Ts_cmp (Ev_name (v := .str (mkS (wordOf (fmF b c t)))) (by rfl)) (J.eqv (Ev_meth PySem.F.plainAttrs_str PySem.F.slot_str_join PySem.F.type_str_join Ev_str (.str _) (Es_cons (Ev_name (v := .list (cSs (pcs (fmF b c t).ats))) (by rfl)) Es_nil) (ca_join (ss := (pcs (fmF b c t).ats).map mkS) (by rw [← cSs_eq]; rfl) (by rw [show Txt.join (Str.ofString "") _ = _ from hj, mkS_len]; show (wordOf (fmF b c t)).length ≤ _; walk_at "o") hfit)) (congrArg CV.str hj)) (.neS _ _)) (by simp [wordOf])) (fun _ => J.eqb (Ts_cmp (Ev_name (v := .str (mkS ((fmF b c t).toks ++ [92]))) (by rfl)) (J.eqv (Ev_bo (Ev_name (v := .str (mkS (fmF b c t).toks)) (by rfl)) Ev_str (.seq (.addS _ _ (by rw [mkS_len]; show _ + 1 ≤ _; walk_at "o")))) (congrArg CV.str (mkS_app _ [92]))) (.neS _ _)) (by simp))) (by rfl)) ?_
  have hi0 : (cSs (pcs (asF b c)))[(0 : Int).toNat]? = some (.str (mkS (txt (wrF b c 0)))) := by simp [cSs, asF, List.range_succ_eq_map]
  have chk1 := fn_check (B := B) (n := n + 41) H (txt (wrF b c 0) ++ [41]) (by simp only [List.length_append, List.length_cons, List.length_nil]; walk_at "o")
  have chk2 := fn_check (B := B) (n := n + 41) H (txt (wrF b c 0) ++ [41, 40]) (by simp only [List.length_append, List.length_cons, List.length_nil]; walk_at "o")
  rw [hc1] at chk1
  rw [hc2] at chk2
  refine .else_go (J.eqb (Ts_or2 (b := false) (c := false) (J.eqb (Ts_cmp (Ev_callF (Ev_name (by rfl)) H.check_paren.fn (Es_cons (J.eqv (Ev_bo (Ev_item (v := .str (mkS (txt (wrF b c 0)))) (Ev_name (v := .list (cSs (pcs (asF b c)))) (by rfl)) Ev_int (.list (by rfl) (by decide) (by decide) hi0)) Ev_str (.seq (.addS _ _ (by rw [mkS_len]; show _ + 1 ≤ _; walk_at "o")))) (congrArg CV.str (mkS_app _ [41]))) Es_nil) (FnJ.ca chk1 (by rfl))) Ev_bool (.isNotB _ _)) (by rfl))
    (fun _ => J.eqb (Ts_cmp (Ev_callF (Ev_name (by rfl)) H.check_paren.fn (Es_cons (J.eqv (Ev_bo (Ev_item (v := .str (mkS (txt (wrF b c 0)))) (Ev_name (v := .list (cSs (pcs (asF b c)))) (by rfl)) Ev_int (.list (by rfl) (by decide) (by decide) hi0)) Ev_str (.seq (.addS _ _ (by rw [mkS_len]; show _ + 2 ≤ _; walk_at "o")))) (congrArg CV.str (mkS_app _ [41, 40]))) Es_nil) (FnJ.ca chk2 (by rfl))) Ev_bool (.isNotB _ _)) (by rfl))) (by rfl)) ?_
  exact XsE.pre kk (.cons (by rfl) (.cons (by rfl) (.cons (by rfl) (.cons (by rfl) (.cons (by rfl) (.cons (by rfl) .nil))))))
end
end Mine

namespace Mine
theorem chk_out {a : Nat} (h : chk a = true) : ∃ ways cuts once ag, leastRun (bitsOf a) 100 ⟨[], [15], []⟩ = some ways ∧ leastRun (bitsOf (mir a)) 100 ⟨[], [15], []⟩ = some cuts ∧ 32768 ≤ a ∧ 32768 ≤ mir a ∧ usedOf ways ≠ [] ∧ usedOf ways = usedOf cuts ∧ covL ways = oneL a ∧ hits ways cuts = true ∧ ways.length ≤ 100 ∧ cuts.length ≤ 100 ∧
    textOf ways 8 (usedOf ways) = some once ∧ once.length ≤ 100 ∧ agree a once = some ag ∧ (((singleL ways cuts).isEmpty == (partL ways cuts (usedOf ways)).isEmpty) && ((partL ways cuts (usedOf ways)).isEmpty == ag)) = true := by
  unfold chk at h
  cases h1 : leastRun (bitsOf a) 100 ⟨[], [15], []⟩ with
  | none => rw [h1] at h; (first|subst h|obtain rfl:=sj h|exact n1 h|exact n2 h|exact b1 h|exact b2 h|cases h)
  | some ways =>
    cases h2 : leastRun (bitsOf (mir a)) 100 ⟨[], [15], []⟩ with
    | none => rw [h1, h2] at h; (first|subst h|obtain rfl:=sj h|exact n1 h|exact n2 h|exact b1 h|exact b2 h|cases h)
    | some cuts =>
      rw [h1, h2] at h
      cases h3 : textOf ways 8 (usedOf ways) with
      | none => simp only [h3, Bool.and_false] at h; (first|subst h|obtain rfl:=sj h|exact n1 h|exact n2 h|exact b1 h|exact b2 h|cases h)
      | some once =>
        cases h4 : agree a once with
        | none => simp only [h3, h4, Bool.and_false] at h; (first|subst h|obtain rfl:=sj h|exact n1 h|exact n2 h|exact b1 h|exact b2 h|cases h)
        | some ag =>
          simp only [h3, h4] at h
          rw [Bool.and_eq_true, Bool.and_eq_true, Bool.and_eq_true, Bool.and_eq_true, Bool.and_eq_true, Bool.and_eq_true, Bool.and_eq_true, Bool.and_eq_true, Bool.and_eq_true] at h
          obtain ⟨⟨⟨⟨⟨⟨⟨⟨a1, a2⟩, a3⟩, a4⟩, a5⟩, a6⟩, a7⟩, a8⟩, a9, a10⟩ := h
          refine ⟨ways, cuts, once, ag, rfl, rfl, of_decide_eq_true a1, of_decide_eq_true a2, ?_, of_decide_eq_true a4, of_decide_eq_true a5, a6, of_decide_eq_true a7, of_decide_eq_true a8, h3, of_decide_eq_true a9, h4, a10⟩
          intro e
          rw [e] at a3; cases a3
theorem agree_out {a : Nat} {once : List Nat} {ag : Bool} (h : agree a once = some ag) : (once = [] ∧ ag = false) ∨ (once ≠ [] ∧ ∃ t : Fm, t.good = true ∧ t.size ≤ 5 ∧ pcs t.ats = (once.map fun c => [c]) ∧ t.toks = once ∧ ag = decide ([(t.val (mAt msL) : Int), t.dual (mAt msL)] = [(a : Int), (mir a : Nat)])) := by
  unfold agree at h
  split at h
  · rename_i e; (first|subst h|obtain rfl:=sj h|exact n1 h|exact n2 h|exact b1 h|exact b2 h|cases h); exact .inl ⟨e, rfl⟩
  · rename_i e
    split at h
    · rename_i t _ _
      split at h
      · rename_i hp
        (first|subst h|obtain rfl:=sj h|exact n1 h|exact n2 h|exact b1 h|exact b2 h|cases h)
        unfold plainFm at hp
        simp only [Bool.and_eq_true, decide_eq_true_eq] at hp
        exact .inr ⟨e, t, hp.1.1.1, hp.1.1.2, hp.2, hp.1.2, rfl⟩
      · (first|subst h|obtain rfl:=sj h|exact n1 h|exact n2 h|exact b1 h|exact b2 h|cases h)
    · (first|subst h|obtain rfl:=sj h|exact n1 h|exact n2 h|exact b1 h|exact b2 h|cases h)
theorem i2d_bits (a : Nat) (h1 : 2 ^ 15 ≤ a) (h2 : a < 2 ^ 16) : int2digits a 1 = bitsOf a := by
  have hb : Builtin.Int.intBits (a : Int) = 16 := by
    unfold Builtin.Int.intBits
    have h0 : ((a : Int) == 0) = false := by simp; walk_at "o"
    rw [h0]
    simp only [Bool.false_eq_true, if_false, Int.natAbs_natCast]
    have h3 : a ≠ 0 := by walk_at "o"
    have h4 := (Nat.log2_lt (k := 16) h3).mpr h2
    have h5 := (Nat.le_log2 (k := 15) h3).mpr h1
    walk_at "o"
  have hn : ndig a 1 = 16 := by unfold ndig; rw [hb]
  rw [int2digits, digs_map, hn]
  unfold bitsOf
  refine List.map_congr_left fun i hi => ?_
  simp
theorem bits_ev (a : Nat) (f : Nat → Bool) (h : ∀ i < 16, a.testBit i = f i) : (bitsOf a).map Int.ofNat = (List.range 16).map fun i => b2i (f i) := by
  unfold bitsOf
  rw [List.map_map]
  refine List.map_congr_left fun i hi => ?_
  have h1 := h i (List.mem_range.mp hi)
  rw [Nat.testBit_eq_decide_div_mod_eq] at h1
  simp only [Function.comp, b2i]
  rw [← h1]
  have := Nat.mod_two_eq_zero_or_one (a / 2 ^ i)
  rcases this with e | e <;> rw [e] <;> rfl
theorem rev_bits (a : Nat) : pickV (ci (bitsOf a)) none none (some (-1)) = ci (bitsOf a).reverse := by
  unfold pickV
  have hl : (ci (bitsOf a)).length = 16 := by simp [bitsOf]
  have hr : sliceRange (sliceBounds none none (some (-1)) 16).1 (sliceBounds none none (some (-1)) 16).2.1 (sliceBounds none none (some (-1)) 16).2.2 = (List.range 16).reverse := by decide +kernel
  rw [hl, hr]
  rfl
theorem mir_bits (a : Nat) : (bitsOf (mir a)).map Int.ofNat = (bitsOf a).reverse.map fun (i : Nat) => (1 : Int) - i := by
  rw [bits_ev (mir a) (fun i => !a.testBit (15 - i)) (fun i hi => by unfold mir; rw [ofB_bit]; simp [hi])]
  have e : (bitsOf a).reverse = (List.range 16).map fun i => a / 2 ^ (15 - i) % 2 := by rfl
  rw [e, List.map_map]
  refine List.map_congr_left fun i hi => ?_
  simp only [Function.comp, b2i]
  rw [Nat.testBit_eq_decide_div_mod_eq]
  have := Nat.mod_two_eq_zero_or_one (a / 2 ^ (15 - i))
  rcases this with e | e <;> rw [e] <;> rfl
end Mine

namespace Mine
section
variable {B : Base} {n : Nat} {ce : CEnv} {st st1 st2 st3 : LSt} {r : CV}
noncomputable abbrev nmF (b c : Int) (t : Tr) : Nat := (fmF b c t).val (mAt msL)
noncomputable abbrev dvV (k : Nat) : CV := .tup [.int ((65535 / (2 ^ 2 ^ k + 1) : Nat) : Int), .int ((65535 % (2 ^ 2 ^ k + 1) : Nat) : Int)]
noncomputable abbrev lawV24 (a b c : Int) (t : Tr) : List (Str × CV) := [(Str.ofString "heaps", cI [a, b, c]), (Str.ofString "masks", .list (ci msL)), (Str.ofString "number", .int (nmF b c t : Nat)), (Str.ofString "mirror", .int (mir (nmF b c t) : Nat)), (Str.ofString "cases", .list (ci (bitsOf (nmF b c t)))), (Str.ofString "turned", .list (ci (bitsOf (mir (nmF b c t))))), (Str.ofString "lexer", .ref 6), (Str.ofString "text", .str (mkS (lawText (wordOf (fmF b c t)) (mdF a) (giF a))))]
theorem pp_eq : ∀ k ∈ List.range 4, (2 : Int) ^ ((2 : Int) ^ ((0 : Int) + (k : Int) * 1).toNat).toNat = ((2 ^ 2 ^ k : Nat) : Int) ∧ (2 : Int) ^ ((0 : Int) + (k : Int) * 1).toNat ≤ 8 ∧ 0 ≤ (2 : Int) ^ ((0 : Int) + (k : Int) * 1).toNat ∧ ((65535 / (2 ^ 2 ^ k + 1) : Nat) : Int) * (2 : Int) ^ ((2 : Int) ^ ((0 : Int) + (k : Int) * 1).toNat).toNat = (msL.getD k 0 : Nat) ∧ 65535 % (2 ^ 2 ^ k + 1) = 0 ∧ 2 ^ 2 ^ k ≤ 256 := by decide +kernel
set_option maxHeartbeats 8000000 in
theorem law_4 (H : Law B) (D : TokD B) (T : TabFn B 35 (posOf innerDef) (nameOf innerDef)) (T2 : TabFn B 42 (posOf innerDef2) (nameOf innerDef2)) (a b c : Int) (ha : 0 ≤ a) (t : Tr) (ht : t.leaves = (List.range 5).map (lsF b)) (hsg : sgOk t) (S : List CO)
    (h15 : 32768 ≤ nmF b c t) (h15' : 32768 ≤ mir (nmF b c t))
    (kk : XsE B (n + 44) lce (lawT 24) ⟨lawV24 a b c t, S⟩ (.ret r)) :
    XsE B (n + 44) lce (lawT 17) ⟨lawV17 a b c t, S⟩ (.ret r) := by
  have hsz : (fmF b c t).size = 5 := by rw [mk_size, t_size b t ht]
  have hd : (fmF b c t).dual (mAt msL) = mir (nmF b c t) := mk_mir t _ (t_lt b t ht)
  have hlt := mk_lt t (asF b c) (t_lt b t ht)
  have hlt1 : nmF b c t < 2 ^ 16 := hlt.1
  have hlt2 : mir (nmF b c t) < 2 ^ 16 := hd ▸ hlt.2
  have htl := fm_toks_len b c t ht
  have hread := fn_read (B := B) (n := n + 36) H D msL rfl (fmF b c t) (fm_good b c t ht) (by walk_at "o")
  rw [hsz, hd] at hread
  have hi1 := fn_int2digits (B := B) (n := n + 11) H T (nmF b c t) 1 (by walk_at "o") (by walk_at "o") (by walk_at "o")
  have hi2 := fn_int2digits (B := B) (n := n + 11) H T (mir (nmF b c t)) 1 (by walk_at "o") (by walk_at "o") (by walk_at "o")
  rw [i2d_bits _ h15 hlt1] at hi1
  rw [i2d_bits _ h15' hlt2] at hi2
  have htr := fn_truths (B := B) H t (n := n + 39) (t_lt b t ht)
  rw [t_size b t ht, ← bits_ev (nmF b c t) t.ev (fun i hi => (mk_val t (asF b c) i hi (t_lt b t ht)).1)] at htr
  have hdig := fn_digits (B := B) (n := n + 10) H T (nmF b c t) ((2 + a / 1152 % 6).toNat) (bitsOf (nmF b c t)) h15 hlt1 (by walk_at "o") (by walk_at "o") rfl
  conv at kk in (lawT 24) => whnf
  conv in (lawT 17) => whnf
  refine .cons (Ex_assign (v := .list ((List.range 4).map dvV)) (J.eqv (Ev_compAll (val := rvN) (as := List.range 4) (out := fun k => some (dvV k)) (ItE.ok (Ev_callT (Ev_name (by rfl)) (Es_cons Ev_int Es_nil) ca_range1) (IterOk.rng (k := 4) (rngOk _ (by walk_at "o")).1 (rngOk _ (by walk_at "o")).2)) (pures_rng _ _ _) (.mk' (by decide +kernel) (by rfl))
    (fun k hk => .all (As_name (by rfl)) (Ev_callF (Ev_name (by rfl)) H.int_divmod.fn (Es_cons (v := .int ((65535 : Nat) : Int)) (J.eqv (Ev_bo (Ev_bo Ev_int Ev_int (.num (.pow _ _ (by decide) (by decide) (by decide)))) Ev_int (.num (.sub _ _))) (by rfl)) (Es_cons (v := .int ((2 ^ 2 ^ k + 1 : Nat) : Int)) (J.eqv (Ev_bo (Ev_bo Ev_int (Ev_bo Ev_int (Ev_name (v := rvN k) (by rfl)) (.num (.pow _ _ (by walk_at "o") (by have := List.mem_range.mp hk; walk_at "o") (by decide)))) (.num (.pow _ _ (pp_eq k hk).2.2.1 (by have := (pp_eq k hk).2.1; walk_at "o") (by decide)))) Ev_int (.num (.add _ _))) (congrArg CV.int ?_)) Es_nil)) (FnJ.ca (fn_int_divmod (n := n + 3) H T T2 65535 (2 ^ 2 ^ k + 1) (Nat.succ_pos _) (by have := (pp_eq k hk).2.2.2.2.2; walk_at "o") (by decide)) (by rfl))) rfl .nil rfl) (by simp)) ?_) (As_name (by rfl)) (h1 := fun env he => swaps_no he (by show some NameKind.cell ≠ some NameKind.local; decide))) ?_
  · rw [(pp_eq k hk).1]; walk_at "o"
  · rw [filterMap_all]
  refine .cons (Ex_compAll (val := rvN) (as := List.range 4) (out := fun k => some (.int (msL.getD k 0 : Nat))) (ItE.ok (Ev_callT (Ev_name (by rfl)) (Es_cons Ev_int Es_nil) ca_range1) (IterOk.rng (k := 4) (rngOk _ (by walk_at "o")).1 (rngOk _ (by walk_at "o")).2)) (pures_rng _ _ _) (.mk' (by decide +kernel) (by rfl))
    (fun k hk => .all (As_name (by rfl)) (J.eqv (Ev_bo (Ev_item (v := .int ((65535 / (2 ^ 2 ^ k + 1) : Nat) : Int)) (Ev_item (v := dvV k) (Ev_name (v := .list ((List.range 4).map dvV)) (by rfl)) (Ev_name (v := rvN k) (by rfl)) (.list (by rfl) (by walk_at "o") (by have := List.mem_range.mp hk; walk_at "o") (rng_get 4 _ k (List.mem_range.mp hk)))) Ev_int (.tup (by decide) (by decide) (by rfl))) (Ev_bo Ev_int (Ev_bo Ev_int (Ev_name (v := rvN k) (by rfl)) (.num (.pow _ _ (by walk_at "o") (by have := List.mem_range.mp hk; walk_at "o") (by decide)))) (.num (.pow _ _ (pp_eq k hk).2.2.1 (by have := (pp_eq k hk).2.1; walk_at "o") (by decide)))) (.num (.mul _ _ ?_))) (congrArg CV.int (pp_eq k hk).2.2.2.1)) rfl .nil rfl) (by simp) (by rfl) (by rfl)) ?_
  · rw [(pp_eq k hk).1, Int.natAbs_natCast]; exact Nat.lt_of_le_of_lt (pp_eq k hk).2.2.2.2.2 (by decide)
  rw [show ((List.range 4).filterMap fun k => some (CV.int (msL.getD k 0 : Nat))) = ci msL by rfl]
  refine .cons (Ex_assign (v := .tup [.int (nmF b c t : Nat), .int (mir (nmF b c t) : Nat)]) (Ev_callF (Ev_name (by rfl)) H.read.fn (Es_cons (Ev_name (v := .list (cSs (pcs (fmF b c t).ats))) (by rfl)) (Es_cons (v := .str (mkS (fmF b c t).toks)) (J.eqv (Ev_slice (Ev_name (v := .str (mkS ((fmF b c t).toks ++ [92]))) (by rfl)) Pt_none (Pt_some (Ev_un Ev_int (.neg _))) (.str (by rw [mkS_len]; simp; walk_at "o"))) (congrArg CV.str ?_)) (Es_cons (Ev_name (v := .list (ci msL)) (by rfl)) Es_nil))) (FnJ.ca hread (by simp only [pures, CV.pure, pures_ci, Bool.and_true, cSs]; exact pures_map (fun _ => rfl) _))) (As_tuple (.cons (As_name (by rfl)) (.cons (As_name (by rfl)) .nil)) rfl)) ?_
  · rw [slice_init]; simp
  refine .cons (Ex_assign (v := .list (ci (bitsOf (nmF b c t)))) (Ev_callF (Ev_name (by rfl)) H.int2digits.fn (Es_cons (Ev_name (v := .int (nmF b c t : Nat)) (by rfl)) (Es_cons (v := .int ((1 : Nat) : Int)) Ev_int Es_nil)) (FnJ.ca hi1 (by rfl))) (As_name (by rfl))) ?_
  refine .cons (Ex_assign (v := .list (ci (bitsOf (mir (nmF b c t))))) (Ev_callF (Ev_name (by rfl)) H.int2digits.fn (Es_cons (Ev_name (v := .int (mir (nmF b c t) : Nat)) (by rfl)) (Es_cons (v := .int ((1 : Nat) : Int)) Ev_int Es_nil)) (FnJ.ca hi2 (by rfl))) (As_name (by rfl))) ?_
  have hdp : pures ((List.range 4).map dvV) = true := pures_map (fun _ => rfl) _
  refine .else_go (J.eqb (Ts_or2 (b := false) (c := false) (J.eqb (Ts_cmp (v1 := .list [.int 0, .int 0, .int 0, .int 0]) (J.eqv (Ev_compAll (val := dvV) (as := List.range 4) (out := fun k => some (.int ((65535 % (2 ^ 2 ^ k + 1) : Nat) : Int))) (ItE.ok (Ev_name (v := .list ((List.range 4).map dvV)) (by rfl)) (IterOk.list hdp)) hdp (.mk' (by decide +kernel) (by rfl)) (fun k hk => .all (As_name (by rfl)) (Ev_item (Ev_name (v := dvV k) (by rfl)) Ev_int (.tup (by decide) (by decide) (by rfl))) rfl .nil rfl) (by simp)) (by rfl)) (Ev_list (Es_cons Ev_int (Es_cons Ev_int (Es_cons Ev_int (Es_cons Ev_int Es_nil)))) (by simp)) (.neL (ns := [0, 0, 0, 0]) (ms := [0, 0, 0, 0]) (by rfl) (by rfl))) (by rfl))
    (fun _ => J.eqb (Ts_cmp (Ev_name (v := .list (ci (bitsOf (nmF b c t)))) (by rfl)) (Ev_callF (Ev_name (by rfl)) H.truths.fn (Es_cons (Ev_name (v := t.cv) (by rfl)) Es_nil) (FnJ.ca htr (by simp only [pures, t.pure, Bool.and_true]))) (.neL (ns := (bitsOf (nmF b c t)).map Int.ofNat) (ms := (bitsOf (nmF b c t)).map Int.ofNat) (by rw [← ci_map]; rfl) (by rfl))) (by simp))) (by rfl)) ?_
  have hmb := mir_bits (nmF b c t)
  refine .else_go (J.eqb (Ts_or2 (b := false) (c := false) (J.eqb (Ts_cmp (Ev_name (v := .list (ci (bitsOf (mir (nmF b c t))))) (by rfl)) (Ev_compAll (val := fun i : Nat => CV.int i) (as := (bitsOf (nmF b c t)).reverse) (out := fun (i : Nat) => some (.int ((1 : Int) - i))) (ItE.ok (J.eqv (Ev_sliceL (hs := by first | exact ⟨fun x y => [y, x], fun _ _ => rfl⟩ | exact ⟨fun x y => [x, y], fun _ _ => rfl⟩) (Ev_name (v := .list (ci (bitsOf (nmF b c t)))) (by rfl)) Pt_none Pt_none (Pt_some (Ev_un Ev_int (.neg _))) (by rfl) (by simp [bitsOf]) (by decide)) (congrArg CV.list (rev_bits _))) (IterOk.list (pures_ci _))) (pures_ci _) (.mk' (by decide +kernel) (by rfl)) (fun i hi => .all (As_name (by rfl)) (Ev_bo Ev_int (Ev_name (v := .int i) (by rfl)) (.num (.sub _ _))) rfl .nil rfl) (by simp [bitsOf])) (.neL (ns := (bitsOf (mir (nmF b c t))).map Int.ofNat) (ms := (bitsOf (nmF b c t)).reverse.map fun (i : Nat) => (1 : Int) - i) (by rw [← ci_map]; rfl) (by rw [filterMap_all, List.map_map]; rfl))) (by rw [hmb]; simp))
    (fun _ => J.eqb (Ts_not (Ts_plain (Ev_callF (Ev_name (by rfl)) H.digits.fn (Es_cons (Ev_name (v := .int (nmF b c t : Nat)) (by rfl)) (Es_cons (Ev_name (v := .list (ci (bitsOf (nmF b c t)))) (by rfl)) (Es_cons (v := .int ((2 + a / 1152 % 6).toNat : Nat)) (J.eqv (Ev_bo Ev_int (Ev_bo (Ev_bo (Ev_item (v := .int a) (Ev_name (v := cI [a, b, c]) (by rfl)) Ev_int (.list (by rfl) (by decide) (by decide) (by rfl))) Ev_int (.num (.div _ _ (by decide) (by decide)))) Ev_int (.num (.mod _ _ (by decide)))) (.num (.add _ _))) (congrArg CV.int (by walk_at "o"))) Es_nil))) (FnJ.ca hdig (by simp only [pures, CV.pure, pures_ci, Bool.and_true]))) (.bool true))) (by rfl))) (by rfl)) ?_
  exact XsE.pre kk (.cons (by rfl) (.cons (by rfl) (.cons (by rfl) (.cons (by rfl) (.cons (by rfl) (.cons (by rfl) (.cons (by rfl) (.cons (by rfl) .nil))))))))
end
end Mine

namespace Mine
section
variable {B : Base} {n : Nat} {ce : CEnv} {st st1 st2 st3 : LSt} {r : CV}
noncomputable abbrev lawV31 (a b c : Int) (t : Tr) : List (Str × CV) := [(Str.ofString "lexer", .ref 6), (Str.ofString "text", .str (mkS (lawText (wordOf (fmF b c t)) (mdF a) (giF a))))]
theorem law_6 (N : NetC B) (F : NetF B) (a b c : Int) (t : Tr) (q : Bool) : XsE B (n + 44) lce (lawT 31) ⟨lawV31 a b c t, lexSto (linesF a b c t) [101, 110, 100] [.citer 6 98 q]⟩ (.ret (.bool true)) := by
  obtain ⟨q1, g1⟩ := ca_gett (B := B) (n := n + 40) (ce := lce) N F [101, 110, 100] (linesF a b c t) [.citer 6 98 q] (by decide) (lawV31 a b c t)
  rw [lexT_end] at g1
  obtain ⟨q2, g2⟩ := ca_gett (B := B) (n := n + 40) (ce := lce) N F [] (linesF a b c t) [.citer 6 98 q, .citer 6 98 q1] (by decide) (lawV31 a b c t)
  have hc := ca_count (B := B) (n := n + 44) (ce := lce) (st := ⟨lawV31 a b c t, lexSto (linesF a b c t) [] [.citer 6 98 q, .citer 6 98 q1, .citer 6 98 q2]⟩) (x := mkS (lawText (wordOf (fmF b c t)) (mdF a) (giF a))) (y := mkS [10])
  rw [occ_single, law_count _ _ _ (mdF_lt a)] at hc
  conv in (lawT 31) => whnf
  refine .ret (Ev_and_true (v1 := .bool true) (J.eqv (Ev_cmp (Ev_methI N N.gt N.f105 F.gt.fn (Ev_name (v := .ref 6) (by rfl)) (by rfl) (by rfl) Es_nil g1) Ev_str (.eqS _ _)) (by rfl)) (.bool true)
    (Ev_and_true (v1 := .bool true) (J.eqv (Ev_cmp (Ev_methI N N.gt N.f105 F.gt.fn (Ev_name (v := .ref 6) (by rfl)) (by rfl) (by rfl) Es_nil g2) Ev_str (.eqS _ _)) (by rfl)) (.bool true)
    (Ev_one (J.eqv (Ev_cmp (Ev_attr N (v := .int (linesF a b c t)) (Ev_name (v := .ref 6) (by rfl)) (by rfl) (by rfl)) (Ev_bo Ev_int (Ev_meth PySem.F.plainAttrs_str PySem.F.slot_str_count PySem.F.type_str_count (Ev_name (v := .str (mkS (lawText (wordOf (fmF b c t)) (mdF a) (giF a)))) (by rfl)) (.str _) (Es_cons Ev_str Es_nil) hc) (.num (.add _ _))) (.eqI _ _)) (congrArg CV.bool (decide_eq_true (by simp only [linesF]; walk_at "o")))))))
end
end Mine

namespace Mine
section
variable {B : Base} {n : Nat} {ce : CEnv} {st st1 st2 st3 : LSt} {r : CV}
theorem hits_nil {ways cuts : List Nat} (h : hits ways cuts = true) : (ways.flatMap fun (w : Nat) => cuts.filterMap fun (c : Nat) => if decide (Builtin.bitAnd (w : Int) (c : Int) = 0) then some (CV.int w) else none) = [] := by
  rw [List.flatMap_eq_nil_iff]
  intro w hw
  rw [List.filterMap_eq_nil_iff]
  intro c hc
  have := List.all_eq_true.mp (List.all_eq_true.mp h w hw) c hc
  simp only [Bool.not_eq_true', decide_eq_false_iff_not] at this
  simp [this]
theorem map_rvN (l : List Nat) : l.map rvN = ci l := List.map_congr_left fun k _ => congrArg CV.int (rng_pt k)
theorem cov_if (ways : List Nat) (c : Nat) : (!decide ((ways.filter fun (w : Nat) => decide (Builtin.bitAnd (w : Int) (15 - ((0 : Int) + (c : Int) * 1)) = 0)).map Int.ofNat = [])) = ways.any fun (w : Nat) => decide (Builtin.bitAnd (w : Int) (15 - (c : Int)) = 0) := by
  rw [rng_pt, Bool.eq_iff_iff]
  simp [List.filter_eq_nil_iff]
set_option maxHeartbeats 8000000 in
theorem law_5 (H : Law B) (N : NetC B) (F : NetF B) (D : TokD B) (T : TabFn B 35 (posOf innerDef) (nameOf innerDef)) (T2 : TabFn B 42 (posOf innerDef2) (nameOf innerDef2)) (a b c : Int) (hb : 0 ≤ b) (t : Tr) (ht : t.leaves = (List.range 5).map (lsF b)) (S : List CO)
    (ways cuts once : List Nat) (ag : Bool) (h1 : leastRun (bitsOf (nmF b c t)) 100 ⟨[], [15], []⟩ = some ways) (h2 : leastRun (bitsOf (mir (nmF b c t))) 100 ⟨[], [15], []⟩ = some cuts) (h15 : 32768 ≤ nmF b c t) (hu : usedOf ways ≠ []) (hu2 : usedOf ways = usedOf cuts) (hcov : covL ways = oneL (nmF b c t)) (hhit : hits ways cuts = true) (hw : ways.length ≤ 100) (hc : cuts.length ≤ 100)
    (htx : textOf ways 8 (usedOf ways) = some once) (hol : once.length ≤ 100) (hag : agree (nmF b c t) once = some ag) (hfin : (((singleL ways cuts).isEmpty == (partL ways cuts (usedOf ways)).isEmpty) && ((partL ways cuts (usedOf ways)).isEmpty == ag)) = true)
    (kk : XsE B (n + 44) lce (lawT 31) ⟨lawV31 a b c t, S⟩ (.ret r)) :
    XsE B (n + 44) lce (lawT 24) ⟨lawV24 a b c t, S⟩ (.ret r) := by
  have hlt := (mk_lt t (asF b c) (t_lt b t ht)).1
  have hlt1 : nmF b c t < 2 ^ 16 := hlt
  have l1 := fn_least (B := B) (n := n + 41) H N F (bitsOf (nmF b c t)) ways (by simp [bitsOf]) h1
  have l2 := fn_least (B := B) (n := n + 41) H N F (bitsOf (mir (nmF b c t))) cuts (by simp [bitsOf]) h2
  have hdv := fn_divided (B := B) (n := n) H T T2 (nmF b c t) ((2 + b / 1024 % 999).toNat) (by walk_at "o") (by walk_at "o") (by walk_at "o") (by walk_at "o")
  have hul : (usedOf ways).length ≤ 4 := by unfold usedOf; exact Nat.le_trans (List.length_filter_le _ _) (by simp)
  have hon := fn_once (B := B) (n := n + 32) H N F D ways cuts (usedOf ways) msL (nmF b c t) (mir (nmF b c t)) (by walk_at "o") (by walk_at "o") (by walk_at "o") rfl once ag htx (by walk_at "o") (agree_out hag)
  rw [hfin] at hon
  conv at kk in (lawT 31) => whnf
  conv in (lawT 24) => whnf
  refine .cons (Ex_assign (v := .list (ci ways)) (Ev_callF (Ev_name (by rfl)) H.least.fn (Es_cons (Ev_name (v := .list (ci (bitsOf (nmF b c t)))) (by rfl)) Es_nil) (FnJ.ca l1 (by simp only [pures, CV.pure, pures_ci, Bool.and_true]))) (As_name (by rfl))) ?_
  refine .cons (Ex_assign (v := .list (ci cuts)) (Ev_callF (Ev_name (by rfl)) H.least.fn (Es_cons (Ev_name (v := .list (ci (bitsOf (mir (nmF b c t))))) (by rfl)) Es_nil) (FnJ.ca l2 (by simp only [pures, CV.pure, pures_ci, Bool.and_true]))) (As_name (by rfl))) ?_
  refine .cons (Ex_compAll (val := rvN) (as := List.range 4) (out := fun k => if nearN ways k k then some (rvN k) else none) (ItE.ok (Ev_callT (Ev_name (by rfl)) (Es_cons Ev_int Es_nil) ca_range1) (IterOk.rng (k := 4) (rngOk _ (by walk_at "o")).1 (rngOk _ (by walk_at "o")).2)) (pures_rng _ _ _) (.mk' (by decide +kernel) (by rfl))
    (fun k hk => .ite (As_name (by rfl)) (Ifs_one (Ts_plain (Ev_callF (Ev_name (by rfl)) H.near.fn (Es_cons (v := .int (k : Nat)) (J.eqv (Ev_name (v := rvN k) (by rfl)) (congrArg CV.int (rng_pt k))) (Es_cons (v := .int (k : Nat)) (J.eqv (Ev_name (v := rvN k) (by rfl)) (congrArg CV.int (rng_pt k))) (Es_cons (Ev_name (v := .list (ci ways)) (by rfl)) Es_nil))) (FnJ.ca (fn_nearN (n := n + 43) H ways k k (by walk_at "o")) (by simp only [pures, CV.pure, pures_ci, Bool.and_true]))) (.bool _))) (fun _ => Ev_name (by rfl)) (fun _ => rfl) .nil rfl) (by simp) (by rfl) (by rfl)) ?_
  rw [filterMap_if, map_rvN, show (List.range 4).filter (fun k => nearN ways k k) = usedOf ways from rfl]
  refine .else_go (J.eqb (Ts_or2 (b := false) (c := false) (J.eqb (Ts_cmp (Ev_name (v := .list (ci (usedOf ways))) (by rfl)) (Ev_list Es_nil (by decide)) (.eqL (ns := (usedOf ways).map Int.ofNat) (ms := []) (by rw [← ci_map]; rfl) (by rfl))) (by simp [hu]))
    (fun _ => J.eqb (Ts_cmp (Ev_name (v := .list (ci (usedOf ways))) (by rfl)) (v2 := .list (ci (usedOf cuts))) (J.eqv (Ev_compAll (val := rvN) (as := List.range 4) (out := fun k => if nearN cuts k k then some (rvN k) else none) (ItE.ok (Ev_callT (Ev_name (by rfl)) (Es_cons Ev_int Es_nil) ca_range1) (IterOk.rng (k := 4) (rngOk _ (by walk_at "o")).1 (rngOk _ (by walk_at "o")).2)) (pures_rng _ _ _) (.mk' (by decide +kernel) (by rfl))
    (fun k hk => .ite (As_name (by rfl)) (Ifs_one (Ts_plain (Ev_callF (Ev_name (by rfl)) H.near.fn (Es_cons (v := .int (k : Nat)) (J.eqv (Ev_name (v := rvN k) (by rfl)) (congrArg CV.int (rng_pt k))) (Es_cons (v := .int (k : Nat)) (J.eqv (Ev_name (v := rvN k) (by rfl)) (congrArg CV.int (rng_pt k))) (Es_cons (Ev_name (v := .list (ci cuts)) (by rfl)) Es_nil))) (FnJ.ca (fn_nearN (n := n + 43) H cuts k k (by walk_at "o")) (by simp only [pures, CV.pure, pures_ci, Bool.and_true]))) (.bool _))) (fun _ => Ev_name (by rfl)) (fun _ => rfl) .nil rfl) (by simp)) (by rw [filterMap_if, map_rvN]; rfl)) (.neL (ns := (usedOf ways).map Int.ofNat) (ms := (usedOf cuts).map Int.ofNat) (by rw [← ci_map]; rfl) (by rw [← ci_map]; rfl))) (by rw [hu2]; simp))) (by rfl)) ?_
  have hgetc : ∀ k, k ∈ List.range 16 → (ci (bitsOf (nmF b c t)))[((0 : Int) + (k : Int) * 1).toNat]? = some (.int (nmF b c t / 2 ^ k % 2 : Nat)) := fun k hk => by
    rw [ci, bitsOf, List.map_map]
    exact rng_get 16 _ k (List.mem_range.mp hk)
  refine .else_go (J.eqb (Ts_cmp (v1 := .list (ci (covL ways))) (v2 := .list (ci (oneL (nmF b c t)))) (J.eqv (Ev_compAll (val := rvN) (as := List.range 16) (out := fun (c : Nat) => if (ways.any fun (w : Nat) => decide (Builtin.bitAnd (w : Int) (15 - (c : Int)) = 0)) then some (rvN c) else none) (ItE.ok (Ev_callT (Ev_name (by rfl)) (Es_cons Ev_int Es_nil) ca_range1) (IterOk.rng (k := 16) (rngOk _ (by walk_at "o")).1 (rngOk _ (by walk_at "o")).2)) (pures_rng _ _ _) (.mk' (by decide +kernel) (by rfl))
    (fun k hk => .ite (As_name (by rfl)) (Ifs_one (J.eqb (Ts_cmp (Ev_compAll (val := fun w : Nat => CV.int w) (as := ways) (out := fun (w : Nat) => if decide (Builtin.bitAnd (w : Int) (15 - ((0 : Int) + (k : Int) * 1)) = 0) then some (CV.int w) else none) (ItE.ok (Ev_name (v := .list (ci ways)) (by rfl)) (IterOk.list (pures_ci _))) (pures_ci _) (.mk' (by decide +kernel) (by rfl))
      (fun w hw => .ite (As_name (by rfl)) (Ifs_one (J.eqb (Ts_cmp (Ev_callF (Ev_name (by rfl)) H.iseof.fn (Es_cons (Ev_bo (Ev_name (v := .int w) (by rfl)) (Ev_bo Ev_int (Ev_name (v := rvN k) (by rfl)) (.num (.sub _ _))) (.num (.and _ _))) Es_nil) (FnJ.ca (fn_iseof (n := n + 43) H _) (by rfl))) Ev_bool (.isB _ _)) (by simp))) (fun _ => Ev_name (by rfl)) (fun _ => rfl) .nil rfl) (by walk_at "o")) (Ev_list Es_nil (by decide)) (.neL (ns := (ways.filter fun (w : Nat) => decide (Builtin.bitAnd (w : Int) (15 - ((0 : Int) + (k : Int) * 1)) = 0)).map Int.ofNat) (ms := []) (by rw [filterMap_if, ← ci_map]; rfl) (by rfl))) (cov_if ways k))) (fun _ => Ev_name (by rfl)) (fun _ => rfl) .nil rfl) (by simp)) (by rw [filterMap_if, map_rvN]; rfl))
    (J.eqv (Ev_compAll (val := rvN) (as := List.range 16) (out := fun k => if decide (nmF b c t / 2 ^ k % 2 = 1) then some (rvN k) else none) (ItE.ok (Ev_callT (Ev_name (by rfl)) (Es_cons Ev_int Es_nil) ca_range1) (IterOk.rng (k := 16) (rngOk _ (by walk_at "o")).1 (rngOk _ (by walk_at "o")).2)) (pures_rng _ _ _) (.mk' (by decide +kernel) (by rfl))
    (fun k hk => .ite (As_name (by rfl)) (Ifs_one (J.eqb (Ts_cmp (Ev_item (Ev_name (v := .list (ci (bitsOf (nmF b c t)))) (by rfl)) (Ev_name (v := rvN k) (by rfl)) (.list (by rfl) (by walk_at "o") (by have := List.mem_range.mp hk; walk_at "o") (hgetc k hk))) Ev_int (.eqI _ _)) (by rw [decide_eq_decide]; walk_at "o"))) (fun _ => Ev_name (by rfl)) (fun _ => rfl) .nil rfl) (by simp)) (by rw [filterMap_if, map_rvN]; rfl))
    (.neL (ns := (covL ways).map Int.ofNat) (ms := (oneL (nmF b c t)).map Int.ofNat) (by rw [← ci_map]; rfl) (by rw [← ci_map]; rfl))) (by rw [hcov]; simp)) ?_
  refine .else_go (J.eqb (Ts_cmp (v1 := .list []) (J.eqv (Ev_comp2N (val := fun i : Nat => CV.int i) (val' := fun i : Nat => CV.int i) (bs := fun _ => cuts) (out := fun (w c : Nat) => if decide (Builtin.bitAnd (w : Int) (c : Int) = 0) then some (CV.int (w : Nat)) else none) (as := ways)
    (ItE.ok (Ev_name (v := .list (ci ways)) (by rfl)) (IterOk.list (pures_ci _))) (pures_ci _) (.mk' (by decide +kernel) (by rfl)) (by rfl) (fun w hw => ItE.ok (Ev_name (v := .list (ci cuts)) (by rfl)) (IterOk.list (pures_ci _))) (fun _ _ => pures_ci _)
    (fun w hw c hc => .ite (As_name (by rfl)) (Ifs_one (J.eqb (Ts_cmp (Ev_callF (Ev_name (by rfl)) H.iseof.fn (Es_cons (Ev_bo (Ev_name (v := .int w) (by rfl)) (Ev_name (v := .int c) (by rfl)) (.num (.and _ _))) Es_nil) (FnJ.ca (fn_iseof (n := n + 43) H _) (by rfl))) Ev_bool (.isNotB _ _)) (by cases decide (Builtin.bitAnd (w : Int) (c : Int) = 0) <;> rfl))) (fun _ => Ev_name (by rfl)) (fun _ => rfl) (.cons (by rfl) .nil) rfl) (by rw [hits_nil hhit]; simp)) (congrArg CV.list (hits_nil hhit)))
    (Ev_list Es_nil (by decide)) (.neL (ns := []) (ms := []) (by rfl) (by rfl))) (by rfl)) ?_
  refine .else_go (J.eqb (Ts_or2 (b := false) (c := false) (J.eqb (Ts_not (Ts_plain (Ev_callF (Ev_name (by rfl)) H.divided.fn (Es_cons (Ev_name (v := .int (nmF b c t : Nat)) (by rfl)) (Es_cons (v := .int ((2 + b / 1024 % 999).toNat : Nat)) (J.eqv (Ev_bo Ev_int (Ev_bo (Ev_bo (Ev_item (v := .int b) (Ev_name (v := cI [a, b, c]) (by rfl)) Ev_int (.list (by rfl) (by decide) (by decide) (by rfl))) Ev_int (.num (.div _ _ (by decide) (by decide)))) Ev_int (.num (.mod _ _ (by decide)))) (.num (.add _ _))) (congrArg CV.int (by walk_at "o"))) Es_nil)) (FnJ.ca hdv (by rfl))) (.bool true))) (by rfl))
    (fun _ => J.eqb (Ts_not (Ts_plain (Ev_callF (Ev_name (by rfl)) H.once.fn (Es_cons (Ev_name (v := .list (ci ways)) (by rfl)) (Es_cons (Ev_name (v := .list (ci cuts)) (by rfl)) (Es_cons (Ev_name (v := .list (ci (usedOf ways))) (by rfl)) (Es_cons (Ev_name (v := .list (ci msL)) (by rfl)) (Es_cons (v := .tup [.int (nmF b c t : Nat), .int (mir (nmF b c t) : Nat)]) (Ev_tuple (Es_cons (Ev_name (by rfl)) (Es_cons (Ev_name (by rfl)) Es_nil)) (by simp)) Es_nil))))) (FnJ.ca hon (by simp only [pures, CV.pure, pures_ci, Bool.and_true]))) (.bool true))) (by rfl))) (by rfl)) ?_
  exact XsE.pre kk (.cons (by rfl) (.cons (by rfl) .nil))
end
end Mine

namespace Mine
section
variable {B : Base} {n : Nat}
theorem law_body (H : Law B) (N : NetC B) (F : NetF B) (D : TokD B) (T : TabFn B 35 (posOf innerDef) (nameOf innerDef)) (T2 : TabFn B 42 (posOf innerDef2) (nameOf innerDef2)) (T3 : TabFn B 165 lamPos (Str.ofString "<lambda>")) (script : List Int) (hs : script.length ≤ 1048576) :
    XsE B (n + 44) lce (lawT 0) ⟨[(Str.ofString "script", cI script)], []⟩ (.ret (.bool true)) := by
  refine law_1a H script hs fun a b c t ha hb hc ht hsg => ?_
  obtain ⟨ways, cuts, once, ag, h1, h2, h3, h4, h5, h6, h7, h8, h9, h10, h11, h12, h13, h14⟩ := chk_out (mk_chk t (asF b c) (t_lt b t ht))
  exact law_1b H a b c t ht hsg (law_2 H N F T3 a b c t ht hsg fun q => law_3 H a b c t ht _ (law_4 H D T T2 a b c ha t ht hsg _ h3 h4 (law_5 H N F D T T2 a b c hb t ht _ ways cuts once ag h1 h2 h3 h5 h6 h7 h8 h9 h10 h11 h12 h13 h14 (law_6 N F a b c t q))))
theorem fn_law (H : Law B) (HL : FnAt B 212 [Str.ofString "script"] (bodyAt 82) (scopeAt 82)) (N : NetC B) (F : NetF B) (D : TokD B) (T : TabFn B 35 (posOf innerDef) (nameOf innerDef)) (T2 : TabFn B 42 (posOf innerDef2) (nameOf innerDef2)) (T3 : TabFn B 165 lamPos (Str.ofString "<lambda>")) (script : List Int) (hs : script.length ≤ 1048576) :
    FnJ B (n + 45) (.ref 212) [cI script] (.bool true) :=
  FnJ.of HL (.mk' (by decide +kernel)) (by rfl) rfl (law_body H N F D T T2 T3 script hs) (by rfl)
end
end Mine

namespace Mine
/-! ## The head: what is seen behind the top -/
noncomputable def tabA : List Addr := [160, 30, 37]
noncomputable def P0 (h : Heap) : Gh := fun a => if tabA.contains a then none else h.get? a
noncomputable def fragOf (h : Heap) : List Addr → Frag
  | [] => []
  | a :: as => match h.get? a with
    | some o => (a, o) :: fragOf h as
    | none => fragOf h as
theorem fragOf_get {h : Heap} : ∀ {as : List Addr} {a : Addr} {o : Obj}, (fragOf h as).lookup a = some o → a ∈ as ∧ h.get? a = some o
  | [], a, o, e => by simp [fragOf] at e
  | b :: as, a, o, e => by
    unfold fragOf at e
    cases q : h.get? b with
    | none => rw [q] at e; exact ⟨.tail _ (fragOf_get e).1, (fragOf_get e).2⟩
    | some o' =>
      rw [q] at e
      simp only [List.lookup] at e
      split at e
      · rename_i hb
        rw [eq_of_beq hb]; (first|subst e|obtain rfl:=sj e|exact n1 e|exact n2 e|exact b1 e|exact b2 e|cases e); exact ⟨.head _, q⟩
      · exact ⟨.tail _ (fragOf_get e).1, (fragOf_get e).2⟩
noncomputable def argsOf : Stmt → Arguments
  | .FunctionDef _ a .. => a
  | _ => { posonlyargs := [], args := [], vararg := none, kwonlyargs := [], kw_defaults := [], kwarg := none, defaults := [] }
def BindOk (pa : Arguments) (ps : List Str) : Prop := ∀ (fd : FuncData) (vs : List Value), fd.params = pa → fd.defaults = .none → vs.length = ps.length → bindArgs fd ⟨vs, []⟩ = pure (ps.zip vs)
theorem fd_eta {fd : FuncData} {pa : Arguments} (h1 : fd.params = pa) (h2 : fd.defaults = .none) : fd = { fd with params := pa, defaults := .none } := by subst h1; rw [← h2]
theorem len_succ {l : List Value} {n : Nat} (h : l.length = n + 1) : ∃ a t, l = a :: t ∧ t.length = n := by
  cases l with
  | nil => (first|subst h|obtain rfl:=sj h|exact n1 h|exact n2 h|exact b1 h|exact b2 h|cases h)
  | cons a t => exact ⟨a, t, rfl, Nat.succ.inj h⟩
theorem bindOk1 {pa : Arguments} {x : Str} (h : ∀ (fd : FuncData) (a : Value), bindArgs { fd with params := pa, defaults := .none } ⟨[a], []⟩ = pure [(x, a)]) : BindOk pa [x] :=
  fun fd vs h1 h2 hl => by
    obtain ⟨a, v0, rfl, l0⟩ := len_succ hl
    cases List.length_eq_zero_iff.mp l0
    rw [fd_eta h1 h2]; exact h fd a
theorem bindOk2 {pa : Arguments} {x y : Str} (h : ∀ (fd : FuncData) (a b : Value), bindArgs { fd with params := pa, defaults := .none } ⟨[a, b], []⟩ = pure [(x, a), (y, b)]) : BindOk pa [x, y] :=
  fun fd vs h1 h2 hl => by
    obtain ⟨a, v0, rfl, l0⟩ := len_succ hl
    obtain ⟨b, v1, rfl, l1⟩ := len_succ l0
    cases List.length_eq_zero_iff.mp l1
    rw [fd_eta h1 h2]; exact h fd a b
theorem bindOk3 {pa : Arguments} {x y z : Str} (h : ∀ (fd : FuncData) (a b c : Value), bindArgs { fd with params := pa, defaults := .none } ⟨[a, b, c], []⟩ = pure [(x, a), (y, b), (z, c)]) : BindOk pa [x, y, z] :=
  fun fd vs h1 h2 hl => by
    obtain ⟨a, v0, rfl, l0⟩ := len_succ hl
    obtain ⟨b, v1, rfl, l1⟩ := len_succ l0
    obtain ⟨c, v2, rfl, l2⟩ := len_succ l1
    cases List.length_eq_zero_iff.mp l2
    rw [fd_eta h1 h2]; exact h fd a b c
theorem bindOk5 {pa : Arguments} {x y z u v : Str} (h : ∀ (fd : FuncData) (a b c d e : Value), bindArgs { fd with params := pa, defaults := .none } ⟨[a, b, c, d, e], []⟩ = pure [(x, a), (y, b), (z, c), (u, d), (v, e)]) : BindOk pa [x, y, z, u, v] :=
  fun fd vs h1 h2 hl => by
    obtain ⟨a, v0, rfl, l0⟩ := len_succ hl
    obtain ⟨b, v1, rfl, l1⟩ := len_succ l0
    obtain ⟨c, v2, rfl, l2⟩ := len_succ l1
    obtain ⟨d, v3, rfl, l3⟩ := len_succ l2
    obtain ⟨e, v4, rfl, l4⟩ := len_succ l3
    cases List.length_eq_zero_iff.mp l4
    rw [fd_eta h1 h2]; exact h fd a b c d e
noncomputable def fnSee (h : Heap) (a : Addr) : Option (FuncBody × Scope × Arguments) := match h.get? a with
  | some o => (match o.data with | .func fd => some (fd.body, fd.scope, fd.params) | _ => none)
  | none => none
noncomputable def codeOk (h : Heap) (fd : FuncData) : Bool := match fd.code with
  | .ref c => !tabA.contains c && (match h.get? c with
    | some oc => (match oc.data with
      | .fields xs => (match (xs[1]? : Option Value) with | some (.str q _) => q == fd.qualname | _ => false)
      | _ => false)
    | none => false)
  | _ => false
noncomputable def fnOk (h : Heap) (a : Addr) : Bool := !tabA.contains a && match h.get? a with
  | some o => (match o.data with
    | .func fd => fd.globals == mainGlobals && fd.builtins == builtinsNs && fd.closure.isEmpty && (match fd.defaults with | .none => true | _ => false) && codeOk h fd
    | _ => false)
  | none => false
theorem P0_get {h : Heap} {a : Addr} {o : Obj} (ha : tabA.contains a = false) (e : h.get? a = some o) : P0 h a = some o := by unfold P0; rw [ha]; exact e
theorem P0_of {h : Heap} {a : Addr} {o : Obj} (e : P0 h a = some o) : tabA.contains a = false ∧ h.get? a = some o := by
  unfold P0 at e
  cases q : tabA.contains a with
  | true => rw [q] at e; (first|subst e|obtain rfl:=sj e|exact n1 e|exact n2 e|exact b1 e|exact b2 e|cases e)
  | false => rw [q] at e; exact ⟨rfl, e⟩
theorem fnAt_of {B : Base} {h h' : Heap} (hP : B.P₀ = P0 h') (hk : ∀ b o, h.get? b = some o → h'.get? b = some o) {a : Addr} {ps : List Str} {b : List Stmt} {sc : Scope} {pa : Arguments} (e1 : fnSee h a = some (.stmts b, sc, pa)) (e2 : fnOk h a = true) (hb : BindOk pa ps) : FnAt B a ps b sc := by
  unfold fnSee at e1
  unfold fnOk at e2
  simp only [Bool.and_eq_true, Bool.not_eq_true'] at e2
  obtain ⟨e2, e4⟩ := e2
  split at e1
  · rename_i o ho
    rw [ho] at e4
    split at e1
    · rename_i fd hd
      simp only [hd, Bool.and_eq_true, beq_iff_eq, List.isEmpty_iff] at e4
      obtain ⟨⟨⟨⟨g, bu⟩, c⟩, df⟩, co⟩ := e4
      simp only [Option.some.injEq, Prod.mk.injEq] at e1
      have hdf : fd.defaults = .none := by split at df; assumption; cases df
      refine ⟨o, fd, by rw [hP]; exact P0_get e2 (hk _ _ ho), hd, e1.2.1, e1.1, g, bu, c, fun vs hl => hb fd vs e1.2.2 hdf hl, ?_⟩
      unfold codeOk at co
      split at co
      · rename_i c hc
        simp only [Bool.and_eq_true, Bool.not_eq_true'] at co
        obtain ⟨c1, c2⟩ := co
        split at c2
        · rename_i oc hoc
          split at c2
          · rename_i xs hx
            split at c2
            · rename_i q t hq
              exact ⟨c, oc, xs, t, hc, by rw [hP]; exact P0_get c1 (hk _ _ hoc), hx, by rw [hq, eq_of_beq c2]⟩
            · cases c2
          · cases c2
        · cases c2
      · cases co
    · (first|subst e1|obtain rfl:=sj e1|exact n1 e1|exact n2 e1|exact b1 e1|exact b2 e1|cases e1)
  · (first|subst e1|obtain rfl:=sj e1|exact n1 e1|exact n2 e1|exact b1 e1|exact b2 e1|cases e1)

noncomputable def okV : CV → Value → Bool
  | .int i, .int j _ => i == j
  | .cst u, v => decide (u = v)
  | _, _ => false
theorem okV_of {cv : CV} {v : Value} (h : okV cv v = true) : ∀ P ι, VR P ι cv v := fun P ι => by
  unfold okV at h
  split at h
  · rw [eq_of_beq h]; exact .int _ _
  · rw [← of_decide_eq_true h]; exact .cst _
  · (first|subst h|obtain rfl:=sj h|exact n1 h|exact n2 h|exact b1 h|exact b2 h|cases h)
noncomputable def globOk (mg : Str → Option Value) : Bool := G0.all fun p => match mg p.1 with
  | some v => okV p.2 v
  | none => p.1 != Str.ofString "__name__" && (match bootBuiltins p.1 with | some v => okV p.2 v | none => false)
theorem glob_of {mg mb : Str → Option Value} (h : globOk mg = true) (hb : ∀ x : Str, x ≠ "__name__" → mb x = bootBuiltins x) (x : Str) (cv : CV) (e : G0.lookup x = some cv) : ∃ v, (mg x = some v ∨ (mg x = none ∧ mb x = some v)) ∧ ∀ P ι, VR P ι cv v := by
  have q := List.all_eq_true.mp h _ (mem_lookup e)
  split at q
  · rename_i v hv
    exact ⟨v, .inl hv, okV_of q⟩
  · rename_i hv
    simp only [Bool.and_eq_true, bne_iff_ne] at q
    obtain ⟨n, q⟩ := q
    split at q
    · rename_i v hv2
      exact ⟨v, .inr ⟨hv, (hb x n).trans hv2⟩, okV_of q⟩
    · (first|subst q|obtain rfl:=sj q|exact n1 q|exact n2 q|exact b1 q|exact b2 q|cases q)
end Mine

namespace Mine
noncomputable def fnTab : List (Addr × List Str × List Stmt × Scope × Arguments) := [
  (21, [Str.ofString "a", Str.ofString "b", Str.ofString "n"], bodyAt 2, scopeAt 2, argsOf (progAt 2)),
  (35, [Str.ofString "a", Str.ofString "n"], bodyAt 4, scopeAt 4, argsOf (progAt 4)),
  (42, [Str.ofString "digits", Str.ofString "n"], bodyAt 5, scopeAt 5, argsOf (progAt 5)),
  (49, [Str.ofString "a", Str.ofString "b"], bodyAt 6, scopeAt 6, argsOf (progAt 6)),
  (56, [Str.ofString "a", Str.ofString "b"], bodyAt 7, scopeAt 7, argsOf (progAt 7)),
  (63, [Str.ofString "addr"], bodyAt 9, scopeAt 9, argsOf (progAt 9)),
  (70, [Str.ofString "addr"], bodyAt 10, scopeAt 10, argsOf (progAt 10)),
  (77, [Str.ofString "addr"], bodyAt 11, scopeAt 11, argsOf (progAt 11)),
  (129, [Str.ofString "x"], bodyAt 66, scopeAt 66, argsOf (progAt 66)),
  (134, [Str.ofString "script"], bodyAt 68, scopeAt 68, argsOf (progAt 68)),
  (141, [Str.ofString "letters", Str.ofString "number", Str.ofString "signs"], bodyAt 69, scopeAt 69, argsOf (progAt 69)),
  (148, [Str.ofString "tree", Str.ofString "leaves"], bodyAt 70, scopeAt 70, argsOf (progAt 70)),
  (153, [Str.ofString "tree"], bodyAt 71, scopeAt 71, argsOf (progAt 71)),
  (158, [Str.ofString "word", Str.ofString "mode"], bodyAt 72, scopeAt 72, argsOf (progAt 72)),
  (165, [Str.ofString "text"], bodyAt 73, scopeAt 73, argsOf (progAt 73)),
  (170, [Str.ofString "pieces", Str.ofString "tokens", Str.ofString "masks"], bodyAt 74, scopeAt 74, argsOf (progAt 74)),
  (175, [Str.ofString "number", Str.ofString "cases", Str.ofString "width"], bodyAt 75, scopeAt 75, argsOf (progAt 75)),
  (182, [Str.ofString "number", Str.ofString "divisor"], bodyAt 76, scopeAt 76, argsOf (progAt 76)),
  (187, [Str.ofString "cases"], bodyAt 77, scopeAt 77, argsOf (progAt 77)),
  (192, [Str.ofString "one", Str.ofString "other", Str.ofString "groups"], bodyAt 78, scopeAt 78, argsOf (progAt 78)),
  (197, [Str.ofString "letters", Str.ofString "ways", Str.ofString "kind"], bodyAt 79, scopeAt 79, argsOf (progAt 79)),
  (202, [Str.ofString "letters", Str.ofString "ways"], bodyAt 80, scopeAt 80, argsOf (progAt 80)),
  (207, [Str.ofString "ways", Str.ofString "cuts", Str.ofString "used", Str.ofString "masks", Str.ofString "due"], bodyAt 81, scopeAt 81, argsOf (progAt 81)),
  (212, [Str.ofString "script"], bodyAt 82, scopeAt 82, argsOf (progAt 82)),
  (91, [Str.ofString "self", Str.ofString "fp"], mBody 0, mScope 0, argsOf (methAt 0)),
  (98, [Str.ofString "self"], mBody 1, mScope 1, argsOf (methAt 1)),
  (105, [Str.ofString "self"], mBody 2, mScope 2, argsOf (methAt 2)),
  (112, [Str.ofString "self", Str.ofString "token"], mBody 3, mScope 3, argsOf (methAt 3))]
noncomputable def keptA : List Addr := [115, 114, 91, 98, 105, 112, 34, 41, 164]
noncomputable def tabSee (h : Heap) (a : Addr) : Option (Value × Str) := match h.get? a with
  | some o => (match o.data with | .func fd => some (fd.code, fd.qualname) | _ => none)
  | none => none
noncomputable abbrev q1 : Str := Str.ofString "_law_lexer"
noncomputable abbrev q2 : Str := Str.ofString "_int2digits"
noncomputable abbrev q3 : Str := Str.ofString "_digits2int"
noncomputable def tabL : List Tabl := [
  ⟨164, 160, lamPos.line, lamPos.col, q1 ++ ".<locals>." ++ Str.ofString "<lambda>"⟩,
  ⟨34, 30, (posOf innerDef).line, (posOf innerDef).col, q2 ++ ".<locals>." ++ nameOf innerDef⟩,
  ⟨41, 37, (posOf innerDef2).line, (posOf innerDef2).col, q3 ++ ".<locals>." ++ nameOf innerDef2⟩]
noncomputable def netSee (K : Frag) := (([Str.ofString "__getattribute__", "__getattr__", "__setattr__", "__init__", "_read_char", "get_token", "push_token"].map (findIn K (.ref 115))),
  ownNames.map (findIn K (.ref 115)), [hasDictIn K 115, plainOver K 115, makesIn K 115, keepIn K (.ref 115)], [91, 98, 105, 112].map (fun a => typeIn K (.ref a)), specialIn K (.ref 98) "__get__", takesIn K (.ref 98))
noncomputable def netVal := (([some (some (Value.builtin "object.__getattribute__")), some none, some (some (.builtin "object.__setattr__")), some (some (.ref 91)), some (some (.ref 98)), some (some (.ref 105)), some (some (.ref 112))] : List (Option (Option Value))),
  ownNames.map (fun _ => (some none : Option (Option Value))), [true, true, true, true], [91, 98, 105, 112].map (fun (_ : Addr) => some (Value.type "function")), (some (some (Value.builtin "function.__get__")) : Option (Option Value)), some false)
noncomputable def keyStr : Value → Option Str
  | .str x _ => some x
  | _ => none
noncomputable def dictSee (h : Heap) : Option (Value × Option Addr × Bool × Bool × List (Option Str × Int)) := match h.get? 120 with
  | some o => (match o.data with
    | .dict es _ => some (o.cls, o.dict, o.slots.isEmpty, [97, 98, 99, 100, 38, 124, 40, 41].all (fun c => match findBy Value.isStrOf es (mkS [c]) with
        | none => tokc c == 1
        | some (.int i _) => i == (tokc c : Nat)
        | _ => false), es.toList.map fun e => (keyStr e.key, e.hash))
    | _ => none)
  | none => none
noncomputable def dictOf? : Expr → List (Option Expr)
  | .Dict ks _ _ => ks
  | _ => []
noncomputable def constS : Option Expr → Option Str
  | some (.Constant (.str x) _ _) => some x
  | _ => none
noncomputable def tokKeys : List Str := (dictOf? (spOf (some (progAt 65))).e1).filterMap constS
noncomputable def ySee (s : Shared) := (fnTab.map (fun e => fnSee s.heap e.1), fnTab.all (fun e => fnOk s.heap e.1), netSee (fragOf s.heap keptA), tabL.all (fun t => codeHdIn (fragOf s.heap keptA) t.c t.P),
  tabA.map s.heap.get?, [165, 35, 42].map (tabSee s.heap), dictSee s.heap)
noncomputable def yVal (w : World) := (fnTab.map (fun e => some (FuncBody.stmts e.2.2.1, e.2.2.2.1, e.2.2.2.2)), true, netVal, true, [some (tabObj #[]), some (tabObj #[]), some (tabObj #[])],
  [some (Value.ref 164, q1), some (Value.ref 34, q2), some (Value.ref 41, q3)],
  some (Value.type "dict", (none : Option Addr), true, true, tokKeys.map fun k => (some k, hashStr w k)))
end Mine

namespace Mine
abbrev pw : Program := PySem.Challenge.pw_uk0009_01
noncomputable def vw : Program := { pw with main := { pw.main with body := pw.main.body.drop 82 } }
noncomputable def lse : List Str := (pw.main.scope.names.map (·.1)).filter (fun x => !(x == Str.ofString "law"))
abbrev rowS : String := "special-get-raises"
noncomputable def xSee (s : Shared) : Bool := globOk (s.heap.nsMap mainGlobals) && decide (s.heap.nsMap mainGlobals (Str.ofString "law") = some (.ref 212))
/-! ## the top's run over a tree of objects -/
noncomputable def topT (st : SharedT → Thread → Option (SharedT × Thread)) (ok : Thread → Bool) (n : Nat) : SharedT → Thread → Option SharedT :=
  Nat.rec (fun _ _ => none) (fun _ f s t => match through t with
    | true => some s
    | false => match ok t with
      | false => none
      | true => match st s t with
        | some q => f q.1 q.2
        | none => none) n
theorem topT_spec {tb : String → Option Builtin} {p : Program} {w : World} {n₀ : Nat} {ann : Option Value} : ∀ (n : Nat) {s s' : SharedT} {t : Thread}, topT (stepT (denote tb) p w) (stepOk n₀ ann) n s t = some s' → topRun tb p w n₀ ann n s.abs t = some s'.abs
  | 0, s, s', t, h => nomatch h
  | n + 1, s, s', t, h => by
    unfold topRun
    have h' : (match through t with
      | true => some s
      | false => match stepOk n₀ ann t with
        | false => none
        | true => match stepT (denote tb) p w s t with
          | some q => topT (stepT (denote tb) p w) (stepOk n₀ ann) n q.1 q.2
          | none => none) = some s' := h
    cases e : through t with
    | true => rw [e] at h'; exact congrArg (fun x => some (SharedT.abs x)) (Option.some.inj h')
    | false =>
      rw [e] at h'
      cases k : stepOk n₀ ann t with
      | false => rw [k] at h'; cases h'
      | true =>
        rw [k] at h'
        cases g : stepT (denote tb) p w s t with
        | none => rw [g] at h'; cases h'
        | some q =>
          rw [g] at h'
          show (match step (denote tb) p w s.abs t with | .go s' t' => topRun tb p w n₀ ann n s' t' | .halt _ _ => none) = _
          rw [stepT_spec (s' := q.1) (t' := q.2) g]
          exact topT_spec n h'
noncomputable def treeOf (l : List Obj) : BT := (l.foldl (fun (q : BT × Nat) o => (q.1.ins q.2 o, q.2 + 1)) (.nil, 0)).1
noncomputable def toT (s : Shared) : SharedT := ⟨treeOf s.heap.objs.toList, s.heap.objs.size, s.heap.life, s.gens, s.drawn, s.toks, s.os⟩
theorem opening_tree (w : World) : (fencedOpening treeTable pw w 5240).map (fun s => (toT s).abs) = fencedOpening treeTable pw w 5240 := by kernel_rfl
noncomputable def topFromT (st : Nat → Option Value → SharedT → Thread → Option SharedT) (p : Program) (s₀ : Shared) : Option Shared :=
  match s₀.heap.isNs mainGlobals && s₀.gens.size == 0 with
  | true => (st s₀.heap.objs.size (s₀.heap.nsMap mainGlobals "__annotations__") (toT s₀) (topStub p)).bind fun s₁ => match staticsOk (importedModules p.main.body) s₀.heap s₁.abs.heap && namesBound p s₁.abs.heap && gensDone s₁.abs && laidKept s₀.heap s₁.abs.heap with
    | true => some s₁.abs
    | false => none
  | false => none
theorem topFromT_spec {tb : String → Option Builtin} {p : Program} {w : World} {N : Nat} {s₀ s : Shared} (e : (toT s₀).abs = s₀) (h : topFromT (fun n₀ ann => topT (stepT (denote tb) p w) (stepOk n₀ ann) N) p s₀ = some s) : topFrom tb p w N s₀ = some s := by
  unfold topFromT at h
  unfold topFrom
  split at h
  · rename_i hc
    rw [hc]
    obtain ⟨s₁, h1, h2⟩ := Option.bind_eq_some_iff.mp h
    have r := topT_spec N h1
    rw [e] at r
    show (topRun tb p w s₀.heap.objs.size (s₀.heap.nsMap mainGlobals "__annotations__") N s₀ (topStub p)).bind _ = _
    rw [r]
    exact h2
  · cases h
noncomputable abbrev seeT (s : Shared) := (openSeen vw lse (importedModules pw.main.body) xSee true s, ySee s)
abbrev leftAt (w : World) (b : Bool) : Prop := (fencedOpening treeTable pw w 5240).map (fun s₀ => (topFromT (fun n₀ ann => topT (stepT (denote treeTable) pw (w.withFollow rowS b)) (stepOk n₀ ann) 5240) pw s₀).map seeT) = some (some (openGood vw lse, yVal (w.withFollow rowS b)))
theorem left_f (w : World) : leftAt w false := by
  unfold leftAt
  rw [Fast.te10156331382660048174, Fast.te11892475500146522536, Fast.te14364793385576792824, Fast.te6613529449190102663]
  kernel_rfl
theorem left_t (w : World) : leftAt w true := by
  unfold leftAt
  rw [Fast.te10156331382660048174, Fast.te11892475500146522536, Fast.te14364793385576792824, Fast.te6613529449190102663]
  kernel_rfl
theorem left_row {w : World} {b : Bool} (h : leftAt w b) {s₀ : Shared} (e : fencedOpening treeTable pw w 5240 = some s₀) : (topFrom treeTable pw (w.withFollow rowS b) 5240 s₀).map seeT = some (openGood vw lse, yVal (w.withFollow rowS b)) := by
  unfold leftAt at h
  have o := opening_tree w
  rw [e] at h o
  obtain ⟨s, h1, h2⟩ := Option.map_eq_some_iff.mp (Option.some.inj h)
  rw [topFromT_spec (Option.some.inj o) h1]
  exact congrArg some h2
theorem left_ : LeftO pw vw lse xSee ySee yVal 5240 := .of_split rowS fun w => by
  obtain ⟨s, e, _⟩ := Option.map_eq_some_iff.mp (left_f w)
  rw [e]
  exact congrArg some (Prod.ext (left_row (left_f w) e) (left_row (left_t w) e))
end Mine

namespace Mine
structure BaseIs (B : Base) (w : World) (h₀ : Heap) (s₁ : Shared) : Prop where
  prog : B.prog = PySem.Challenge.pw_uk0009_01
  w : B.w = w
  P₀ : B.P₀ = P0 s₁.heap
  K : B.K = fragOf h₀ keptA
  tabs : B.tabs = tabL
  os : B.os = s₁.os
theorem tab_mem {t : Tabl} (h : t ∈ tabL) : tabA.contains t.P = true := by
  simp only [tabL, List.mem_cons, List.not_mem_nil, or_false] at h
  rcases h with rfl | rfl | rfl <;> rfl
theorem tab_obj {s₀ : Shared} {h : Heap} (hk : ∀ b o, s₀.heap.get? b = some o → h.get? b = some o) (y : tabA.map s₀.heap.get? = [some (tabObj #[]), some (tabObj #[]), some (tabObj #[])]) {a : Addr} (ha : tabA.contains a = true) : h.get? a = some (tabObj #[]) := by
  simp only [tabA, List.map_cons, List.map_nil, List.cons.injEq, and_true] at y
  obtain ⟨y1, y2, y3⟩ := y
  have : a = 160 ∨ a = 30 ∨ a = 37 := by simpa [tabA] using ha
  rcases this with rfl | rfl | rfl
  · exact hk _ _ y1
  · exact hk _ _ y2
  · exact hk _ _ y3
theorem tabs_nd_ : ∀ t ∈ tabL, ∀ t' ∈ tabL, t.P = t'.P → t = t' := by
  intro t ht t' ht' q
  simp only [tabL, List.mem_cons, List.not_mem_nil, or_false] at ht ht'
  rcases ht with rfl | rfl | rfl <;> rcases ht' with rfl | rfl | rfl <;> first | rfl | cases q
theorem mk_base {mg mb : Str → Option Value} {w : World} {s₀ s₁ : Shared} {p : Program} {lo : List Str} {me : ExcName → Option Value} (T : Top p lo me mg mb s₁.heap) (hk : ∀ b o, s₀.heap.get? b = some o → s₁.heap.get? b = some o)
    (y4 : tabL.all (fun t => codeHdIn (fragOf s₀.heap keptA) t.c t.P) = true) (y5 : tabA.map s₀.heap.get? = [some (tabObj #[]), some (tabObj #[]), some (tabObj #[])]) (X : globOk mg = true) : ∃ B, BaseIs B w s₀.heap s₁ := by
  have K_in : ∀ a o, (fragOf s₀.heap keptA).lookup a = some o → P0 s₁.heap a = some o := fun a o e => by
    obtain ⟨ha, he⟩ := fragOf_get e
    refine P0_get ?_ (hk _ _ he)
    have : ∀ a ∈ keptA, tabA.contains a = false := by decide
    exact this a ha
  refine ⟨{
    prog := PySem.Challenge.pw_uk0009_01, w := w, P₀ := P0 s₁.heap, K := fragOf s₀.heap keptA, os := s₁.os, tabs := tabL, mg := mg, mb := mb
    K_in := K_in
    ns_g := fun h hh => let ⟨o, es, ep, a, r⟩ := T.g; ⟨o, es, ep, hh _ _ (P0_get (by decide) a), r⟩
    ns_b := fun h hh => let ⟨o, es, ep, a, r⟩ := T.b; ⟨o, es, ep, hh _ _ (P0_get (by decide) a), r⟩
    nolim := fun h hh => let ⟨mc, ⟨o, es, ep, a, r⟩, q⟩ := T.nolimit; ⟨mc, ⟨o, es, ep, hh _ _ (P0_get (by decide) a), r⟩, q⟩
    tabs0 := fun t ht => by unfold P0; rw [tab_mem ht]; rfl
    code_hd := fun t ht h hh => codeHd_of_K (fun a o e => hh _ _ (K_in a o e)) (List.all_eq_true.mp y4 t ht)
    bui_at := fun t ht h hh => ?_
    tab_g := fun t ht q => by have := tab_mem ht; rw [← q] at this; (first|subst this|obtain rfl:=sj this|exact n1 this|exact n2 this|exact b1 this|exact b2 this|cases this)
    tabs_nd := tabs_nd_
    glob := glob_of X T.builtins }, rfl, rfl, rfl, rfl, rfl, rfl⟩
  · obtain ⟨bm, ob, b1, b2, b3, b4, b5, b6⟩ := T.bmain
    have n1 : tabA.contains bm = false := by
      cases q : tabA.contains bm with
      | false => rfl
      | true => rw [tab_obj hk y5 q] at b3; cases b3; cases b4
    refine ⟨bm, ob, b1, b2, fun q => ?_, fun q => ?_, hh _ _ (P0_get n1 b3), b4, b5, b6⟩
    · obtain ⟨o, es, ep, a, d, _⟩ := T.g
      rw [← q, b3] at a; cases a; rw [b6] at d; cases d
    · rw [q, tab_mem ht] at n1; cases n1
theorem inv_0 {B : Base} {w : World} {s₀ s₁ : Shared} (hB : BaseIs B w s₀.heap s₁) (hk : ∀ b o, s₀.heap.get? b = some o → s₁.heap.get? b = some o) (y5 : tabA.map s₀.heap.get? = [some (tabObj #[]), some (tabObj #[]), some (tabObj #[])]) (hg : s₁.gens = #[]) : InvS B (P0 s₁.heap) (fun _ => none) (fun _ => none) s₁ where
  perm := fun a o e => (P0_of e).2
  keep := fun a o e => nomatch e
  apart := fun a o e => nomatch e
  base := by rw [hB.P₀]; exact .refl _
  os := hB.os.symm
  bare := .of_eq hg
  gk := fun i x e => nomatch e
  tabs := fun t ht => by
    rw [hB.tabs] at ht
    exact ⟨by unfold P0; rw [tab_mem ht]; rfl, rfl, #[], tab_obj hk y5 (tab_mem ht), .inl rfl⟩
theorem old_of {B : Base} {w : World} {s₀ s₁ s' : Shared} {P' K : Gh} {g : GG} (hB : BaseIs B w s₀.heap s₁) (hk : ∀ b o, s₀.heap.get? b = some o → s₁.heap.get? b = some o) (y5 : tabA.map s₀.heap.get? = [some (tabObj #[]), some (tabObj #[]), some (tabObj #[])]) (lP : Le (P0 s₁.heap) P') (I : InvS B P' K g s') : OldK s₁.heap s'.heap := by
  have key : ∀ b o, s₁.heap.get? b = some o → s'.heap.get? b = some o ∨ ∃ t ∈ tabL, b = t.P ∧ o = tabObj #[] ∧ ∃ ps, s'.heap.get? b = some (tabObj ps) := fun b o e => by
    cases q : tabA.contains b with
    | false => exact .inl (I.perm _ _ (lP _ _ (P0_get q e)))
    | true =>
      right
      rw [tab_obj hk y5 q] at e; (first|subst e|obtain rfl:=sj e|exact n1 e|exact n2 e|exact b1 e|exact b2 e|cases e)
      have : ∃ t ∈ tabL, b = t.P := by
        have : b = 160 ∨ b = 30 ∨ b = 37 := by simpa [tabA] using q
        rcases this with rfl | rfl | rfl
        · exact ⟨_, .head _, rfl⟩
        · exact ⟨_, .tail _ (.head _), rfl⟩
        · exact ⟨_, .tail _ (.tail _ (.head _)), rfl⟩
      obtain ⟨t, ht, rfl⟩ := this
      obtain ⟨_, _, ps, e, _⟩ := I.tabs t (by rw [hB.tabs]; exact ht)
      exact ⟨t, ht, rfl, rfl, ps, e⟩
  refine ⟨fun b o e => ?_, fun b o e => ?_⟩
  · rcases key b o e with q | ⟨t, ht, rfl, rfl, ps, q⟩
    · exact .inl q
    · obtain ⟨o, vs, file, tf, fl, tg, inF, text, tt, c1, c2, c3, c4, _⟩ := B.code_hd t (by rw [hB.tabs]; exact ht) s₁.heap (fun a o e => by rw [hB.P₀] at e; exact (P0_of e).2)
      exact .inr (.inl ⟨⟨t.c, o, vs, c1, c2, c3, c4⟩, rfl, #[], ps, rfl, by rw [q]; simp⟩)
  · rcases key b o e with q | ⟨t, ht, rfl, rfl, ps, q⟩
    · exact ⟨_, q⟩
    · exact ⟨_, q⟩
end Mine

namespace Mine
theorem map_at {α β : Type} {l : List α} {f g : α → β} (h : l.map f = l.map g) (i : Nat) {x : α} (e : l[i]? = some x) : f x = g x := by
  have := congrArg (·[i]?) h
  simp only [List.getElem?_map, e, Option.map_some, Option.some.injEq] at this
  exact this
section
variable {B : Base} {w : World} {s₀ s₁ : Shared}
abbrev Fns (B : Base) : Prop := ∀ (i : Nat) (a : Addr) (ps : List Str) (b : List Stmt) (sc : Scope) (pa : Arguments), fnTab[i]? = some (a, ps, b, sc, pa) → BindOk pa ps → FnAt B a ps b sc
theorem fns (hB : BaseIs B w s₀.heap s₁) (hk : ∀ b o, s₀.heap.get? b = some o → s₁.heap.get? b = some o) (y : ySee s₀ = yVal w) : Fns B := fun i a ps b sc pa e hb => by
  have y1 : fnTab.map (fun e => fnSee s₀.heap e.1) = fnTab.map (fun e => some (FuncBody.stmts e.2.2.1, e.2.2.2.1, e.2.2.2.2)) := congrArg Prod.fst y
  have y2 : fnTab.all (fun e => fnOk s₀.heap e.1) = true := congrArg (fun x => x.2.1) y
  exact fnAt_of hB.P₀ hk (map_at y1 i e) (List.all_eq_true.mp y2 _ (List.mem_of_getElem? e)) hb
theorem law_of (h : Fns B) : Law B :=
  ⟨h 0 _ _ _ _ _ rfl (bindOk3 fun _ _ _ _ => by kernel_rfl), h 1 _ _ _ _ _ rfl (bindOk2 fun _ _ _ => by kernel_rfl), h 2 _ _ _ _ _ rfl (bindOk2 fun _ _ _ => by kernel_rfl), h 3 _ _ _ _ _ rfl (bindOk2 fun _ _ _ => by kernel_rfl), h 4 _ _ _ _ _ rfl (bindOk2 fun _ _ _ => by kernel_rfl), h 5 _ _ _ _ _ rfl (bindOk1 fun _ _ => by kernel_rfl), h 6 _ _ _ _ _ rfl (bindOk1 fun _ _ => by kernel_rfl), h 7 _ _ _ _ _ rfl (bindOk1 fun _ _ => by kernel_rfl), h 8 _ _ _ _ _ rfl (bindOk1 fun _ _ => by kernel_rfl), h 9 _ _ _ _ _ rfl (bindOk1 fun _ _ => by kernel_rfl), h 10 _ _ _ _ _ rfl (bindOk3 fun _ _ _ _ => by kernel_rfl), h 11 _ _ _ _ _ rfl (bindOk2 fun _ _ _ => by kernel_rfl), h 12 _ _ _ _ _ rfl (bindOk1 fun _ _ => by kernel_rfl), h 13 _ _ _ _ _ rfl (bindOk2 fun _ _ _ => by kernel_rfl), h 14 _ _ _ _ _ rfl (bindOk1 fun _ _ => by kernel_rfl), h 15 _ _ _ _ _ rfl (bindOk3 fun _ _ _ _ => by kernel_rfl), h 16 _ _ _ _ _ rfl (bindOk3 fun _ _ _ _ => by kernel_rfl), h 17 _ _ _ _ _ rfl (bindOk2 fun _ _ _ => by kernel_rfl), h 18 _ _ _ _ _ rfl (bindOk1 fun _ _ => by kernel_rfl), h 19 _ _ _ _ _ rfl (bindOk3 fun _ _ _ _ => by kernel_rfl), h 20 _ _ _ _ _ rfl (bindOk3 fun _ _ _ _ => by kernel_rfl), h 21 _ _ _ _ _ rfl (bindOk2 fun _ _ _ => by kernel_rfl), h 22 _ _ _ _ _ rfl (bindOk5 fun _ _ _ _ _ _ => by kernel_rfl)⟩
theorem netF_of (h : Fns B) : NetF B := ⟨h 24 _ _ _ _ _ rfl (bindOk2 fun _ _ _ => by kernel_rfl), h 25 _ _ _ _ _ rfl (bindOk1 fun _ _ => by kernel_rfl), h 26 _ _ _ _ _ rfl (bindOk1 fun _ _ => by kernel_rfl), h 27 _ _ _ _ _ rfl (bindOk2 fun _ _ _ => by kernel_rfl)⟩
theorem netC_of (y : netSee B.K = netVal) : NetC B := by
  have y1 := congrArg Prod.fst y
  have y2 : ownNames.map (findIn B.K (.ref 115)) = ownNames.map (fun _ => some none) := congrArg (fun x => x.2.1) y
  have y3 := congrArg (fun x => x.2.2.1) y
  have y4 := congrArg (fun x => x.2.2.2.1) y
  have y5 := congrArg (fun x => x.2.2.2.2.1) y
  have y6 := congrArg (fun x => x.2.2.2.2.2) y
  simp only [netSee, netVal, List.map_cons, List.map_nil, List.cons.injEq, and_true] at y1 y3 y4 y5 y6
  obtain ⟨a1, a2, a3, a4, a5, a6, a7⟩ := y1
  obtain ⟨b1, b2, b3, b4⟩ := y3
  obtain ⟨c1, c2, c3, c4⟩ := y4
  exact ⟨a1, a2, a3, b1, b2, b3, b4, fun x hx => by
    obtain ⟨i, hi⟩ := List.getElem?_of_mem (List.contains_iff_mem.mp hx)
    exact map_at y2 i hi, a4, a5, a6, a7, c1, c2, c3, c4, y5, y6⟩
theorem tab_of (hB : BaseIs B w s₀.heap s₁) (hk : ∀ b o, s₀.heap.get? b = some o → s₁.heap.get? b = some o) {a : Addr} {c : Addr} {q : Str} (e : tabSee s₀.heap a = some (.ref c, q)) {pos : Pos} {name : Str} (t : Tabl) (ht : t ∈ tabL) (h1 : pos.line = t.line) (h2 : pos.col = t.col) (h3 : t.c = c) (h4 : q ++ ".<locals>." ++ name = t.qual) : TabFn B a pos name :=
  ⟨t, by rw [hB.tabs]; exact ht, h1, h2, fun o fd ho hd => by
    rw [hB.P₀] at ho
    have g := (P0_of ho).2
    unfold tabSee at e
    split at e
    · rename_i o' ho'
      have := hk _ _ ho'
      rw [g] at this; (first|subst this|obtain rfl:=sj this|exact n1 this|exact n2 this|exact b1 this|exact b2 this|cases this)
      rw [hd] at e
      simp only [Option.some.injEq, Prod.mk.injEq] at e
      rw [e.1, e.2, h3]
      exact ⟨rfl, h4⟩
    · (first|subst e|obtain rfl:=sj e|exact n1 e|exact n2 e|exact b1 e|exact b2 e|cases e)⟩
theorem tokD_of (hB : BaseIs B w s₀.heap s₁) (hk : ∀ b o, s₀.heap.get? b = some o → s₁.heap.get? b = some o) (e : dictSee s₀.heap = some (Value.type "dict", (none : Option Addr), true, true, tokKeys.map fun k => (some k, hashStr w k))) : TokD B := by
  unfold dictSee at e
  split at e
  · rename_i o ho
    split at e
    · rename_i es ep hd
      simp only [Option.some.injEq, Prod.mk.injEq] at e
      obtain ⟨e1, e2, e3, e4, e5⟩ := e
      refine ⟨findBy Value.isStrOf es, fun h hh => ⟨o, es, ep, hh _ _ (by rw [hB.P₀]; exact P0_get (by decide) (hk _ _ ho)), ⟨e1, e2, Array.isEmpty_iff.mp e3⟩, hd, fun x hx => ?_, fun k => rfl⟩, fun c hc => ?_⟩
      · have m : (keyStr x.key, x.hash) ∈ es.toList.map fun e => (keyStr e.key, e.hash) := List.mem_map_of_mem (Array.mem_toList_iff.mpr hx)
        rw [e5] at m
        obtain ⟨k, _, hk2⟩ := List.mem_map.mp m
        injection hk2 with k1 k2
        refine ⟨k, ?_, by rw [hB.w]; exact k2.symm⟩
        cases hx2 : x.key <;> rw [hx2] at k1 <;> first | (cases k1; done) | skip
        rename_i q t
        cases k1
        show (k == k) = true
        simp
      · have m := List.all_eq_true.mp e4 c (List.contains_iff_mem.mp hc)
        split at m
        · rename_i q; exact .inl ⟨q, eq_of_beq m⟩
        · rename_i i t q; exact .inr ⟨t, by rw [q, eq_of_beq m]⟩
        · cases m
    · (first|subst e|obtain rfl:=sj e|exact n1 e|exact n2 e|exact b1 e|exact b2 e|cases e)
  · (first|subst e|obtain rfl:=sj e|exact n1 e|exact n2 e|exact b1 e|exact b2 e|cases e)
theorem law_ends {mg mb : Str → Option Value} {p : Program} {lo : List Str} {me : ExcName → Option Value} (T : Top p lo me mg mb s₁.heap) (hk : ∀ b o, s₀.heap.get? b = some o → s₁.heap.get? b = some o) (X : globOk mg = true) (y : ySee s₀ = yVal w) (hg : s₁.gens = #[])
    {b : Addr} {vs : List Value} {ns : List Int} (hL : s₁.heap.IsList b vs.toArray) (hi : IntsAre vs ns) (hn : ns.length ≤ 1048576) {Q : Value → Shared → Prop} {E : Value → Shared → Prop} (hQ : ∀ s', OldK s₁.heap s'.heap → s'.os = s₁.os → AllBare s'.gens → Q (.bool true) s') :
    wpAny (model PySem.Challenge.pw_uk0009_01 w) callerA (call (.ref 212) [.ref b]) Q E s₁ := by
  have y3 := congrArg (fun x => x.2.2.1) y
  have y4 := congrArg (fun x => x.2.2.2.1) y
  have y5 := congrArg (fun x => x.2.2.2.2.1) y
  have y6 := congrArg (fun x => x.2.2.2.2.2.1) y
  have y7 := congrArg (fun x => x.2.2.2.2.2.2) y
  obtain ⟨B, hB⟩ := mk_base (w := w) T hk y4 y5 X
  have F := fns hB hk y
  simp only [ySee, yVal, List.map_cons, List.map_nil, List.cons.injEq, and_true] at y6
  obtain ⟨t1, t2, t3⟩ := y6
  have h := fn_law (n := 0) (law_of F) (F 23 _ _ _ _ _ rfl (bindOk1 fun _ _ => by kernel_rfl)) (netC_of (by rw [hB.K]; exact y3)) (netF_of F) (tokD_of hB hk y7)
    (tab_of hB hk t2 _ (.tail _ (.head _)) rfl rfl rfl rfl) (tab_of hB hk t3 _ (.tail _ (.tail _ (.head _))) rfl rfl rfl rfl) (tab_of hB hk t1 _ (.head _) rfl rfl rfl rfl) ns hn
  rw [← hB.prog, ← hB.w]
  obtain ⟨o, ho, hc, ep, hd⟩ := hL
  have hb : tabA.contains b = false := by
    cases q : tabA.contains b with
    | false => rfl
    | true => rw [tab_obj hk y5 q] at ho; (first|subst ho|obtain rfl:=sj ho|exact n1 ho|exact n2 ho|exact b1 ho|exact b2 ho|cases ho); (first|subst hc|obtain rfl:=sj hc|exact n1 hc|exact n2 hc|exact b1 hc|exact b2 hc|cases hc)
  refine h callerA (P0 s₁.heap) _ _ s₁ _ Q E ⟨rfl, by decide, by decide⟩ (inv_0 hB hk y5 hg) (.cons (.list (P0_get hb ho) ⟨hc, ep, hd⟩ (ints_of hi)) .nil) fun P' s' a lP I r => ?_
  cases r
  exact hQ s' (old_of hB hk y5 lP I) (I.os.trans hB.os) I.bare
end
noncomputable def XPm (mg : Str → Option Value) (_ : Heap) : Prop := globOk mg = true ∧ mg (Str.ofString "law") = some (.ref 212)
theorem said_row : PySem.Challenge.rw_uk0009_01.row.wellSaid = true := by
  rw [Fast.te17960256430627541270]
  kernel_rfl
theorem said : PySem.Challenge.rw_uk0009_01.wellSaid = true := by
  unfold OpenLaw.wellSaid
  rw [said_row, Fast.te8326940854005059898, Fast.te17119622794617984870, Fast.te16286561074155671207]
  kernel_rfl
noncomputable abbrev lawS : Str := Str.ofString "law"
theorem law_is : (defOf vw lawS).isSome = true := by kernel_rfl
theorem holds_it : PySem.Challenge.rw_uk0009_01.Holds := by
  refine holds_law said fun said => ?_
  refine holds_openX (d := ((defOf vw lawS).get law_is).1) (kwd := ((defOf vw lawS).get law_is).2) (q := vw) (loose := lse) (Xt := xSee) (XP := XPm) (Yf := ySee) (Ya := yVal) (N := 5240) left_ (fun s e => ⟨(Bool.and_eq_true_iff.mp e).1, of_decide_eq_true (Bool.and_eq_true_iff.mp e).2⟩) (fun _ _ _ x _ => x) (by kernel_rfl) (by kernel_rfl) (by kernel_rfl) (fun s e => recFacts_of (by rfl)) (by rfl) said (by kernel_rfl) ⟨rfl, rfl, rfl, rfl, rfl, by decide +kernel⟩ ?hw ?hc
  case hw => w_witness2
  intro w s₀ s₁ mg mb G y a o pm cd doc dV kV ho hd hcd hD hmg hg args vals as L hpre hlay hrd hwl hlo
  have T := G.T
  have X := G.X
  have h212 : (Value.ref a) = .ref 212 := Option.some.inj (hmg.symm.trans X.2)
  clear ho hd hcd hD hmg G
  cases h212
  wrow_args hpre hlay hrd hwl hlo
  all_lens
  rename IntsAre _ _ => hi
  rename Heap.IsList _ _ _ => hL
  rename _ ∧ _ ≤ 2 ^ 20 => hb
  exact law_ends T L.keeps X.1 y hg hL hi hb.2 fun s' h1 h2 h3 => ⟨.inl ⟨_, _, [], rfl, fun _ => rfl, ReadsW.bool true, by kernel_rfl, fun _ => ⟨List.nodup_nil, fun _ h => nomatch h⟩⟩, h1, h2, h3⟩
end Mine

theorem PySem.Challenge.cw_uk0009_01_holds : PySem.Challenge.rw_uk0009_01.Holds :=
  Mine.holds_it
